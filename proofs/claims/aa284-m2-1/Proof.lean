import JvmDerived
import JvmDerived.Pilot.@@N@@Statement
import JvmDerived.Pilot.@@N@@Code
set_option linter.unusedVariables false
set_option linter.unusedSimpArgs false
namespace Jvm.OwnWalk
open Sem ClassFile Op Lib Jvm.Stand Jvm.Free Jvm.LawKit Jvm.RoadKit
section Own
variable {p : Program} {l : Launch} {e : Env} {R : Room} {s : State} {m : MethodId} {args : Array Value} {below : List Frame} {meth : Method} {c : Code} {T : State} {locs : List Loc} {cells slots : Nat} {Z : State} {a0 : Array Value} {h h' : Heap} {Q : Option Value → Heap → List Loc → Prop} {kc ks : Nat} {G : Outcome → State → Prop} {A B : State}
/-- from A the invocation comes to its end, and Q holds of what it returns, of the heap and of the places written -/
def Goes (p : Program) (e : Env) (below : List Frame) (G : Outcome → State → Prop) (A : State) : Prop :=
  ∃ s₂ o, Steps p.tables e below A s₂ ∧ s₂.status = .running ∧ Ended s₂ below o ∧ G o s₂
def EndN (s : State) (Q : Option Value → Heap → List Loc → Prop) (kc ks : Nat) (o : Outcome) (t : State) : Prop := ∃ v L, o = .returned v ∧ Q v t.heap L ∧ FrameEnd s o t L kc ks
theorem go (k : ∀ t, Steps p.tables e below B t → Steps p.tables e below A t) (g : Goes p e below G B) : Goes p e below G A := by
  obtain ⟨s₂, o, st, r⟩ := g
  exact ⟨s₂, o, k _ st, r⟩
theorem goE {g g' : JFrame} (q : g = g') (k : Goes p e below G (T.setTop g')) : Goes p e below G (T.setTop g) := q ▸ k
theorem goEnd (X : Stand p l e R s m args below meth c T locs cells slots) {v : Option Value} (hv : meth.sig.returnType = none → v = none) (hlocks : meth.locks = false) (hc : cells ≤ kc) (hs : slots ≤ ks) (eT : T.heap = h) (hq : Q v h locs)
    (k : ∀ fs, (∀ (f : JFrame) (acts : List Action), f.method = m → f.locked = none → f.entered = [] → (doReturn e (T.setTop f) acts v).1 = T.setFrames fs) → Steps p.tables e below A (T.setFrames fs)) : Goes p e below (EndN s Q kc ks) A := by
  obtain ⟨fs, hr, hrun, hended, hW, hsame⟩ := X.leave hv hlocks
  exact ⟨_, _, k fs hr, hrun, hended, _, _, rfl, (by show Q v T.heap locs; rw [eT]; exact hq), ⟨_, rfl⟩, hW, hsame.mono hc hs⟩
theorem goRetV (X : Stand p l e R s m args below meth c T locs cells slots) (hx : p.tables.exec = Jvm.exec) {pc : Nat} {Ls : Array Slot} {w : Value} {t : FieldType} {i : Instr} {rest : List Value} (hret : meth.sig.returnType = some t) (hlocks : meth.locks = false) (hd : decode c.code pc = .ok (i, 1)) (hn : narrow t w = w)
    (hi : (i = .ireturn ∧ (t = .int ∨ t = .boolean ∨ t = .byte ∨ t = .char ∨ t = .short) ∧ ∃ z, w = .int z) ∨ (i = .lreturn ∧ t = .long ∧ ∃ z, w = .long z) ∨ (i = .dreturn ∧ t = .double ∧ ∃ z, w = .double z) ∨ (i = .freturn ∧ t = .float ∧ ∃ z, w = .float z) ∨ (i = .areturn ∧ t.isReference = true ∧ w.isRef = true))
    (hc : cells ≤ kc) (hs : slots ≤ ks) (eT : T.heap = h) (hq : Q (some w) h locs) : Goes p e below (EndN s Q kc ks) (T.setTop (mkF m pc Ls (w :: rest))) :=
  goEnd X (v := some w) (fun q => by rw [hret] at q; cases q) hlocks hc hs eT hq fun fs hr => retOut X hx hret hn hi hd hr
theorem goRetI (X : Stand p l e R s m args below meth c T locs cells slots) (hx : p.tables.exec = Jvm.exec) {pc : Nat} {Ls : Array Slot} {z : Int32} {rest : List Value} (hret : meth.sig.returnType = some .int) (hlocks : meth.locks = false) (hd : decode c.code pc = .ok (.ireturn, 1))
    (hc : cells ≤ kc) (hs : slots ≤ ks) (eT : T.heap = h) (hq : Q (some (.int z)) h locs) : Goes p e below (EndN s Q kc ks) (T.setTop (mkF m pc Ls (.int z :: rest))) :=
  goRetV X hx hret hlocks hd rfl (Or.inl ⟨rfl, Or.inl rfl, _, rfl⟩) hc hs eT hq
theorem goRetJ (X : Stand p l e R s m args below meth c T locs cells slots) (hx : p.tables.exec = Jvm.exec) {pc : Nat} {Ls : Array Slot} {z : Int64} {rest : List Value} (hret : meth.sig.returnType = some .long) (hlocks : meth.locks = false) (hd : decode c.code pc = .ok (.lreturn, 1))
    (hc : cells ≤ kc) (hs : slots ≤ ks) (eT : T.heap = h) (hq : Q (some (.long z)) h locs) : Goes p e below (EndN s Q kc ks) (T.setTop (mkF m pc Ls (.long z :: rest))) :=
  goRetV X hx hret hlocks hd rfl (Or.inr (Or.inl ⟨rfl, rfl, _, rfl⟩)) hc hs eT hq
theorem goRetD (X : Stand p l e R s m args below meth c T locs cells slots) (hx : p.tables.exec = Jvm.exec) {pc : Nat} {Ls : Array Slot} {z : UInt64} {rest : List Value} (hret : meth.sig.returnType = some .double) (hlocks : meth.locks = false) (hd : decode c.code pc = .ok (.dreturn, 1))
    (hc : cells ≤ kc) (hs : slots ≤ ks) (eT : T.heap = h) (hq : Q (some (.double z)) h locs) : Goes p e below (EndN s Q kc ks) (T.setTop (mkF m pc Ls (.double z :: rest))) :=
  goRetV X hx hret hlocks hd rfl (Or.inr (Or.inr (Or.inl ⟨rfl, rfl, _, rfl⟩))) hc hs eT hq
theorem goRetA (X : Stand p l e R s m args below meth c T locs cells slots) (hx : p.tables.exec = Jvm.exec) {pc : Nat} {Ls : Array Slot} {w : Value} {t : FieldType} {rest : List Value} (hret : meth.sig.returnType = some t) (hlocks : meth.locks = false) (ht : t.isReference = true) (hw : w.isRef = true) (hd : decode c.code pc = .ok (.areturn, 1))
    (hc : cells ≤ kc) (hs : slots ≤ ks) (eT : T.heap = h) (hq : Q (some w) h locs) : Goes p e below (EndN s Q kc ks) (T.setTop (mkF m pc Ls (w :: rest))) :=
  goRetV X hx hret hlocks hd (by cases t <;> first | (cases ht; done) | rfl) (Or.inr (Or.inr (Or.inr (Or.inr ⟨rfl, ht, hw⟩)))) hc hs eT hq
theorem goRetN (X : Stand p l e R s m args below meth c T locs cells slots) (hx : p.tables.exec = Jvm.exec) {pc : Nat} {Ls : Array Slot} {z z' : Int32} {t : FieldType} {rest : List Value} (hret : meth.sig.returnType = some t) (hlocks : meth.locks = false) (ht : t = .boolean ∨ t = .byte ∨ t = .char ∨ t = .short) (hd : decode c.code pc = .ok (.ireturn, 1)) (hz : nar t z = z')
    (hc : cells ≤ kc) (hs : slots ≤ ks) (eT : T.heap = h) (hq : Q (some (.int z')) h locs) : Goes p e below (EndN s Q kc ks) (T.setTop (mkF m pc Ls (.int z :: rest))) := by
  subst hz
  exact goEnd X (v := some (.int (nar t z))) (fun q => by rw [hret] at q; cases q) hlocks hc hs eT hq fun fs hr => retN X hx hret ht hd hr
theorem goRet0 (X : Stand p l e R s m args below meth c T locs cells slots) (hx : p.tables.exec = Jvm.exec) {pc : Nat} {Ls : Array Slot} (hret : meth.sig.returnType = none) (hlocks : meth.locks = false) (hd : decode c.code pc = .ok (.return_, 1))
    (hc : cells ≤ kc) (hs : slots ≤ ks) (eT : T.heap = h) (hq : Q none h locs) : Goes p e below (EndN s Q kc ks) (T.setTop (mkF m pc Ls [])) :=
  goEnd X (v := none) (fun _ => rfl) hlocks hc hs eT hq fun fs hr => X.returnOut hx hret hd hr
/-- a body's contract: called with these arguments at this heap it returns, and Q holds -/
def Ctr (l : Launch) (Z : State) (y : MethodName) (bytes : ByteArray) (maxL : Nat) (ret : Option FieldType) (ws : List Cond) (rm : Room) (as : Array Value) (h0 : Heap) (Q : Option Value → Heap → List Loc → Prop) : Prop :=
  MetFree l y (head1 (Cond.code y bytes maxL ret :: ws) rm) (fun a U => a = as ∧ Z.Warmed39 U.vm ∧ U.heap = h0) (fun _ _ _ _ _ => True) (fun _ U o U' => ∃ v L, o = .returned v ∧ Q v U'.heap L ∧ FrameEnd U o U' L rm.cells rm.slots)
theorem ctr {y : MethodName} {bytes : ByteArray} {maxL : Nat} {ret : Option FieldType} {ws : List Cond} {rm : Room} {as : Array Value} {h0 : Heap} (hpn : plainFor y = true)
    (body : ∀ (p : Program) (e : Env) (s : State) (m : MethodId) (below : List Frame) (meth : Method) (c : Code) (s₁ : State), p.tables.exec = Jvm.exec → c.code = bytes → c.maxLocals = maxL → s.vm.findClass y.cls = some m.cls → meth.name = y.name → meth.sig.returnType = ret → meth.locks = false → Z.Warmed39 s.vm →
      Stand p l e rm s m as below meth c s₁ [] 0 0 → s₁.heap = h0 → Goes p e below (EndN s Q rm.cells rm.slots) (s₁.setTop (entryFrame m as maxL))) : Ctr l Z y bytes maxL ret ws rm as h0 Q := by
  refine MetFree.of_bodySF hpn hisR ?_
  intro p e s m args below meth c s₁ Bd hml0 hP hK
  obtain ⟨rfl, hZ, hh⟩ := hP
  exact body p e s m below meth c s₁ Bd.exec Bd.bytes hml0 (findClass_of_methodNamed Bd.named) (name_of_methodNamed Bd.named Bd.method).1 Bd.returns Bd.notSynchronized hZ (Stand.of_body Bd) (by rw [← hh, Bd.state]; rfl)
theorem goCallS (X : Stand p l e R s m args below meth c T locs cells slots) (hx : p.tables.exec = Jvm.exec) (hZ : Z.Warmed39 s.vm) {own : String} {index : Nat} {y : MethodName} {bytes : ByteArray} {maxL : Nat} {ret : Option FieldType} (hown : s.vm.findClass own = some m.cls)
    (w1 : (Cond.methodLink own index y).before a0 Z = true) (w2 : (Cond.static y).before a0 Z = true) (w3 : (Cond.initialized y.cls).before a0 Z = true) (w4 : (Cond.code y bytes maxL ret).before a0 Z = true) (hy : y.cls ≠ "java/lang/invoke/MethodHandle" ∧ y.cls ≠ "java/lang/invoke/VarHandle")
    {rm : Room} {as : Array Value} {Q' : Option Value → Heap → List Loc → Prop} (hM : Ctr l Z y bytes maxL ret [] rm as h Q') (W : Nat) (hf : rm.frames + 1 ≤ R.frames) (hl : W + (maxL + 11) + rm.locals ≤ R.locals) (eT : T.heap = h)
    {pc : Nat} {Ls : Array Slot} {st : List Value} (hsize : Ls.size = c.maxLocals) (argsL rest : List Value) {ps : List FieldType} {rt : Option FieldType} (hpd : parseMethodDescriptor y.desc = some ⟨ps, rt⟩) (hlen : argsL.length = ps.length) (hst : st = argsL.reverse ++ rest) (has : argsL.toArray = as) (hW : (rest.map fun v => v.category).sum ≤ W)
    (hd : decode c.code pc = .ok (.invokestatic index, 3)) (hc : cells + rm.cells ≤ R.cells) (hs : slots + rm.slots ≤ R.slots)
    (k : ∀ T' v L, Stand p l e R s m args below meth c T' (locs ++ L) (cells + rm.cells) (slots + rm.slots) → Q' v T'.heap L → Goes p e below G (T'.setTop (mkF m (pc + 3) Ls (v.toList ++ rest)))) : Goes p e below G (T.setTop (mkF m pc Ls st)) := by
  subst hst
  obtain ⟨v, _, ⟨T', L', k', n'⟩, -, X', ⟨L, hQ, l1, y1, z1⟩, st⟩ := Jvm.LawKit.callS X hx (y := y) hown (mvT hZ w1) (mvT hZ w2) (mvT hZ w3) (mvT hZ w4) hy (backOf (W := W) hM hZ w4 w3 hf hl) (g := mkF m pc Ls (argsL.reverse ++ rest)) rfl hsize (argsL := argsL) (rest := rest) (lenOf hpd hlen) rfl (by show 2 * 0 + _ ≤ _; omega) hd (fun _ _ => ⟨has, eT, hc, hs⟩)
  dsimp only [Pt.U, Pt.locs, Pt.cells, Pt.slots] at X' l1 y1 z1 st hQ
  subst l1 y1 z1
  exact go st (k T' v L X' hQ)
theorem goCallI (X : Stand p l e R s m args below meth c T locs cells slots) (hx : p.tables.exec = Jvm.exec) (hZ : Z.Warmed39 s.vm) {own : String} {index : Nat} {y : MethodName} {bytes : ByteArray} {maxL : Nat} (hy1 : y.name = "<init>") (hown : s.vm.findClass own = some m.cls)
    (w1 : (Cond.methodLink own index y).before a0 Z = true) (w2 : (Cond.instanceMethod y).before a0 Z = true) (w3 : (Cond.initialized y.cls).before a0 Z = true) (w4 : (Cond.code y bytes maxL none).before a0 Z = true) (hy : y.cls ≠ "java/lang/invoke/MethodHandle" ∧ y.cls ≠ "java/lang/invoke/VarHandle")
    {rm : Room} {as : Array Value} {Q' : Option Value → Heap → List Loc → Prop} (hM : Ctr l Z y bytes maxL none [] rm as h Q') (W : Nat) (hf : rm.frames + 1 ≤ R.frames) (hl : W + (maxL + 11) + rm.locals ≤ R.locals) (eT : T.heap = h)
    {pc : Nat} {Ls : Array Slot} {st : List Value} (hsize : Ls.size = c.maxLocals) (a : Addr) (argsL rest : List Value) {ps : List FieldType} {rt : Option FieldType} (hpd : parseMethodDescriptor y.desc = some ⟨ps, rt⟩) (hlen : argsL.length = ps.length) (hst : st = argsL.reverse ++ .ref a :: rest) (has : (.ref a :: argsL).toArray = as) (hW : (rest.map fun v => v.category).sum ≤ W)
    (hd : decode c.code pc = .ok (.invokespecial index, 3)) (hc : cells + rm.cells ≤ R.cells) (hs : slots + rm.slots ≤ R.slots)
    (k : ∀ T' v L, Stand p l e R s m args below meth c T' (locs ++ L) (cells + rm.cells) (slots + rm.slots) → Q' v T'.heap L → Goes p e below G (T'.setTop (mkF m (pc + 3) Ls (v.toList ++ rest)))) : Goes p e below G (T.setTop (mkF m pc Ls st)) := by
  subst hst
  obtain ⟨v, _, ⟨T', L', k', n'⟩, -, X', ⟨L, hQ, l1, y1, z1⟩, st⟩ := X.specialBack hx (y := y) hy1 hown (mvT hZ w1) (mvT hZ w2) (mvT hZ w4) hy (backOf (W := W) hM hZ w4 w3 hf hl) (g := mkF m pc Ls (argsL.reverse ++ .ref a :: rest)) rfl hsize (Steps.refl _) (a := a) (argsL := argsL) (rest := rest) (lenOf hpd hlen) rfl (by show 2 * 0 + _ ≤ _; omega) hd (fun _ _ => ⟨has, eT, hc, hs⟩)
  dsimp only [Pt.U, Pt.locs, Pt.cells, Pt.slots] at X' l1 y1 z1 st hQ
  subst l1 y1 z1
  exact go (fun _ => st.trans) (k T' v L X' hQ)
theorem goCallV (X : Stand p l e R s m args below meth c T locs cells slots) (hx : p.tables.exec = Jvm.exec) (hZ : Z.Warmed39 s.vm) {own C : String} {index : Nat} {y : MethodName} {bytes : ByteArray} {maxL : Nat} {ret : Option FieldType} (hown : s.vm.findClass own = some m.cls)
    (w1 : (Cond.methodLink own index y).before a0 Z = true) (w2 : (Cond.declares y).before a0 Z = true) (w5 : (Cond.selects C y y).before a0 Z = true) (w6 : (Cond.instanceMethod y).before a0 Z = true) (w3 : (Cond.initialized y.cls).before a0 Z = true) (w4 : (Cond.code y bytes maxL ret).before a0 Z = true) (hy : y.cls ≠ "java/lang/invoke/MethodHandle" ∧ y.cls ≠ "java/lang/invoke/VarHandle")
    {rm : Room} {as : Array Value} {Q' : Option Value → Heap → List Loc → Prop} (hM : Ctr l Z y bytes maxL ret [] rm as h Q') (W : Nat) (hf : rm.frames + 1 ≤ R.frames) (hl : W + (maxL + 11) + rm.locals ≤ R.locals) (eT : T.heap = h) {a : Addr} (E : Exa Z h a C)
    {pc : Nat} {Ls : Array Slot} {st : List Value} (hsize : Ls.size = c.maxLocals) (argsL rest : List Value) {ps : List FieldType} {rt : Option FieldType} (hpd : parseMethodDescriptor y.desc = some ⟨ps, rt⟩) (hlen : argsL.length = ps.length) (hst : st = argsL.reverse ++ .ref a :: rest) (has : (.ref a :: argsL).toArray = as) (hW : (rest.map fun v => v.category).sum ≤ W)
    (hd : decode c.code pc = .ok (.invokevirtual index, 3)) (hc : cells + rm.cells ≤ R.cells) (hs : slots + rm.slots ≤ R.slots)
    (k : ∀ T' v L, Stand p l e R s m args below meth c T' (locs ++ L) (cells + rm.cells) (slots + rm.slots) → Q' v T'.heap L → Goes p e below G (T'.setTop (mkF m (pc + 3) Ls (v.toList ++ rest)))) : Goes p e below G (T.setTop (mkF m pc Ls st)) := by
  subst hst
  obtain ⟨cq, kq, qa, qb, qc⟩ := isOf hZ eT E
  obtain ⟨v, _, ⟨T', L', k', n'⟩, -, X', ⟨L, hQ, l1, y1, z1⟩, st⟩ := X.virtualBack hx (y := y) (z := y) hown (mvT hZ w1) (mvT hZ w2) (notFace_of_selects (args := #[]) (mvT hZ w5)) (mvT hZ w5) (mvT hZ w6) hy (backOf (W := W) hM hZ w4 w3 hf hl) qa qc (g := mkF m pc Ls (argsL.reverse ++ .ref a :: rest)) rfl hsize (Steps.refl _) (argsL := argsL) (rest := rest) (lenOf hpd hlen) rfl (by show 2 * 0 + _ ≤ _; omega) hd (fun _ _ => ⟨has, eT, hc, hs⟩)
  dsimp only [Pt.U, Pt.locs, Pt.cells, Pt.slots] at X' l1 y1 z1 st hQ
  subst l1 y1 z1
  exact go (fun _ => st.trans) (k T' v L X' hQ)
theorem extT {h0 : Heap} (O : Ext h0 h) (E : Ext h h') : Ext h0 h' := ⟨Nat.le_trans O.1 E.1, fun x c q => E.2 x c (O.2 x c q)⟩
theorem extK {h0 : Heap} {ws : List Addr} (O : Ext h0 h) (K : Keep h h' ws) (q : ∀ x ∈ ws, h0.size ≤ x) : Ext h0 h' := ⟨Nat.le_trans O.1 K.1, fun x c r => K.2.1 x c (O.2 x c r) fun z => absurd (Array.getElem?_eq_some_iff.mp r).1 (Nat.not_lt.mpr (q x z))⟩
theorem extW {h0 : Heap} {a : Addr} {sl : Nat} {v : Value} (O : Ext h0 h) (W : Wr h h' a sl v) (q : h0.size ≤ a) : Ext h0 h' := extK O (Keep.of_wr W) (allS q all0)
theorem eqI_v {t : Term} {k : Int32} {first s : State} {o : Option Outcome} {idx : List Nat} {args : Array Value} (h : (Cond.eq t (.int k)).value args first o s idx = some true) : t.eval args first o idx s = some (.int k) := by
  simp only [Cond.value, Term.eval] at h
  cases ht : t.eval args first o idx s with
  | none => simp [ht] at h
  | some x => cases x <;> simp [ht] at h ⊢; exact h
/-- an array with these values -/
def Ary (Z : State) (h : Heap) (a : Addr) (ty : FieldType) (vs : List Value) : Prop := ∃ cl : Cell, Arr Z h a cl ty ∧ cl.slots.toList = vs ∧ vs.length < 2 ^ 31
variable {a b : Addr} {ty : FieldType} {vs : List Value}
theorem Ary.lt (F : Ary Z h a ty vs) : a < h.size := by obtain ⟨c, A, -⟩ := F; exact A.lt
theorem Ary.ext (F : Ary Z h a ty vs) (E : Ext h h') : Ary Z h' a ty vs := by obtain ⟨c, A, r⟩ := F; exact ⟨c, A.ext E, r⟩
theorem Ary.other (F : Ary Z h b ty vs) {sl : Nat} {v : Value} (W : Wr h h' a sl v) (q : b ≠ a) : Ary Z h' b ty vs := by obtain ⟨c, A, r⟩ := F; exact ⟨c, A.other W q, r⟩
theorem Ary.keep (F : Ary Z h a ty vs) {ws : List Addr} (K : Keep h h' ws) (q : a ∉ ws) : Ary Z h' a ty vs := by obtain ⟨c, A, r⟩ := F; exact ⟨c, ⟨K.2.1 a c A.1 q, A.2⟩, r⟩
theorem Ary.set (F : Ary Z h a ty vs) {j : Int32} {v : Value} (W : Wr h h' a j.toNatClampNeg v) {ws : List Value} (e : vs.set j.toNatClampNeg v = ws) : Ary Z h' a ty ws := by
  obtain ⟨c, A, r, q⟩ := F
  refine ⟨_, A.same W, ?_, ?_⟩
  · rw [← e, ← r]; simp [Cell.setSlot]
  · rw [← e, List.length_set]; exact q
theorem Ary.new {cA : ClassId} {n : Int32} (A : Arr Z h a (newA cA ty n) ty) (e : List.replicate n.toNatClampNeg (defaultValue ty) = vs) (q : vs.length < 2 ^ 31) : Ary Z h a ty vs := ⟨_, A, by rw [← e]; simp [newA], q⟩
theorem Ary.inb {cl : Cell} (r : cl.slots.toList = vs) {j : Int32} {v : Value} (hj : ¬ j < 0) (hv : vs[j.toNatClampNeg]? = some v) : ¬ (j < 0 ∨ cl.slots.size ≤ j.toNatClampNeg) := fun q => by
  rcases q with q | q
  · exact hj q
  · subst r
    have := (List.getElem?_eq_some_iff.mp hv).1
    rw [Array.length_toList] at this
    omega
theorem Ary.at {cl : Cell} (r : cl.slots.toList = vs) {j : Int32} {v : Value} (hv : vs[j.toNatClampNeg]? = some v) : cl.slots[j.toNatClampNeg]? = some v := by subst r; simpa using hv
theorem goIaload (X : Stand p l e R s m args below meth c T locs cells slots) (hx : p.tables.exec = Jvm.exec) (hZ : Z.Warmed39 s.vm) (eT : T.heap = h) {vs : List Value} (F : Ary Z h a .int vs) {j x : Int32} {pc : Nat} {Ls : Array Slot} {rest : List Value} (hd : decode c.code pc = .ok (.iaload, 1)) (hj : ¬ j < 0) (hv : vs[j.toNatClampNeg]? = some (.int x))
    (k : Goes p e below G (T.setTop (mkF m (pc + 1) Ls (.int x :: rest)))) : Goes p e below G (T.setTop (mkF m pc Ls (.int j :: .ref a :: rest))) := by
  obtain ⟨cl, A, r, q⟩ := F
  exact go (X.iaload hx (j := j) (v := .int x) (by rw [eT]; exact A.1) (State.isArrayOf_alike hZ.alike A.2.1) A.2.2 (Ary.inb r hj hv) (Ary.at r hv) (g := mkF m pc Ls (.int j :: .ref a :: rest)) rfl rfl hd) k
theorem goBaload (X : Stand p l e R s m args below meth c T locs cells slots) (hx : p.tables.exec = Jvm.exec) (hZ : Z.Warmed39 s.vm) (eT : T.heap = h) {vs : List Value} (F : Ary Z h a .byte vs) {j x : Int32} {pc : Nat} {Ls : Array Slot} {rest : List Value} (hd : decode c.code pc = .ok (.baload, 1)) (hj : ¬ j < 0) (hv : vs[j.toNatClampNeg]? = some (.int x))
    (k : Goes p e below G (T.setTop (mkF m (pc + 1) Ls (.int x :: rest)))) : Goes p e below G (T.setTop (mkF m pc Ls (.int j :: .ref a :: rest))) := by
  obtain ⟨cl, A, r, q⟩ := F
  exact go (X.baloadBytes hx (j := j) (v := .int x) (by rw [eT]; exact A.1) (State.isArrayOf_alike hZ.alike A.2.1) A.2.2 (Ary.inb r hj hv) (Ary.at r hv) (g := mkF m pc Ls (.int j :: .ref a :: rest)) rfl rfl hd) k
theorem goZaload (X : Stand p l e R s m args below meth c T locs cells slots) (hx : p.tables.exec = Jvm.exec) (hZ : Z.Warmed39 s.vm) (eT : T.heap = h) {vs : List Value} (F : Ary Z h a .boolean vs) {j x : Int32} {pc : Nat} {Ls : Array Slot} {rest : List Value} (hd : decode c.code pc = .ok (.baload, 1)) (hj : ¬ j < 0) (hv : vs[j.toNatClampNeg]? = some (.int x))
    (k : Goes p e below G (T.setTop (mkF m (pc + 1) Ls (.int x :: rest)))) : Goes p e below G (T.setTop (mkF m pc Ls (.int j :: .ref a :: rest))) := by
  obtain ⟨cl, A, r, q⟩ := F
  exact go (X.baloadBooleans hx (j := j) (v := .int x) (by rw [eT]; exact A.1) (State.isArrayOf_alike hZ.alike A.2.1) A.2.2 (Ary.inb r hj hv) (Ary.at r hv) (g := mkF m pc Ls (.int j :: .ref a :: rest)) rfl rfl hd) k
theorem goCaload (X : Stand p l e R s m args below meth c T locs cells slots) (hx : p.tables.exec = Jvm.exec) (hZ : Z.Warmed39 s.vm) (eT : T.heap = h) {vs : List Value} (F : Ary Z h a .char vs) {j x : Int32} {pc : Nat} {Ls : Array Slot} {rest : List Value} (hd : decode c.code pc = .ok (.caload, 1)) (hj : ¬ j < 0) (hv : vs[j.toNatClampNeg]? = some (.int x))
    (k : Goes p e below G (T.setTop (mkF m (pc + 1) Ls (.int x :: rest)))) : Goes p e below G (T.setTop (mkF m pc Ls (.int j :: .ref a :: rest))) := by
  obtain ⟨cl, A, r, q⟩ := F
  exact go (X.caload hx (j := j) (v := .int x) (by rw [eT]; exact A.1) (State.isArrayOf_alike hZ.alike A.2.1) A.2.2 (Ary.inb r hj hv) (Ary.at r hv) (g := mkF m pc Ls (.int j :: .ref a :: rest)) rfl rfl hd) k
theorem goAlen (X : Stand p l e R s m args below meth c T locs cells slots) (hx : p.tables.exec = Jvm.exec) (hZ : Z.Warmed39 s.vm) (eT : T.heap = h) {vs : List Value} (F : Ary Z h a ty vs) {n : Int32} {pc : Nat} {Ls : Array Slot} {rest : List Value} (hd : decode c.code pc = .ok (.arraylength, 1)) (hn : vs.length.toInt32 = n)
    (k : Goes p e below G (T.setTop (mkF m (pc + 1) Ls (.int n :: rest)))) : Goes p e below G (T.setTop (mkF m pc Ls (.ref a :: rest))) := by
  obtain ⟨cl, A, r, q⟩ := F
  have e1 : cl.slots.size.toInt32 = n := by rw [← hn, ← r, Array.length_toList]
  refine go (X.arraylength hx (cell := cl) (by rw [eT]; exact A.1) (State.isArrayOf_alike hZ.alike A.2.1) (g := mkF m pc Ls (.ref a :: rest)) rfl (rest := rest) rfl hd) ?_
  rw [e1]
  exact k
theorem goIastore (X : Stand p l e R s m args below meth c T locs cells slots) (hx : p.tables.exec = Jvm.exec) (hZ : Z.Warmed39 s.vm) (eT : T.heap = h) {vs : List Value} (F : Ary Z h a .int vs) {j x : Int32} {v : Value} {pc : Nat} {Ls : Array Slot} {rest : List Value} (hd : decode c.code pc = .ok (.iastore, 1)) (hj : ¬ j < 0) (hv : vs[j.toNatClampNeg]? = some v)
    (k : ∀ T' h', Stand p l e R s m args below meth c T' (locs ++ [⟨a, j.toNatClampNeg⟩]) cells slots → T'.heap = h' → Wr h h' a j.toNatClampNeg (.int x) → Goes p e below G (T'.setTop (mkF m (pc + 1) Ls rest))) : Goes p e below G (T.setTop (mkF m pc Ls (.int x :: .int j :: .ref a :: rest))) := by
  obtain ⟨cl, A, r, q⟩ := F
  obtain ⟨T', h', X', e', W', st⟩ := stI X hx hZ eT A (j := j) (x := x) (Ary.inb r hj hv) (g := mkF m pc Ls (.int x :: .int j :: .ref a :: rest)) rfl rfl hd
  exact go st (k T' h' X' e' W')
theorem goBastore (X : Stand p l e R s m args below meth c T locs cells slots) (hx : p.tables.exec = Jvm.exec) (hZ : Z.Warmed39 s.vm) (eT : T.heap = h) {vs : List Value} (F : Ary Z h a .byte vs) {j x : Int32} {v : Value} {pc : Nat} {Ls : Array Slot} {rest : List Value} (hd : decode c.code pc = .ok (.bastore, 1)) (hj : ¬ j < 0) (hv : vs[j.toNatClampNeg]? = some v)
    (k : ∀ T' h', Stand p l e R s m args below meth c T' (locs ++ [⟨a, j.toNatClampNeg⟩]) cells slots → T'.heap = h' → Wr h h' a j.toNatClampNeg (.int (nar .byte x)) → Goes p e below G (T'.setTop (mkF m (pc + 1) Ls rest))) : Goes p e below G (T.setTop (mkF m pc Ls (.int x :: .int j :: .ref a :: rest))) := by
  obtain ⟨cl, A, r, q⟩ := F
  obtain ⟨T', h', X', e', W', st⟩ := stB X hx hZ eT A (j := j) (x := x) (Ary.inb r hj hv) (g := mkF m pc Ls (.int x :: .int j :: .ref a :: rest)) rfl rfl hd
  exact go st (k T' h' X' e' W')
theorem goZastore (X : Stand p l e R s m args below meth c T locs cells slots) (hx : p.tables.exec = Jvm.exec) (hZ : Z.Warmed39 s.vm) (eT : T.heap = h) {vs : List Value} (F : Ary Z h a .boolean vs) {j x : Int32} {v : Value} {pc : Nat} {Ls : Array Slot} {rest : List Value} (hd : decode c.code pc = .ok (.bastore, 1)) (hj : ¬ j < 0) (hv : vs[j.toNatClampNeg]? = some v)
    (k : ∀ T' h', Stand p l e R s m args below meth c T' (locs ++ [⟨a, j.toNatClampNeg⟩]) cells slots → T'.heap = h' → Wr h h' a j.toNatClampNeg (.int (nar .boolean x)) → Goes p e below G (T'.setTop (mkF m (pc + 1) Ls rest))) : Goes p e below G (T.setTop (mkF m pc Ls (.int x :: .int j :: .ref a :: rest))) := by
  obtain ⟨cl, A, r, q⟩ := F
  obtain ⟨T', h', X', e', W', st⟩ := stZ X hx hZ eT A (j := j) (x := x) (Ary.inb r hj hv) (g := mkF m pc Ls (.int x :: .int j :: .ref a :: rest)) rfl rfl hd
  exact go st (k T' h' X' e' W')
theorem goCastore (X : Stand p l e R s m args below meth c T locs cells slots) (hx : p.tables.exec = Jvm.exec) (hZ : Z.Warmed39 s.vm) (eT : T.heap = h) {vs : List Value} (F : Ary Z h a .char vs) {j x : Int32} {v : Value} {pc : Nat} {Ls : Array Slot} {rest : List Value} (hd : decode c.code pc = .ok (.castore, 1)) (hj : ¬ j < 0) (hv : vs[j.toNatClampNeg]? = some v)
    (k : ∀ T' h', Stand p l e R s m args below meth c T' (locs ++ [⟨a, j.toNatClampNeg⟩]) cells slots → T'.heap = h' → Wr h h' a j.toNatClampNeg (.int (nar .char x)) → Goes p e below G (T'.setTop (mkF m (pc + 1) Ls rest))) : Goes p e below G (T.setTop (mkF m pc Ls (.int x :: .int j :: .ref a :: rest))) := by
  obtain ⟨cl, A, r, q⟩ := F
  obtain ⟨T', h', X', e', W', st⟩ := stC X hx hZ eT A (j := j) (x := x) (Ary.inb r hj hv) (g := mkF m pc Ls (.int x :: .int j :: .ref a :: rest)) rfl rfl hd
  exact go st (k T' h' X' e' W')
theorem narb (x : Int32) : nar .byte x.toInt8.toInt32 = x.toInt8.toInt32 := by simp [nar]
theorem narc (x : Int32) : nar .char x.toUInt32.toUInt16.toUInt32.toInt32 = x.toUInt32.toUInt16.toUInt32.toInt32 := by simp only [nar, UInt32.toUInt32_toInt32, UInt16.toUInt16_toUInt32]
theorem gIload (X : Stand p l e R s m args below meth c T locs cells slots) (hx : p.tables.exec = Jvm.exec) {pc : Nat} {Ls : Array Slot} {st : List Value} {k : Nat} {v : Int32} (hd : decode c.code pc = .ok (.iload k, 2)) (hl : Ls[k]? = some (.val (.int v))) (K : Goes p e below G (T.setTop (mkF m (pc + 2) Ls (.int v :: st)))) : Goes p e below G (T.setTop (mkF m pc Ls (st))) :=
  go (fun _ q => XS.iload (g := mkF m pc Ls (st)) X.here hx rfl hd hl q) K
theorem gIloadN (X : Stand p l e R s m args below meth c T locs cells slots) (hx : p.tables.exec = Jvm.exec) {pc : Nat} {Ls : Array Slot} {st : List Value} {k : Fin 4} {v : Int32} (hd : decode c.code pc = .ok (.iload_n k, 1)) (hl : Ls[k.val]? = some (.val (.int v))) (K : Goes p e below G (T.setTop (mkF m (pc + 1) Ls (.int v :: st)))) : Goes p e below G (T.setTop (mkF m pc Ls (st))) :=
  go (fun _ q => XS.iloadN (g := mkF m pc Ls (st)) X.here hx rfl hd hl q) K
theorem gIstore (X : Stand p l e R s m args below meth c T locs cells slots) (hx : p.tables.exec = Jvm.exec) {pc : Nat} {Ls : Array Slot} {st : List Value} {k : Nat} {v : Int32} {l' : Array Slot} (hd : decode c.code pc = .ok (.istore k, 2)) (hl : storeLocals Ls k (.int v) = some l') (K : Goes p e below G (T.setTop (mkF m (pc + 2) l' (st)))) : Goes p e below G (T.setTop (mkF m pc Ls (.int v :: st))) :=
  go (fun _ q => XS.istore (g := mkF m pc Ls (.int v :: st)) X.here hx rfl hd rfl hl q) K
theorem gIstoreN (X : Stand p l e R s m args below meth c T locs cells slots) (hx : p.tables.exec = Jvm.exec) {pc : Nat} {Ls : Array Slot} {st : List Value} {k : Fin 4} {v : Int32} {l' : Array Slot} (hd : decode c.code pc = .ok (.istore_n k, 1)) (hl : storeLocals Ls k.val (.int v) = some l') (K : Goes p e below G (T.setTop (mkF m (pc + 1) l' (st)))) : Goes p e below G (T.setTop (mkF m pc Ls (.int v :: st))) :=
  go (fun _ q => XS.istoreN (g := mkF m pc Ls (.int v :: st)) X.here hx rfl hd rfl hl q) K
theorem gLload (X : Stand p l e R s m args below meth c T locs cells slots) (hx : p.tables.exec = Jvm.exec) {pc : Nat} {Ls : Array Slot} {st : List Value} {k : Nat} {v : Int64} (hd : decode c.code pc = .ok (.lload k, 2)) (hl : Ls[k]? = some (.val (.long v))) (K : Goes p e below G (T.setTop (mkF m (pc + 2) Ls (.long v :: st)))) : Goes p e below G (T.setTop (mkF m pc Ls (st))) :=
  go (fun _ q => XT.lload (g := mkF m pc Ls (st)) X.here hx rfl hd hl q) K
theorem gLloadN (X : Stand p l e R s m args below meth c T locs cells slots) (hx : p.tables.exec = Jvm.exec) {pc : Nat} {Ls : Array Slot} {st : List Value} {k : Fin 4} {v : Int64} (hd : decode c.code pc = .ok (.lload_n k, 1)) (hl : Ls[k.val]? = some (.val (.long v))) (K : Goes p e below G (T.setTop (mkF m (pc + 1) Ls (.long v :: st)))) : Goes p e below G (T.setTop (mkF m pc Ls (st))) :=
  go (fun _ q => XT.lloadN (g := mkF m pc Ls (st)) X.here hx rfl hd hl q) K
theorem gLstore (X : Stand p l e R s m args below meth c T locs cells slots) (hx : p.tables.exec = Jvm.exec) {pc : Nat} {Ls : Array Slot} {st : List Value} {k : Nat} {v : Int64} {l' : Array Slot} (hd : decode c.code pc = .ok (.lstore k, 2)) (hl : storeLocals Ls k (.long v) = some l') (K : Goes p e below G (T.setTop (mkF m (pc + 2) l' (st)))) : Goes p e below G (T.setTop (mkF m pc Ls (.long v :: st))) :=
  go (fun _ q => XT.lstore (g := mkF m pc Ls (.long v :: st)) X.here hx rfl hd rfl hl q) K
theorem gLstoreN (X : Stand p l e R s m args below meth c T locs cells slots) (hx : p.tables.exec = Jvm.exec) {pc : Nat} {Ls : Array Slot} {st : List Value} {k : Fin 4} {v : Int64} {l' : Array Slot} (hd : decode c.code pc = .ok (.lstore_n k, 1)) (hl : storeLocals Ls k.val (.long v) = some l') (K : Goes p e below G (T.setTop (mkF m (pc + 1) l' (st)))) : Goes p e below G (T.setTop (mkF m pc Ls (.long v :: st))) :=
  go (fun _ q => XT.lstoreN (g := mkF m pc Ls (.long v :: st)) X.here hx rfl hd rfl hl q) K
theorem gDload (X : Stand p l e R s m args below meth c T locs cells slots) (hx : p.tables.exec = Jvm.exec) {pc : Nat} {Ls : Array Slot} {st : List Value} {k : Nat} {v : UInt64} (hd : decode c.code pc = .ok (.dload k, 2)) (hl : Ls[k]? = some (.val (.double v))) (K : Goes p e below G (T.setTop (mkF m (pc + 2) Ls (.double v :: st)))) : Goes p e below G (T.setTop (mkF m pc Ls (st))) :=
  go (fun _ q => XS.dload (g := mkF m pc Ls (st)) X.here hx rfl hd hl q) K
theorem gDloadN (X : Stand p l e R s m args below meth c T locs cells slots) (hx : p.tables.exec = Jvm.exec) {pc : Nat} {Ls : Array Slot} {st : List Value} {k : Fin 4} {v : UInt64} (hd : decode c.code pc = .ok (.dload_n k, 1)) (hl : Ls[k.val]? = some (.val (.double v))) (K : Goes p e below G (T.setTop (mkF m (pc + 1) Ls (.double v :: st)))) : Goes p e below G (T.setTop (mkF m pc Ls (st))) :=
  go (fun _ q => XS.dloadN (g := mkF m pc Ls (st)) X.here hx rfl hd hl q) K
theorem gDstore (X : Stand p l e R s m args below meth c T locs cells slots) (hx : p.tables.exec = Jvm.exec) {pc : Nat} {Ls : Array Slot} {st : List Value} {k : Nat} {v : UInt64} {l' : Array Slot} (hd : decode c.code pc = .ok (.dstore k, 2)) (hl : storeLocals Ls k (.double v) = some l') (K : Goes p e below G (T.setTop (mkF m (pc + 2) l' (st)))) : Goes p e below G (T.setTop (mkF m pc Ls (.double v :: st))) :=
  go (fun _ q => XS.dstore (g := mkF m pc Ls (.double v :: st)) X.here hx rfl hd rfl hl q) K
theorem gDstoreN (X : Stand p l e R s m args below meth c T locs cells slots) (hx : p.tables.exec = Jvm.exec) {pc : Nat} {Ls : Array Slot} {st : List Value} {k : Fin 4} {v : UInt64} {l' : Array Slot} (hd : decode c.code pc = .ok (.dstore_n k, 1)) (hl : storeLocals Ls k.val (.double v) = some l') (K : Goes p e below G (T.setTop (mkF m (pc + 1) l' (st)))) : Goes p e below G (T.setTop (mkF m pc Ls (.double v :: st))) :=
  go (fun _ q => XS.dstoreN (g := mkF m pc Ls (.double v :: st)) X.here hx rfl hd rfl hl q) K
theorem gAload (X : Stand p l e R s m args below meth c T locs cells slots) (hx : p.tables.exec = Jvm.exec) {pc : Nat} {Ls : Array Slot} {st : List Value} {k : Nat} {v : Value} (hd : decode c.code pc = .ok (.aload k, 2)) (hl : Ls[k]? = some (.val v)) (hv : v.isRef = true) (K : Goes p e below G (T.setTop (mkF m (pc + 2) Ls (v :: st)))) : Goes p e below G (T.setTop (mkF m pc Ls (st))) :=
  go (fun _ q => XS.aload (g := mkF m pc Ls (st)) X.here hx rfl hd hl hv q) K
theorem gAloadN (X : Stand p l e R s m args below meth c T locs cells slots) (hx : p.tables.exec = Jvm.exec) {pc : Nat} {Ls : Array Slot} {st : List Value} {k : Fin 4} {v : Value} (hd : decode c.code pc = .ok (.aload_n k, 1)) (hl : Ls[k.val]? = some (.val v)) (hv : v.isRef = true) (K : Goes p e below G (T.setTop (mkF m (pc + 1) Ls (v :: st)))) : Goes p e below G (T.setTop (mkF m pc Ls (st))) :=
  go (fun _ q => XS.aloadN (g := mkF m pc Ls (st)) X.here hx rfl hd hl hv q) K
theorem gAstore (X : Stand p l e R s m args below meth c T locs cells slots) (hx : p.tables.exec = Jvm.exec) {pc : Nat} {Ls : Array Slot} {st : List Value} {k : Nat} {v : Value} {l' : Array Slot} (hd : decode c.code pc = .ok (.astore k, 2)) (hv : v.isRef = true) (hl : storeLocals Ls k v = some l') (K : Goes p e below G (T.setTop (mkF m (pc + 2) l' (st)))) : Goes p e below G (T.setTop (mkF m pc Ls (v :: st))) :=
  go (fun _ q => XS.astore (g := mkF m pc Ls (v :: st)) X.here hx rfl hd rfl hv hl q) K
theorem gAstoreN (X : Stand p l e R s m args below meth c T locs cells slots) (hx : p.tables.exec = Jvm.exec) {pc : Nat} {Ls : Array Slot} {st : List Value} {k : Fin 4} {v : Value} {l' : Array Slot} (hd : decode c.code pc = .ok (.astore_n k, 1)) (hv : v.isRef = true) (hl : storeLocals Ls k.val v = some l') (K : Goes p e below G (T.setTop (mkF m (pc + 1) l' (st)))) : Goes p e below G (T.setTop (mkF m pc Ls (v :: st))) :=
  go (fun _ q => XS.astoreN (g := mkF m pc Ls (v :: st)) X.here hx rfl hd rfl hv hl q) K
theorem gIstoreS (X : Stand p l e R s m args below meth c T locs cells slots) (hx : p.tables.exec = Jvm.exec) {pc : Nat} {Ls : Array Slot} {st : List Value} {k : Nat} {v : Int32} {o : Slot} (hd : decode c.code pc = .ok (.istore k, 2)) (hold : Ls[k]? = some o) (ho : o = .unset ∨ ∃ w, o = .val w ∧ w.category = 1) (K : Goes p e below G (T.setTop (mkF m (pc + 2) (Ls.setIfInBounds k (.val (.int v))) (st)))) : Goes p e below G (T.setTop (mkF m pc Ls (.int v :: st))) :=
  go (fun _ q => XS.istoreS (g := mkF m pc Ls (.int v :: st)) X.here hx rfl hd rfl hold ho q) K
theorem gIconst (X : Stand p l e R s m args below meth c T locs cells slots) (hx : p.tables.exec = Jvm.exec) {pc : Nat} {Ls : Array Slot} {st : List Value} {i : Int} {v : Int32} (hd : decode c.code pc = .ok (.iconst i, 1)) (hv : Int32.ofInt i = v) (K : Goes p e below G (T.setTop (mkF m (pc + 1) Ls (.int v :: st)))) : Goes p e below G (T.setTop (mkF m pc Ls st)) := by
  subst hv
  exact go (fun _ q => XS.iconst (g := mkF m pc Ls st) X.here hx rfl hd q) K
theorem gBipush (X : Stand p l e R s m args below meth c T locs cells slots) (hx : p.tables.exec = Jvm.exec) {pc : Nat} {Ls : Array Slot} {st : List Value} {i : Int} {v : Int32} (hd : decode c.code pc = .ok (.bipush i, 2)) (hv : (Int8.ofInt i).toInt32 = v) (K : Goes p e below G (T.setTop (mkF m (pc + 2) Ls (.int v :: st)))) : Goes p e below G (T.setTop (mkF m pc Ls st)) := by
  subst hv
  exact go (fun _ q => XS.bipush (g := mkF m pc Ls st) X.here hx rfl hd q) K
theorem gSipush (X : Stand p l e R s m args below meth c T locs cells slots) (hx : p.tables.exec = Jvm.exec) {pc : Nat} {Ls : Array Slot} {st : List Value} {i : Int} {v : Int32} (hd : decode c.code pc = .ok (.sipush i, 3)) (hv : (Int16.ofInt i).toInt32 = v) (K : Goes p e below G (T.setTop (mkF m (pc + 3) Ls (.int v :: st)))) : Goes p e below G (T.setTop (mkF m pc Ls st)) := by
  subst hv
  exact go (fun _ q => XS.sipush (g := mkF m pc Ls st) X.here hx rfl hd q) K
theorem gLconst (X : Stand p l e R s m args below meth c T locs cells slots) (hx : p.tables.exec = Jvm.exec) {pc : Nat} {Ls : Array Slot} {st : List Value} {i : Fin 2} {v : Int64} (hd : decode c.code pc = .ok (.lconst i, 1)) (hv : Int64.ofNat i = v) (K : Goes p e below G (T.setTop (mkF m (pc + 1) Ls (.long v :: st)))) : Goes p e below G (T.setTop (mkF m pc Ls st)) := by
  subst hv
  exact go (fun _ q => XT.lconst (g := mkF m pc Ls st) X.here hx rfl hd q) K
theorem gAnull (X : Stand p l e R s m args below meth c T locs cells slots) (hx : p.tables.exec = Jvm.exec) {pc : Nat} {Ls : Array Slot} {st : List Value}  (hd : decode c.code pc = .ok (.aconst_null, 1))  (K : Goes p e below G (T.setTop (mkF m (pc + 1) Ls (.null :: st)))) : Goes p e below G (T.setTop (mkF m pc Ls (st))) :=
  go (fun _ q => XS.aconstNull (g := mkF m pc Ls (st)) X.here hx rfl hd  q) K
theorem gDconst0 (X : Stand p l e R s m args below meth c T locs cells slots) (hx : p.tables.exec = Jvm.exec) {pc : Nat} {Ls : Array Slot} {st : List Value}  (hd : decode c.code pc = .ok (.dconst 0, 1))  (K : Goes p e below G (T.setTop (mkF m (pc + 1) Ls (.double FP.dconst0 :: st)))) : Goes p e below G (T.setTop (mkF m pc Ls (st))) :=
  go (fun _ q => XS.dconst0 (g := mkF m pc Ls (st)) X.here hx rfl hd rfl q) K
theorem gDconst1 (X : Stand p l e R s m args below meth c T locs cells slots) (hx : p.tables.exec = Jvm.exec) {pc : Nat} {Ls : Array Slot} {st : List Value}  (hd : decode c.code pc = .ok (.dconst 1, 1))  (K : Goes p e below G (T.setTop (mkF m (pc + 1) Ls (.double FP.dconst1 :: st)))) : Goes p e below G (T.setTop (mkF m pc Ls (st))) :=
  go (fun _ q => XS.dconst1 (g := mkF m pc Ls (st)) X.here hx rfl hd rfl q) K
theorem gIadd (X : Stand p l e R s m args below meth c T locs cells slots) (hx : p.tables.exec = Jvm.exec) {pc : Nat} {Ls : Array Slot} {st : List Value} {x y : Int32} (hd : decode c.code pc = .ok (.iadd, 1))  (K : Goes p e below G (T.setTop (mkF m (pc + 1) Ls (.int (x + y) :: st)))) : Goes p e below G (T.setTop (mkF m pc Ls (.int y :: .int x :: st))) :=
  go (fun _ q => XS.iadd (g := mkF m pc Ls (.int y :: .int x :: st)) X.here hx rfl hd rfl q) K
theorem gIsub (X : Stand p l e R s m args below meth c T locs cells slots) (hx : p.tables.exec = Jvm.exec) {pc : Nat} {Ls : Array Slot} {st : List Value} {x y : Int32} (hd : decode c.code pc = .ok (.isub, 1))  (K : Goes p e below G (T.setTop (mkF m (pc + 1) Ls (.int (x - y) :: st)))) : Goes p e below G (T.setTop (mkF m pc Ls (.int y :: .int x :: st))) :=
  go (fun _ q => XS.isub (g := mkF m pc Ls (.int y :: .int x :: st)) X.here hx rfl hd rfl q) K
theorem gImul (X : Stand p l e R s m args below meth c T locs cells slots) (hx : p.tables.exec = Jvm.exec) {pc : Nat} {Ls : Array Slot} {st : List Value} {x y : Int32} (hd : decode c.code pc = .ok (.imul, 1))  (K : Goes p e below G (T.setTop (mkF m (pc + 1) Ls (.int (x * y) :: st)))) : Goes p e below G (T.setTop (mkF m pc Ls (.int y :: .int x :: st))) :=
  go (fun _ q => XS.imul (g := mkF m pc Ls (.int y :: .int x :: st)) X.here hx rfl hd rfl q) K
theorem gIand (X : Stand p l e R s m args below meth c T locs cells slots) (hx : p.tables.exec = Jvm.exec) {pc : Nat} {Ls : Array Slot} {st : List Value} {x y : Int32} (hd : decode c.code pc = .ok (.iand, 1))  (K : Goes p e below G (T.setTop (mkF m (pc + 1) Ls (.int (x &&& y) :: st)))) : Goes p e below G (T.setTop (mkF m pc Ls (.int y :: .int x :: st))) :=
  go (fun _ q => XS.iand (g := mkF m pc Ls (.int y :: .int x :: st)) X.here hx rfl hd rfl q) K
theorem gIor (X : Stand p l e R s m args below meth c T locs cells slots) (hx : p.tables.exec = Jvm.exec) {pc : Nat} {Ls : Array Slot} {st : List Value} {x y : Int32} (hd : decode c.code pc = .ok (.ior, 1))  (K : Goes p e below G (T.setTop (mkF m (pc + 1) Ls (.int (x ||| y) :: st)))) : Goes p e below G (T.setTop (mkF m pc Ls (.int y :: .int x :: st))) :=
  go (fun _ q => XT.ior (g := mkF m pc Ls (.int y :: .int x :: st)) X.here hx rfl hd rfl q) K
theorem gIxor (X : Stand p l e R s m args below meth c T locs cells slots) (hx : p.tables.exec = Jvm.exec) {pc : Nat} {Ls : Array Slot} {st : List Value} {x y : Int32} (hd : decode c.code pc = .ok (.ixor, 1))  (K : Goes p e below G (T.setTop (mkF m (pc + 1) Ls (.int (x ^^^ y) :: st)))) : Goes p e below G (T.setTop (mkF m pc Ls (.int y :: .int x :: st))) :=
  go (fun _ q => XT.ixor (g := mkF m pc Ls (.int y :: .int x :: st)) X.here hx rfl hd rfl q) K
theorem gIshl (X : Stand p l e R s m args below meth c T locs cells slots) (hx : p.tables.exec = Jvm.exec) {pc : Nat} {Ls : Array Slot} {st : List Value} {x y : Int32} (hd : decode c.code pc = .ok (.ishl, 1))  (K : Goes p e below G (T.setTop (mkF m (pc + 1) Ls (.int (x <<< (y &&& 31)) :: st)))) : Goes p e below G (T.setTop (mkF m pc Ls (.int y :: .int x :: st))) :=
  go (fun _ q => XT.ishl (g := mkF m pc Ls (.int y :: .int x :: st)) X.here hx rfl hd rfl q) K
theorem gIshr (X : Stand p l e R s m args below meth c T locs cells slots) (hx : p.tables.exec = Jvm.exec) {pc : Nat} {Ls : Array Slot} {st : List Value} {x y : Int32} (hd : decode c.code pc = .ok (.ishr, 1))  (K : Goes p e below G (T.setTop (mkF m (pc + 1) Ls (.int (x >>> (y &&& 31)) :: st)))) : Goes p e below G (T.setTop (mkF m pc Ls (.int y :: .int x :: st))) :=
  go (fun _ q => XT.ishr (g := mkF m pc Ls (.int y :: .int x :: st)) X.here hx rfl hd rfl q) K
theorem gIushr (X : Stand p l e R s m args below meth c T locs cells slots) (hx : p.tables.exec = Jvm.exec) {pc : Nat} {Ls : Array Slot} {st : List Value} {x y : Int32} (hd : decode c.code pc = .ok (.iushr, 1))  (K : Goes p e below G (T.setTop (mkF m (pc + 1) Ls (.int (XT.ushr x y) :: st)))) : Goes p e below G (T.setTop (mkF m pc Ls (.int y :: .int x :: st))) :=
  go (fun _ q => XT.iushr (g := mkF m pc Ls (.int y :: .int x :: st)) X.here hx rfl hd rfl q) K
theorem gLadd (X : Stand p l e R s m args below meth c T locs cells slots) (hx : p.tables.exec = Jvm.exec) {pc : Nat} {Ls : Array Slot} {st : List Value} {x y : Int64} (hd : decode c.code pc = .ok (.ladd, 1))  (K : Goes p e below G (T.setTop (mkF m (pc + 1) Ls (.long (x + y) :: st)))) : Goes p e below G (T.setTop (mkF m pc Ls (.long y :: .long x :: st))) :=
  go (fun _ q => XT.ladd (g := mkF m pc Ls (.long y :: .long x :: st)) X.here hx rfl hd rfl q) K
theorem gLsub (X : Stand p l e R s m args below meth c T locs cells slots) (hx : p.tables.exec = Jvm.exec) {pc : Nat} {Ls : Array Slot} {st : List Value} {x y : Int64} (hd : decode c.code pc = .ok (.lsub, 1))  (K : Goes p e below G (T.setTop (mkF m (pc + 1) Ls (.long (x - y) :: st)))) : Goes p e below G (T.setTop (mkF m pc Ls (.long y :: .long x :: st))) :=
  go (fun _ q => XT.lsub (g := mkF m pc Ls (.long y :: .long x :: st)) X.here hx rfl hd rfl q) K
theorem gLmul (X : Stand p l e R s m args below meth c T locs cells slots) (hx : p.tables.exec = Jvm.exec) {pc : Nat} {Ls : Array Slot} {st : List Value} {x y : Int64} (hd : decode c.code pc = .ok (.lmul, 1))  (K : Goes p e below G (T.setTop (mkF m (pc + 1) Ls (.long (x * y) :: st)))) : Goes p e below G (T.setTop (mkF m pc Ls (.long y :: .long x :: st))) :=
  go (fun _ q => XT.lmul (g := mkF m pc Ls (.long y :: .long x :: st)) X.here hx rfl hd rfl q) K
theorem gLand (X : Stand p l e R s m args below meth c T locs cells slots) (hx : p.tables.exec = Jvm.exec) {pc : Nat} {Ls : Array Slot} {st : List Value} {x y : Int64} (hd : decode c.code pc = .ok (.land, 1))  (K : Goes p e below G (T.setTop (mkF m (pc + 1) Ls (.long (x &&& y) :: st)))) : Goes p e below G (T.setTop (mkF m pc Ls (.long y :: .long x :: st))) :=
  go (fun _ q => XT.land (g := mkF m pc Ls (.long y :: .long x :: st)) X.here hx rfl hd rfl q) K
theorem gLor (X : Stand p l e R s m args below meth c T locs cells slots) (hx : p.tables.exec = Jvm.exec) {pc : Nat} {Ls : Array Slot} {st : List Value} {x y : Int64} (hd : decode c.code pc = .ok (.lor, 1))  (K : Goes p e below G (T.setTop (mkF m (pc + 1) Ls (.long (x ||| y) :: st)))) : Goes p e below G (T.setTop (mkF m pc Ls (.long y :: .long x :: st))) :=
  go (fun _ q => XT.lor (g := mkF m pc Ls (.long y :: .long x :: st)) X.here hx rfl hd rfl q) K
theorem gLxor (X : Stand p l e R s m args below meth c T locs cells slots) (hx : p.tables.exec = Jvm.exec) {pc : Nat} {Ls : Array Slot} {st : List Value} {x y : Int64} (hd : decode c.code pc = .ok (.lxor, 1))  (K : Goes p e below G (T.setTop (mkF m (pc + 1) Ls (.long (x ^^^ y) :: st)))) : Goes p e below G (T.setTop (mkF m pc Ls (.long y :: .long x :: st))) :=
  go (fun _ q => XT.lxor (g := mkF m pc Ls (.long y :: .long x :: st)) X.here hx rfl hd rfl q) K
theorem gLshl (X : Stand p l e R s m args below meth c T locs cells slots) (hx : p.tables.exec = Jvm.exec) {pc : Nat} {Ls : Array Slot} {st : List Value} {x : Int64} {y : Int32} (hd : decode c.code pc = .ok (.lshl, 1))  (K : Goes p e below G (T.setTop (mkF m (pc + 1) Ls (.long (x <<< (y.toInt64 &&& 63)) :: st)))) : Goes p e below G (T.setTop (mkF m pc Ls (.int y :: .long x :: st))) :=
  go (fun _ q => XT.lshl (g := mkF m pc Ls (.int y :: .long x :: st)) X.here hx rfl hd rfl q) K
theorem gLshr (X : Stand p l e R s m args below meth c T locs cells slots) (hx : p.tables.exec = Jvm.exec) {pc : Nat} {Ls : Array Slot} {st : List Value} {x : Int64} {y : Int32} (hd : decode c.code pc = .ok (.lshr, 1))  (K : Goes p e below G (T.setTop (mkF m (pc + 1) Ls (.long (x >>> (y.toInt64 &&& 63)) :: st)))) : Goes p e below G (T.setTop (mkF m pc Ls (.int y :: .long x :: st))) :=
  go (fun _ q => XT.lshr (g := mkF m pc Ls (.int y :: .long x :: st)) X.here hx rfl hd rfl q) K
theorem gLushr (X : Stand p l e R s m args below meth c T locs cells slots) (hx : p.tables.exec = Jvm.exec) {pc : Nat} {Ls : Array Slot} {st : List Value} {x : Int64} {y : Int32} (hd : decode c.code pc = .ok (.lushr, 1))  (K : Goes p e below G (T.setTop (mkF m (pc + 1) Ls (.long (XT.ushrL x y) :: st)))) : Goes p e below G (T.setTop (mkF m pc Ls (.int y :: .long x :: st))) :=
  go (fun _ q => XT.lushr (g := mkF m pc Ls (.int y :: .long x :: st)) X.here hx rfl hd rfl q) K
theorem gIneg (X : Stand p l e R s m args below meth c T locs cells slots) (hx : p.tables.exec = Jvm.exec) {pc : Nat} {Ls : Array Slot} {st : List Value} {x : Int32} (hd : decode c.code pc = .ok (.ineg, 1))  (K : Goes p e below G (T.setTop (mkF m (pc + 1) Ls (.int (-x) :: st)))) : Goes p e below G (T.setTop (mkF m pc Ls (.int x :: st))) :=
  go (fun _ q => XS.ineg (g := mkF m pc Ls (.int x :: st)) X.here hx rfl hd rfl q) K
theorem gI2l (X : Stand p l e R s m args below meth c T locs cells slots) (hx : p.tables.exec = Jvm.exec) {pc : Nat} {Ls : Array Slot} {st : List Value} {x : Int32} (hd : decode c.code pc = .ok (.i2l, 1))  (K : Goes p e below G (T.setTop (mkF m (pc + 1) Ls (.long (x.toInt64) :: st)))) : Goes p e below G (T.setTop (mkF m pc Ls (.int x :: st))) :=
  go (fun _ q => XT.i2l (g := mkF m pc Ls (.int x :: st)) X.here hx rfl hd rfl q) K
theorem gL2i (X : Stand p l e R s m args below meth c T locs cells slots) (hx : p.tables.exec = Jvm.exec) {pc : Nat} {Ls : Array Slot} {st : List Value} {x : Int64} (hd : decode c.code pc = .ok (.l2i, 1))  (K : Goes p e below G (T.setTop (mkF m (pc + 1) Ls (.int (x.toInt32) :: st)))) : Goes p e below G (T.setTop (mkF m pc Ls (.long x :: st))) :=
  go (fun _ q => XT.l2i (g := mkF m pc Ls (.long x :: st)) X.here hx rfl hd rfl q) K
theorem gI2b (X : Stand p l e R s m args below meth c T locs cells slots) (hx : p.tables.exec = Jvm.exec) {pc : Nat} {Ls : Array Slot} {st : List Value} {x : Int32} (hd : decode c.code pc = .ok (.i2b, 1))  (K : Goes p e below G (T.setTop (mkF m (pc + 1) Ls (.int (x.toInt8.toInt32) :: st)))) : Goes p e below G (T.setTop (mkF m pc Ls (.int x :: st))) :=
  go (fun _ q => XT.i2b (g := mkF m pc Ls (.int x :: st)) X.here hx rfl hd rfl q) K
theorem gI2c (X : Stand p l e R s m args below meth c T locs cells slots) (hx : p.tables.exec = Jvm.exec) {pc : Nat} {Ls : Array Slot} {st : List Value} {x : Int32} (hd : decode c.code pc = .ok (.i2c, 1))  (K : Goes p e below G (T.setTop (mkF m (pc + 1) Ls (.int (x.toUInt32.toUInt16.toUInt32.toInt32) :: st)))) : Goes p e below G (T.setTop (mkF m pc Ls (.int x :: st))) :=
  go (fun _ q => XT.i2c (g := mkF m pc Ls (.int x :: st)) X.here hx rfl hd rfl q) K
theorem gI2d (X : Stand p l e R s m args below meth c T locs cells slots) (hx : p.tables.exec = Jvm.exec) {pc : Nat} {Ls : Array Slot} {st : List Value} {x : Int32} (hd : decode c.code pc = .ok (.i2d, 1))  (K : Goes p e below G (T.setTop (mkF m (pc + 1) Ls (.double (FP.i2d x) :: st)))) : Goes p e below G (T.setTop (mkF m pc Ls (.int x :: st))) :=
  go (fun _ q => XS.i2dS (g := mkF m pc Ls (.int x :: st)) X.here hx rfl hd rfl rfl q) K
theorem gL2d (X : Stand p l e R s m args below meth c T locs cells slots) (hx : p.tables.exec = Jvm.exec) {pc : Nat} {Ls : Array Slot} {st : List Value} {x : Int64} (hd : decode c.code pc = .ok (.l2d, 1))  (K : Goes p e below G (T.setTop (mkF m (pc + 1) Ls (.double (FP.l2d x) :: st)))) : Goes p e below G (T.setTop (mkF m pc Ls (.long x :: st))) :=
  go (fun _ q => XS.l2dS (g := mkF m pc Ls (.long x :: st)) X.here hx rfl hd rfl rfl q) K
theorem gDadd (X : Stand p l e R s m args below meth c T locs cells slots) (hx : p.tables.exec = Jvm.exec) {pc : Nat} {Ls : Array Slot} {st : List Value} {x y : UInt64} (hd : decode c.code pc = .ok (.dadd, 1)) (hn : Jvm.Free.Fl.NoNaN64 (FP.dadd x y)) (K : Goes p e below G (T.setTop (mkF m (pc + 1) Ls (.double (FP.dadd x y) :: st)))) : Goes p e below G (T.setTop (mkF m pc Ls (.double y :: .double x :: st))) :=
  go (fun _ q => XS.daddS (g := mkF m pc Ls (.double y :: .double x :: st)) X.here hx rfl hd rfl hn rfl q) K
theorem gDsub (X : Stand p l e R s m args below meth c T locs cells slots) (hx : p.tables.exec = Jvm.exec) {pc : Nat} {Ls : Array Slot} {st : List Value} {x y : UInt64} (hd : decode c.code pc = .ok (.dsub, 1)) (hn : Jvm.Free.Fl.NoNaN64 (FP.dsub x y)) (K : Goes p e below G (T.setTop (mkF m (pc + 1) Ls (.double (FP.dsub x y) :: st)))) : Goes p e below G (T.setTop (mkF m pc Ls (.double y :: .double x :: st))) :=
  go (fun _ q => XS.dsubS (g := mkF m pc Ls (.double y :: .double x :: st)) X.here hx rfl hd rfl hn rfl q) K
theorem gDmul (X : Stand p l e R s m args below meth c T locs cells slots) (hx : p.tables.exec = Jvm.exec) {pc : Nat} {Ls : Array Slot} {st : List Value} {x y : UInt64} (hd : decode c.code pc = .ok (.dmul, 1)) (hn : Jvm.Free.Fl.NoNaN64 (FP.dmul x y)) (K : Goes p e below G (T.setTop (mkF m (pc + 1) Ls (.double (FP.dmul x y) :: st)))) : Goes p e below G (T.setTop (mkF m pc Ls (.double y :: .double x :: st))) :=
  go (fun _ q => XS.dmulS (g := mkF m pc Ls (.double y :: .double x :: st)) X.here hx rfl hd rfl hn rfl q) K
theorem gDdiv (X : Stand p l e R s m args below meth c T locs cells slots) (hx : p.tables.exec = Jvm.exec) {pc : Nat} {Ls : Array Slot} {st : List Value} {x y : UInt64} (hd : decode c.code pc = .ok (.ddiv, 1)) (hn : Jvm.Free.Fl.NoNaN64 (FP.ddiv x y)) (K : Goes p e below G (T.setTop (mkF m (pc + 1) Ls (.double (FP.ddiv x y) :: st)))) : Goes p e below G (T.setTop (mkF m pc Ls (.double y :: .double x :: st))) :=
  go (fun _ q => XS.ddivS (g := mkF m pc Ls (.double y :: .double x :: st)) X.here hx rfl hd rfl hn rfl q) K
theorem gDcmp (X : Stand p l e R s m args below meth c T locs cells slots) (hx : p.tables.exec = Jvm.exec) {pc : Nat} {Ls : Array Slot} {st : List Value} {o : CmpOp} {x y : UInt64} (hd : decode c.code pc = .ok (.dcmp o, 1))  (K : Goes p e below G (T.setTop (mkF m (pc + 1) Ls (.int (cmpValue (FP.dcmp x y) o) :: st)))) : Goes p e below G (T.setTop (mkF m pc Ls (.double y :: .double x :: st))) :=
  go (fun _ q => XS.dcmpS (g := mkF m pc Ls (.double y :: .double x :: st)) X.here hx rfl hd rfl rfl q) K
theorem gLcmp (X : Stand p l e R s m args below meth c T locs cells slots) (hx : p.tables.exec = Jvm.exec) {pc : Nat} {Ls : Array Slot} {st : List Value} {x y : Int64} (hd : decode c.code pc = .ok (.lcmp, 1))  (K : Goes p e below G (T.setTop (mkF m (pc + 1) Ls (.int (XT.cmpL x y) :: st)))) : Goes p e below G (T.setTop (mkF m pc Ls (.long y :: .long x :: st))) :=
  go (fun _ q => XT.lcmp (g := mkF m pc Ls (.long y :: .long x :: st)) X.here hx rfl hd rfl q) K
theorem gDup (X : Stand p l e R s m args below meth c T locs cells slots) (hx : p.tables.exec = Jvm.exec) {pc : Nat} {Ls : Array Slot} {st : List Value} {x : Value} (hd : decode c.code pc = .ok (.dup, 1)) (hc : x.category = 1) (K : Goes p e below G (T.setTop (mkF m (pc + 1) Ls (x :: x :: st)))) : Goes p e below G (T.setTop (mkF m pc Ls (x :: st))) :=
  go (fun _ q => XS.dup (g := mkF m pc Ls (x :: st)) X.here hx rfl hd rfl hc q) K
theorem gPop (X : Stand p l e R s m args below meth c T locs cells slots) (hx : p.tables.exec = Jvm.exec) {pc : Nat} {Ls : Array Slot} {st : List Value} {x : Value} (hd : decode c.code pc = .ok (.pop, 1)) (hc : x.category = 1) (K : Goes p e below G (T.setTop (mkF m (pc + 1) Ls (st)))) : Goes p e below G (T.setTop (mkF m pc Ls (x :: st))) :=
  go (fun _ q => XT.pop (g := mkF m pc Ls (x :: st)) X.here hx rfl hd rfl hc q) K
theorem gDupX1 (X : Stand p l e R s m args below meth c T locs cells slots) (hx : p.tables.exec = Jvm.exec) {pc : Nat} {Ls : Array Slot} {st : List Value} {x y : Value} (hd : decode c.code pc = .ok (.dup_x1, 1)) (hc : x.category = 1) (hc' : y.category = 1) (K : Goes p e below G (T.setTop (mkF m (pc + 1) Ls (x :: y :: x :: st)))) : Goes p e below G (T.setTop (mkF m pc Ls (x :: y :: st))) :=
  go (fun _ q => XT.dupX1 (g := mkF m pc Ls (x :: y :: st)) X.here hx rfl hd rfl hc hc' q) K
theorem gDup2 (X : Stand p l e R s m args below meth c T locs cells slots) (hx : p.tables.exec = Jvm.exec) {pc : Nat} {Ls : Array Slot} {st : List Value} {x y : Value} (hd : decode c.code pc = .ok (.dup2, 1)) (hc : x.category = 1) (hc' : y.category = 1) (K : Goes p e below G (T.setTop (mkF m (pc + 1) Ls (x :: y :: x :: y :: st)))) : Goes p e below G (T.setTop (mkF m pc Ls (x :: y :: st))) :=
  go (fun _ q => XT.dup2 (g := mkF m pc Ls (x :: y :: st)) X.here hx rfl hd rfl hc hc' q) K
theorem gIinc (X : Stand p l e R s m args below meth c T locs cells slots) (hx : p.tables.exec = Jvm.exec) {pc : Nat} {Ls : Array Slot} {st : List Value} {k : Nat} {i : Int} {x v : Int32} {l' : Array Slot} (hd : decode c.code pc = .ok (.iinc k i, 3)) (hv : x + Int32.ofInt i = v) (hl : Ls[k]? = some (.val (.int x))) (hl' : storeLocals Ls k (.int v) = some l') (K : Goes p e below G (T.setTop (mkF m (pc + 3) l' st))) : Goes p e below G (T.setTop (mkF m pc Ls st)) := by
  subst hv
  exact go (fun _ q => XS.iinc (g := mkF m pc Ls st) X.here hx rfl hd hl hl' q) K
theorem gIrem (X : Stand p l e R s m args below meth c T locs cells slots) (hx : p.tables.exec = Jvm.exec) {pc : Nat} {Ls : Array Slot} {st : List Value} {x y : Int32} (hd : decode c.code pc = .ok (.irem, 1)) (hy : y ≠ 0) (K : Goes p e below G (T.setTop (mkF m (pc + 1) Ls (.int (x % y) :: st)))) : Goes p e below G (T.setTop (mkF m pc Ls (.int y :: .int x :: st))) :=
  go (fun _ q => iremM X hx (g := mkF m pc Ls (.int y :: .int x :: st)) rfl hd rfl hy q) K
theorem gIdiv (X : Stand p l e R s m args below meth c T locs cells slots) (hx : p.tables.exec = Jvm.exec) {pc : Nat} {Ls : Array Slot} {st : List Value} {x y : Int32} (hd : decode c.code pc = .ok (.idiv, 1)) (hy : y ≠ 0) (K : Goes p e below G (T.setTop (mkF m (pc + 1) Ls (.int (x / y) :: st)))) : Goes p e below G (T.setTop (mkF m pc Ls (.int y :: .int x :: st))) :=
  go (fun _ q => XS.idiv (g := mkF m pc Ls (.int y :: .int x :: st)) X.here hx rfl hd rfl hy q) K
theorem gGoto (X : Stand p l e R s m args below meth c T locs cells slots) (hx : p.tables.exec = Jvm.exec) {pc : Nat} {Ls : Array Slot} {st : List Value} {o : Int} {pc' : Nat} (hd : decode c.code pc = .ok (.goto o, 3)) (ho : 0 ≤ (pc : Int) + o) (hp : ((pc : Int) + o).toNat = pc') (K : Goes p e below G (T.setTop (mkF m pc' Ls (st)))) : Goes p e below G (T.setTop (mkF m pc Ls (st))) :=
  go (fun _ q => XS.goto (g := mkF m pc Ls (st)) X.here hx rfl rfl hd ho hp q) K
theorem gIfY (X : Stand p l e R s m args below meth c T locs cells slots) (hx : p.tables.exec = Jvm.exec) {pc : Nat} {Ls : Array Slot} {st : List Value} {cd : ClassFile.Cond} {x : Int32} {o : Int} {pc' : Nat} (hd : decode c.code pc = .ok (.ifCond cd o, 3)) (hc : ifCond.holds cd x = true) (ho : 0 ≤ (pc : Int) + o) (hp : ((pc : Int) + o).toNat = pc') (K : Goes p e below G (T.setTop (mkF m pc' Ls (st)))) : Goes p e below G (T.setTop (mkF m pc Ls (.int x :: st))) :=
  go (fun _ q => XS.ifYes (g := mkF m pc Ls (.int x :: st)) X.here hx rfl rfl hd rfl hc ho hp q) K
theorem gIfN (X : Stand p l e R s m args below meth c T locs cells slots) (hx : p.tables.exec = Jvm.exec) {pc : Nat} {Ls : Array Slot} {st : List Value} {cd : ClassFile.Cond} {x : Int32} {o : Int} (hd : decode c.code pc = .ok (.ifCond cd o, 3)) (hc : ifCond.holds cd x = false) (K : Goes p e below G (T.setTop (mkF m (pc + 3) Ls (st)))) : Goes p e below G (T.setTop (mkF m pc Ls (.int x :: st))) :=
  go (fun _ q => XS.ifNo (g := mkF m pc Ls (.int x :: st)) X.here hx rfl hd rfl hc q) K
theorem gIcmpY (X : Stand p l e R s m args below meth c T locs cells slots) (hx : p.tables.exec = Jvm.exec) {pc : Nat} {Ls : Array Slot} {st : List Value} {cd : ClassFile.Cond} {x y : Int32} {o : Int} {pc' : Nat} (hd : decode c.code pc = .ok (.if_icmp cd o, 3)) (hc : if_icmp.holds cd x y = true) (ho : 0 ≤ (pc : Int) + o) (hp : ((pc : Int) + o).toNat = pc') (K : Goes p e below G (T.setTop (mkF m pc' Ls (st)))) : Goes p e below G (T.setTop (mkF m pc Ls (.int y :: .int x :: st))) :=
  go (fun _ q => XS.icmpYes (g := mkF m pc Ls (.int y :: .int x :: st)) X.here hx rfl rfl hd rfl hc ho hp q) K
theorem gIcmpN (X : Stand p l e R s m args below meth c T locs cells slots) (hx : p.tables.exec = Jvm.exec) {pc : Nat} {Ls : Array Slot} {st : List Value} {cd : ClassFile.Cond} {x y : Int32} {o : Int} (hd : decode c.code pc = .ok (.if_icmp cd o, 3)) (hc : if_icmp.holds cd x y = false) (K : Goes p e below G (T.setTop (mkF m (pc + 3) Ls (st)))) : Goes p e below G (T.setTop (mkF m pc Ls (.int y :: .int x :: st))) :=
  go (fun _ q => XS.icmpNo (g := mkF m pc Ls (.int y :: .int x :: st)) X.here hx rfl hd rfl hc q) K
theorem gAcmpY (X : Stand p l e R s m args below meth c T locs cells slots) (hx : p.tables.exec = Jvm.exec) {pc : Nat} {Ls : Array Slot} {st : List Value} {cd : ClassFile.ACond} {x y : Value} {o : Int} {pc' : Nat} (hd : decode c.code pc = .ok (.if_acmp cd o, 3)) (hx' : x.isRef = true) (hy' : y.isRef = true) (hc : XT.acmp cd x y = true) (ho : 0 ≤ (pc : Int) + o) (hp : ((pc : Int) + o).toNat = pc') (K : Goes p e below G (T.setTop (mkF m pc' Ls (st)))) : Goes p e below G (T.setTop (mkF m pc Ls (y :: x :: st))) :=
  go (fun _ q => XT.acmpYes (g := mkF m pc Ls (y :: x :: st)) X.here hx rfl rfl hd rfl hx' hy' hc ho hp q) K
theorem gAcmpN (X : Stand p l e R s m args below meth c T locs cells slots) (hx : p.tables.exec = Jvm.exec) {pc : Nat} {Ls : Array Slot} {st : List Value} {cd : ClassFile.ACond} {x y : Value} {o : Int} (hd : decode c.code pc = .ok (.if_acmp cd o, 3)) (hx' : x.isRef = true) (hy' : y.isRef = true) (hc : XT.acmp cd x y = false) (K : Goes p e below G (T.setTop (mkF m (pc + 3) Ls (st)))) : Goes p e below G (T.setTop (mkF m pc Ls (y :: x :: st))) :=
  go (fun _ q => XT.acmpNo (g := mkF m pc Ls (y :: x :: st)) X.here hx rfl hd rfl hx' hy' hc q) K
theorem gNullY (X : Stand p l e R s m args below meth c T locs cells slots) (hx : p.tables.exec = Jvm.exec) {pc : Nat} {Ls : Array Slot} {st : List Value} {o : Int} {pc' : Nat} (hd : decode c.code pc = .ok (.ifnull o, 3)) (ho : 0 ≤ (pc : Int) + o) (hp : ((pc : Int) + o).toNat = pc') (K : Goes p e below G (T.setTop (mkF m pc' Ls (st)))) : Goes p e below G (T.setTop (mkF m pc Ls (.null :: st))) :=
  go (fun _ q => XS.ifnullYes (g := mkF m pc Ls (.null :: st)) X.here hx rfl rfl hd rfl ho hp q) K
theorem gNullN (X : Stand p l e R s m args below meth c T locs cells slots) (hx : p.tables.exec = Jvm.exec) {pc : Nat} {Ls : Array Slot} {st : List Value} {b : Addr} {o : Int} (hd : decode c.code pc = .ok (.ifnull o, 3))  (K : Goes p e below G (T.setTop (mkF m (pc + 3) Ls (st)))) : Goes p e below G (T.setTop (mkF m pc Ls (.ref b :: st))) :=
  go (fun _ q => XS.ifnullNo (g := mkF m pc Ls (.ref b :: st)) X.here hx rfl hd rfl q) K
theorem gNonnullY (X : Stand p l e R s m args below meth c T locs cells slots) (hx : p.tables.exec = Jvm.exec) {pc : Nat} {Ls : Array Slot} {st : List Value} {b : Addr} {o : Int} {pc' : Nat} (hd : decode c.code pc = .ok (.ifnonnull o, 3)) (ho : 0 ≤ (pc : Int) + o) (hp : ((pc : Int) + o).toNat = pc') (K : Goes p e below G (T.setTop (mkF m pc' Ls (st)))) : Goes p e below G (T.setTop (mkF m pc Ls (.ref b :: st))) :=
  go (fun _ q => XT.ifnonnullYes (g := mkF m pc Ls (.ref b :: st)) X.here hx rfl rfl hd rfl ho hp q) K
theorem gNonnullN (X : Stand p l e R s m args below meth c T locs cells slots) (hx : p.tables.exec = Jvm.exec) {pc : Nat} {Ls : Array Slot} {st : List Value} {o : Int} (hd : decode c.code pc = .ok (.ifnonnull o, 3))  (K : Goes p e below G (T.setTop (mkF m (pc + 3) Ls (st)))) : Goes p e below G (T.setTop (mkF m pc Ls (.null :: st))) :=
  go (fun _ q => XT.ifnonnullNo (g := mkF m pc Ls (.null :: st)) X.here hx rfl hd rfl q) K
theorem gLdcI (X : Stand p l e R s m args below meth c T locs cells slots) (hx : p.tables.exec = Jvm.exec) {pc : Nat} {Ls : Array Slot} {st : List Value} (hZ : Z.Warmed39 s.vm) {own : String} (hown : s.vm.findClass own = some m.cls) {i : Nat} {v : Int32} (w : (Cond.constant own i v).before a0 Z = true) (hd : decode c.code pc = .ok (.ldc i, 2)) (K : Goes p e below G (T.setTop (mkF m (pc + 2) Ls (.int v :: st)))) : Goes p e below G (T.setTop (mkF m pc Ls st)) :=
  go (fun _ q => X.ldcI hx hown (mvT hZ w) (g := mkF m pc Ls st) rfl hd q) K
theorem gLdcWI (X : Stand p l e R s m args below meth c T locs cells slots) (hx : p.tables.exec = Jvm.exec) {pc : Nat} {Ls : Array Slot} {st : List Value} (hZ : Z.Warmed39 s.vm) {own : String} (hown : s.vm.findClass own = some m.cls) {i : Nat} {v : Int32} (w : (Cond.constant own i v).before a0 Z = true) (hd : decode c.code pc = .ok (.ldc_w i, 3)) (K : Goes p e below G (T.setTop (mkF m (pc + 3) Ls (.int v :: st)))) : Goes p e below G (T.setTop (mkF m pc Ls st)) :=
  go (fun _ q => X.ldcWI hx hown (mvT hZ w) (g := mkF m pc Ls st) rfl hd q) K
theorem gLdc2J (X : Stand p l e R s m args below meth c T locs cells slots) (hx : p.tables.exec = Jvm.exec) {pc : Nat} {Ls : Array Slot} {st : List Value} (hZ : Z.Warmed39 s.vm) {own : String} (hown : s.vm.findClass own = some m.cls) {i : Nat} {v : Int64} (w : (Cond.constantLong own i v).before a0 Z = true) (hd : decode c.code pc = .ok (.ldc2_w i, 3)) (K : Goes p e below G (T.setTop (mkF m (pc + 3) Ls (.long v :: st)))) : Goes p e below G (T.setTop (mkF m pc Ls st)) :=
  go (fun _ q => X.ldc2J hx hown (mvT hZ w) (g := mkF m pc Ls st) rfl hd q) K
theorem gLdc2D (X : Stand p l e R s m args below meth c T locs cells slots) (hx : p.tables.exec = Jvm.exec) {pc : Nat} {Ls : Array Slot} {st : List Value} (hZ : Z.Warmed39 s.vm) {own : String} (hown : s.vm.findClass own = some m.cls) {i : Nat} {v : UInt64} (w : (Cond.constantDouble own i v).before a0 Z = true) (hd : decode c.code pc = .ok (.ldc2_w i, 3)) (K : Goes p e below G (T.setTop (mkF m (pc + 3) Ls (.double v :: st)))) : Goes p e below G (T.setTop (mkF m pc Ls st)) :=
  go (fun _ q => X.ldc2DoubleC hx hown (mvT hZ w) (g := mkF m pc Ls st) rfl hd _ q) K
end Own
end Jvm.OwnWalk
namespace Jvm.Pilot.@@N@@
open Jvm Jvm.ClassFile Sem Op Lib Jvm.Free Jvm.Stand Jvm.LawKit Jvm.RoadKit Jvm.OwnWalk Bundle Jvm.Pilot.@@N@@.Jvm.D
def own_lo (x y : Int32) : Int32 := if y < x then y else x
def own_hi (x y : Int32) : Int32 := if y < x then x else y
theorem own_loI (x y : Int32) : (own_lo x y).toInt = min x.toInt y.toInt := by
  unfold own_lo; split <;> rename_i h <;> rw [Int32.lt_iff_toInt_lt] at h <;> omega
theorem own_hiI (x y : Int32) : (own_hi x y).toInt = max x.toInt y.toInt := by
  unfold own_hi; split <;> rename_i h <;> rw [Int32.lt_iff_toInt_lt] at h <;> omega
theorem own_k5 (p : Int32) : (XT.ushr p 8 &&& 7) % 5 = 0 ∨ (XT.ushr p 8 &&& 7) % 5 = 1 ∨ (XT.ushr p 8 &&& 7) % 5 = 2 ∨ (XT.ushr p 8 &&& 7) % 5 = 3 ∨ (XT.ushr p 8 &&& 7) % 5 = 4 := by
  have a : (XT.ushr p 8 &&& 7).toInt = (XT.ushr p 8).toInt % 8 := c_mask (XT.ushr p 8) 7 3 (by decide) (by decide)
  have b := (c_irem (XT.ushr p 8 &&& 7) 5 5 (by decide)).1 (by rw [a]; exact Int.emod_nonneg _ (by decide))
  simp only [← Int32.toInt_inj, b]
  show _ = 0 ∨ _ = 1 ∨ _ = 2 ∨ _ = 3 ∨ _ = 4
  omega
theorem d_method_3_0 : decode method_3_code 0 = .ok (.iload 4, 2) := by decide +kernel
theorem d_method_3_2 : decode method_3_code 2 = .ok (.ifCond .ne 5, 3) := by decide +kernel
theorem d_method_3_5 : decode method_3_code 5 = .ok (.iload_n 0, 1) := by decide +kernel
theorem d_method_3_6 : decode method_3_code 6 = .ok (.ireturn, 1) := by decide +kernel
theorem d_method_3_7 : decode method_3_code 7 = .ok (.iload 4, 2) := by decide +kernel
theorem d_method_3_9 : decode method_3_code 9 = .ok (.iconst 1, 1) := by decide +kernel
theorem d_method_3_10 : decode method_3_code 10 = .ok (.if_icmp .ne 5, 3) := by decide +kernel
theorem d_method_3_13 : decode method_3_code 13 = .ok (.iload_n 1, 1) := by decide +kernel
theorem d_method_3_14 : decode method_3_code 14 = .ok (.ireturn, 1) := by decide +kernel
theorem d_method_3_15 : decode method_3_code 15 = .ok (.iload 4, 2) := by decide +kernel
theorem d_method_3_17 : decode method_3_code 17 = .ok (.iconst 2, 1) := by decide +kernel
theorem d_method_3_18 : decode method_3_code 18 = .ok (.if_icmp .ne 5, 3) := by decide +kernel
theorem d_method_3_21 : decode method_3_code 21 = .ok (.iload_n 2, 1) := by decide +kernel
theorem d_method_3_22 : decode method_3_code 22 = .ok (.ireturn, 1) := by decide +kernel
theorem d_method_3_23 : decode method_3_code 23 = .ok (.iload_n 3, 1) := by decide +kernel
theorem d_method_3_24 : decode method_3_code 24 = .ok (.ireturn, 1) := by decide +kernel
theorem pn_0 : plainName "com/example/querent/querent/LookupDistinctPinLaw" = true := by first | (simp [plainName, overriddenIn]; done) | decide +kernel
theorem ef_rmP (m : MethodId) (x0 : Int32) (x1 : Int32) (x2 : Int32) (x3 : Int32) (x4 : Int32) : entryFrame m #[(.int x0), (.int x1), (.int x2), (.int x3), (.int x4)] 5 = mkF m 0 #[.val (.int x0), .val (.int x1), .val (.int x2), .val (.int x3), .val (.int x4)] [] := by first | (simp [entryFrame, mkF, argsToLocals, Value.category]; done) | rfl
set_option maxRecDepth 65536 in
set_option maxHeartbeats 40000000 in
theorem rmP (l : Launch) (Z : State) (a0 : Array Value) (hw : ∀ d ∈ tables_1, d.before a0 Z = true)  (p0 : Int32) (p1 : Int32) (p2 : Int32) (p3 : Int32) (p4 : Int32) (h0 : Heap) (O0 : Ext Z.heap h0)  :
    Ctr l Z (⟨"com/example/querent/querent/LookupDistinctPinLaw", "pick", "(IIIII)I"⟩ : MethodName) method_3_code 5 (some .int) [] ({ frames := 0, cells := 0, slots := 0, locals := 0 } : Room) #[(.int p0), (.int p1), (.int p2), (.int p3), (.int p4)] h0 (fun v h L => ∃ z : Int32, v = some (.int z) ∧ Fr Z.heap.size L ∧ h = h0) := by
  refine ctr (plainFor_of_name pn_0) ?_
  intro p e s m below meth c s₁ hx hby hml hown hnm hret hlocks hZ X0 e0
  have N0 := Fr.nil Z.heap.size
  have hsz : ∀ {Ls : Array Slot}, Ls.size = 5 → Ls.size = c.maxLocals := fun q => q.trans hml.symm
  refine goE (ef_rmP m (p0) (p1) (p2) (p3) (p4)) ?_
  show Goes p e below _ (s₁.setTop (mkF m 0 #[.val (.int p0), .val (.int p1), .val (.int p2), .val (.int p3), .val (.int p4)] []))
  refine gIload X0 hx (hb hby d_method_3_0) rfl ?_
  by_cases h1 : p4 = 0
  · refine gIfN X0 hx (hb hby d_method_3_2) (XT.i0_ne_f h1) ?_
    show Goes p e below _ (s₁.setTop (mkF m 5 #[.val (.int p0), .val (.int p1), .val (.int p2), .val (.int p3), .val (.int p4)] []))
    refine gIloadN X0 hx (hb hby d_method_3_5) rfl ?_
    exact goRetI X0 hx hret hlocks (hb hby d_method_3_6) (by decide) (by decide) e0 (⟨_, rfl, N0, rfl⟩)
  · refine gIfY X0 hx (hb hby d_method_3_2) (pc' := 7) (XT.i0_ne_t h1) (by decide) (by decide) ?_
    show Goes p e below _ (s₁.setTop (mkF m 7 #[.val (.int p0), .val (.int p1), .val (.int p2), .val (.int p3), .val (.int p4)] []))
    refine gIload X0 hx (hb hby d_method_3_7) rfl ?_
    refine gIconst X0 hx (hb hby d_method_3_9) (v := (1 : Int32)) rfl ?_
    by_cases h2 : p4 = (1 : Int32)
    · refine gIcmpN X0 hx (hb hby d_method_3_10) (XT.ii_ne_f h2) ?_
      show Goes p e below _ (s₁.setTop (mkF m 13 #[.val (.int p0), .val (.int p1), .val (.int p2), .val (.int p3), .val (.int p4)] []))
      refine gIloadN X0 hx (hb hby d_method_3_13) rfl ?_
      exact goRetI X0 hx hret hlocks (hb hby d_method_3_14) (by decide) (by decide) e0 (⟨_, rfl, N0, rfl⟩)
    · refine gIcmpY X0 hx (hb hby d_method_3_10) (pc' := 15) (XT.ii_ne_t h2) (by decide) (by decide) ?_
      show Goes p e below _ (s₁.setTop (mkF m 15 #[.val (.int p0), .val (.int p1), .val (.int p2), .val (.int p3), .val (.int p4)] []))
      refine gIload X0 hx (hb hby d_method_3_15) rfl ?_
      refine gIconst X0 hx (hb hby d_method_3_17) (v := (2 : Int32)) rfl ?_
      by_cases h3 : p4 = (2 : Int32)
      · refine gIcmpN X0 hx (hb hby d_method_3_18) (XT.ii_ne_f h3) ?_
        show Goes p e below _ (s₁.setTop (mkF m 21 #[.val (.int p0), .val (.int p1), .val (.int p2), .val (.int p3), .val (.int p4)] []))
        refine gIloadN X0 hx (hb hby d_method_3_21) rfl ?_
        exact goRetI X0 hx hret hlocks (hb hby d_method_3_22) (by decide) (by decide) e0 (⟨_, rfl, N0, rfl⟩)
      · refine gIcmpY X0 hx (hb hby d_method_3_18) (pc' := 23) (XT.ii_ne_t h3) (by decide) (by decide) ?_
        show Goes p e below _ (s₁.setTop (mkF m 23 #[.val (.int p0), .val (.int p1), .val (.int p2), .val (.int p3), .val (.int p4)] []))
        refine gIloadN X0 hx (hb hby d_method_3_23) rfl ?_
        exact goRetI X0 hx hret hlocks (hb hby d_method_3_24) (by decide) (by decide) e0 (⟨_, rfl, N0, rfl⟩)
theorem d_method_4_0 : decode method_4_code 0 = .ok (.aload_n 0, 1) := by decide +kernel
theorem d_method_4_1 : decode method_4_code 1 = .ok (.iload_n 1, 1) := by decide +kernel
theorem d_method_4_2 : decode method_4_code 2 = .ok (.iaload, 1) := by decide +kernel
theorem d_method_4_3 : decode method_4_code 3 = .ok (.aload_n 0, 1) := by decide +kernel
theorem d_method_4_4 : decode method_4_code 4 = .ok (.iload_n 2, 1) := by decide +kernel
theorem d_method_4_5 : decode method_4_code 5 = .ok (.iaload, 1) := by decide +kernel
theorem d_method_4_6 : decode method_4_code 6 = .ok (.if_icmp .le 17, 3) := by decide +kernel
theorem d_method_4_9 : decode method_4_code 9 = .ok (.aload_n 0, 1) := by decide +kernel
theorem d_method_4_10 : decode method_4_code 10 = .ok (.iload_n 1, 1) := by decide +kernel
theorem d_method_4_11 : decode method_4_code 11 = .ok (.iaload, 1) := by decide +kernel
theorem d_method_4_12 : decode method_4_code 12 = .ok (.istore_n 3, 1) := by decide +kernel
theorem d_method_4_13 : decode method_4_code 13 = .ok (.aload_n 0, 1) := by decide +kernel
theorem d_method_4_14 : decode method_4_code 14 = .ok (.iload_n 1, 1) := by decide +kernel
theorem d_method_4_15 : decode method_4_code 15 = .ok (.aload_n 0, 1) := by decide +kernel
theorem d_method_4_16 : decode method_4_code 16 = .ok (.iload_n 2, 1) := by decide +kernel
theorem d_method_4_17 : decode method_4_code 17 = .ok (.iaload, 1) := by decide +kernel
theorem d_method_4_18 : decode method_4_code 18 = .ok (.iastore, 1) := by decide +kernel
theorem d_method_4_19 : decode method_4_code 19 = .ok (.aload_n 0, 1) := by decide +kernel
theorem d_method_4_20 : decode method_4_code 20 = .ok (.iload_n 2, 1) := by decide +kernel
theorem d_method_4_21 : decode method_4_code 21 = .ok (.iload_n 3, 1) := by decide +kernel
theorem d_method_4_22 : decode method_4_code 22 = .ok (.iastore, 1) := by decide +kernel
theorem d_method_4_23 : decode method_4_code 23 = .ok (.return_, 1) := by decide +kernel
theorem ef_rmC01 (m : MethodId) (x0 : Addr) (x1 : Int32) (x2 : Int32) : entryFrame m #[(.ref x0), (.int x1), (.int x2)] 4 = mkF m 0 #[.val (.ref x0), .val (.int x1), .val (.int x2), .unset] [] := by first | (simp [entryFrame, mkF, argsToLocals, Value.category]; done) | rfl
set_option maxRecDepth 65536 in
set_option maxHeartbeats 40000000 in
theorem rmC01 (l : Launch) (Z : State) (a0 : Array Value) (hw : ∀ d ∈ tables_1, d.before a0 Z = true) (x0 x1 x2 x3 : Int32) (a1 : Addr) (h0 : Heap) (O0 : Ext Z.heap h0) (Y1 : Ary Z h0 a1 .int [(.int x0), (.int x1), (.int x2), (.int x3)]) (fr1 : Z.heap.size ≤ a1) :
    Ctr l Z (⟨"com/example/querent/querent/LookupDistinctPinLaw", "cs", "([III)V"⟩ : MethodName) method_4_code 4 none [] ({ frames := 0, cells := 0, slots := 0, locals := 0 } : Room) #[(.ref a1), (.int (0 : Int32)), (.int (1 : Int32))] h0 (fun v h L => v = none ∧ Fr Z.heap.size L ∧ Keep h0 h [a1] ∧ Ary Z h a1 .int [.int (own_lo x0 x1), .int (own_hi x0 x1), .int x2, .int x3]) := by
  refine ctr (plainFor_of_name pn_0) ?_
  intro p e s m below meth c s₁ hx hby hml hown hnm hret hlocks hZ X0 e0
  have N0 := Fr.nil Z.heap.size
  have hsz : ∀ {Ls : Array Slot}, Ls.size = 4 → Ls.size = c.maxLocals := fun q => q.trans hml.symm
  have K0 := Keep.refl h0 [a1]
  refine goE (ef_rmC01 m (a1) ((0 : Int32)) ((1 : Int32))) ?_
  show Goes p e below _ (s₁.setTop (mkF m 0 #[.val (.ref a1), .val (.int (0 : Int32)), .val (.int (1 : Int32)), .unset] []))
  refine gAloadN X0 hx (hb hby d_method_4_0) rfl rfl ?_
  refine gIloadN X0 hx (hb hby d_method_4_1) rfl ?_
  refine goIaload X0 hx hZ e0 Y1 (x := x0) (hb hby d_method_4_2) (by decide) rfl ?_
  refine gAloadN X0 hx (hb hby d_method_4_3) rfl rfl ?_
  refine gIloadN X0 hx (hb hby d_method_4_4) rfl ?_
  refine goIaload X0 hx hZ e0 Y1 (x := x1) (hb hby d_method_4_5) (by decide) rfl ?_
  by_cases g : x1 < x0
  · refine gIcmpN X0 hx (hb hby d_method_4_6) (XT.ii_le_f g) ?_
    show Goes p e below _ (s₁.setTop (mkF m 9 #[.val (.ref a1), .val (.int (0 : Int32)), .val (.int (1 : Int32)), .unset] []))
    refine gAloadN X0 hx (hb hby d_method_4_9) rfl rfl ?_
    refine gIloadN X0 hx (hb hby d_method_4_10) rfl ?_
    refine goIaload X0 hx hZ e0 Y1 (x := x0) (hb hby d_method_4_11) (by decide) rfl ?_
    refine gIstoreN X0 hx (hb hby d_method_4_12) (l' := #[.val (.ref a1), .val (.int (0 : Int32)), .val (.int (1 : Int32)), .val (.int x0)]) rfl ?_
    refine gAloadN X0 hx (hb hby d_method_4_13) rfl rfl ?_
    refine gIloadN X0 hx (hb hby d_method_4_14) rfl ?_
    refine gAloadN X0 hx (hb hby d_method_4_15) rfl rfl ?_
    show Goes p e below _ (s₁.setTop (mkF m 16 #[.val (.ref a1), .val (.int (0 : Int32)), .val (.int (1 : Int32)), .val (.int x0)] [(.ref a1), (.int (0 : Int32)), (.ref a1)]))
    refine gIloadN X0 hx (hb hby d_method_4_16) rfl ?_
    refine goIaload X0 hx hZ e0 Y1 (x := x1) (hb hby d_method_4_17) (by decide) rfl ?_
    refine goIastore X0 hx hZ e0 Y1 (hb hby d_method_4_18) (by decide) rfl (fun Tt1 ht1 Xt1 et1 Wt1 => ?_)
    have N2 := Fr.snoc Xt1 N0 fr1
    replace Y1 : Ary Z ht1 a1 .int [(.int x1), (.int x1), (.int x2), (.int x3)] := Y1.set Wt1 rfl
    have O3 : Ext Z.heap ht1 := extW O0 Wt1 fr1
    have K4 := K0.wr Wt1 (Or.inl (by simp))
    show Goes p e below _ (Tt1.setTop (mkF m 19 #[.val (.ref a1), .val (.int (0 : Int32)), .val (.int (1 : Int32)), .val (.int x0)] []))
    refine gAloadN Xt1 hx (hb hby d_method_4_19) rfl rfl ?_
    refine gIloadN Xt1 hx (hb hby d_method_4_20) rfl ?_
    refine gIloadN Xt1 hx (hb hby d_method_4_21) rfl ?_
    refine goIastore Xt1 hx hZ et1 Y1 (hb hby d_method_4_22) (by decide) rfl (fun Tt5 ht5 Xt5 et5 Wt5 => ?_)
    have N6 := Fr.snoc Xt5 N2 fr1
    replace Y1 : Ary Z ht5 a1 .int [(.int x1), (.int x0), (.int x2), (.int x3)] := Y1.set Wt5 rfl
    have O7 : Ext Z.heap ht5 := extW O3 Wt5 fr1
    have K8 := K4.wr Wt5 (Or.inl (by simp))
    show Goes p e below _ (Tt5.setTop (mkF m 23 #[.val (.ref a1), .val (.int (0 : Int32)), .val (.int (1 : Int32)), .val (.int x0)] []))
    exact goRet0 Xt5 hx hret hlocks (hb hby d_method_4_23) (by decide) (by decide) et5 (⟨rfl, N6, K8, by unfold own_lo own_hi; rw [if_pos g, if_pos g]; exact Y1⟩)
  · refine gIcmpY X0 hx (hb hby d_method_4_6) (pc' := 23) (XT.ii_le_t g) (by decide) (by decide) ?_
    show Goes p e below _ (s₁.setTop (mkF m 23 #[.val (.ref a1), .val (.int (0 : Int32)), .val (.int (1 : Int32)), .unset] []))
    exact goRet0 X0 hx hret hlocks (hb hby d_method_4_23) (by decide) (by decide) e0 (⟨rfl, N0, K0, by unfold own_lo own_hi; rw [if_neg g, if_neg g]; exact Y1⟩)
theorem ef_rmC23 (m : MethodId) (x0 : Addr) (x1 : Int32) (x2 : Int32) : entryFrame m #[(.ref x0), (.int x1), (.int x2)] 4 = mkF m 0 #[.val (.ref x0), .val (.int x1), .val (.int x2), .unset] [] := by first | (simp [entryFrame, mkF, argsToLocals, Value.category]; done) | rfl
set_option maxRecDepth 65536 in
set_option maxHeartbeats 40000000 in
theorem rmC23 (l : Launch) (Z : State) (a0 : Array Value) (hw : ∀ d ∈ tables_1, d.before a0 Z = true) (x0 x1 x2 x3 : Int32) (a1 : Addr) (h0 : Heap) (O0 : Ext Z.heap h0) (Y1 : Ary Z h0 a1 .int [(.int x0), (.int x1), (.int x2), (.int x3)]) (fr1 : Z.heap.size ≤ a1) :
    Ctr l Z (⟨"com/example/querent/querent/LookupDistinctPinLaw", "cs", "([III)V"⟩ : MethodName) method_4_code 4 none [] ({ frames := 0, cells := 0, slots := 0, locals := 0 } : Room) #[(.ref a1), (.int (2 : Int32)), (.int (3 : Int32))] h0 (fun v h L => v = none ∧ Fr Z.heap.size L ∧ Keep h0 h [a1] ∧ Ary Z h a1 .int [.int x0, .int x1, .int (own_lo x2 x3), .int (own_hi x2 x3)]) := by
  refine ctr (plainFor_of_name pn_0) ?_
  intro p e s m below meth c s₁ hx hby hml hown hnm hret hlocks hZ X0 e0
  have N0 := Fr.nil Z.heap.size
  have hsz : ∀ {Ls : Array Slot}, Ls.size = 4 → Ls.size = c.maxLocals := fun q => q.trans hml.symm
  have K0 := Keep.refl h0 [a1]
  refine goE (ef_rmC23 m (a1) ((2 : Int32)) ((3 : Int32))) ?_
  show Goes p e below _ (s₁.setTop (mkF m 0 #[.val (.ref a1), .val (.int (2 : Int32)), .val (.int (3 : Int32)), .unset] []))
  refine gAloadN X0 hx (hb hby d_method_4_0) rfl rfl ?_
  refine gIloadN X0 hx (hb hby d_method_4_1) rfl ?_
  refine goIaload X0 hx hZ e0 Y1 (x := x2) (hb hby d_method_4_2) (by decide) rfl ?_
  refine gAloadN X0 hx (hb hby d_method_4_3) rfl rfl ?_
  refine gIloadN X0 hx (hb hby d_method_4_4) rfl ?_
  refine goIaload X0 hx hZ e0 Y1 (x := x3) (hb hby d_method_4_5) (by decide) rfl ?_
  by_cases g : x3 < x2
  · refine gIcmpN X0 hx (hb hby d_method_4_6) (XT.ii_le_f g) ?_
    show Goes p e below _ (s₁.setTop (mkF m 9 #[.val (.ref a1), .val (.int (2 : Int32)), .val (.int (3 : Int32)), .unset] []))
    refine gAloadN X0 hx (hb hby d_method_4_9) rfl rfl ?_
    refine gIloadN X0 hx (hb hby d_method_4_10) rfl ?_
    refine goIaload X0 hx hZ e0 Y1 (x := x2) (hb hby d_method_4_11) (by decide) rfl ?_
    refine gIstoreN X0 hx (hb hby d_method_4_12) (l' := #[.val (.ref a1), .val (.int (2 : Int32)), .val (.int (3 : Int32)), .val (.int x2)]) rfl ?_
    refine gAloadN X0 hx (hb hby d_method_4_13) rfl rfl ?_
    refine gIloadN X0 hx (hb hby d_method_4_14) rfl ?_
    refine gAloadN X0 hx (hb hby d_method_4_15) rfl rfl ?_
    show Goes p e below _ (s₁.setTop (mkF m 16 #[.val (.ref a1), .val (.int (2 : Int32)), .val (.int (3 : Int32)), .val (.int x2)] [(.ref a1), (.int (2 : Int32)), (.ref a1)]))
    refine gIloadN X0 hx (hb hby d_method_4_16) rfl ?_
    refine goIaload X0 hx hZ e0 Y1 (x := x3) (hb hby d_method_4_17) (by decide) rfl ?_
    refine goIastore X0 hx hZ e0 Y1 (hb hby d_method_4_18) (by decide) rfl (fun Tt1 ht1 Xt1 et1 Wt1 => ?_)
    have N2 := Fr.snoc Xt1 N0 fr1
    replace Y1 : Ary Z ht1 a1 .int [(.int x0), (.int x1), (.int x3), (.int x3)] := Y1.set Wt1 rfl
    have O3 : Ext Z.heap ht1 := extW O0 Wt1 fr1
    have K4 := K0.wr Wt1 (Or.inl (by simp))
    show Goes p e below _ (Tt1.setTop (mkF m 19 #[.val (.ref a1), .val (.int (2 : Int32)), .val (.int (3 : Int32)), .val (.int x2)] []))
    refine gAloadN Xt1 hx (hb hby d_method_4_19) rfl rfl ?_
    refine gIloadN Xt1 hx (hb hby d_method_4_20) rfl ?_
    refine gIloadN Xt1 hx (hb hby d_method_4_21) rfl ?_
    refine goIastore Xt1 hx hZ et1 Y1 (hb hby d_method_4_22) (by decide) rfl (fun Tt5 ht5 Xt5 et5 Wt5 => ?_)
    have N6 := Fr.snoc Xt5 N2 fr1
    replace Y1 : Ary Z ht5 a1 .int [(.int x0), (.int x1), (.int x3), (.int x2)] := Y1.set Wt5 rfl
    have O7 : Ext Z.heap ht5 := extW O3 Wt5 fr1
    have K8 := K4.wr Wt5 (Or.inl (by simp))
    show Goes p e below _ (Tt5.setTop (mkF m 23 #[.val (.ref a1), .val (.int (2 : Int32)), .val (.int (3 : Int32)), .val (.int x2)] []))
    exact goRet0 Xt5 hx hret hlocks (hb hby d_method_4_23) (by decide) (by decide) et5 (⟨rfl, N6, K8, by unfold own_lo own_hi; rw [if_pos g, if_pos g]; exact Y1⟩)
  · refine gIcmpY X0 hx (hb hby d_method_4_6) (pc' := 23) (XT.ii_le_t g) (by decide) (by decide) ?_
    show Goes p e below _ (s₁.setTop (mkF m 23 #[.val (.ref a1), .val (.int (2 : Int32)), .val (.int (3 : Int32)), .unset] []))
    exact goRet0 X0 hx hret hlocks (hb hby d_method_4_23) (by decide) (by decide) e0 (⟨rfl, N0, K0, by unfold own_lo own_hi; rw [if_neg g, if_neg g]; exact Y1⟩)
theorem ef_rmC02 (m : MethodId) (x0 : Addr) (x1 : Int32) (x2 : Int32) : entryFrame m #[(.ref x0), (.int x1), (.int x2)] 4 = mkF m 0 #[.val (.ref x0), .val (.int x1), .val (.int x2), .unset] [] := by first | (simp [entryFrame, mkF, argsToLocals, Value.category]; done) | rfl
set_option maxRecDepth 65536 in
set_option maxHeartbeats 40000000 in
theorem rmC02 (l : Launch) (Z : State) (a0 : Array Value) (hw : ∀ d ∈ tables_1, d.before a0 Z = true) (x0 x1 x2 x3 : Int32) (a1 : Addr) (h0 : Heap) (O0 : Ext Z.heap h0) (Y1 : Ary Z h0 a1 .int [(.int x0), (.int x1), (.int x2), (.int x3)]) (fr1 : Z.heap.size ≤ a1) :
    Ctr l Z (⟨"com/example/querent/querent/LookupDistinctPinLaw", "cs", "([III)V"⟩ : MethodName) method_4_code 4 none [] ({ frames := 0, cells := 0, slots := 0, locals := 0 } : Room) #[(.ref a1), (.int (0 : Int32)), (.int (2 : Int32))] h0 (fun v h L => v = none ∧ Fr Z.heap.size L ∧ Keep h0 h [a1] ∧ Ary Z h a1 .int [.int (own_lo x0 x2), .int x1, .int (own_hi x0 x2), .int x3]) := by
  refine ctr (plainFor_of_name pn_0) ?_
  intro p e s m below meth c s₁ hx hby hml hown hnm hret hlocks hZ X0 e0
  have N0 := Fr.nil Z.heap.size
  have hsz : ∀ {Ls : Array Slot}, Ls.size = 4 → Ls.size = c.maxLocals := fun q => q.trans hml.symm
  have K0 := Keep.refl h0 [a1]
  refine goE (ef_rmC02 m (a1) ((0 : Int32)) ((2 : Int32))) ?_
  show Goes p e below _ (s₁.setTop (mkF m 0 #[.val (.ref a1), .val (.int (0 : Int32)), .val (.int (2 : Int32)), .unset] []))
  refine gAloadN X0 hx (hb hby d_method_4_0) rfl rfl ?_
  refine gIloadN X0 hx (hb hby d_method_4_1) rfl ?_
  refine goIaload X0 hx hZ e0 Y1 (x := x0) (hb hby d_method_4_2) (by decide) rfl ?_
  refine gAloadN X0 hx (hb hby d_method_4_3) rfl rfl ?_
  refine gIloadN X0 hx (hb hby d_method_4_4) rfl ?_
  refine goIaload X0 hx hZ e0 Y1 (x := x2) (hb hby d_method_4_5) (by decide) rfl ?_
  by_cases g : x2 < x0
  · refine gIcmpN X0 hx (hb hby d_method_4_6) (XT.ii_le_f g) ?_
    show Goes p e below _ (s₁.setTop (mkF m 9 #[.val (.ref a1), .val (.int (0 : Int32)), .val (.int (2 : Int32)), .unset] []))
    refine gAloadN X0 hx (hb hby d_method_4_9) rfl rfl ?_
    refine gIloadN X0 hx (hb hby d_method_4_10) rfl ?_
    refine goIaload X0 hx hZ e0 Y1 (x := x0) (hb hby d_method_4_11) (by decide) rfl ?_
    refine gIstoreN X0 hx (hb hby d_method_4_12) (l' := #[.val (.ref a1), .val (.int (0 : Int32)), .val (.int (2 : Int32)), .val (.int x0)]) rfl ?_
    refine gAloadN X0 hx (hb hby d_method_4_13) rfl rfl ?_
    refine gIloadN X0 hx (hb hby d_method_4_14) rfl ?_
    refine gAloadN X0 hx (hb hby d_method_4_15) rfl rfl ?_
    show Goes p e below _ (s₁.setTop (mkF m 16 #[.val (.ref a1), .val (.int (0 : Int32)), .val (.int (2 : Int32)), .val (.int x0)] [(.ref a1), (.int (0 : Int32)), (.ref a1)]))
    refine gIloadN X0 hx (hb hby d_method_4_16) rfl ?_
    refine goIaload X0 hx hZ e0 Y1 (x := x2) (hb hby d_method_4_17) (by decide) rfl ?_
    refine goIastore X0 hx hZ e0 Y1 (hb hby d_method_4_18) (by decide) rfl (fun Tt1 ht1 Xt1 et1 Wt1 => ?_)
    have N2 := Fr.snoc Xt1 N0 fr1
    replace Y1 : Ary Z ht1 a1 .int [(.int x2), (.int x1), (.int x2), (.int x3)] := Y1.set Wt1 rfl
    have O3 : Ext Z.heap ht1 := extW O0 Wt1 fr1
    have K4 := K0.wr Wt1 (Or.inl (by simp))
    show Goes p e below _ (Tt1.setTop (mkF m 19 #[.val (.ref a1), .val (.int (0 : Int32)), .val (.int (2 : Int32)), .val (.int x0)] []))
    refine gAloadN Xt1 hx (hb hby d_method_4_19) rfl rfl ?_
    refine gIloadN Xt1 hx (hb hby d_method_4_20) rfl ?_
    refine gIloadN Xt1 hx (hb hby d_method_4_21) rfl ?_
    refine goIastore Xt1 hx hZ et1 Y1 (hb hby d_method_4_22) (by decide) rfl (fun Tt5 ht5 Xt5 et5 Wt5 => ?_)
    have N6 := Fr.snoc Xt5 N2 fr1
    replace Y1 : Ary Z ht5 a1 .int [(.int x2), (.int x1), (.int x0), (.int x3)] := Y1.set Wt5 rfl
    have O7 : Ext Z.heap ht5 := extW O3 Wt5 fr1
    have K8 := K4.wr Wt5 (Or.inl (by simp))
    show Goes p e below _ (Tt5.setTop (mkF m 23 #[.val (.ref a1), .val (.int (0 : Int32)), .val (.int (2 : Int32)), .val (.int x0)] []))
    exact goRet0 Xt5 hx hret hlocks (hb hby d_method_4_23) (by decide) (by decide) et5 (⟨rfl, N6, K8, by unfold own_lo own_hi; rw [if_pos g, if_pos g]; exact Y1⟩)
  · refine gIcmpY X0 hx (hb hby d_method_4_6) (pc' := 23) (XT.ii_le_t g) (by decide) (by decide) ?_
    show Goes p e below _ (s₁.setTop (mkF m 23 #[.val (.ref a1), .val (.int (0 : Int32)), .val (.int (2 : Int32)), .unset] []))
    exact goRet0 X0 hx hret hlocks (hb hby d_method_4_23) (by decide) (by decide) e0 (⟨rfl, N0, K0, by unfold own_lo own_hi; rw [if_neg g, if_neg g]; exact Y1⟩)
theorem ef_rmC13 (m : MethodId) (x0 : Addr) (x1 : Int32) (x2 : Int32) : entryFrame m #[(.ref x0), (.int x1), (.int x2)] 4 = mkF m 0 #[.val (.ref x0), .val (.int x1), .val (.int x2), .unset] [] := by first | (simp [entryFrame, mkF, argsToLocals, Value.category]; done) | rfl
set_option maxRecDepth 65536 in
set_option maxHeartbeats 40000000 in
theorem rmC13 (l : Launch) (Z : State) (a0 : Array Value) (hw : ∀ d ∈ tables_1, d.before a0 Z = true) (x0 x1 x2 x3 : Int32) (a1 : Addr) (h0 : Heap) (O0 : Ext Z.heap h0) (Y1 : Ary Z h0 a1 .int [(.int x0), (.int x1), (.int x2), (.int x3)]) (fr1 : Z.heap.size ≤ a1) :
    Ctr l Z (⟨"com/example/querent/querent/LookupDistinctPinLaw", "cs", "([III)V"⟩ : MethodName) method_4_code 4 none [] ({ frames := 0, cells := 0, slots := 0, locals := 0 } : Room) #[(.ref a1), (.int (1 : Int32)), (.int (3 : Int32))] h0 (fun v h L => v = none ∧ Fr Z.heap.size L ∧ Keep h0 h [a1] ∧ Ary Z h a1 .int [.int x0, .int (own_lo x1 x3), .int x2, .int (own_hi x1 x3)]) := by
  refine ctr (plainFor_of_name pn_0) ?_
  intro p e s m below meth c s₁ hx hby hml hown hnm hret hlocks hZ X0 e0
  have N0 := Fr.nil Z.heap.size
  have hsz : ∀ {Ls : Array Slot}, Ls.size = 4 → Ls.size = c.maxLocals := fun q => q.trans hml.symm
  have K0 := Keep.refl h0 [a1]
  refine goE (ef_rmC13 m (a1) ((1 : Int32)) ((3 : Int32))) ?_
  show Goes p e below _ (s₁.setTop (mkF m 0 #[.val (.ref a1), .val (.int (1 : Int32)), .val (.int (3 : Int32)), .unset] []))
  refine gAloadN X0 hx (hb hby d_method_4_0) rfl rfl ?_
  refine gIloadN X0 hx (hb hby d_method_4_1) rfl ?_
  refine goIaload X0 hx hZ e0 Y1 (x := x1) (hb hby d_method_4_2) (by decide) rfl ?_
  refine gAloadN X0 hx (hb hby d_method_4_3) rfl rfl ?_
  refine gIloadN X0 hx (hb hby d_method_4_4) rfl ?_
  refine goIaload X0 hx hZ e0 Y1 (x := x3) (hb hby d_method_4_5) (by decide) rfl ?_
  by_cases g : x3 < x1
  · refine gIcmpN X0 hx (hb hby d_method_4_6) (XT.ii_le_f g) ?_
    show Goes p e below _ (s₁.setTop (mkF m 9 #[.val (.ref a1), .val (.int (1 : Int32)), .val (.int (3 : Int32)), .unset] []))
    refine gAloadN X0 hx (hb hby d_method_4_9) rfl rfl ?_
    refine gIloadN X0 hx (hb hby d_method_4_10) rfl ?_
    refine goIaload X0 hx hZ e0 Y1 (x := x1) (hb hby d_method_4_11) (by decide) rfl ?_
    refine gIstoreN X0 hx (hb hby d_method_4_12) (l' := #[.val (.ref a1), .val (.int (1 : Int32)), .val (.int (3 : Int32)), .val (.int x1)]) rfl ?_
    refine gAloadN X0 hx (hb hby d_method_4_13) rfl rfl ?_
    refine gIloadN X0 hx (hb hby d_method_4_14) rfl ?_
    refine gAloadN X0 hx (hb hby d_method_4_15) rfl rfl ?_
    show Goes p e below _ (s₁.setTop (mkF m 16 #[.val (.ref a1), .val (.int (1 : Int32)), .val (.int (3 : Int32)), .val (.int x1)] [(.ref a1), (.int (1 : Int32)), (.ref a1)]))
    refine gIloadN X0 hx (hb hby d_method_4_16) rfl ?_
    refine goIaload X0 hx hZ e0 Y1 (x := x3) (hb hby d_method_4_17) (by decide) rfl ?_
    refine goIastore X0 hx hZ e0 Y1 (hb hby d_method_4_18) (by decide) rfl (fun Tt1 ht1 Xt1 et1 Wt1 => ?_)
    have N2 := Fr.snoc Xt1 N0 fr1
    replace Y1 : Ary Z ht1 a1 .int [(.int x0), (.int x3), (.int x2), (.int x3)] := Y1.set Wt1 rfl
    have O3 : Ext Z.heap ht1 := extW O0 Wt1 fr1
    have K4 := K0.wr Wt1 (Or.inl (by simp))
    show Goes p e below _ (Tt1.setTop (mkF m 19 #[.val (.ref a1), .val (.int (1 : Int32)), .val (.int (3 : Int32)), .val (.int x1)] []))
    refine gAloadN Xt1 hx (hb hby d_method_4_19) rfl rfl ?_
    refine gIloadN Xt1 hx (hb hby d_method_4_20) rfl ?_
    refine gIloadN Xt1 hx (hb hby d_method_4_21) rfl ?_
    refine goIastore Xt1 hx hZ et1 Y1 (hb hby d_method_4_22) (by decide) rfl (fun Tt5 ht5 Xt5 et5 Wt5 => ?_)
    have N6 := Fr.snoc Xt5 N2 fr1
    replace Y1 : Ary Z ht5 a1 .int [(.int x0), (.int x3), (.int x2), (.int x1)] := Y1.set Wt5 rfl
    have O7 : Ext Z.heap ht5 := extW O3 Wt5 fr1
    have K8 := K4.wr Wt5 (Or.inl (by simp))
    show Goes p e below _ (Tt5.setTop (mkF m 23 #[.val (.ref a1), .val (.int (1 : Int32)), .val (.int (3 : Int32)), .val (.int x1)] []))
    exact goRet0 Xt5 hx hret hlocks (hb hby d_method_4_23) (by decide) (by decide) et5 (⟨rfl, N6, K8, by unfold own_lo own_hi; rw [if_pos g, if_pos g]; exact Y1⟩)
  · refine gIcmpY X0 hx (hb hby d_method_4_6) (pc' := 23) (XT.ii_le_t g) (by decide) (by decide) ?_
    show Goes p e below _ (s₁.setTop (mkF m 23 #[.val (.ref a1), .val (.int (1 : Int32)), .val (.int (3 : Int32)), .unset] []))
    exact goRet0 X0 hx hret hlocks (hb hby d_method_4_23) (by decide) (by decide) e0 (⟨rfl, N0, K0, by unfold own_lo own_hi; rw [if_neg g, if_neg g]; exact Y1⟩)
theorem ef_rmC12 (m : MethodId) (x0 : Addr) (x1 : Int32) (x2 : Int32) : entryFrame m #[(.ref x0), (.int x1), (.int x2)] 4 = mkF m 0 #[.val (.ref x0), .val (.int x1), .val (.int x2), .unset] [] := by first | (simp [entryFrame, mkF, argsToLocals, Value.category]; done) | rfl
set_option maxRecDepth 65536 in
set_option maxHeartbeats 40000000 in
theorem rmC12 (l : Launch) (Z : State) (a0 : Array Value) (hw : ∀ d ∈ tables_1, d.before a0 Z = true) (x0 x1 x2 x3 : Int32) (a1 : Addr) (h0 : Heap) (O0 : Ext Z.heap h0) (Y1 : Ary Z h0 a1 .int [(.int x0), (.int x1), (.int x2), (.int x3)]) (fr1 : Z.heap.size ≤ a1) :
    Ctr l Z (⟨"com/example/querent/querent/LookupDistinctPinLaw", "cs", "([III)V"⟩ : MethodName) method_4_code 4 none [] ({ frames := 0, cells := 0, slots := 0, locals := 0 } : Room) #[(.ref a1), (.int (1 : Int32)), (.int (2 : Int32))] h0 (fun v h L => v = none ∧ Fr Z.heap.size L ∧ Keep h0 h [a1] ∧ Ary Z h a1 .int [.int x0, .int (own_lo x1 x2), .int (own_hi x1 x2), .int x3]) := by
  refine ctr (plainFor_of_name pn_0) ?_
  intro p e s m below meth c s₁ hx hby hml hown hnm hret hlocks hZ X0 e0
  have N0 := Fr.nil Z.heap.size
  have hsz : ∀ {Ls : Array Slot}, Ls.size = 4 → Ls.size = c.maxLocals := fun q => q.trans hml.symm
  have K0 := Keep.refl h0 [a1]
  refine goE (ef_rmC12 m (a1) ((1 : Int32)) ((2 : Int32))) ?_
  show Goes p e below _ (s₁.setTop (mkF m 0 #[.val (.ref a1), .val (.int (1 : Int32)), .val (.int (2 : Int32)), .unset] []))
  refine gAloadN X0 hx (hb hby d_method_4_0) rfl rfl ?_
  refine gIloadN X0 hx (hb hby d_method_4_1) rfl ?_
  refine goIaload X0 hx hZ e0 Y1 (x := x1) (hb hby d_method_4_2) (by decide) rfl ?_
  refine gAloadN X0 hx (hb hby d_method_4_3) rfl rfl ?_
  refine gIloadN X0 hx (hb hby d_method_4_4) rfl ?_
  refine goIaload X0 hx hZ e0 Y1 (x := x2) (hb hby d_method_4_5) (by decide) rfl ?_
  by_cases g : x2 < x1
  · refine gIcmpN X0 hx (hb hby d_method_4_6) (XT.ii_le_f g) ?_
    show Goes p e below _ (s₁.setTop (mkF m 9 #[.val (.ref a1), .val (.int (1 : Int32)), .val (.int (2 : Int32)), .unset] []))
    refine gAloadN X0 hx (hb hby d_method_4_9) rfl rfl ?_
    refine gIloadN X0 hx (hb hby d_method_4_10) rfl ?_
    refine goIaload X0 hx hZ e0 Y1 (x := x1) (hb hby d_method_4_11) (by decide) rfl ?_
    refine gIstoreN X0 hx (hb hby d_method_4_12) (l' := #[.val (.ref a1), .val (.int (1 : Int32)), .val (.int (2 : Int32)), .val (.int x1)]) rfl ?_
    refine gAloadN X0 hx (hb hby d_method_4_13) rfl rfl ?_
    refine gIloadN X0 hx (hb hby d_method_4_14) rfl ?_
    refine gAloadN X0 hx (hb hby d_method_4_15) rfl rfl ?_
    show Goes p e below _ (s₁.setTop (mkF m 16 #[.val (.ref a1), .val (.int (1 : Int32)), .val (.int (2 : Int32)), .val (.int x1)] [(.ref a1), (.int (1 : Int32)), (.ref a1)]))
    refine gIloadN X0 hx (hb hby d_method_4_16) rfl ?_
    refine goIaload X0 hx hZ e0 Y1 (x := x2) (hb hby d_method_4_17) (by decide) rfl ?_
    refine goIastore X0 hx hZ e0 Y1 (hb hby d_method_4_18) (by decide) rfl (fun Tt1 ht1 Xt1 et1 Wt1 => ?_)
    have N2 := Fr.snoc Xt1 N0 fr1
    replace Y1 : Ary Z ht1 a1 .int [(.int x0), (.int x2), (.int x2), (.int x3)] := Y1.set Wt1 rfl
    have O3 : Ext Z.heap ht1 := extW O0 Wt1 fr1
    have K4 := K0.wr Wt1 (Or.inl (by simp))
    show Goes p e below _ (Tt1.setTop (mkF m 19 #[.val (.ref a1), .val (.int (1 : Int32)), .val (.int (2 : Int32)), .val (.int x1)] []))
    refine gAloadN Xt1 hx (hb hby d_method_4_19) rfl rfl ?_
    refine gIloadN Xt1 hx (hb hby d_method_4_20) rfl ?_
    refine gIloadN Xt1 hx (hb hby d_method_4_21) rfl ?_
    refine goIastore Xt1 hx hZ et1 Y1 (hb hby d_method_4_22) (by decide) rfl (fun Tt5 ht5 Xt5 et5 Wt5 => ?_)
    have N6 := Fr.snoc Xt5 N2 fr1
    replace Y1 : Ary Z ht5 a1 .int [(.int x0), (.int x2), (.int x1), (.int x3)] := Y1.set Wt5 rfl
    have O7 : Ext Z.heap ht5 := extW O3 Wt5 fr1
    have K8 := K4.wr Wt5 (Or.inl (by simp))
    show Goes p e below _ (Tt5.setTop (mkF m 23 #[.val (.ref a1), .val (.int (1 : Int32)), .val (.int (2 : Int32)), .val (.int x1)] []))
    exact goRet0 Xt5 hx hret hlocks (hb hby d_method_4_23) (by decide) (by decide) et5 (⟨rfl, N6, K8, by unfold own_lo own_hi; rw [if_pos g, if_pos g]; exact Y1⟩)
  · refine gIcmpY X0 hx (hb hby d_method_4_6) (pc' := 23) (XT.ii_le_t g) (by decide) (by decide) ?_
    show Goes p e below _ (s₁.setTop (mkF m 23 #[.val (.ref a1), .val (.int (1 : Int32)), .val (.int (2 : Int32)), .unset] []))
    exact goRet0 X0 hx hret hlocks (hb hby d_method_4_23) (by decide) (by decide) e0 (⟨rfl, N0, K0, by unfold own_lo own_hi; rw [if_neg g, if_neg g]; exact Y1⟩)
theorem d_prog_28_method_8_0 : decode prog_28_method_8_code 0 = .ok (.iconst 0, 1) := by decide +kernel
theorem d_prog_28_method_8_1 : decode prog_28_method_8_code 1 = .ok (.istore_n 1, 1) := by decide +kernel
theorem d_prog_28_method_8_2 : decode prog_28_method_8_code 2 = .ok (.iconst 0, 1) := by decide +kernel
theorem d_prog_28_method_8_3 : decode prog_28_method_8_code 3 = .ok (.istore_n 2, 1) := by decide +kernel
theorem d_prog_28_method_8_4 : decode prog_28_method_8_code 4 = .ok (.iload_n 2, 1) := by decide +kernel
theorem d_prog_28_method_8_5 : decode prog_28_method_8_code 5 = .ok (.aload_n 0, 1) := by decide +kernel
theorem d_prog_28_method_8_6 : decode prog_28_method_8_code 6 = .ok (.arraylength, 1) := by decide +kernel
theorem d_prog_28_method_8_7 : decode prog_28_method_8_code 7 = .ok (.if_icmp .ge 33, 3) := by decide +kernel
theorem d_prog_28_method_8_40 : decode prog_28_method_8_code 40 = .ok (.iload_n 1, 1) := by decide +kernel
theorem d_prog_28_method_8_41 : decode prog_28_method_8_code 41 = .ok (.ireturn, 1) := by decide +kernel
theorem pn_1 : plainName "com/example/querent/querent/Lookup" = true := by first | (simp [plainName, overriddenIn]; done) | decide +kernel
theorem ef_rmD0 (m : MethodId) (x0 : Addr) : entryFrame m #[(.ref x0)] 3 = mkF m 0 #[.val (.ref x0), .unset, .unset] [] := by first | (simp [entryFrame, mkF, argsToLocals, Value.category]; done) | rfl
set_option maxRecDepth 65536 in
set_option maxHeartbeats 40000000 in
theorem rmD0 (l : Launch) (Z : State) (a0 : Array Value) (hw : ∀ d ∈ tables_1, d.before a0 Z = true)  (a1 : Addr) (h0 : Heap) (O0 : Ext Z.heap h0) (Y1 : Ary Z h0 a1 .int []) (fr1 : Z.heap.size ≤ a1) :
    Ctr l Z (⟨"com/example/querent/querent/Lookup", "distinct", "([I)I"⟩ : MethodName) prog_28_method_8_code 3 (some .int) [] ({ frames := 0, cells := 0, slots := 0, locals := 0 } : Room) #[(.ref a1)] h0 (fun v h L => ∃ (k : Int32) (ws : List Value), v = some (.int k) ∧ Fr Z.heap.size L ∧ Keep h0 h [a1] ∧ Ary Z h a1 .int ws ∧ ((k = (0 : Int32) ∧ ws = [] ∧ True))) := by
  refine ctr (plainFor_of_name pn_1) ?_
  intro p e s m below meth c s₁ hx hby hml hown hnm hret hlocks hZ X0 e0
  have N0 := Fr.nil Z.heap.size
  have hsz : ∀ {Ls : Array Slot}, Ls.size = 3 → Ls.size = c.maxLocals := fun q => q.trans hml.symm
  have K0 := Keep.refl h0 [a1]
  refine goE (ef_rmD0 m (a1)) ?_
  show Goes p e below _ (s₁.setTop (mkF m 0 #[.val (.ref a1), .unset, .unset] []))
  refine gIconst X0 hx (hb hby d_prog_28_method_8_0) (v := (0 : Int32)) rfl ?_
  refine gIstoreN X0 hx (hb hby d_prog_28_method_8_1) (l' := #[.val (.ref a1), .val (.int (0 : Int32)), .unset]) rfl ?_
  refine gIconst X0 hx (hb hby d_prog_28_method_8_2) (v := (0 : Int32)) rfl ?_
  refine gIstoreN X0 hx (hb hby d_prog_28_method_8_3) (l' := #[.val (.ref a1), .val (.int (0 : Int32)), .val (.int (0 : Int32))]) rfl ?_
  refine gIloadN X0 hx (hb hby d_prog_28_method_8_4) rfl ?_
  refine gAloadN X0 hx (hb hby d_prog_28_method_8_5) rfl rfl ?_
  refine goAlen X0 hx hZ e0 Y1 (n := (0 : Int32)) (hb hby d_prog_28_method_8_6) rfl ?_
  show Goes p e below _ (s₁.setTop (mkF m 7 #[.val (.ref a1), .val (.int (0 : Int32)), .val (.int (0 : Int32))] [(.int (0 : Int32)), (.int (0 : Int32))]))
  refine gIcmpY X0 hx (hb hby d_prog_28_method_8_7) (pc' := 40) (XT.ii_ge_t (by decide)) (by decide) (by decide) ?_
  show Goes p e below _ (s₁.setTop (mkF m 40 #[.val (.ref a1), .val (.int (0 : Int32)), .val (.int (0 : Int32))] []))
  refine gIloadN X0 hx (hb hby d_prog_28_method_8_40) rfl ?_
  exact goRetI X0 hx hret hlocks (hb hby d_prog_28_method_8_41) (by decide) (by decide) e0 (⟨_, _, rfl, N0, K0, Y1, ⟨rfl, rfl, trivial⟩⟩)
theorem d_prog_28_method_8_10 : decode prog_28_method_8_code 10 = .ok (.iload_n 2, 1) := by decide +kernel
theorem d_prog_28_method_8_11 : decode prog_28_method_8_code 11 = .ok (.ifCond .eq 14, 3) := by decide +kernel
theorem d_prog_28_method_8_25 : decode prog_28_method_8_code 25 = .ok (.aload_n 0, 1) := by decide +kernel
theorem d_prog_28_method_8_26 : decode prog_28_method_8_code 26 = .ok (.iload_n 1, 1) := by decide +kernel
theorem d_prog_28_method_8_27 : decode prog_28_method_8_code 27 = .ok (.iinc 1 1, 3) := by decide +kernel
theorem d_prog_28_method_8_30 : decode prog_28_method_8_code 30 = .ok (.aload_n 0, 1) := by decide +kernel
theorem d_prog_28_method_8_31 : decode prog_28_method_8_code 31 = .ok (.iload_n 2, 1) := by decide +kernel
theorem d_prog_28_method_8_32 : decode prog_28_method_8_code 32 = .ok (.iaload, 1) := by decide +kernel
theorem d_prog_28_method_8_33 : decode prog_28_method_8_code 33 = .ok (.iastore, 1) := by decide +kernel
theorem d_prog_28_method_8_34 : decode prog_28_method_8_code 34 = .ok (.iinc 2 1, 3) := by decide +kernel
theorem d_prog_28_method_8_37 : decode prog_28_method_8_code 37 = .ok (.goto (-33), 3) := by decide +kernel
theorem ef_rmD1 (m : MethodId) (x0 : Addr) : entryFrame m #[(.ref x0)] 3 = mkF m 0 #[.val (.ref x0), .unset, .unset] [] := by first | (simp [entryFrame, mkF, argsToLocals, Value.category]; done) | rfl
set_option maxRecDepth 65536 in
set_option maxHeartbeats 40000000 in
theorem rmD1 (l : Launch) (Z : State) (a0 : Array Value) (hw : ∀ d ∈ tables_1, d.before a0 Z = true) (t0 : Int32) (a1 : Addr) (h0 : Heap) (O0 : Ext Z.heap h0) (Y1 : Ary Z h0 a1 .int [(.int t0)]) (fr1 : Z.heap.size ≤ a1) :
    Ctr l Z (⟨"com/example/querent/querent/Lookup", "distinct", "([I)I"⟩ : MethodName) prog_28_method_8_code 3 (some .int) [] ({ frames := 0, cells := 0, slots := 0, locals := 0 } : Room) #[(.ref a1)] h0 (fun v h L => ∃ (k : Int32) (ws : List Value), v = some (.int k) ∧ Fr Z.heap.size L ∧ Keep h0 h [a1] ∧ Ary Z h a1 .int ws ∧ ((k = (1 : Int32) ∧ ws = [Value.int t0] ∧ True))) := by
  refine ctr (plainFor_of_name pn_1) ?_
  intro p e s m below meth c s₁ hx hby hml hown hnm hret hlocks hZ X0 e0
  have N0 := Fr.nil Z.heap.size
  have hsz : ∀ {Ls : Array Slot}, Ls.size = 3 → Ls.size = c.maxLocals := fun q => q.trans hml.symm
  have K0 := Keep.refl h0 [a1]
  refine goE (ef_rmD1 m (a1)) ?_
  show Goes p e below _ (s₁.setTop (mkF m 0 #[.val (.ref a1), .unset, .unset] []))
  refine gIconst X0 hx (hb hby d_prog_28_method_8_0) (v := (0 : Int32)) rfl ?_
  refine gIstoreN X0 hx (hb hby d_prog_28_method_8_1) (l' := #[.val (.ref a1), .val (.int (0 : Int32)), .unset]) rfl ?_
  refine gIconst X0 hx (hb hby d_prog_28_method_8_2) (v := (0 : Int32)) rfl ?_
  refine gIstoreN X0 hx (hb hby d_prog_28_method_8_3) (l' := #[.val (.ref a1), .val (.int (0 : Int32)), .val (.int (0 : Int32))]) rfl ?_
  refine gIloadN X0 hx (hb hby d_prog_28_method_8_4) rfl ?_
  refine gAloadN X0 hx (hb hby d_prog_28_method_8_5) rfl rfl ?_
  refine goAlen X0 hx hZ e0 Y1 (n := (1 : Int32)) (hb hby d_prog_28_method_8_6) rfl ?_
  show Goes p e below _ (s₁.setTop (mkF m 7 #[.val (.ref a1), .val (.int (0 : Int32)), .val (.int (0 : Int32))] [(.int (1 : Int32)), (.int (0 : Int32))]))
  refine gIcmpN X0 hx (hb hby d_prog_28_method_8_7) (XT.ii_ge_f (by decide)) ?_
  show Goes p e below _ (s₁.setTop (mkF m 10 #[.val (.ref a1), .val (.int (0 : Int32)), .val (.int (0 : Int32))] []))
  refine gIloadN X0 hx (hb hby d_prog_28_method_8_10) rfl ?_
  refine gIfY X0 hx (hb hby d_prog_28_method_8_11) (pc' := 25) (XT.i0_eq_t (by decide)) (by decide) (by decide) ?_
  show Goes p e below _ (s₁.setTop (mkF m 25 #[.val (.ref a1), .val (.int (0 : Int32)), .val (.int (0 : Int32))] []))
  refine gAloadN X0 hx (hb hby d_prog_28_method_8_25) rfl rfl ?_
  refine gIloadN X0 hx (hb hby d_prog_28_method_8_26) rfl ?_
  refine gIinc X0 hx (hb hby d_prog_28_method_8_27) (v := (1 : Int32)) rfl rfl (l' := #[.val (.ref a1), .val (.int (1 : Int32)), .val (.int (0 : Int32))]) rfl ?_
  refine gAloadN X0 hx (hb hby d_prog_28_method_8_30) rfl rfl ?_
  refine gIloadN X0 hx (hb hby d_prog_28_method_8_31) rfl ?_
  refine goIaload X0 hx hZ e0 Y1 (x := t0) (hb hby d_prog_28_method_8_32) (by decide) rfl ?_
  refine goIastore X0 hx hZ e0 Y1 (hb hby d_prog_28_method_8_33) (by decide) rfl (fun Tt1 ht1 Xt1 et1 Wt1 => ?_)
  have N2 := Fr.snoc Xt1 N0 fr1
  replace Y1 : Ary Z ht1 a1 .int [(.int t0)] := Y1.set Wt1 rfl
  have O3 : Ext Z.heap ht1 := extW O0 Wt1 fr1
  have K4 := K0.wr Wt1 (Or.inl (by simp))
  show Goes p e below _ (Tt1.setTop (mkF m 34 #[.val (.ref a1), .val (.int (1 : Int32)), .val (.int (0 : Int32))] []))
  refine gIinc Xt1 hx (hb hby d_prog_28_method_8_34) (v := (1 : Int32)) rfl rfl (l' := #[.val (.ref a1), .val (.int (1 : Int32)), .val (.int (1 : Int32))]) rfl ?_
  refine gGoto Xt1 hx (hb hby d_prog_28_method_8_37) (pc' := 4) (by decide) (by decide) ?_
  show Goes p e below _ (Tt1.setTop (mkF m 4 #[.val (.ref a1), .val (.int (1 : Int32)), .val (.int (1 : Int32))] []))
  refine gIloadN Xt1 hx (hb hby d_prog_28_method_8_4) rfl ?_
  refine gAloadN Xt1 hx (hb hby d_prog_28_method_8_5) rfl rfl ?_
  refine goAlen Xt1 hx hZ et1 Y1 (n := (1 : Int32)) (hb hby d_prog_28_method_8_6) rfl ?_
  refine gIcmpY Xt1 hx (hb hby d_prog_28_method_8_7) (pc' := 40) (XT.ii_ge_t (by decide)) (by decide) (by decide) ?_
  show Goes p e below _ (Tt1.setTop (mkF m 40 #[.val (.ref a1), .val (.int (1 : Int32)), .val (.int (1 : Int32))] []))
  refine gIloadN Xt1 hx (hb hby d_prog_28_method_8_40) rfl ?_
  exact goRetI Xt1 hx hret hlocks (hb hby d_prog_28_method_8_41) (by decide) (by decide) et1 (⟨_, _, rfl, N2, K4, Y1, ⟨rfl, rfl, trivial⟩⟩)
theorem d_prog_28_method_8_14 : decode prog_28_method_8_code 14 = .ok (.aload_n 0, 1) := by decide +kernel
theorem d_prog_28_method_8_15 : decode prog_28_method_8_code 15 = .ok (.iload_n 2, 1) := by decide +kernel
theorem d_prog_28_method_8_16 : decode prog_28_method_8_code 16 = .ok (.iaload, 1) := by decide +kernel
theorem d_prog_28_method_8_17 : decode prog_28_method_8_code 17 = .ok (.aload_n 0, 1) := by decide +kernel
theorem d_prog_28_method_8_18 : decode prog_28_method_8_code 18 = .ok (.iload_n 2, 1) := by decide +kernel
theorem d_prog_28_method_8_19 : decode prog_28_method_8_code 19 = .ok (.iconst 1, 1) := by decide +kernel
theorem d_prog_28_method_8_20 : decode prog_28_method_8_code 20 = .ok (.isub, 1) := by decide +kernel
theorem d_prog_28_method_8_21 : decode prog_28_method_8_code 21 = .ok (.iaload, 1) := by decide +kernel
theorem d_prog_28_method_8_22 : decode prog_28_method_8_code 22 = .ok (.if_icmp .eq 12, 3) := by decide +kernel
theorem ef_rmD2 (m : MethodId) (x0 : Addr) : entryFrame m #[(.ref x0)] 3 = mkF m 0 #[.val (.ref x0), .unset, .unset] [] := by first | (simp [entryFrame, mkF, argsToLocals, Value.category]; done) | rfl
set_option maxRecDepth 65536 in
set_option maxHeartbeats 40000000 in
theorem rmD2 (l : Launch) (Z : State) (a0 : Array Value) (hw : ∀ d ∈ tables_1, d.before a0 Z = true) (t0 t1 : Int32) (a1 : Addr) (h0 : Heap) (O0 : Ext Z.heap h0) (Y1 : Ary Z h0 a1 .int [(.int t0), (.int t1)]) (fr1 : Z.heap.size ≤ a1) :
    Ctr l Z (⟨"com/example/querent/querent/Lookup", "distinct", "([I)I"⟩ : MethodName) prog_28_method_8_code 3 (some .int) [] ({ frames := 0, cells := 0, slots := 0, locals := 0 } : Room) #[(.ref a1)] h0 (fun v h L => ∃ (k : Int32) (ws : List Value), v = some (.int k) ∧ Fr Z.heap.size L ∧ Keep h0 h [a1] ∧ Ary Z h a1 .int ws ∧ ((k = (1 : Int32) ∧ ws = [Value.int t0, Value.int t1] ∧ t1 = t0 ∧ True) ∨ (k = (2 : Int32) ∧ ws = [Value.int t0, Value.int t1] ∧ ¬ t1 = t0 ∧ True))) := by
  refine ctr (plainFor_of_name pn_1) ?_
  intro p e s m below meth c s₁ hx hby hml hown hnm hret hlocks hZ X0 e0
  have N0 := Fr.nil Z.heap.size
  have hsz : ∀ {Ls : Array Slot}, Ls.size = 3 → Ls.size = c.maxLocals := fun q => q.trans hml.symm
  have K0 := Keep.refl h0 [a1]
  refine goE (ef_rmD2 m (a1)) ?_
  show Goes p e below _ (s₁.setTop (mkF m 0 #[.val (.ref a1), .unset, .unset] []))
  refine gIconst X0 hx (hb hby d_prog_28_method_8_0) (v := (0 : Int32)) rfl ?_
  refine gIstoreN X0 hx (hb hby d_prog_28_method_8_1) (l' := #[.val (.ref a1), .val (.int (0 : Int32)), .unset]) rfl ?_
  refine gIconst X0 hx (hb hby d_prog_28_method_8_2) (v := (0 : Int32)) rfl ?_
  refine gIstoreN X0 hx (hb hby d_prog_28_method_8_3) (l' := #[.val (.ref a1), .val (.int (0 : Int32)), .val (.int (0 : Int32))]) rfl ?_
  refine gIloadN X0 hx (hb hby d_prog_28_method_8_4) rfl ?_
  refine gAloadN X0 hx (hb hby d_prog_28_method_8_5) rfl rfl ?_
  refine goAlen X0 hx hZ e0 Y1 (n := (2 : Int32)) (hb hby d_prog_28_method_8_6) rfl ?_
  show Goes p e below _ (s₁.setTop (mkF m 7 #[.val (.ref a1), .val (.int (0 : Int32)), .val (.int (0 : Int32))] [(.int (2 : Int32)), (.int (0 : Int32))]))
  refine gIcmpN X0 hx (hb hby d_prog_28_method_8_7) (XT.ii_ge_f (by decide)) ?_
  show Goes p e below _ (s₁.setTop (mkF m 10 #[.val (.ref a1), .val (.int (0 : Int32)), .val (.int (0 : Int32))] []))
  refine gIloadN X0 hx (hb hby d_prog_28_method_8_10) rfl ?_
  refine gIfY X0 hx (hb hby d_prog_28_method_8_11) (pc' := 25) (XT.i0_eq_t (by decide)) (by decide) (by decide) ?_
  show Goes p e below _ (s₁.setTop (mkF m 25 #[.val (.ref a1), .val (.int (0 : Int32)), .val (.int (0 : Int32))] []))
  refine gAloadN X0 hx (hb hby d_prog_28_method_8_25) rfl rfl ?_
  refine gIloadN X0 hx (hb hby d_prog_28_method_8_26) rfl ?_
  refine gIinc X0 hx (hb hby d_prog_28_method_8_27) (v := (1 : Int32)) rfl rfl (l' := #[.val (.ref a1), .val (.int (1 : Int32)), .val (.int (0 : Int32))]) rfl ?_
  refine gAloadN X0 hx (hb hby d_prog_28_method_8_30) rfl rfl ?_
  refine gIloadN X0 hx (hb hby d_prog_28_method_8_31) rfl ?_
  refine goIaload X0 hx hZ e0 Y1 (x := t0) (hb hby d_prog_28_method_8_32) (by decide) rfl ?_
  refine goIastore X0 hx hZ e0 Y1 (hb hby d_prog_28_method_8_33) (by decide) rfl (fun Tt1 ht1 Xt1 et1 Wt1 => ?_)
  have N2 := Fr.snoc Xt1 N0 fr1
  replace Y1 : Ary Z ht1 a1 .int [(.int t0), (.int t1)] := Y1.set Wt1 rfl
  have O3 : Ext Z.heap ht1 := extW O0 Wt1 fr1
  have K4 := K0.wr Wt1 (Or.inl (by simp))
  show Goes p e below _ (Tt1.setTop (mkF m 34 #[.val (.ref a1), .val (.int (1 : Int32)), .val (.int (0 : Int32))] []))
  refine gIinc Xt1 hx (hb hby d_prog_28_method_8_34) (v := (1 : Int32)) rfl rfl (l' := #[.val (.ref a1), .val (.int (1 : Int32)), .val (.int (1 : Int32))]) rfl ?_
  refine gGoto Xt1 hx (hb hby d_prog_28_method_8_37) (pc' := 4) (by decide) (by decide) ?_
  show Goes p e below _ (Tt1.setTop (mkF m 4 #[.val (.ref a1), .val (.int (1 : Int32)), .val (.int (1 : Int32))] []))
  refine gIloadN Xt1 hx (hb hby d_prog_28_method_8_4) rfl ?_
  refine gAloadN Xt1 hx (hb hby d_prog_28_method_8_5) rfl rfl ?_
  refine goAlen Xt1 hx hZ et1 Y1 (n := (2 : Int32)) (hb hby d_prog_28_method_8_6) rfl ?_
  refine gIcmpN Xt1 hx (hb hby d_prog_28_method_8_7) (XT.ii_ge_f (by decide)) ?_
  show Goes p e below _ (Tt1.setTop (mkF m 10 #[.val (.ref a1), .val (.int (1 : Int32)), .val (.int (1 : Int32))] []))
  refine gIloadN Xt1 hx (hb hby d_prog_28_method_8_10) rfl ?_
  refine gIfN Xt1 hx (hb hby d_prog_28_method_8_11) (XT.i0_eq_f (by decide)) ?_
  show Goes p e below _ (Tt1.setTop (mkF m 14 #[.val (.ref a1), .val (.int (1 : Int32)), .val (.int (1 : Int32))] []))
  refine gAloadN Xt1 hx (hb hby d_prog_28_method_8_14) rfl rfl ?_
  refine gIloadN Xt1 hx (hb hby d_prog_28_method_8_15) rfl ?_
  refine goIaload Xt1 hx hZ et1 Y1 (x := t1) (hb hby d_prog_28_method_8_16) (by decide) rfl ?_
  refine gAloadN Xt1 hx (hb hby d_prog_28_method_8_17) rfl rfl ?_
  refine gIloadN Xt1 hx (hb hby d_prog_28_method_8_18) rfl ?_
  refine gIconst Xt1 hx (hb hby d_prog_28_method_8_19) (v := (1 : Int32)) rfl ?_
  refine gIsub Xt1 hx (hb hby d_prog_28_method_8_20) ?_
  show Goes p e below _ (Tt1.setTop (mkF m 21 #[.val (.ref a1), .val (.int (1 : Int32)), .val (.int (1 : Int32))] [(.int (0 : Int32)), (.ref a1), (.int t1)]))
  refine goIaload Xt1 hx hZ et1 Y1 (x := t0) (hb hby d_prog_28_method_8_21) (by decide) rfl ?_
  by_cases e1 : t1 = t0
  · refine gIcmpY Xt1 hx (hb hby d_prog_28_method_8_22) (pc' := 34) (XT.ii_eq_t e1) (by decide) (by decide) ?_
    show Goes p e below _ (Tt1.setTop (mkF m 34 #[.val (.ref a1), .val (.int (1 : Int32)), .val (.int (1 : Int32))] []))
    refine gIinc Xt1 hx (hb hby d_prog_28_method_8_34) (v := (2 : Int32)) rfl rfl (l' := #[.val (.ref a1), .val (.int (1 : Int32)), .val (.int (2 : Int32))]) rfl ?_
    refine gGoto Xt1 hx (hb hby d_prog_28_method_8_37) (pc' := 4) (by decide) (by decide) ?_
    show Goes p e below _ (Tt1.setTop (mkF m 4 #[.val (.ref a1), .val (.int (1 : Int32)), .val (.int (2 : Int32))] []))
    refine gIloadN Xt1 hx (hb hby d_prog_28_method_8_4) rfl ?_
    refine gAloadN Xt1 hx (hb hby d_prog_28_method_8_5) rfl rfl ?_
    refine goAlen Xt1 hx hZ et1 Y1 (n := (2 : Int32)) (hb hby d_prog_28_method_8_6) rfl ?_
    refine gIcmpY Xt1 hx (hb hby d_prog_28_method_8_7) (pc' := 40) (XT.ii_ge_t (by decide)) (by decide) (by decide) ?_
    show Goes p e below _ (Tt1.setTop (mkF m 40 #[.val (.ref a1), .val (.int (1 : Int32)), .val (.int (2 : Int32))] []))
    refine gIloadN Xt1 hx (hb hby d_prog_28_method_8_40) rfl ?_
    exact goRetI Xt1 hx hret hlocks (hb hby d_prog_28_method_8_41) (by decide) (by decide) et1 (⟨_, _, rfl, N2, K4, Y1, Or.inl ⟨rfl, rfl, e1, trivial⟩⟩)
  · refine gIcmpN Xt1 hx (hb hby d_prog_28_method_8_22) (XT.ii_eq_f e1) ?_
    show Goes p e below _ (Tt1.setTop (mkF m 25 #[.val (.ref a1), .val (.int (1 : Int32)), .val (.int (1 : Int32))] []))
    refine gAloadN Xt1 hx (hb hby d_prog_28_method_8_25) rfl rfl ?_
    refine gIloadN Xt1 hx (hb hby d_prog_28_method_8_26) rfl ?_
    refine gIinc Xt1 hx (hb hby d_prog_28_method_8_27) (v := (2 : Int32)) rfl rfl (l' := #[.val (.ref a1), .val (.int (2 : Int32)), .val (.int (1 : Int32))]) rfl ?_
    refine gAloadN Xt1 hx (hb hby d_prog_28_method_8_30) rfl rfl ?_
    refine gIloadN Xt1 hx (hb hby d_prog_28_method_8_31) rfl ?_
    refine goIaload Xt1 hx hZ et1 Y1 (x := t1) (hb hby d_prog_28_method_8_32) (by decide) rfl ?_
    refine goIastore Xt1 hx hZ et1 Y1 (hb hby d_prog_28_method_8_33) (by decide) rfl (fun Tt5 ht5 Xt5 et5 Wt5 => ?_)
    have N6 := Fr.snoc Xt5 N2 fr1
    replace Y1 : Ary Z ht5 a1 .int [(.int t0), (.int t1)] := Y1.set Wt5 rfl
    have O7 : Ext Z.heap ht5 := extW O3 Wt5 fr1
    have K8 := K4.wr Wt5 (Or.inl (by simp))
    show Goes p e below _ (Tt5.setTop (mkF m 34 #[.val (.ref a1), .val (.int (2 : Int32)), .val (.int (1 : Int32))] []))
    refine gIinc Xt5 hx (hb hby d_prog_28_method_8_34) (v := (2 : Int32)) rfl rfl (l' := #[.val (.ref a1), .val (.int (2 : Int32)), .val (.int (2 : Int32))]) rfl ?_
    refine gGoto Xt5 hx (hb hby d_prog_28_method_8_37) (pc' := 4) (by decide) (by decide) ?_
    show Goes p e below _ (Tt5.setTop (mkF m 4 #[.val (.ref a1), .val (.int (2 : Int32)), .val (.int (2 : Int32))] []))
    refine gIloadN Xt5 hx (hb hby d_prog_28_method_8_4) rfl ?_
    refine gAloadN Xt5 hx (hb hby d_prog_28_method_8_5) rfl rfl ?_
    refine goAlen Xt5 hx hZ et5 Y1 (n := (2 : Int32)) (hb hby d_prog_28_method_8_6) rfl ?_
    refine gIcmpY Xt5 hx (hb hby d_prog_28_method_8_7) (pc' := 40) (XT.ii_ge_t (by decide)) (by decide) (by decide) ?_
    show Goes p e below _ (Tt5.setTop (mkF m 40 #[.val (.ref a1), .val (.int (2 : Int32)), .val (.int (2 : Int32))] []))
    refine gIloadN Xt5 hx (hb hby d_prog_28_method_8_40) rfl ?_
    exact goRetI Xt5 hx hret hlocks (hb hby d_prog_28_method_8_41) (by decide) (by decide) et5 (⟨_, _, rfl, N6, K8, Y1, Or.inr (⟨rfl, rfl, e1, trivial⟩)⟩)
theorem ef_rmD3 (m : MethodId) (x0 : Addr) : entryFrame m #[(.ref x0)] 3 = mkF m 0 #[.val (.ref x0), .unset, .unset] [] := by first | (simp [entryFrame, mkF, argsToLocals, Value.category]; done) | rfl
set_option maxRecDepth 65536 in
set_option maxHeartbeats 40000000 in
theorem rmD3 (l : Launch) (Z : State) (a0 : Array Value) (hw : ∀ d ∈ tables_1, d.before a0 Z = true) (t0 t1 t2 : Int32) (a1 : Addr) (h0 : Heap) (O0 : Ext Z.heap h0) (Y1 : Ary Z h0 a1 .int [(.int t0), (.int t1), (.int t2)]) (fr1 : Z.heap.size ≤ a1) :
    Ctr l Z (⟨"com/example/querent/querent/Lookup", "distinct", "([I)I"⟩ : MethodName) prog_28_method_8_code 3 (some .int) [] ({ frames := 0, cells := 0, slots := 0, locals := 0 } : Room) #[(.ref a1)] h0 (fun v h L => ∃ (k : Int32) (ws : List Value), v = some (.int k) ∧ Fr Z.heap.size L ∧ Keep h0 h [a1] ∧ Ary Z h a1 .int ws ∧ ((k = (1 : Int32) ∧ ws = [Value.int t0, Value.int t1, Value.int t2] ∧ t1 = t0 ∧ t2 = t1 ∧ True) ∨ (k = (2 : Int32) ∧ ws = [Value.int t0, Value.int t2, Value.int t2] ∧ t1 = t0 ∧ ¬ t2 = t1 ∧ True) ∨ (k = (2 : Int32) ∧ ws = [Value.int t0, Value.int t1, Value.int t2] ∧ ¬ t1 = t0 ∧ t2 = t1 ∧ True) ∨ (k = (3 : Int32) ∧ ws = [Value.int t0, Value.int t1, Value.int t2] ∧ ¬ t1 = t0 ∧ ¬ t2 = t1 ∧ True))) := by
  refine ctr (plainFor_of_name pn_1) ?_
  intro p e s m below meth c s₁ hx hby hml hown hnm hret hlocks hZ X0 e0
  have N0 := Fr.nil Z.heap.size
  have hsz : ∀ {Ls : Array Slot}, Ls.size = 3 → Ls.size = c.maxLocals := fun q => q.trans hml.symm
  have K0 := Keep.refl h0 [a1]
  refine goE (ef_rmD3 m (a1)) ?_
  show Goes p e below _ (s₁.setTop (mkF m 0 #[.val (.ref a1), .unset, .unset] []))
  refine gIconst X0 hx (hb hby d_prog_28_method_8_0) (v := (0 : Int32)) rfl ?_
  refine gIstoreN X0 hx (hb hby d_prog_28_method_8_1) (l' := #[.val (.ref a1), .val (.int (0 : Int32)), .unset]) rfl ?_
  refine gIconst X0 hx (hb hby d_prog_28_method_8_2) (v := (0 : Int32)) rfl ?_
  refine gIstoreN X0 hx (hb hby d_prog_28_method_8_3) (l' := #[.val (.ref a1), .val (.int (0 : Int32)), .val (.int (0 : Int32))]) rfl ?_
  refine gIloadN X0 hx (hb hby d_prog_28_method_8_4) rfl ?_
  refine gAloadN X0 hx (hb hby d_prog_28_method_8_5) rfl rfl ?_
  refine goAlen X0 hx hZ e0 Y1 (n := (3 : Int32)) (hb hby d_prog_28_method_8_6) rfl ?_
  show Goes p e below _ (s₁.setTop (mkF m 7 #[.val (.ref a1), .val (.int (0 : Int32)), .val (.int (0 : Int32))] [(.int (3 : Int32)), (.int (0 : Int32))]))
  refine gIcmpN X0 hx (hb hby d_prog_28_method_8_7) (XT.ii_ge_f (by decide)) ?_
  show Goes p e below _ (s₁.setTop (mkF m 10 #[.val (.ref a1), .val (.int (0 : Int32)), .val (.int (0 : Int32))] []))
  refine gIloadN X0 hx (hb hby d_prog_28_method_8_10) rfl ?_
  refine gIfY X0 hx (hb hby d_prog_28_method_8_11) (pc' := 25) (XT.i0_eq_t (by decide)) (by decide) (by decide) ?_
  show Goes p e below _ (s₁.setTop (mkF m 25 #[.val (.ref a1), .val (.int (0 : Int32)), .val (.int (0 : Int32))] []))
  refine gAloadN X0 hx (hb hby d_prog_28_method_8_25) rfl rfl ?_
  refine gIloadN X0 hx (hb hby d_prog_28_method_8_26) rfl ?_
  refine gIinc X0 hx (hb hby d_prog_28_method_8_27) (v := (1 : Int32)) rfl rfl (l' := #[.val (.ref a1), .val (.int (1 : Int32)), .val (.int (0 : Int32))]) rfl ?_
  refine gAloadN X0 hx (hb hby d_prog_28_method_8_30) rfl rfl ?_
  refine gIloadN X0 hx (hb hby d_prog_28_method_8_31) rfl ?_
  refine goIaload X0 hx hZ e0 Y1 (x := t0) (hb hby d_prog_28_method_8_32) (by decide) rfl ?_
  refine goIastore X0 hx hZ e0 Y1 (hb hby d_prog_28_method_8_33) (by decide) rfl (fun Tt1 ht1 Xt1 et1 Wt1 => ?_)
  have N2 := Fr.snoc Xt1 N0 fr1
  replace Y1 : Ary Z ht1 a1 .int [(.int t0), (.int t1), (.int t2)] := Y1.set Wt1 rfl
  have O3 : Ext Z.heap ht1 := extW O0 Wt1 fr1
  have K4 := K0.wr Wt1 (Or.inl (by simp))
  show Goes p e below _ (Tt1.setTop (mkF m 34 #[.val (.ref a1), .val (.int (1 : Int32)), .val (.int (0 : Int32))] []))
  refine gIinc Xt1 hx (hb hby d_prog_28_method_8_34) (v := (1 : Int32)) rfl rfl (l' := #[.val (.ref a1), .val (.int (1 : Int32)), .val (.int (1 : Int32))]) rfl ?_
  refine gGoto Xt1 hx (hb hby d_prog_28_method_8_37) (pc' := 4) (by decide) (by decide) ?_
  show Goes p e below _ (Tt1.setTop (mkF m 4 #[.val (.ref a1), .val (.int (1 : Int32)), .val (.int (1 : Int32))] []))
  refine gIloadN Xt1 hx (hb hby d_prog_28_method_8_4) rfl ?_
  refine gAloadN Xt1 hx (hb hby d_prog_28_method_8_5) rfl rfl ?_
  refine goAlen Xt1 hx hZ et1 Y1 (n := (3 : Int32)) (hb hby d_prog_28_method_8_6) rfl ?_
  refine gIcmpN Xt1 hx (hb hby d_prog_28_method_8_7) (XT.ii_ge_f (by decide)) ?_
  show Goes p e below _ (Tt1.setTop (mkF m 10 #[.val (.ref a1), .val (.int (1 : Int32)), .val (.int (1 : Int32))] []))
  refine gIloadN Xt1 hx (hb hby d_prog_28_method_8_10) rfl ?_
  refine gIfN Xt1 hx (hb hby d_prog_28_method_8_11) (XT.i0_eq_f (by decide)) ?_
  show Goes p e below _ (Tt1.setTop (mkF m 14 #[.val (.ref a1), .val (.int (1 : Int32)), .val (.int (1 : Int32))] []))
  refine gAloadN Xt1 hx (hb hby d_prog_28_method_8_14) rfl rfl ?_
  refine gIloadN Xt1 hx (hb hby d_prog_28_method_8_15) rfl ?_
  refine goIaload Xt1 hx hZ et1 Y1 (x := t1) (hb hby d_prog_28_method_8_16) (by decide) rfl ?_
  refine gAloadN Xt1 hx (hb hby d_prog_28_method_8_17) rfl rfl ?_
  refine gIloadN Xt1 hx (hb hby d_prog_28_method_8_18) rfl ?_
  refine gIconst Xt1 hx (hb hby d_prog_28_method_8_19) (v := (1 : Int32)) rfl ?_
  refine gIsub Xt1 hx (hb hby d_prog_28_method_8_20) ?_
  show Goes p e below _ (Tt1.setTop (mkF m 21 #[.val (.ref a1), .val (.int (1 : Int32)), .val (.int (1 : Int32))] [(.int (0 : Int32)), (.ref a1), (.int t1)]))
  refine goIaload Xt1 hx hZ et1 Y1 (x := t0) (hb hby d_prog_28_method_8_21) (by decide) rfl ?_
  by_cases e1 : t1 = t0
  · refine gIcmpY Xt1 hx (hb hby d_prog_28_method_8_22) (pc' := 34) (XT.ii_eq_t e1) (by decide) (by decide) ?_
    show Goes p e below _ (Tt1.setTop (mkF m 34 #[.val (.ref a1), .val (.int (1 : Int32)), .val (.int (1 : Int32))] []))
    refine gIinc Xt1 hx (hb hby d_prog_28_method_8_34) (v := (2 : Int32)) rfl rfl (l' := #[.val (.ref a1), .val (.int (1 : Int32)), .val (.int (2 : Int32))]) rfl ?_
    refine gGoto Xt1 hx (hb hby d_prog_28_method_8_37) (pc' := 4) (by decide) (by decide) ?_
    show Goes p e below _ (Tt1.setTop (mkF m 4 #[.val (.ref a1), .val (.int (1 : Int32)), .val (.int (2 : Int32))] []))
    refine gIloadN Xt1 hx (hb hby d_prog_28_method_8_4) rfl ?_
    refine gAloadN Xt1 hx (hb hby d_prog_28_method_8_5) rfl rfl ?_
    refine goAlen Xt1 hx hZ et1 Y1 (n := (3 : Int32)) (hb hby d_prog_28_method_8_6) rfl ?_
    refine gIcmpN Xt1 hx (hb hby d_prog_28_method_8_7) (XT.ii_ge_f (by decide)) ?_
    show Goes p e below _ (Tt1.setTop (mkF m 10 #[.val (.ref a1), .val (.int (1 : Int32)), .val (.int (2 : Int32))] []))
    refine gIloadN Xt1 hx (hb hby d_prog_28_method_8_10) rfl ?_
    refine gIfN Xt1 hx (hb hby d_prog_28_method_8_11) (XT.i0_eq_f (by decide)) ?_
    show Goes p e below _ (Tt1.setTop (mkF m 14 #[.val (.ref a1), .val (.int (1 : Int32)), .val (.int (2 : Int32))] []))
    refine gAloadN Xt1 hx (hb hby d_prog_28_method_8_14) rfl rfl ?_
    refine gIloadN Xt1 hx (hb hby d_prog_28_method_8_15) rfl ?_
    refine goIaload Xt1 hx hZ et1 Y1 (x := t2) (hb hby d_prog_28_method_8_16) (by decide) rfl ?_
    refine gAloadN Xt1 hx (hb hby d_prog_28_method_8_17) rfl rfl ?_
    refine gIloadN Xt1 hx (hb hby d_prog_28_method_8_18) rfl ?_
    refine gIconst Xt1 hx (hb hby d_prog_28_method_8_19) (v := (1 : Int32)) rfl ?_
    refine gIsub Xt1 hx (hb hby d_prog_28_method_8_20) ?_
    show Goes p e below _ (Tt1.setTop (mkF m 21 #[.val (.ref a1), .val (.int (1 : Int32)), .val (.int (2 : Int32))] [(.int (1 : Int32)), (.ref a1), (.int t2)]))
    refine goIaload Xt1 hx hZ et1 Y1 (x := t1) (hb hby d_prog_28_method_8_21) (by decide) rfl ?_
    by_cases e2 : t2 = t1
    · refine gIcmpY Xt1 hx (hb hby d_prog_28_method_8_22) (pc' := 34) (XT.ii_eq_t e2) (by decide) (by decide) ?_
      show Goes p e below _ (Tt1.setTop (mkF m 34 #[.val (.ref a1), .val (.int (1 : Int32)), .val (.int (2 : Int32))] []))
      refine gIinc Xt1 hx (hb hby d_prog_28_method_8_34) (v := (3 : Int32)) rfl rfl (l' := #[.val (.ref a1), .val (.int (1 : Int32)), .val (.int (3 : Int32))]) rfl ?_
      refine gGoto Xt1 hx (hb hby d_prog_28_method_8_37) (pc' := 4) (by decide) (by decide) ?_
      show Goes p e below _ (Tt1.setTop (mkF m 4 #[.val (.ref a1), .val (.int (1 : Int32)), .val (.int (3 : Int32))] []))
      refine gIloadN Xt1 hx (hb hby d_prog_28_method_8_4) rfl ?_
      refine gAloadN Xt1 hx (hb hby d_prog_28_method_8_5) rfl rfl ?_
      refine goAlen Xt1 hx hZ et1 Y1 (n := (3 : Int32)) (hb hby d_prog_28_method_8_6) rfl ?_
      refine gIcmpY Xt1 hx (hb hby d_prog_28_method_8_7) (pc' := 40) (XT.ii_ge_t (by decide)) (by decide) (by decide) ?_
      show Goes p e below _ (Tt1.setTop (mkF m 40 #[.val (.ref a1), .val (.int (1 : Int32)), .val (.int (3 : Int32))] []))
      refine gIloadN Xt1 hx (hb hby d_prog_28_method_8_40) rfl ?_
      exact goRetI Xt1 hx hret hlocks (hb hby d_prog_28_method_8_41) (by decide) (by decide) et1 (⟨_, _, rfl, N2, K4, Y1, Or.inl ⟨rfl, rfl, e1, e2, trivial⟩⟩)
    · refine gIcmpN Xt1 hx (hb hby d_prog_28_method_8_22) (XT.ii_eq_f e2) ?_
      show Goes p e below _ (Tt1.setTop (mkF m 25 #[.val (.ref a1), .val (.int (1 : Int32)), .val (.int (2 : Int32))] []))
      refine gAloadN Xt1 hx (hb hby d_prog_28_method_8_25) rfl rfl ?_
      refine gIloadN Xt1 hx (hb hby d_prog_28_method_8_26) rfl ?_
      refine gIinc Xt1 hx (hb hby d_prog_28_method_8_27) (v := (2 : Int32)) rfl rfl (l' := #[.val (.ref a1), .val (.int (2 : Int32)), .val (.int (2 : Int32))]) rfl ?_
      refine gAloadN Xt1 hx (hb hby d_prog_28_method_8_30) rfl rfl ?_
      refine gIloadN Xt1 hx (hb hby d_prog_28_method_8_31) rfl ?_
      refine goIaload Xt1 hx hZ et1 Y1 (x := t2) (hb hby d_prog_28_method_8_32) (by decide) rfl ?_
      refine goIastore Xt1 hx hZ et1 Y1 (hb hby d_prog_28_method_8_33) (by decide) rfl (fun Tt5 ht5 Xt5 et5 Wt5 => ?_)
      have N6 := Fr.snoc Xt5 N2 fr1
      replace Y1 : Ary Z ht5 a1 .int [(.int t0), (.int t2), (.int t2)] := Y1.set Wt5 rfl
      have O7 : Ext Z.heap ht5 := extW O3 Wt5 fr1
      have K8 := K4.wr Wt5 (Or.inl (by simp))
      show Goes p e below _ (Tt5.setTop (mkF m 34 #[.val (.ref a1), .val (.int (2 : Int32)), .val (.int (2 : Int32))] []))
      refine gIinc Xt5 hx (hb hby d_prog_28_method_8_34) (v := (3 : Int32)) rfl rfl (l' := #[.val (.ref a1), .val (.int (2 : Int32)), .val (.int (3 : Int32))]) rfl ?_
      refine gGoto Xt5 hx (hb hby d_prog_28_method_8_37) (pc' := 4) (by decide) (by decide) ?_
      show Goes p e below _ (Tt5.setTop (mkF m 4 #[.val (.ref a1), .val (.int (2 : Int32)), .val (.int (3 : Int32))] []))
      refine gIloadN Xt5 hx (hb hby d_prog_28_method_8_4) rfl ?_
      refine gAloadN Xt5 hx (hb hby d_prog_28_method_8_5) rfl rfl ?_
      refine goAlen Xt5 hx hZ et5 Y1 (n := (3 : Int32)) (hb hby d_prog_28_method_8_6) rfl ?_
      refine gIcmpY Xt5 hx (hb hby d_prog_28_method_8_7) (pc' := 40) (XT.ii_ge_t (by decide)) (by decide) (by decide) ?_
      show Goes p e below _ (Tt5.setTop (mkF m 40 #[.val (.ref a1), .val (.int (2 : Int32)), .val (.int (3 : Int32))] []))
      refine gIloadN Xt5 hx (hb hby d_prog_28_method_8_40) rfl ?_
      exact goRetI Xt5 hx hret hlocks (hb hby d_prog_28_method_8_41) (by decide) (by decide) et5 (⟨_, _, rfl, N6, K8, Y1, Or.inr (Or.inl ⟨rfl, rfl, e1, e2, trivial⟩)⟩)
  · refine gIcmpN Xt1 hx (hb hby d_prog_28_method_8_22) (XT.ii_eq_f e1) ?_
    show Goes p e below _ (Tt1.setTop (mkF m 25 #[.val (.ref a1), .val (.int (1 : Int32)), .val (.int (1 : Int32))] []))
    refine gAloadN Xt1 hx (hb hby d_prog_28_method_8_25) rfl rfl ?_
    refine gIloadN Xt1 hx (hb hby d_prog_28_method_8_26) rfl ?_
    refine gIinc Xt1 hx (hb hby d_prog_28_method_8_27) (v := (2 : Int32)) rfl rfl (l' := #[.val (.ref a1), .val (.int (2 : Int32)), .val (.int (1 : Int32))]) rfl ?_
    refine gAloadN Xt1 hx (hb hby d_prog_28_method_8_30) rfl rfl ?_
    refine gIloadN Xt1 hx (hb hby d_prog_28_method_8_31) rfl ?_
    refine goIaload Xt1 hx hZ et1 Y1 (x := t1) (hb hby d_prog_28_method_8_32) (by decide) rfl ?_
    refine goIastore Xt1 hx hZ et1 Y1 (hb hby d_prog_28_method_8_33) (by decide) rfl (fun Tt9 ht9 Xt9 et9 Wt9 => ?_)
    have N10 := Fr.snoc Xt9 N2 fr1
    replace Y1 : Ary Z ht9 a1 .int [(.int t0), (.int t1), (.int t2)] := Y1.set Wt9 rfl
    have O11 : Ext Z.heap ht9 := extW O3 Wt9 fr1
    have K12 := K4.wr Wt9 (Or.inl (by simp))
    show Goes p e below _ (Tt9.setTop (mkF m 34 #[.val (.ref a1), .val (.int (2 : Int32)), .val (.int (1 : Int32))] []))
    refine gIinc Xt9 hx (hb hby d_prog_28_method_8_34) (v := (2 : Int32)) rfl rfl (l' := #[.val (.ref a1), .val (.int (2 : Int32)), .val (.int (2 : Int32))]) rfl ?_
    refine gGoto Xt9 hx (hb hby d_prog_28_method_8_37) (pc' := 4) (by decide) (by decide) ?_
    show Goes p e below _ (Tt9.setTop (mkF m 4 #[.val (.ref a1), .val (.int (2 : Int32)), .val (.int (2 : Int32))] []))
    refine gIloadN Xt9 hx (hb hby d_prog_28_method_8_4) rfl ?_
    refine gAloadN Xt9 hx (hb hby d_prog_28_method_8_5) rfl rfl ?_
    refine goAlen Xt9 hx hZ et9 Y1 (n := (3 : Int32)) (hb hby d_prog_28_method_8_6) rfl ?_
    refine gIcmpN Xt9 hx (hb hby d_prog_28_method_8_7) (XT.ii_ge_f (by decide)) ?_
    show Goes p e below _ (Tt9.setTop (mkF m 10 #[.val (.ref a1), .val (.int (2 : Int32)), .val (.int (2 : Int32))] []))
    refine gIloadN Xt9 hx (hb hby d_prog_28_method_8_10) rfl ?_
    refine gIfN Xt9 hx (hb hby d_prog_28_method_8_11) (XT.i0_eq_f (by decide)) ?_
    show Goes p e below _ (Tt9.setTop (mkF m 14 #[.val (.ref a1), .val (.int (2 : Int32)), .val (.int (2 : Int32))] []))
    refine gAloadN Xt9 hx (hb hby d_prog_28_method_8_14) rfl rfl ?_
    refine gIloadN Xt9 hx (hb hby d_prog_28_method_8_15) rfl ?_
    refine goIaload Xt9 hx hZ et9 Y1 (x := t2) (hb hby d_prog_28_method_8_16) (by decide) rfl ?_
    refine gAloadN Xt9 hx (hb hby d_prog_28_method_8_17) rfl rfl ?_
    refine gIloadN Xt9 hx (hb hby d_prog_28_method_8_18) rfl ?_
    refine gIconst Xt9 hx (hb hby d_prog_28_method_8_19) (v := (1 : Int32)) rfl ?_
    refine gIsub Xt9 hx (hb hby d_prog_28_method_8_20) ?_
    show Goes p e below _ (Tt9.setTop (mkF m 21 #[.val (.ref a1), .val (.int (2 : Int32)), .val (.int (2 : Int32))] [(.int (1 : Int32)), (.ref a1), (.int t2)]))
    refine goIaload Xt9 hx hZ et9 Y1 (x := t1) (hb hby d_prog_28_method_8_21) (by decide) rfl ?_
    by_cases e2 : t2 = t1
    · refine gIcmpY Xt9 hx (hb hby d_prog_28_method_8_22) (pc' := 34) (XT.ii_eq_t e2) (by decide) (by decide) ?_
      show Goes p e below _ (Tt9.setTop (mkF m 34 #[.val (.ref a1), .val (.int (2 : Int32)), .val (.int (2 : Int32))] []))
      refine gIinc Xt9 hx (hb hby d_prog_28_method_8_34) (v := (3 : Int32)) rfl rfl (l' := #[.val (.ref a1), .val (.int (2 : Int32)), .val (.int (3 : Int32))]) rfl ?_
      refine gGoto Xt9 hx (hb hby d_prog_28_method_8_37) (pc' := 4) (by decide) (by decide) ?_
      show Goes p e below _ (Tt9.setTop (mkF m 4 #[.val (.ref a1), .val (.int (2 : Int32)), .val (.int (3 : Int32))] []))
      refine gIloadN Xt9 hx (hb hby d_prog_28_method_8_4) rfl ?_
      refine gAloadN Xt9 hx (hb hby d_prog_28_method_8_5) rfl rfl ?_
      refine goAlen Xt9 hx hZ et9 Y1 (n := (3 : Int32)) (hb hby d_prog_28_method_8_6) rfl ?_
      refine gIcmpY Xt9 hx (hb hby d_prog_28_method_8_7) (pc' := 40) (XT.ii_ge_t (by decide)) (by decide) (by decide) ?_
      show Goes p e below _ (Tt9.setTop (mkF m 40 #[.val (.ref a1), .val (.int (2 : Int32)), .val (.int (3 : Int32))] []))
      refine gIloadN Xt9 hx (hb hby d_prog_28_method_8_40) rfl ?_
      exact goRetI Xt9 hx hret hlocks (hb hby d_prog_28_method_8_41) (by decide) (by decide) et9 (⟨_, _, rfl, N10, K12, Y1, Or.inr (Or.inr (Or.inl ⟨rfl, rfl, e1, e2, trivial⟩))⟩)
    · refine gIcmpN Xt9 hx (hb hby d_prog_28_method_8_22) (XT.ii_eq_f e2) ?_
      show Goes p e below _ (Tt9.setTop (mkF m 25 #[.val (.ref a1), .val (.int (2 : Int32)), .val (.int (2 : Int32))] []))
      refine gAloadN Xt9 hx (hb hby d_prog_28_method_8_25) rfl rfl ?_
      refine gIloadN Xt9 hx (hb hby d_prog_28_method_8_26) rfl ?_
      refine gIinc Xt9 hx (hb hby d_prog_28_method_8_27) (v := (3 : Int32)) rfl rfl (l' := #[.val (.ref a1), .val (.int (3 : Int32)), .val (.int (2 : Int32))]) rfl ?_
      refine gAloadN Xt9 hx (hb hby d_prog_28_method_8_30) rfl rfl ?_
      refine gIloadN Xt9 hx (hb hby d_prog_28_method_8_31) rfl ?_
      refine goIaload Xt9 hx hZ et9 Y1 (x := t2) (hb hby d_prog_28_method_8_32) (by decide) rfl ?_
      refine goIastore Xt9 hx hZ et9 Y1 (hb hby d_prog_28_method_8_33) (by decide) rfl (fun Tt13 ht13 Xt13 et13 Wt13 => ?_)
      have N14 := Fr.snoc Xt13 N10 fr1
      replace Y1 : Ary Z ht13 a1 .int [(.int t0), (.int t1), (.int t2)] := Y1.set Wt13 rfl
      have O15 : Ext Z.heap ht13 := extW O11 Wt13 fr1
      have K16 := K12.wr Wt13 (Or.inl (by simp))
      show Goes p e below _ (Tt13.setTop (mkF m 34 #[.val (.ref a1), .val (.int (3 : Int32)), .val (.int (2 : Int32))] []))
      refine gIinc Xt13 hx (hb hby d_prog_28_method_8_34) (v := (3 : Int32)) rfl rfl (l' := #[.val (.ref a1), .val (.int (3 : Int32)), .val (.int (3 : Int32))]) rfl ?_
      refine gGoto Xt13 hx (hb hby d_prog_28_method_8_37) (pc' := 4) (by decide) (by decide) ?_
      show Goes p e below _ (Tt13.setTop (mkF m 4 #[.val (.ref a1), .val (.int (3 : Int32)), .val (.int (3 : Int32))] []))
      refine gIloadN Xt13 hx (hb hby d_prog_28_method_8_4) rfl ?_
      refine gAloadN Xt13 hx (hb hby d_prog_28_method_8_5) rfl rfl ?_
      refine goAlen Xt13 hx hZ et13 Y1 (n := (3 : Int32)) (hb hby d_prog_28_method_8_6) rfl ?_
      refine gIcmpY Xt13 hx (hb hby d_prog_28_method_8_7) (pc' := 40) (XT.ii_ge_t (by decide)) (by decide) (by decide) ?_
      show Goes p e below _ (Tt13.setTop (mkF m 40 #[.val (.ref a1), .val (.int (3 : Int32)), .val (.int (3 : Int32))] []))
      refine gIloadN Xt13 hx (hb hby d_prog_28_method_8_40) rfl ?_
      exact goRetI Xt13 hx hret hlocks (hb hby d_prog_28_method_8_41) (by decide) (by decide) et13 (⟨_, _, rfl, N14, K16, Y1, Or.inr (Or.inr (Or.inr (⟨rfl, rfl, e1, e2, trivial⟩)))⟩)
theorem ef_rmD4 (m : MethodId) (x0 : Addr) : entryFrame m #[(.ref x0)] 3 = mkF m 0 #[.val (.ref x0), .unset, .unset] [] := by first | (simp [entryFrame, mkF, argsToLocals, Value.category]; done) | rfl
set_option maxRecDepth 65536 in
set_option maxHeartbeats 40000000 in
theorem rmD4 (l : Launch) (Z : State) (a0 : Array Value) (hw : ∀ d ∈ tables_1, d.before a0 Z = true) (t0 t1 t2 t3 : Int32) (a1 : Addr) (h0 : Heap) (O0 : Ext Z.heap h0) (Y1 : Ary Z h0 a1 .int [(.int t0), (.int t1), (.int t2), (.int t3)]) (fr1 : Z.heap.size ≤ a1) :
    Ctr l Z (⟨"com/example/querent/querent/Lookup", "distinct", "([I)I"⟩ : MethodName) prog_28_method_8_code 3 (some .int) [] ({ frames := 0, cells := 0, slots := 0, locals := 0 } : Room) #[(.ref a1)] h0 (fun v h L => ∃ (k : Int32) (ws : List Value), v = some (.int k) ∧ Fr Z.heap.size L ∧ Keep h0 h [a1] ∧ Ary Z h a1 .int ws ∧ ((k = (1 : Int32) ∧ ws = [Value.int t0, Value.int t1, Value.int t2, Value.int t3] ∧ t1 = t0 ∧ t2 = t1 ∧ t3 = t2 ∧ True) ∨ (k = (2 : Int32) ∧ ws = [Value.int t0, Value.int t3, Value.int t2, Value.int t3] ∧ t1 = t0 ∧ t2 = t1 ∧ ¬ t3 = t2 ∧ True) ∨ (k = (2 : Int32) ∧ ws = [Value.int t0, Value.int t2, Value.int t2, Value.int t3] ∧ t1 = t0 ∧ ¬ t2 = t1 ∧ t3 = t2 ∧ True) ∨ (k = (3 : Int32) ∧ ws = [Value.int t0, Value.int t2, Value.int t3, Value.int t3] ∧ t1 = t0 ∧ ¬ t2 = t1 ∧ ¬ t3 = t2 ∧ True) ∨ (k = (2 : Int32) ∧ ws = [Value.int t0, Value.int t1, Value.int t2, Value.int t3] ∧ ¬ t1 = t0 ∧ t2 = t1 ∧ t3 = t2 ∧ True) ∨ (k = (3 : Int32) ∧ ws = [Value.int t0, Value.int t1, Value.int t3, Value.int t3] ∧ ¬ t1 = t0 ∧ t2 = t1 ∧ ¬ t3 = t2 ∧ True) ∨ (k = (3 : Int32) ∧ ws = [Value.int t0, Value.int t1, Value.int t2, Value.int t3] ∧ ¬ t1 = t0 ∧ ¬ t2 = t1 ∧ t3 = t2 ∧ True) ∨ (k = (4 : Int32) ∧ ws = [Value.int t0, Value.int t1, Value.int t2, Value.int t3] ∧ ¬ t1 = t0 ∧ ¬ t2 = t1 ∧ ¬ t3 = t2 ∧ True))) := by
  refine ctr (plainFor_of_name pn_1) ?_
  intro p e s m below meth c s₁ hx hby hml hown hnm hret hlocks hZ X0 e0
  have N0 := Fr.nil Z.heap.size
  have hsz : ∀ {Ls : Array Slot}, Ls.size = 3 → Ls.size = c.maxLocals := fun q => q.trans hml.symm
  have K0 := Keep.refl h0 [a1]
  refine goE (ef_rmD4 m (a1)) ?_
  show Goes p e below _ (s₁.setTop (mkF m 0 #[.val (.ref a1), .unset, .unset] []))
  refine gIconst X0 hx (hb hby d_prog_28_method_8_0) (v := (0 : Int32)) rfl ?_
  refine gIstoreN X0 hx (hb hby d_prog_28_method_8_1) (l' := #[.val (.ref a1), .val (.int (0 : Int32)), .unset]) rfl ?_
  refine gIconst X0 hx (hb hby d_prog_28_method_8_2) (v := (0 : Int32)) rfl ?_
  refine gIstoreN X0 hx (hb hby d_prog_28_method_8_3) (l' := #[.val (.ref a1), .val (.int (0 : Int32)), .val (.int (0 : Int32))]) rfl ?_
  refine gIloadN X0 hx (hb hby d_prog_28_method_8_4) rfl ?_
  refine gAloadN X0 hx (hb hby d_prog_28_method_8_5) rfl rfl ?_
  refine goAlen X0 hx hZ e0 Y1 (n := (4 : Int32)) (hb hby d_prog_28_method_8_6) rfl ?_
  show Goes p e below _ (s₁.setTop (mkF m 7 #[.val (.ref a1), .val (.int (0 : Int32)), .val (.int (0 : Int32))] [(.int (4 : Int32)), (.int (0 : Int32))]))
  refine gIcmpN X0 hx (hb hby d_prog_28_method_8_7) (XT.ii_ge_f (by decide)) ?_
  show Goes p e below _ (s₁.setTop (mkF m 10 #[.val (.ref a1), .val (.int (0 : Int32)), .val (.int (0 : Int32))] []))
  refine gIloadN X0 hx (hb hby d_prog_28_method_8_10) rfl ?_
  refine gIfY X0 hx (hb hby d_prog_28_method_8_11) (pc' := 25) (XT.i0_eq_t (by decide)) (by decide) (by decide) ?_
  show Goes p e below _ (s₁.setTop (mkF m 25 #[.val (.ref a1), .val (.int (0 : Int32)), .val (.int (0 : Int32))] []))
  refine gAloadN X0 hx (hb hby d_prog_28_method_8_25) rfl rfl ?_
  refine gIloadN X0 hx (hb hby d_prog_28_method_8_26) rfl ?_
  refine gIinc X0 hx (hb hby d_prog_28_method_8_27) (v := (1 : Int32)) rfl rfl (l' := #[.val (.ref a1), .val (.int (1 : Int32)), .val (.int (0 : Int32))]) rfl ?_
  refine gAloadN X0 hx (hb hby d_prog_28_method_8_30) rfl rfl ?_
  refine gIloadN X0 hx (hb hby d_prog_28_method_8_31) rfl ?_
  refine goIaload X0 hx hZ e0 Y1 (x := t0) (hb hby d_prog_28_method_8_32) (by decide) rfl ?_
  refine goIastore X0 hx hZ e0 Y1 (hb hby d_prog_28_method_8_33) (by decide) rfl (fun Tt1 ht1 Xt1 et1 Wt1 => ?_)
  have N2 := Fr.snoc Xt1 N0 fr1
  replace Y1 : Ary Z ht1 a1 .int [(.int t0), (.int t1), (.int t2), (.int t3)] := Y1.set Wt1 rfl
  have O3 : Ext Z.heap ht1 := extW O0 Wt1 fr1
  have K4 := K0.wr Wt1 (Or.inl (by simp))
  show Goes p e below _ (Tt1.setTop (mkF m 34 #[.val (.ref a1), .val (.int (1 : Int32)), .val (.int (0 : Int32))] []))
  refine gIinc Xt1 hx (hb hby d_prog_28_method_8_34) (v := (1 : Int32)) rfl rfl (l' := #[.val (.ref a1), .val (.int (1 : Int32)), .val (.int (1 : Int32))]) rfl ?_
  refine gGoto Xt1 hx (hb hby d_prog_28_method_8_37) (pc' := 4) (by decide) (by decide) ?_
  show Goes p e below _ (Tt1.setTop (mkF m 4 #[.val (.ref a1), .val (.int (1 : Int32)), .val (.int (1 : Int32))] []))
  refine gIloadN Xt1 hx (hb hby d_prog_28_method_8_4) rfl ?_
  refine gAloadN Xt1 hx (hb hby d_prog_28_method_8_5) rfl rfl ?_
  refine goAlen Xt1 hx hZ et1 Y1 (n := (4 : Int32)) (hb hby d_prog_28_method_8_6) rfl ?_
  refine gIcmpN Xt1 hx (hb hby d_prog_28_method_8_7) (XT.ii_ge_f (by decide)) ?_
  show Goes p e below _ (Tt1.setTop (mkF m 10 #[.val (.ref a1), .val (.int (1 : Int32)), .val (.int (1 : Int32))] []))
  refine gIloadN Xt1 hx (hb hby d_prog_28_method_8_10) rfl ?_
  refine gIfN Xt1 hx (hb hby d_prog_28_method_8_11) (XT.i0_eq_f (by decide)) ?_
  show Goes p e below _ (Tt1.setTop (mkF m 14 #[.val (.ref a1), .val (.int (1 : Int32)), .val (.int (1 : Int32))] []))
  refine gAloadN Xt1 hx (hb hby d_prog_28_method_8_14) rfl rfl ?_
  refine gIloadN Xt1 hx (hb hby d_prog_28_method_8_15) rfl ?_
  refine goIaload Xt1 hx hZ et1 Y1 (x := t1) (hb hby d_prog_28_method_8_16) (by decide) rfl ?_
  refine gAloadN Xt1 hx (hb hby d_prog_28_method_8_17) rfl rfl ?_
  refine gIloadN Xt1 hx (hb hby d_prog_28_method_8_18) rfl ?_
  refine gIconst Xt1 hx (hb hby d_prog_28_method_8_19) (v := (1 : Int32)) rfl ?_
  refine gIsub Xt1 hx (hb hby d_prog_28_method_8_20) ?_
  show Goes p e below _ (Tt1.setTop (mkF m 21 #[.val (.ref a1), .val (.int (1 : Int32)), .val (.int (1 : Int32))] [(.int (0 : Int32)), (.ref a1), (.int t1)]))
  refine goIaload Xt1 hx hZ et1 Y1 (x := t0) (hb hby d_prog_28_method_8_21) (by decide) rfl ?_
  by_cases e1 : t1 = t0
  · refine gIcmpY Xt1 hx (hb hby d_prog_28_method_8_22) (pc' := 34) (XT.ii_eq_t e1) (by decide) (by decide) ?_
    show Goes p e below _ (Tt1.setTop (mkF m 34 #[.val (.ref a1), .val (.int (1 : Int32)), .val (.int (1 : Int32))] []))
    refine gIinc Xt1 hx (hb hby d_prog_28_method_8_34) (v := (2 : Int32)) rfl rfl (l' := #[.val (.ref a1), .val (.int (1 : Int32)), .val (.int (2 : Int32))]) rfl ?_
    refine gGoto Xt1 hx (hb hby d_prog_28_method_8_37) (pc' := 4) (by decide) (by decide) ?_
    show Goes p e below _ (Tt1.setTop (mkF m 4 #[.val (.ref a1), .val (.int (1 : Int32)), .val (.int (2 : Int32))] []))
    refine gIloadN Xt1 hx (hb hby d_prog_28_method_8_4) rfl ?_
    refine gAloadN Xt1 hx (hb hby d_prog_28_method_8_5) rfl rfl ?_
    refine goAlen Xt1 hx hZ et1 Y1 (n := (4 : Int32)) (hb hby d_prog_28_method_8_6) rfl ?_
    refine gIcmpN Xt1 hx (hb hby d_prog_28_method_8_7) (XT.ii_ge_f (by decide)) ?_
    show Goes p e below _ (Tt1.setTop (mkF m 10 #[.val (.ref a1), .val (.int (1 : Int32)), .val (.int (2 : Int32))] []))
    refine gIloadN Xt1 hx (hb hby d_prog_28_method_8_10) rfl ?_
    refine gIfN Xt1 hx (hb hby d_prog_28_method_8_11) (XT.i0_eq_f (by decide)) ?_
    show Goes p e below _ (Tt1.setTop (mkF m 14 #[.val (.ref a1), .val (.int (1 : Int32)), .val (.int (2 : Int32))] []))
    refine gAloadN Xt1 hx (hb hby d_prog_28_method_8_14) rfl rfl ?_
    refine gIloadN Xt1 hx (hb hby d_prog_28_method_8_15) rfl ?_
    refine goIaload Xt1 hx hZ et1 Y1 (x := t2) (hb hby d_prog_28_method_8_16) (by decide) rfl ?_
    refine gAloadN Xt1 hx (hb hby d_prog_28_method_8_17) rfl rfl ?_
    refine gIloadN Xt1 hx (hb hby d_prog_28_method_8_18) rfl ?_
    refine gIconst Xt1 hx (hb hby d_prog_28_method_8_19) (v := (1 : Int32)) rfl ?_
    refine gIsub Xt1 hx (hb hby d_prog_28_method_8_20) ?_
    show Goes p e below _ (Tt1.setTop (mkF m 21 #[.val (.ref a1), .val (.int (1 : Int32)), .val (.int (2 : Int32))] [(.int (1 : Int32)), (.ref a1), (.int t2)]))
    refine goIaload Xt1 hx hZ et1 Y1 (x := t1) (hb hby d_prog_28_method_8_21) (by decide) rfl ?_
    by_cases e2 : t2 = t1
    · refine gIcmpY Xt1 hx (hb hby d_prog_28_method_8_22) (pc' := 34) (XT.ii_eq_t e2) (by decide) (by decide) ?_
      show Goes p e below _ (Tt1.setTop (mkF m 34 #[.val (.ref a1), .val (.int (1 : Int32)), .val (.int (2 : Int32))] []))
      refine gIinc Xt1 hx (hb hby d_prog_28_method_8_34) (v := (3 : Int32)) rfl rfl (l' := #[.val (.ref a1), .val (.int (1 : Int32)), .val (.int (3 : Int32))]) rfl ?_
      refine gGoto Xt1 hx (hb hby d_prog_28_method_8_37) (pc' := 4) (by decide) (by decide) ?_
      show Goes p e below _ (Tt1.setTop (mkF m 4 #[.val (.ref a1), .val (.int (1 : Int32)), .val (.int (3 : Int32))] []))
      refine gIloadN Xt1 hx (hb hby d_prog_28_method_8_4) rfl ?_
      refine gAloadN Xt1 hx (hb hby d_prog_28_method_8_5) rfl rfl ?_
      refine goAlen Xt1 hx hZ et1 Y1 (n := (4 : Int32)) (hb hby d_prog_28_method_8_6) rfl ?_
      refine gIcmpN Xt1 hx (hb hby d_prog_28_method_8_7) (XT.ii_ge_f (by decide)) ?_
      show Goes p e below _ (Tt1.setTop (mkF m 10 #[.val (.ref a1), .val (.int (1 : Int32)), .val (.int (3 : Int32))] []))
      refine gIloadN Xt1 hx (hb hby d_prog_28_method_8_10) rfl ?_
      refine gIfN Xt1 hx (hb hby d_prog_28_method_8_11) (XT.i0_eq_f (by decide)) ?_
      show Goes p e below _ (Tt1.setTop (mkF m 14 #[.val (.ref a1), .val (.int (1 : Int32)), .val (.int (3 : Int32))] []))
      refine gAloadN Xt1 hx (hb hby d_prog_28_method_8_14) rfl rfl ?_
      refine gIloadN Xt1 hx (hb hby d_prog_28_method_8_15) rfl ?_
      refine goIaload Xt1 hx hZ et1 Y1 (x := t3) (hb hby d_prog_28_method_8_16) (by decide) rfl ?_
      refine gAloadN Xt1 hx (hb hby d_prog_28_method_8_17) rfl rfl ?_
      refine gIloadN Xt1 hx (hb hby d_prog_28_method_8_18) rfl ?_
      refine gIconst Xt1 hx (hb hby d_prog_28_method_8_19) (v := (1 : Int32)) rfl ?_
      refine gIsub Xt1 hx (hb hby d_prog_28_method_8_20) ?_
      show Goes p e below _ (Tt1.setTop (mkF m 21 #[.val (.ref a1), .val (.int (1 : Int32)), .val (.int (3 : Int32))] [(.int (2 : Int32)), (.ref a1), (.int t3)]))
      refine goIaload Xt1 hx hZ et1 Y1 (x := t2) (hb hby d_prog_28_method_8_21) (by decide) rfl ?_
      by_cases e3 : t3 = t2
      · refine gIcmpY Xt1 hx (hb hby d_prog_28_method_8_22) (pc' := 34) (XT.ii_eq_t e3) (by decide) (by decide) ?_
        show Goes p e below _ (Tt1.setTop (mkF m 34 #[.val (.ref a1), .val (.int (1 : Int32)), .val (.int (3 : Int32))] []))
        refine gIinc Xt1 hx (hb hby d_prog_28_method_8_34) (v := (4 : Int32)) rfl rfl (l' := #[.val (.ref a1), .val (.int (1 : Int32)), .val (.int (4 : Int32))]) rfl ?_
        refine gGoto Xt1 hx (hb hby d_prog_28_method_8_37) (pc' := 4) (by decide) (by decide) ?_
        show Goes p e below _ (Tt1.setTop (mkF m 4 #[.val (.ref a1), .val (.int (1 : Int32)), .val (.int (4 : Int32))] []))
        refine gIloadN Xt1 hx (hb hby d_prog_28_method_8_4) rfl ?_
        refine gAloadN Xt1 hx (hb hby d_prog_28_method_8_5) rfl rfl ?_
        refine goAlen Xt1 hx hZ et1 Y1 (n := (4 : Int32)) (hb hby d_prog_28_method_8_6) rfl ?_
        refine gIcmpY Xt1 hx (hb hby d_prog_28_method_8_7) (pc' := 40) (XT.ii_ge_t (by decide)) (by decide) (by decide) ?_
        show Goes p e below _ (Tt1.setTop (mkF m 40 #[.val (.ref a1), .val (.int (1 : Int32)), .val (.int (4 : Int32))] []))
        refine gIloadN Xt1 hx (hb hby d_prog_28_method_8_40) rfl ?_
        exact goRetI Xt1 hx hret hlocks (hb hby d_prog_28_method_8_41) (by decide) (by decide) et1 (⟨_, _, rfl, N2, K4, Y1, Or.inl ⟨rfl, rfl, e1, e2, e3, trivial⟩⟩)
      · refine gIcmpN Xt1 hx (hb hby d_prog_28_method_8_22) (XT.ii_eq_f e3) ?_
        show Goes p e below _ (Tt1.setTop (mkF m 25 #[.val (.ref a1), .val (.int (1 : Int32)), .val (.int (3 : Int32))] []))
        refine gAloadN Xt1 hx (hb hby d_prog_28_method_8_25) rfl rfl ?_
        refine gIloadN Xt1 hx (hb hby d_prog_28_method_8_26) rfl ?_
        refine gIinc Xt1 hx (hb hby d_prog_28_method_8_27) (v := (2 : Int32)) rfl rfl (l' := #[.val (.ref a1), .val (.int (2 : Int32)), .val (.int (3 : Int32))]) rfl ?_
        refine gAloadN Xt1 hx (hb hby d_prog_28_method_8_30) rfl rfl ?_
        refine gIloadN Xt1 hx (hb hby d_prog_28_method_8_31) rfl ?_
        refine goIaload Xt1 hx hZ et1 Y1 (x := t3) (hb hby d_prog_28_method_8_32) (by decide) rfl ?_
        refine goIastore Xt1 hx hZ et1 Y1 (hb hby d_prog_28_method_8_33) (by decide) rfl (fun Tt5 ht5 Xt5 et5 Wt5 => ?_)
        have N6 := Fr.snoc Xt5 N2 fr1
        replace Y1 : Ary Z ht5 a1 .int [(.int t0), (.int t3), (.int t2), (.int t3)] := Y1.set Wt5 rfl
        have O7 : Ext Z.heap ht5 := extW O3 Wt5 fr1
        have K8 := K4.wr Wt5 (Or.inl (by simp))
        show Goes p e below _ (Tt5.setTop (mkF m 34 #[.val (.ref a1), .val (.int (2 : Int32)), .val (.int (3 : Int32))] []))
        refine gIinc Xt5 hx (hb hby d_prog_28_method_8_34) (v := (4 : Int32)) rfl rfl (l' := #[.val (.ref a1), .val (.int (2 : Int32)), .val (.int (4 : Int32))]) rfl ?_
        refine gGoto Xt5 hx (hb hby d_prog_28_method_8_37) (pc' := 4) (by decide) (by decide) ?_
        show Goes p e below _ (Tt5.setTop (mkF m 4 #[.val (.ref a1), .val (.int (2 : Int32)), .val (.int (4 : Int32))] []))
        refine gIloadN Xt5 hx (hb hby d_prog_28_method_8_4) rfl ?_
        refine gAloadN Xt5 hx (hb hby d_prog_28_method_8_5) rfl rfl ?_
        refine goAlen Xt5 hx hZ et5 Y1 (n := (4 : Int32)) (hb hby d_prog_28_method_8_6) rfl ?_
        refine gIcmpY Xt5 hx (hb hby d_prog_28_method_8_7) (pc' := 40) (XT.ii_ge_t (by decide)) (by decide) (by decide) ?_
        show Goes p e below _ (Tt5.setTop (mkF m 40 #[.val (.ref a1), .val (.int (2 : Int32)), .val (.int (4 : Int32))] []))
        refine gIloadN Xt5 hx (hb hby d_prog_28_method_8_40) rfl ?_
        exact goRetI Xt5 hx hret hlocks (hb hby d_prog_28_method_8_41) (by decide) (by decide) et5 (⟨_, _, rfl, N6, K8, Y1, Or.inr (Or.inl ⟨rfl, rfl, e1, e2, e3, trivial⟩)⟩)
    · refine gIcmpN Xt1 hx (hb hby d_prog_28_method_8_22) (XT.ii_eq_f e2) ?_
      show Goes p e below _ (Tt1.setTop (mkF m 25 #[.val (.ref a1), .val (.int (1 : Int32)), .val (.int (2 : Int32))] []))
      refine gAloadN Xt1 hx (hb hby d_prog_28_method_8_25) rfl rfl ?_
      refine gIloadN Xt1 hx (hb hby d_prog_28_method_8_26) rfl ?_
      refine gIinc Xt1 hx (hb hby d_prog_28_method_8_27) (v := (2 : Int32)) rfl rfl (l' := #[.val (.ref a1), .val (.int (2 : Int32)), .val (.int (2 : Int32))]) rfl ?_
      refine gAloadN Xt1 hx (hb hby d_prog_28_method_8_30) rfl rfl ?_
      refine gIloadN Xt1 hx (hb hby d_prog_28_method_8_31) rfl ?_
      refine goIaload Xt1 hx hZ et1 Y1 (x := t2) (hb hby d_prog_28_method_8_32) (by decide) rfl ?_
      refine goIastore Xt1 hx hZ et1 Y1 (hb hby d_prog_28_method_8_33) (by decide) rfl (fun Tt9 ht9 Xt9 et9 Wt9 => ?_)
      have N10 := Fr.snoc Xt9 N2 fr1
      replace Y1 : Ary Z ht9 a1 .int [(.int t0), (.int t2), (.int t2), (.int t3)] := Y1.set Wt9 rfl
      have O11 : Ext Z.heap ht9 := extW O3 Wt9 fr1
      have K12 := K4.wr Wt9 (Or.inl (by simp))
      show Goes p e below _ (Tt9.setTop (mkF m 34 #[.val (.ref a1), .val (.int (2 : Int32)), .val (.int (2 : Int32))] []))
      refine gIinc Xt9 hx (hb hby d_prog_28_method_8_34) (v := (3 : Int32)) rfl rfl (l' := #[.val (.ref a1), .val (.int (2 : Int32)), .val (.int (3 : Int32))]) rfl ?_
      refine gGoto Xt9 hx (hb hby d_prog_28_method_8_37) (pc' := 4) (by decide) (by decide) ?_
      show Goes p e below _ (Tt9.setTop (mkF m 4 #[.val (.ref a1), .val (.int (2 : Int32)), .val (.int (3 : Int32))] []))
      refine gIloadN Xt9 hx (hb hby d_prog_28_method_8_4) rfl ?_
      refine gAloadN Xt9 hx (hb hby d_prog_28_method_8_5) rfl rfl ?_
      refine goAlen Xt9 hx hZ et9 Y1 (n := (4 : Int32)) (hb hby d_prog_28_method_8_6) rfl ?_
      refine gIcmpN Xt9 hx (hb hby d_prog_28_method_8_7) (XT.ii_ge_f (by decide)) ?_
      show Goes p e below _ (Tt9.setTop (mkF m 10 #[.val (.ref a1), .val (.int (2 : Int32)), .val (.int (3 : Int32))] []))
      refine gIloadN Xt9 hx (hb hby d_prog_28_method_8_10) rfl ?_
      refine gIfN Xt9 hx (hb hby d_prog_28_method_8_11) (XT.i0_eq_f (by decide)) ?_
      show Goes p e below _ (Tt9.setTop (mkF m 14 #[.val (.ref a1), .val (.int (2 : Int32)), .val (.int (3 : Int32))] []))
      refine gAloadN Xt9 hx (hb hby d_prog_28_method_8_14) rfl rfl ?_
      refine gIloadN Xt9 hx (hb hby d_prog_28_method_8_15) rfl ?_
      refine goIaload Xt9 hx hZ et9 Y1 (x := t3) (hb hby d_prog_28_method_8_16) (by decide) rfl ?_
      refine gAloadN Xt9 hx (hb hby d_prog_28_method_8_17) rfl rfl ?_
      refine gIloadN Xt9 hx (hb hby d_prog_28_method_8_18) rfl ?_
      refine gIconst Xt9 hx (hb hby d_prog_28_method_8_19) (v := (1 : Int32)) rfl ?_
      refine gIsub Xt9 hx (hb hby d_prog_28_method_8_20) ?_
      show Goes p e below _ (Tt9.setTop (mkF m 21 #[.val (.ref a1), .val (.int (2 : Int32)), .val (.int (3 : Int32))] [(.int (2 : Int32)), (.ref a1), (.int t3)]))
      refine goIaload Xt9 hx hZ et9 Y1 (x := t2) (hb hby d_prog_28_method_8_21) (by decide) rfl ?_
      by_cases e3 : t3 = t2
      · refine gIcmpY Xt9 hx (hb hby d_prog_28_method_8_22) (pc' := 34) (XT.ii_eq_t e3) (by decide) (by decide) ?_
        show Goes p e below _ (Tt9.setTop (mkF m 34 #[.val (.ref a1), .val (.int (2 : Int32)), .val (.int (3 : Int32))] []))
        refine gIinc Xt9 hx (hb hby d_prog_28_method_8_34) (v := (4 : Int32)) rfl rfl (l' := #[.val (.ref a1), .val (.int (2 : Int32)), .val (.int (4 : Int32))]) rfl ?_
        refine gGoto Xt9 hx (hb hby d_prog_28_method_8_37) (pc' := 4) (by decide) (by decide) ?_
        show Goes p e below _ (Tt9.setTop (mkF m 4 #[.val (.ref a1), .val (.int (2 : Int32)), .val (.int (4 : Int32))] []))
        refine gIloadN Xt9 hx (hb hby d_prog_28_method_8_4) rfl ?_
        refine gAloadN Xt9 hx (hb hby d_prog_28_method_8_5) rfl rfl ?_
        refine goAlen Xt9 hx hZ et9 Y1 (n := (4 : Int32)) (hb hby d_prog_28_method_8_6) rfl ?_
        refine gIcmpY Xt9 hx (hb hby d_prog_28_method_8_7) (pc' := 40) (XT.ii_ge_t (by decide)) (by decide) (by decide) ?_
        show Goes p e below _ (Tt9.setTop (mkF m 40 #[.val (.ref a1), .val (.int (2 : Int32)), .val (.int (4 : Int32))] []))
        refine gIloadN Xt9 hx (hb hby d_prog_28_method_8_40) rfl ?_
        exact goRetI Xt9 hx hret hlocks (hb hby d_prog_28_method_8_41) (by decide) (by decide) et9 (⟨_, _, rfl, N10, K12, Y1, Or.inr (Or.inr (Or.inl ⟨rfl, rfl, e1, e2, e3, trivial⟩))⟩)
      · refine gIcmpN Xt9 hx (hb hby d_prog_28_method_8_22) (XT.ii_eq_f e3) ?_
        show Goes p e below _ (Tt9.setTop (mkF m 25 #[.val (.ref a1), .val (.int (2 : Int32)), .val (.int (3 : Int32))] []))
        refine gAloadN Xt9 hx (hb hby d_prog_28_method_8_25) rfl rfl ?_
        refine gIloadN Xt9 hx (hb hby d_prog_28_method_8_26) rfl ?_
        refine gIinc Xt9 hx (hb hby d_prog_28_method_8_27) (v := (3 : Int32)) rfl rfl (l' := #[.val (.ref a1), .val (.int (3 : Int32)), .val (.int (3 : Int32))]) rfl ?_
        refine gAloadN Xt9 hx (hb hby d_prog_28_method_8_30) rfl rfl ?_
        refine gIloadN Xt9 hx (hb hby d_prog_28_method_8_31) rfl ?_
        refine goIaload Xt9 hx hZ et9 Y1 (x := t3) (hb hby d_prog_28_method_8_32) (by decide) rfl ?_
        refine goIastore Xt9 hx hZ et9 Y1 (hb hby d_prog_28_method_8_33) (by decide) rfl (fun Tt13 ht13 Xt13 et13 Wt13 => ?_)
        have N14 := Fr.snoc Xt13 N10 fr1
        replace Y1 : Ary Z ht13 a1 .int [(.int t0), (.int t2), (.int t3), (.int t3)] := Y1.set Wt13 rfl
        have O15 : Ext Z.heap ht13 := extW O11 Wt13 fr1
        have K16 := K12.wr Wt13 (Or.inl (by simp))
        show Goes p e below _ (Tt13.setTop (mkF m 34 #[.val (.ref a1), .val (.int (3 : Int32)), .val (.int (3 : Int32))] []))
        refine gIinc Xt13 hx (hb hby d_prog_28_method_8_34) (v := (4 : Int32)) rfl rfl (l' := #[.val (.ref a1), .val (.int (3 : Int32)), .val (.int (4 : Int32))]) rfl ?_
        refine gGoto Xt13 hx (hb hby d_prog_28_method_8_37) (pc' := 4) (by decide) (by decide) ?_
        show Goes p e below _ (Tt13.setTop (mkF m 4 #[.val (.ref a1), .val (.int (3 : Int32)), .val (.int (4 : Int32))] []))
        refine gIloadN Xt13 hx (hb hby d_prog_28_method_8_4) rfl ?_
        refine gAloadN Xt13 hx (hb hby d_prog_28_method_8_5) rfl rfl ?_
        refine goAlen Xt13 hx hZ et13 Y1 (n := (4 : Int32)) (hb hby d_prog_28_method_8_6) rfl ?_
        refine gIcmpY Xt13 hx (hb hby d_prog_28_method_8_7) (pc' := 40) (XT.ii_ge_t (by decide)) (by decide) (by decide) ?_
        show Goes p e below _ (Tt13.setTop (mkF m 40 #[.val (.ref a1), .val (.int (3 : Int32)), .val (.int (4 : Int32))] []))
        refine gIloadN Xt13 hx (hb hby d_prog_28_method_8_40) rfl ?_
        exact goRetI Xt13 hx hret hlocks (hb hby d_prog_28_method_8_41) (by decide) (by decide) et13 (⟨_, _, rfl, N14, K16, Y1, Or.inr (Or.inr (Or.inr (Or.inl ⟨rfl, rfl, e1, e2, e3, trivial⟩)))⟩)
  · refine gIcmpN Xt1 hx (hb hby d_prog_28_method_8_22) (XT.ii_eq_f e1) ?_
    show Goes p e below _ (Tt1.setTop (mkF m 25 #[.val (.ref a1), .val (.int (1 : Int32)), .val (.int (1 : Int32))] []))
    refine gAloadN Xt1 hx (hb hby d_prog_28_method_8_25) rfl rfl ?_
    refine gIloadN Xt1 hx (hb hby d_prog_28_method_8_26) rfl ?_
    refine gIinc Xt1 hx (hb hby d_prog_28_method_8_27) (v := (2 : Int32)) rfl rfl (l' := #[.val (.ref a1), .val (.int (2 : Int32)), .val (.int (1 : Int32))]) rfl ?_
    refine gAloadN Xt1 hx (hb hby d_prog_28_method_8_30) rfl rfl ?_
    refine gIloadN Xt1 hx (hb hby d_prog_28_method_8_31) rfl ?_
    refine goIaload Xt1 hx hZ et1 Y1 (x := t1) (hb hby d_prog_28_method_8_32) (by decide) rfl ?_
    refine goIastore Xt1 hx hZ et1 Y1 (hb hby d_prog_28_method_8_33) (by decide) rfl (fun Tt17 ht17 Xt17 et17 Wt17 => ?_)
    have N18 := Fr.snoc Xt17 N2 fr1
    replace Y1 : Ary Z ht17 a1 .int [(.int t0), (.int t1), (.int t2), (.int t3)] := Y1.set Wt17 rfl
    have O19 : Ext Z.heap ht17 := extW O3 Wt17 fr1
    have K20 := K4.wr Wt17 (Or.inl (by simp))
    show Goes p e below _ (Tt17.setTop (mkF m 34 #[.val (.ref a1), .val (.int (2 : Int32)), .val (.int (1 : Int32))] []))
    refine gIinc Xt17 hx (hb hby d_prog_28_method_8_34) (v := (2 : Int32)) rfl rfl (l' := #[.val (.ref a1), .val (.int (2 : Int32)), .val (.int (2 : Int32))]) rfl ?_
    refine gGoto Xt17 hx (hb hby d_prog_28_method_8_37) (pc' := 4) (by decide) (by decide) ?_
    show Goes p e below _ (Tt17.setTop (mkF m 4 #[.val (.ref a1), .val (.int (2 : Int32)), .val (.int (2 : Int32))] []))
    refine gIloadN Xt17 hx (hb hby d_prog_28_method_8_4) rfl ?_
    refine gAloadN Xt17 hx (hb hby d_prog_28_method_8_5) rfl rfl ?_
    refine goAlen Xt17 hx hZ et17 Y1 (n := (4 : Int32)) (hb hby d_prog_28_method_8_6) rfl ?_
    refine gIcmpN Xt17 hx (hb hby d_prog_28_method_8_7) (XT.ii_ge_f (by decide)) ?_
    show Goes p e below _ (Tt17.setTop (mkF m 10 #[.val (.ref a1), .val (.int (2 : Int32)), .val (.int (2 : Int32))] []))
    refine gIloadN Xt17 hx (hb hby d_prog_28_method_8_10) rfl ?_
    refine gIfN Xt17 hx (hb hby d_prog_28_method_8_11) (XT.i0_eq_f (by decide)) ?_
    show Goes p e below _ (Tt17.setTop (mkF m 14 #[.val (.ref a1), .val (.int (2 : Int32)), .val (.int (2 : Int32))] []))
    refine gAloadN Xt17 hx (hb hby d_prog_28_method_8_14) rfl rfl ?_
    refine gIloadN Xt17 hx (hb hby d_prog_28_method_8_15) rfl ?_
    refine goIaload Xt17 hx hZ et17 Y1 (x := t2) (hb hby d_prog_28_method_8_16) (by decide) rfl ?_
    refine gAloadN Xt17 hx (hb hby d_prog_28_method_8_17) rfl rfl ?_
    refine gIloadN Xt17 hx (hb hby d_prog_28_method_8_18) rfl ?_
    refine gIconst Xt17 hx (hb hby d_prog_28_method_8_19) (v := (1 : Int32)) rfl ?_
    refine gIsub Xt17 hx (hb hby d_prog_28_method_8_20) ?_
    show Goes p e below _ (Tt17.setTop (mkF m 21 #[.val (.ref a1), .val (.int (2 : Int32)), .val (.int (2 : Int32))] [(.int (1 : Int32)), (.ref a1), (.int t2)]))
    refine goIaload Xt17 hx hZ et17 Y1 (x := t1) (hb hby d_prog_28_method_8_21) (by decide) rfl ?_
    by_cases e2 : t2 = t1
    · refine gIcmpY Xt17 hx (hb hby d_prog_28_method_8_22) (pc' := 34) (XT.ii_eq_t e2) (by decide) (by decide) ?_
      show Goes p e below _ (Tt17.setTop (mkF m 34 #[.val (.ref a1), .val (.int (2 : Int32)), .val (.int (2 : Int32))] []))
      refine gIinc Xt17 hx (hb hby d_prog_28_method_8_34) (v := (3 : Int32)) rfl rfl (l' := #[.val (.ref a1), .val (.int (2 : Int32)), .val (.int (3 : Int32))]) rfl ?_
      refine gGoto Xt17 hx (hb hby d_prog_28_method_8_37) (pc' := 4) (by decide) (by decide) ?_
      show Goes p e below _ (Tt17.setTop (mkF m 4 #[.val (.ref a1), .val (.int (2 : Int32)), .val (.int (3 : Int32))] []))
      refine gIloadN Xt17 hx (hb hby d_prog_28_method_8_4) rfl ?_
      refine gAloadN Xt17 hx (hb hby d_prog_28_method_8_5) rfl rfl ?_
      refine goAlen Xt17 hx hZ et17 Y1 (n := (4 : Int32)) (hb hby d_prog_28_method_8_6) rfl ?_
      refine gIcmpN Xt17 hx (hb hby d_prog_28_method_8_7) (XT.ii_ge_f (by decide)) ?_
      show Goes p e below _ (Tt17.setTop (mkF m 10 #[.val (.ref a1), .val (.int (2 : Int32)), .val (.int (3 : Int32))] []))
      refine gIloadN Xt17 hx (hb hby d_prog_28_method_8_10) rfl ?_
      refine gIfN Xt17 hx (hb hby d_prog_28_method_8_11) (XT.i0_eq_f (by decide)) ?_
      show Goes p e below _ (Tt17.setTop (mkF m 14 #[.val (.ref a1), .val (.int (2 : Int32)), .val (.int (3 : Int32))] []))
      refine gAloadN Xt17 hx (hb hby d_prog_28_method_8_14) rfl rfl ?_
      refine gIloadN Xt17 hx (hb hby d_prog_28_method_8_15) rfl ?_
      refine goIaload Xt17 hx hZ et17 Y1 (x := t3) (hb hby d_prog_28_method_8_16) (by decide) rfl ?_
      refine gAloadN Xt17 hx (hb hby d_prog_28_method_8_17) rfl rfl ?_
      refine gIloadN Xt17 hx (hb hby d_prog_28_method_8_18) rfl ?_
      refine gIconst Xt17 hx (hb hby d_prog_28_method_8_19) (v := (1 : Int32)) rfl ?_
      refine gIsub Xt17 hx (hb hby d_prog_28_method_8_20) ?_
      show Goes p e below _ (Tt17.setTop (mkF m 21 #[.val (.ref a1), .val (.int (2 : Int32)), .val (.int (3 : Int32))] [(.int (2 : Int32)), (.ref a1), (.int t3)]))
      refine goIaload Xt17 hx hZ et17 Y1 (x := t2) (hb hby d_prog_28_method_8_21) (by decide) rfl ?_
      by_cases e3 : t3 = t2
      · refine gIcmpY Xt17 hx (hb hby d_prog_28_method_8_22) (pc' := 34) (XT.ii_eq_t e3) (by decide) (by decide) ?_
        show Goes p e below _ (Tt17.setTop (mkF m 34 #[.val (.ref a1), .val (.int (2 : Int32)), .val (.int (3 : Int32))] []))
        refine gIinc Xt17 hx (hb hby d_prog_28_method_8_34) (v := (4 : Int32)) rfl rfl (l' := #[.val (.ref a1), .val (.int (2 : Int32)), .val (.int (4 : Int32))]) rfl ?_
        refine gGoto Xt17 hx (hb hby d_prog_28_method_8_37) (pc' := 4) (by decide) (by decide) ?_
        show Goes p e below _ (Tt17.setTop (mkF m 4 #[.val (.ref a1), .val (.int (2 : Int32)), .val (.int (4 : Int32))] []))
        refine gIloadN Xt17 hx (hb hby d_prog_28_method_8_4) rfl ?_
        refine gAloadN Xt17 hx (hb hby d_prog_28_method_8_5) rfl rfl ?_
        refine goAlen Xt17 hx hZ et17 Y1 (n := (4 : Int32)) (hb hby d_prog_28_method_8_6) rfl ?_
        refine gIcmpY Xt17 hx (hb hby d_prog_28_method_8_7) (pc' := 40) (XT.ii_ge_t (by decide)) (by decide) (by decide) ?_
        show Goes p e below _ (Tt17.setTop (mkF m 40 #[.val (.ref a1), .val (.int (2 : Int32)), .val (.int (4 : Int32))] []))
        refine gIloadN Xt17 hx (hb hby d_prog_28_method_8_40) rfl ?_
        exact goRetI Xt17 hx hret hlocks (hb hby d_prog_28_method_8_41) (by decide) (by decide) et17 (⟨_, _, rfl, N18, K20, Y1, Or.inr (Or.inr (Or.inr (Or.inr (Or.inl ⟨rfl, rfl, e1, e2, e3, trivial⟩))))⟩)
      · refine gIcmpN Xt17 hx (hb hby d_prog_28_method_8_22) (XT.ii_eq_f e3) ?_
        show Goes p e below _ (Tt17.setTop (mkF m 25 #[.val (.ref a1), .val (.int (2 : Int32)), .val (.int (3 : Int32))] []))
        refine gAloadN Xt17 hx (hb hby d_prog_28_method_8_25) rfl rfl ?_
        refine gIloadN Xt17 hx (hb hby d_prog_28_method_8_26) rfl ?_
        refine gIinc Xt17 hx (hb hby d_prog_28_method_8_27) (v := (3 : Int32)) rfl rfl (l' := #[.val (.ref a1), .val (.int (3 : Int32)), .val (.int (3 : Int32))]) rfl ?_
        refine gAloadN Xt17 hx (hb hby d_prog_28_method_8_30) rfl rfl ?_
        refine gIloadN Xt17 hx (hb hby d_prog_28_method_8_31) rfl ?_
        refine goIaload Xt17 hx hZ et17 Y1 (x := t3) (hb hby d_prog_28_method_8_32) (by decide) rfl ?_
        refine goIastore Xt17 hx hZ et17 Y1 (hb hby d_prog_28_method_8_33) (by decide) rfl (fun Tt21 ht21 Xt21 et21 Wt21 => ?_)
        have N22 := Fr.snoc Xt21 N18 fr1
        replace Y1 : Ary Z ht21 a1 .int [(.int t0), (.int t1), (.int t3), (.int t3)] := Y1.set Wt21 rfl
        have O23 : Ext Z.heap ht21 := extW O19 Wt21 fr1
        have K24 := K20.wr Wt21 (Or.inl (by simp))
        show Goes p e below _ (Tt21.setTop (mkF m 34 #[.val (.ref a1), .val (.int (3 : Int32)), .val (.int (3 : Int32))] []))
        refine gIinc Xt21 hx (hb hby d_prog_28_method_8_34) (v := (4 : Int32)) rfl rfl (l' := #[.val (.ref a1), .val (.int (3 : Int32)), .val (.int (4 : Int32))]) rfl ?_
        refine gGoto Xt21 hx (hb hby d_prog_28_method_8_37) (pc' := 4) (by decide) (by decide) ?_
        show Goes p e below _ (Tt21.setTop (mkF m 4 #[.val (.ref a1), .val (.int (3 : Int32)), .val (.int (4 : Int32))] []))
        refine gIloadN Xt21 hx (hb hby d_prog_28_method_8_4) rfl ?_
        refine gAloadN Xt21 hx (hb hby d_prog_28_method_8_5) rfl rfl ?_
        refine goAlen Xt21 hx hZ et21 Y1 (n := (4 : Int32)) (hb hby d_prog_28_method_8_6) rfl ?_
        refine gIcmpY Xt21 hx (hb hby d_prog_28_method_8_7) (pc' := 40) (XT.ii_ge_t (by decide)) (by decide) (by decide) ?_
        show Goes p e below _ (Tt21.setTop (mkF m 40 #[.val (.ref a1), .val (.int (3 : Int32)), .val (.int (4 : Int32))] []))
        refine gIloadN Xt21 hx (hb hby d_prog_28_method_8_40) rfl ?_
        exact goRetI Xt21 hx hret hlocks (hb hby d_prog_28_method_8_41) (by decide) (by decide) et21 (⟨_, _, rfl, N22, K24, Y1, Or.inr (Or.inr (Or.inr (Or.inr (Or.inr (Or.inl ⟨rfl, rfl, e1, e2, e3, trivial⟩)))))⟩)
    · refine gIcmpN Xt17 hx (hb hby d_prog_28_method_8_22) (XT.ii_eq_f e2) ?_
      show Goes p e below _ (Tt17.setTop (mkF m 25 #[.val (.ref a1), .val (.int (2 : Int32)), .val (.int (2 : Int32))] []))
      refine gAloadN Xt17 hx (hb hby d_prog_28_method_8_25) rfl rfl ?_
      refine gIloadN Xt17 hx (hb hby d_prog_28_method_8_26) rfl ?_
      refine gIinc Xt17 hx (hb hby d_prog_28_method_8_27) (v := (3 : Int32)) rfl rfl (l' := #[.val (.ref a1), .val (.int (3 : Int32)), .val (.int (2 : Int32))]) rfl ?_
      refine gAloadN Xt17 hx (hb hby d_prog_28_method_8_30) rfl rfl ?_
      refine gIloadN Xt17 hx (hb hby d_prog_28_method_8_31) rfl ?_
      refine goIaload Xt17 hx hZ et17 Y1 (x := t2) (hb hby d_prog_28_method_8_32) (by decide) rfl ?_
      refine goIastore Xt17 hx hZ et17 Y1 (hb hby d_prog_28_method_8_33) (by decide) rfl (fun Tt25 ht25 Xt25 et25 Wt25 => ?_)
      have N26 := Fr.snoc Xt25 N18 fr1
      replace Y1 : Ary Z ht25 a1 .int [(.int t0), (.int t1), (.int t2), (.int t3)] := Y1.set Wt25 rfl
      have O27 : Ext Z.heap ht25 := extW O19 Wt25 fr1
      have K28 := K20.wr Wt25 (Or.inl (by simp))
      show Goes p e below _ (Tt25.setTop (mkF m 34 #[.val (.ref a1), .val (.int (3 : Int32)), .val (.int (2 : Int32))] []))
      refine gIinc Xt25 hx (hb hby d_prog_28_method_8_34) (v := (3 : Int32)) rfl rfl (l' := #[.val (.ref a1), .val (.int (3 : Int32)), .val (.int (3 : Int32))]) rfl ?_
      refine gGoto Xt25 hx (hb hby d_prog_28_method_8_37) (pc' := 4) (by decide) (by decide) ?_
      show Goes p e below _ (Tt25.setTop (mkF m 4 #[.val (.ref a1), .val (.int (3 : Int32)), .val (.int (3 : Int32))] []))
      refine gIloadN Xt25 hx (hb hby d_prog_28_method_8_4) rfl ?_
      refine gAloadN Xt25 hx (hb hby d_prog_28_method_8_5) rfl rfl ?_
      refine goAlen Xt25 hx hZ et25 Y1 (n := (4 : Int32)) (hb hby d_prog_28_method_8_6) rfl ?_
      refine gIcmpN Xt25 hx (hb hby d_prog_28_method_8_7) (XT.ii_ge_f (by decide)) ?_
      show Goes p e below _ (Tt25.setTop (mkF m 10 #[.val (.ref a1), .val (.int (3 : Int32)), .val (.int (3 : Int32))] []))
      refine gIloadN Xt25 hx (hb hby d_prog_28_method_8_10) rfl ?_
      refine gIfN Xt25 hx (hb hby d_prog_28_method_8_11) (XT.i0_eq_f (by decide)) ?_
      show Goes p e below _ (Tt25.setTop (mkF m 14 #[.val (.ref a1), .val (.int (3 : Int32)), .val (.int (3 : Int32))] []))
      refine gAloadN Xt25 hx (hb hby d_prog_28_method_8_14) rfl rfl ?_
      refine gIloadN Xt25 hx (hb hby d_prog_28_method_8_15) rfl ?_
      refine goIaload Xt25 hx hZ et25 Y1 (x := t3) (hb hby d_prog_28_method_8_16) (by decide) rfl ?_
      refine gAloadN Xt25 hx (hb hby d_prog_28_method_8_17) rfl rfl ?_
      refine gIloadN Xt25 hx (hb hby d_prog_28_method_8_18) rfl ?_
      refine gIconst Xt25 hx (hb hby d_prog_28_method_8_19) (v := (1 : Int32)) rfl ?_
      refine gIsub Xt25 hx (hb hby d_prog_28_method_8_20) ?_
      show Goes p e below _ (Tt25.setTop (mkF m 21 #[.val (.ref a1), .val (.int (3 : Int32)), .val (.int (3 : Int32))] [(.int (2 : Int32)), (.ref a1), (.int t3)]))
      refine goIaload Xt25 hx hZ et25 Y1 (x := t2) (hb hby d_prog_28_method_8_21) (by decide) rfl ?_
      by_cases e3 : t3 = t2
      · refine gIcmpY Xt25 hx (hb hby d_prog_28_method_8_22) (pc' := 34) (XT.ii_eq_t e3) (by decide) (by decide) ?_
        show Goes p e below _ (Tt25.setTop (mkF m 34 #[.val (.ref a1), .val (.int (3 : Int32)), .val (.int (3 : Int32))] []))
        refine gIinc Xt25 hx (hb hby d_prog_28_method_8_34) (v := (4 : Int32)) rfl rfl (l' := #[.val (.ref a1), .val (.int (3 : Int32)), .val (.int (4 : Int32))]) rfl ?_
        refine gGoto Xt25 hx (hb hby d_prog_28_method_8_37) (pc' := 4) (by decide) (by decide) ?_
        show Goes p e below _ (Tt25.setTop (mkF m 4 #[.val (.ref a1), .val (.int (3 : Int32)), .val (.int (4 : Int32))] []))
        refine gIloadN Xt25 hx (hb hby d_prog_28_method_8_4) rfl ?_
        refine gAloadN Xt25 hx (hb hby d_prog_28_method_8_5) rfl rfl ?_
        refine goAlen Xt25 hx hZ et25 Y1 (n := (4 : Int32)) (hb hby d_prog_28_method_8_6) rfl ?_
        refine gIcmpY Xt25 hx (hb hby d_prog_28_method_8_7) (pc' := 40) (XT.ii_ge_t (by decide)) (by decide) (by decide) ?_
        show Goes p e below _ (Tt25.setTop (mkF m 40 #[.val (.ref a1), .val (.int (3 : Int32)), .val (.int (4 : Int32))] []))
        refine gIloadN Xt25 hx (hb hby d_prog_28_method_8_40) rfl ?_
        exact goRetI Xt25 hx hret hlocks (hb hby d_prog_28_method_8_41) (by decide) (by decide) et25 (⟨_, _, rfl, N26, K28, Y1, Or.inr (Or.inr (Or.inr (Or.inr (Or.inr (Or.inr (Or.inl ⟨rfl, rfl, e1, e2, e3, trivial⟩))))))⟩)
      · refine gIcmpN Xt25 hx (hb hby d_prog_28_method_8_22) (XT.ii_eq_f e3) ?_
        show Goes p e below _ (Tt25.setTop (mkF m 25 #[.val (.ref a1), .val (.int (3 : Int32)), .val (.int (3 : Int32))] []))
        refine gAloadN Xt25 hx (hb hby d_prog_28_method_8_25) rfl rfl ?_
        refine gIloadN Xt25 hx (hb hby d_prog_28_method_8_26) rfl ?_
        refine gIinc Xt25 hx (hb hby d_prog_28_method_8_27) (v := (4 : Int32)) rfl rfl (l' := #[.val (.ref a1), .val (.int (4 : Int32)), .val (.int (3 : Int32))]) rfl ?_
        refine gAloadN Xt25 hx (hb hby d_prog_28_method_8_30) rfl rfl ?_
        refine gIloadN Xt25 hx (hb hby d_prog_28_method_8_31) rfl ?_
        refine goIaload Xt25 hx hZ et25 Y1 (x := t3) (hb hby d_prog_28_method_8_32) (by decide) rfl ?_
        refine goIastore Xt25 hx hZ et25 Y1 (hb hby d_prog_28_method_8_33) (by decide) rfl (fun Tt29 ht29 Xt29 et29 Wt29 => ?_)
        have N30 := Fr.snoc Xt29 N26 fr1
        replace Y1 : Ary Z ht29 a1 .int [(.int t0), (.int t1), (.int t2), (.int t3)] := Y1.set Wt29 rfl
        have O31 : Ext Z.heap ht29 := extW O27 Wt29 fr1
        have K32 := K28.wr Wt29 (Or.inl (by simp))
        show Goes p e below _ (Tt29.setTop (mkF m 34 #[.val (.ref a1), .val (.int (4 : Int32)), .val (.int (3 : Int32))] []))
        refine gIinc Xt29 hx (hb hby d_prog_28_method_8_34) (v := (4 : Int32)) rfl rfl (l' := #[.val (.ref a1), .val (.int (4 : Int32)), .val (.int (4 : Int32))]) rfl ?_
        refine gGoto Xt29 hx (hb hby d_prog_28_method_8_37) (pc' := 4) (by decide) (by decide) ?_
        show Goes p e below _ (Tt29.setTop (mkF m 4 #[.val (.ref a1), .val (.int (4 : Int32)), .val (.int (4 : Int32))] []))
        refine gIloadN Xt29 hx (hb hby d_prog_28_method_8_4) rfl ?_
        refine gAloadN Xt29 hx (hb hby d_prog_28_method_8_5) rfl rfl ?_
        refine goAlen Xt29 hx hZ et29 Y1 (n := (4 : Int32)) (hb hby d_prog_28_method_8_6) rfl ?_
        refine gIcmpY Xt29 hx (hb hby d_prog_28_method_8_7) (pc' := 40) (XT.ii_ge_t (by decide)) (by decide) (by decide) ?_
        show Goes p e below _ (Tt29.setTop (mkF m 40 #[.val (.ref a1), .val (.int (4 : Int32)), .val (.int (4 : Int32))] []))
        refine gIloadN Xt29 hx (hb hby d_prog_28_method_8_40) rfl ?_
        exact goRetI Xt29 hx hret hlocks (hb hby d_prog_28_method_8_41) (by decide) (by decide) et29 (⟨_, _, rfl, N30, K32, Y1, Or.inr (Or.inr (Or.inr (Or.inr (Or.inr (Or.inr (Or.inr (⟨rfl, rfl, e1, e2, e3, trivial⟩)))))))⟩)
def own_has1 (x0 v : Int32) : Int32 := if x0 = v then 1 else 0
theorem d_method_5_0 : decode method_5_code 0 = .ok (.iload_n 1, 1) := by decide +kernel
theorem d_method_5_1 : decode method_5_code 1 = .ok (.ifCond .le 10, 3) := by decide +kernel
theorem d_method_5_4 : decode method_5_code 4 = .ok (.aload_n 0, 1) := by decide +kernel
theorem d_method_5_5 : decode method_5_code 5 = .ok (.iconst 0, 1) := by decide +kernel
theorem d_method_5_6 : decode method_5_code 6 = .ok (.iaload, 1) := by decide +kernel
theorem d_method_5_7 : decode method_5_code 7 = .ok (.iload_n 2, 1) := by decide +kernel
theorem d_method_5_8 : decode method_5_code 8 = .ok (.if_icmp .eq 39, 3) := by decide +kernel
theorem d_method_5_47 : decode method_5_code 47 = .ok (.iconst 1, 1) := by decide +kernel
theorem d_method_5_48 : decode method_5_code 48 = .ok (.goto 4, 3) := by decide +kernel
theorem d_method_5_52 : decode method_5_code 52 = .ok (.ireturn, 1) := by decide +kernel
theorem d_method_5_11 : decode method_5_code 11 = .ok (.iload_n 1, 1) := by decide +kernel
theorem d_method_5_12 : decode method_5_code 12 = .ok (.iconst 1, 1) := by decide +kernel
theorem d_method_5_13 : decode method_5_code 13 = .ok (.if_icmp .le 10, 3) := by decide +kernel
theorem d_method_5_23 : decode method_5_code 23 = .ok (.iload_n 1, 1) := by decide +kernel
theorem d_method_5_24 : decode method_5_code 24 = .ok (.iconst 2, 1) := by decide +kernel
theorem d_method_5_25 : decode method_5_code 25 = .ok (.if_icmp .le 10, 3) := by decide +kernel
theorem d_method_5_35 : decode method_5_code 35 = .ok (.iload_n 1, 1) := by decide +kernel
theorem d_method_5_36 : decode method_5_code 36 = .ok (.iconst 3, 1) := by decide +kernel
theorem d_method_5_37 : decode method_5_code 37 = .ok (.if_icmp .le 14, 3) := by decide +kernel
theorem d_method_5_51 : decode method_5_code 51 = .ok (.iconst 0, 1) := by decide +kernel
theorem ef_rmH1 (m : MethodId) (x0 : Addr) (x1 : Int32) (x2 : Int32) : entryFrame m #[(.ref x0), (.int x1), (.int x2)] 3 = mkF m 0 #[.val (.ref x0), .val (.int x1), .val (.int x2)] [] := by first | (simp [entryFrame, mkF, argsToLocals, Value.category]; done) | rfl
set_option maxRecDepth 65536 in
set_option maxHeartbeats 40000000 in
theorem rmH1 (l : Launch) (Z : State) (a0 : Array Value) (hw : ∀ d ∈ tables_1, d.before a0 Z = true) (x0 : Int32) (rest : List Value) (a1 : Addr) (p3 : Int32) (h0 : Heap) (O0 : Ext Z.heap h0) (Y1 : Ary Z h0 a1 .int (.int x0 :: rest)) :
    Ctr l Z (⟨"com/example/querent/querent/LookupDistinctPinLaw", "has", "([III)Z"⟩ : MethodName) method_5_code 3 (some .boolean) [] ({ frames := 0, cells := 0, slots := 0, locals := 0 } : Room) #[(.ref a1), (.int (1 : Int32)), (.int p3)] h0 (fun v h L => v = some (.int (own_has1 x0 p3)) ∧ Fr Z.heap.size L ∧ h = h0) := by
  refine ctr (plainFor_of_name pn_0) ?_
  intro p e s m below meth c s₁ hx hby hml hown hnm hret hlocks hZ X0 e0
  have N0 := Fr.nil Z.heap.size
  have hsz : ∀ {Ls : Array Slot}, Ls.size = 3 → Ls.size = c.maxLocals := fun q => q.trans hml.symm
  refine goE (ef_rmH1 m (a1) ((1 : Int32)) (p3)) ?_
  show Goes p e below _ (s₁.setTop (mkF m 0 #[.val (.ref a1), .val (.int (1 : Int32)), .val (.int p3)] []))
  refine gIloadN X0 hx (hb hby d_method_5_0) rfl ?_
  refine gIfN X0 hx (hb hby d_method_5_1) (XT.i0_le_f (by decide)) ?_
  show Goes p e below _ (s₁.setTop (mkF m 4 #[.val (.ref a1), .val (.int (1 : Int32)), .val (.int p3)] []))
  refine gAloadN X0 hx (hb hby d_method_5_4) rfl rfl ?_
  refine gIconst X0 hx (hb hby d_method_5_5) (v := (0 : Int32)) rfl ?_
  refine goIaload X0 hx hZ e0 Y1 (x := x0) (hb hby d_method_5_6) (by decide) rfl ?_
  refine gIloadN X0 hx (hb hby d_method_5_7) rfl ?_
  by_cases g0 : x0 = p3
  · refine gIcmpY X0 hx (hb hby d_method_5_8) (pc' := 47) (XT.ii_eq_t g0) (by decide) (by decide) ?_
    show Goes p e below _ (s₁.setTop (mkF m 47 #[.val (.ref a1), .val (.int (1 : Int32)), .val (.int p3)] []))
    refine gIconst X0 hx (hb hby d_method_5_47) (v := (1 : Int32)) rfl ?_
    refine gGoto X0 hx (hb hby d_method_5_48) (pc' := 52) (by decide) (by decide) ?_
    show Goes p e below _ (s₁.setTop (mkF m 52 #[.val (.ref a1), .val (.int (1 : Int32)), .val (.int p3)] [(.int (1 : Int32))]))
    exact goRetN X0 hx (t := .boolean) hret hlocks (by simp) (hb hby d_method_5_52) (z' := (1 : Int32)) rfl (by decide) (by decide) e0 (⟨by simp [own_has1, g0], N0, rfl⟩)
  · refine gIcmpN X0 hx (hb hby d_method_5_8) (XT.ii_eq_f g0) ?_
    show Goes p e below _ (s₁.setTop (mkF m 11 #[.val (.ref a1), .val (.int (1 : Int32)), .val (.int p3)] []))
    refine gIloadN X0 hx (hb hby d_method_5_11) rfl ?_
    refine gIconst X0 hx (hb hby d_method_5_12) (v := (1 : Int32)) rfl ?_
    refine gIcmpY X0 hx (hb hby d_method_5_13) (pc' := 23) (XT.ii_le_t (by decide)) (by decide) (by decide) ?_
    show Goes p e below _ (s₁.setTop (mkF m 23 #[.val (.ref a1), .val (.int (1 : Int32)), .val (.int p3)] []))
    refine gIloadN X0 hx (hb hby d_method_5_23) rfl ?_
    refine gIconst X0 hx (hb hby d_method_5_24) (v := (2 : Int32)) rfl ?_
    refine gIcmpY X0 hx (hb hby d_method_5_25) (pc' := 35) (XT.ii_le_t (by decide)) (by decide) (by decide) ?_
    show Goes p e below _ (s₁.setTop (mkF m 35 #[.val (.ref a1), .val (.int (1 : Int32)), .val (.int p3)] []))
    refine gIloadN X0 hx (hb hby d_method_5_35) rfl ?_
    refine gIconst X0 hx (hb hby d_method_5_36) (v := (3 : Int32)) rfl ?_
    refine gIcmpY X0 hx (hb hby d_method_5_37) (pc' := 51) (XT.ii_le_t (by decide)) (by decide) (by decide) ?_
    show Goes p e below _ (s₁.setTop (mkF m 51 #[.val (.ref a1), .val (.int (1 : Int32)), .val (.int p3)] []))
    refine gIconst X0 hx (hb hby d_method_5_51) (v := (0 : Int32)) rfl ?_
    exact goRetN X0 hx (t := .boolean) hret hlocks (by simp) (hb hby d_method_5_52) (z' := (0 : Int32)) rfl (by decide) (by decide) e0 (⟨by simp [own_has1, g0], N0, rfl⟩)
def own_has2 (x0 x1 v : Int32) : Int32 := if x0 = v ∨ x1 = v then 1 else 0
theorem d_method_5_16 : decode method_5_code 16 = .ok (.aload_n 0, 1) := by decide +kernel
theorem d_method_5_17 : decode method_5_code 17 = .ok (.iconst 1, 1) := by decide +kernel
theorem d_method_5_18 : decode method_5_code 18 = .ok (.iaload, 1) := by decide +kernel
theorem d_method_5_19 : decode method_5_code 19 = .ok (.iload_n 2, 1) := by decide +kernel
theorem d_method_5_20 : decode method_5_code 20 = .ok (.if_icmp .eq 27, 3) := by decide +kernel
theorem ef_rmH2 (m : MethodId) (x0 : Addr) (x1 : Int32) (x2 : Int32) : entryFrame m #[(.ref x0), (.int x1), (.int x2)] 3 = mkF m 0 #[.val (.ref x0), .val (.int x1), .val (.int x2)] [] := by first | (simp [entryFrame, mkF, argsToLocals, Value.category]; done) | rfl
set_option maxRecDepth 65536 in
set_option maxHeartbeats 40000000 in
theorem rmH2 (l : Launch) (Z : State) (a0 : Array Value) (hw : ∀ d ∈ tables_1, d.before a0 Z = true) (x0 x1 : Int32) (rest : List Value) (a1 : Addr) (p3 : Int32) (h0 : Heap) (O0 : Ext Z.heap h0) (Y1 : Ary Z h0 a1 .int (.int x0 :: .int x1 :: rest)) :
    Ctr l Z (⟨"com/example/querent/querent/LookupDistinctPinLaw", "has", "([III)Z"⟩ : MethodName) method_5_code 3 (some .boolean) [] ({ frames := 0, cells := 0, slots := 0, locals := 0 } : Room) #[(.ref a1), (.int (2 : Int32)), (.int p3)] h0 (fun v h L => v = some (.int (own_has2 x0 x1 p3)) ∧ Fr Z.heap.size L ∧ h = h0) := by
  refine ctr (plainFor_of_name pn_0) ?_
  intro p e s m below meth c s₁ hx hby hml hown hnm hret hlocks hZ X0 e0
  have N0 := Fr.nil Z.heap.size
  have hsz : ∀ {Ls : Array Slot}, Ls.size = 3 → Ls.size = c.maxLocals := fun q => q.trans hml.symm
  refine goE (ef_rmH2 m (a1) ((2 : Int32)) (p3)) ?_
  show Goes p e below _ (s₁.setTop (mkF m 0 #[.val (.ref a1), .val (.int (2 : Int32)), .val (.int p3)] []))
  refine gIloadN X0 hx (hb hby d_method_5_0) rfl ?_
  refine gIfN X0 hx (hb hby d_method_5_1) (XT.i0_le_f (by decide)) ?_
  show Goes p e below _ (s₁.setTop (mkF m 4 #[.val (.ref a1), .val (.int (2 : Int32)), .val (.int p3)] []))
  refine gAloadN X0 hx (hb hby d_method_5_4) rfl rfl ?_
  refine gIconst X0 hx (hb hby d_method_5_5) (v := (0 : Int32)) rfl ?_
  refine goIaload X0 hx hZ e0 Y1 (x := x0) (hb hby d_method_5_6) (by decide) rfl ?_
  refine gIloadN X0 hx (hb hby d_method_5_7) rfl ?_
  by_cases g0 : x0 = p3
  · refine gIcmpY X0 hx (hb hby d_method_5_8) (pc' := 47) (XT.ii_eq_t g0) (by decide) (by decide) ?_
    show Goes p e below _ (s₁.setTop (mkF m 47 #[.val (.ref a1), .val (.int (2 : Int32)), .val (.int p3)] []))
    refine gIconst X0 hx (hb hby d_method_5_47) (v := (1 : Int32)) rfl ?_
    refine gGoto X0 hx (hb hby d_method_5_48) (pc' := 52) (by decide) (by decide) ?_
    show Goes p e below _ (s₁.setTop (mkF m 52 #[.val (.ref a1), .val (.int (2 : Int32)), .val (.int p3)] [(.int (1 : Int32))]))
    exact goRetN X0 hx (t := .boolean) hret hlocks (by simp) (hb hby d_method_5_52) (z' := (1 : Int32)) rfl (by decide) (by decide) e0 (⟨by simp [own_has2, g0], N0, rfl⟩)
  · refine gIcmpN X0 hx (hb hby d_method_5_8) (XT.ii_eq_f g0) ?_
    show Goes p e below _ (s₁.setTop (mkF m 11 #[.val (.ref a1), .val (.int (2 : Int32)), .val (.int p3)] []))
    refine gIloadN X0 hx (hb hby d_method_5_11) rfl ?_
    refine gIconst X0 hx (hb hby d_method_5_12) (v := (1 : Int32)) rfl ?_
    refine gIcmpN X0 hx (hb hby d_method_5_13) (XT.ii_le_f (by decide)) ?_
    show Goes p e below _ (s₁.setTop (mkF m 16 #[.val (.ref a1), .val (.int (2 : Int32)), .val (.int p3)] []))
    refine gAloadN X0 hx (hb hby d_method_5_16) rfl rfl ?_
    refine gIconst X0 hx (hb hby d_method_5_17) (v := (1 : Int32)) rfl ?_
    refine goIaload X0 hx hZ e0 Y1 (x := x1) (hb hby d_method_5_18) (by decide) rfl ?_
    refine gIloadN X0 hx (hb hby d_method_5_19) rfl ?_
    by_cases g1 : x1 = p3
    · refine gIcmpY X0 hx (hb hby d_method_5_20) (pc' := 47) (XT.ii_eq_t g1) (by decide) (by decide) ?_
      show Goes p e below _ (s₁.setTop (mkF m 47 #[.val (.ref a1), .val (.int (2 : Int32)), .val (.int p3)] []))
      refine gIconst X0 hx (hb hby d_method_5_47) (v := (1 : Int32)) rfl ?_
      refine gGoto X0 hx (hb hby d_method_5_48) (pc' := 52) (by decide) (by decide) ?_
      show Goes p e below _ (s₁.setTop (mkF m 52 #[.val (.ref a1), .val (.int (2 : Int32)), .val (.int p3)] [(.int (1 : Int32))]))
      exact goRetN X0 hx (t := .boolean) hret hlocks (by simp) (hb hby d_method_5_52) (z' := (1 : Int32)) rfl (by decide) (by decide) e0 (⟨by simp [own_has2, g0, g1], N0, rfl⟩)
    · refine gIcmpN X0 hx (hb hby d_method_5_20) (XT.ii_eq_f g1) ?_
      show Goes p e below _ (s₁.setTop (mkF m 23 #[.val (.ref a1), .val (.int (2 : Int32)), .val (.int p3)] []))
      refine gIloadN X0 hx (hb hby d_method_5_23) rfl ?_
      refine gIconst X0 hx (hb hby d_method_5_24) (v := (2 : Int32)) rfl ?_
      refine gIcmpY X0 hx (hb hby d_method_5_25) (pc' := 35) (XT.ii_le_t (by decide)) (by decide) (by decide) ?_
      show Goes p e below _ (s₁.setTop (mkF m 35 #[.val (.ref a1), .val (.int (2 : Int32)), .val (.int p3)] []))
      refine gIloadN X0 hx (hb hby d_method_5_35) rfl ?_
      refine gIconst X0 hx (hb hby d_method_5_36) (v := (3 : Int32)) rfl ?_
      refine gIcmpY X0 hx (hb hby d_method_5_37) (pc' := 51) (XT.ii_le_t (by decide)) (by decide) (by decide) ?_
      show Goes p e below _ (s₁.setTop (mkF m 51 #[.val (.ref a1), .val (.int (2 : Int32)), .val (.int p3)] []))
      refine gIconst X0 hx (hb hby d_method_5_51) (v := (0 : Int32)) rfl ?_
      exact goRetN X0 hx (t := .boolean) hret hlocks (by simp) (hb hby d_method_5_52) (z' := (0 : Int32)) rfl (by decide) (by decide) e0 (⟨by simp [own_has2, g0, g1], N0, rfl⟩)
def own_has3 (x0 x1 x2 v : Int32) : Int32 := if x0 = v ∨ x1 = v ∨ x2 = v then 1 else 0
theorem d_method_5_28 : decode method_5_code 28 = .ok (.aload_n 0, 1) := by decide +kernel
theorem d_method_5_29 : decode method_5_code 29 = .ok (.iconst 2, 1) := by decide +kernel
theorem d_method_5_30 : decode method_5_code 30 = .ok (.iaload, 1) := by decide +kernel
theorem d_method_5_31 : decode method_5_code 31 = .ok (.iload_n 2, 1) := by decide +kernel
theorem d_method_5_32 : decode method_5_code 32 = .ok (.if_icmp .eq 15, 3) := by decide +kernel
theorem ef_rmH3 (m : MethodId) (x0 : Addr) (x1 : Int32) (x2 : Int32) : entryFrame m #[(.ref x0), (.int x1), (.int x2)] 3 = mkF m 0 #[.val (.ref x0), .val (.int x1), .val (.int x2)] [] := by first | (simp [entryFrame, mkF, argsToLocals, Value.category]; done) | rfl
set_option maxRecDepth 65536 in
set_option maxHeartbeats 40000000 in
theorem rmH3 (l : Launch) (Z : State) (a0 : Array Value) (hw : ∀ d ∈ tables_1, d.before a0 Z = true) (x0 x1 x2 : Int32) (rest : List Value) (a1 : Addr) (p3 : Int32) (h0 : Heap) (O0 : Ext Z.heap h0) (Y1 : Ary Z h0 a1 .int (.int x0 :: .int x1 :: .int x2 :: rest)) :
    Ctr l Z (⟨"com/example/querent/querent/LookupDistinctPinLaw", "has", "([III)Z"⟩ : MethodName) method_5_code 3 (some .boolean) [] ({ frames := 0, cells := 0, slots := 0, locals := 0 } : Room) #[(.ref a1), (.int (3 : Int32)), (.int p3)] h0 (fun v h L => v = some (.int (own_has3 x0 x1 x2 p3)) ∧ Fr Z.heap.size L ∧ h = h0) := by
  refine ctr (plainFor_of_name pn_0) ?_
  intro p e s m below meth c s₁ hx hby hml hown hnm hret hlocks hZ X0 e0
  have N0 := Fr.nil Z.heap.size
  have hsz : ∀ {Ls : Array Slot}, Ls.size = 3 → Ls.size = c.maxLocals := fun q => q.trans hml.symm
  refine goE (ef_rmH3 m (a1) ((3 : Int32)) (p3)) ?_
  show Goes p e below _ (s₁.setTop (mkF m 0 #[.val (.ref a1), .val (.int (3 : Int32)), .val (.int p3)] []))
  refine gIloadN X0 hx (hb hby d_method_5_0) rfl ?_
  refine gIfN X0 hx (hb hby d_method_5_1) (XT.i0_le_f (by decide)) ?_
  show Goes p e below _ (s₁.setTop (mkF m 4 #[.val (.ref a1), .val (.int (3 : Int32)), .val (.int p3)] []))
  refine gAloadN X0 hx (hb hby d_method_5_4) rfl rfl ?_
  refine gIconst X0 hx (hb hby d_method_5_5) (v := (0 : Int32)) rfl ?_
  refine goIaload X0 hx hZ e0 Y1 (x := x0) (hb hby d_method_5_6) (by decide) rfl ?_
  refine gIloadN X0 hx (hb hby d_method_5_7) rfl ?_
  by_cases g0 : x0 = p3
  · refine gIcmpY X0 hx (hb hby d_method_5_8) (pc' := 47) (XT.ii_eq_t g0) (by decide) (by decide) ?_
    show Goes p e below _ (s₁.setTop (mkF m 47 #[.val (.ref a1), .val (.int (3 : Int32)), .val (.int p3)] []))
    refine gIconst X0 hx (hb hby d_method_5_47) (v := (1 : Int32)) rfl ?_
    refine gGoto X0 hx (hb hby d_method_5_48) (pc' := 52) (by decide) (by decide) ?_
    show Goes p e below _ (s₁.setTop (mkF m 52 #[.val (.ref a1), .val (.int (3 : Int32)), .val (.int p3)] [(.int (1 : Int32))]))
    exact goRetN X0 hx (t := .boolean) hret hlocks (by simp) (hb hby d_method_5_52) (z' := (1 : Int32)) rfl (by decide) (by decide) e0 (⟨by simp [own_has3, g0], N0, rfl⟩)
  · refine gIcmpN X0 hx (hb hby d_method_5_8) (XT.ii_eq_f g0) ?_
    show Goes p e below _ (s₁.setTop (mkF m 11 #[.val (.ref a1), .val (.int (3 : Int32)), .val (.int p3)] []))
    refine gIloadN X0 hx (hb hby d_method_5_11) rfl ?_
    refine gIconst X0 hx (hb hby d_method_5_12) (v := (1 : Int32)) rfl ?_
    refine gIcmpN X0 hx (hb hby d_method_5_13) (XT.ii_le_f (by decide)) ?_
    show Goes p e below _ (s₁.setTop (mkF m 16 #[.val (.ref a1), .val (.int (3 : Int32)), .val (.int p3)] []))
    refine gAloadN X0 hx (hb hby d_method_5_16) rfl rfl ?_
    refine gIconst X0 hx (hb hby d_method_5_17) (v := (1 : Int32)) rfl ?_
    refine goIaload X0 hx hZ e0 Y1 (x := x1) (hb hby d_method_5_18) (by decide) rfl ?_
    refine gIloadN X0 hx (hb hby d_method_5_19) rfl ?_
    by_cases g1 : x1 = p3
    · refine gIcmpY X0 hx (hb hby d_method_5_20) (pc' := 47) (XT.ii_eq_t g1) (by decide) (by decide) ?_
      show Goes p e below _ (s₁.setTop (mkF m 47 #[.val (.ref a1), .val (.int (3 : Int32)), .val (.int p3)] []))
      refine gIconst X0 hx (hb hby d_method_5_47) (v := (1 : Int32)) rfl ?_
      refine gGoto X0 hx (hb hby d_method_5_48) (pc' := 52) (by decide) (by decide) ?_
      show Goes p e below _ (s₁.setTop (mkF m 52 #[.val (.ref a1), .val (.int (3 : Int32)), .val (.int p3)] [(.int (1 : Int32))]))
      exact goRetN X0 hx (t := .boolean) hret hlocks (by simp) (hb hby d_method_5_52) (z' := (1 : Int32)) rfl (by decide) (by decide) e0 (⟨by simp [own_has3, g0, g1], N0, rfl⟩)
    · refine gIcmpN X0 hx (hb hby d_method_5_20) (XT.ii_eq_f g1) ?_
      show Goes p e below _ (s₁.setTop (mkF m 23 #[.val (.ref a1), .val (.int (3 : Int32)), .val (.int p3)] []))
      refine gIloadN X0 hx (hb hby d_method_5_23) rfl ?_
      refine gIconst X0 hx (hb hby d_method_5_24) (v := (2 : Int32)) rfl ?_
      refine gIcmpN X0 hx (hb hby d_method_5_25) (XT.ii_le_f (by decide)) ?_
      show Goes p e below _ (s₁.setTop (mkF m 28 #[.val (.ref a1), .val (.int (3 : Int32)), .val (.int p3)] []))
      refine gAloadN X0 hx (hb hby d_method_5_28) rfl rfl ?_
      refine gIconst X0 hx (hb hby d_method_5_29) (v := (2 : Int32)) rfl ?_
      refine goIaload X0 hx hZ e0 Y1 (x := x2) (hb hby d_method_5_30) (by decide) rfl ?_
      refine gIloadN X0 hx (hb hby d_method_5_31) rfl ?_
      by_cases g2 : x2 = p3
      · refine gIcmpY X0 hx (hb hby d_method_5_32) (pc' := 47) (XT.ii_eq_t g2) (by decide) (by decide) ?_
        show Goes p e below _ (s₁.setTop (mkF m 47 #[.val (.ref a1), .val (.int (3 : Int32)), .val (.int p3)] []))
        refine gIconst X0 hx (hb hby d_method_5_47) (v := (1 : Int32)) rfl ?_
        refine gGoto X0 hx (hb hby d_method_5_48) (pc' := 52) (by decide) (by decide) ?_
        show Goes p e below _ (s₁.setTop (mkF m 52 #[.val (.ref a1), .val (.int (3 : Int32)), .val (.int p3)] [(.int (1 : Int32))]))
        exact goRetN X0 hx (t := .boolean) hret hlocks (by simp) (hb hby d_method_5_52) (z' := (1 : Int32)) rfl (by decide) (by decide) e0 (⟨by simp [own_has3, g0, g1, g2], N0, rfl⟩)
      · refine gIcmpN X0 hx (hb hby d_method_5_32) (XT.ii_eq_f g2) ?_
        show Goes p e below _ (s₁.setTop (mkF m 35 #[.val (.ref a1), .val (.int (3 : Int32)), .val (.int p3)] []))
        refine gIloadN X0 hx (hb hby d_method_5_35) rfl ?_
        refine gIconst X0 hx (hb hby d_method_5_36) (v := (3 : Int32)) rfl ?_
        refine gIcmpY X0 hx (hb hby d_method_5_37) (pc' := 51) (XT.ii_le_t (by decide)) (by decide) (by decide) ?_
        show Goes p e below _ (s₁.setTop (mkF m 51 #[.val (.ref a1), .val (.int (3 : Int32)), .val (.int p3)] []))
        refine gIconst X0 hx (hb hby d_method_5_51) (v := (0 : Int32)) rfl ?_
        exact goRetN X0 hx (t := .boolean) hret hlocks (by simp) (hb hby d_method_5_52) (z' := (0 : Int32)) rfl (by decide) (by decide) e0 (⟨by simp [own_has3, g0, g1, g2], N0, rfl⟩)
def own_has4 (x0 x1 x2 x3 v : Int32) : Int32 := if x0 = v ∨ x1 = v ∨ x2 = v ∨ x3 = v then 1 else 0
theorem d_method_5_40 : decode method_5_code 40 = .ok (.aload_n 0, 1) := by decide +kernel
theorem d_method_5_41 : decode method_5_code 41 = .ok (.iconst 3, 1) := by decide +kernel
theorem d_method_5_42 : decode method_5_code 42 = .ok (.iaload, 1) := by decide +kernel
theorem d_method_5_43 : decode method_5_code 43 = .ok (.iload_n 2, 1) := by decide +kernel
theorem d_method_5_44 : decode method_5_code 44 = .ok (.if_icmp .ne 7, 3) := by decide +kernel
theorem ef_rmH4 (m : MethodId) (x0 : Addr) (x1 : Int32) (x2 : Int32) : entryFrame m #[(.ref x0), (.int x1), (.int x2)] 3 = mkF m 0 #[.val (.ref x0), .val (.int x1), .val (.int x2)] [] := by first | (simp [entryFrame, mkF, argsToLocals, Value.category]; done) | rfl
set_option maxRecDepth 65536 in
set_option maxHeartbeats 40000000 in
theorem rmH4 (l : Launch) (Z : State) (a0 : Array Value) (hw : ∀ d ∈ tables_1, d.before a0 Z = true) (x0 x1 x2 x3 : Int32) (rest : List Value) (a1 : Addr) (p3 : Int32) (h0 : Heap) (O0 : Ext Z.heap h0) (Y1 : Ary Z h0 a1 .int (.int x0 :: .int x1 :: .int x2 :: .int x3 :: rest)) :
    Ctr l Z (⟨"com/example/querent/querent/LookupDistinctPinLaw", "has", "([III)Z"⟩ : MethodName) method_5_code 3 (some .boolean) [] ({ frames := 0, cells := 0, slots := 0, locals := 0 } : Room) #[(.ref a1), (.int (4 : Int32)), (.int p3)] h0 (fun v h L => v = some (.int (own_has4 x0 x1 x2 x3 p3)) ∧ Fr Z.heap.size L ∧ h = h0) := by
  refine ctr (plainFor_of_name pn_0) ?_
  intro p e s m below meth c s₁ hx hby hml hown hnm hret hlocks hZ X0 e0
  have N0 := Fr.nil Z.heap.size
  have hsz : ∀ {Ls : Array Slot}, Ls.size = 3 → Ls.size = c.maxLocals := fun q => q.trans hml.symm
  refine goE (ef_rmH4 m (a1) ((4 : Int32)) (p3)) ?_
  show Goes p e below _ (s₁.setTop (mkF m 0 #[.val (.ref a1), .val (.int (4 : Int32)), .val (.int p3)] []))
  refine gIloadN X0 hx (hb hby d_method_5_0) rfl ?_
  refine gIfN X0 hx (hb hby d_method_5_1) (XT.i0_le_f (by decide)) ?_
  show Goes p e below _ (s₁.setTop (mkF m 4 #[.val (.ref a1), .val (.int (4 : Int32)), .val (.int p3)] []))
  refine gAloadN X0 hx (hb hby d_method_5_4) rfl rfl ?_
  refine gIconst X0 hx (hb hby d_method_5_5) (v := (0 : Int32)) rfl ?_
  refine goIaload X0 hx hZ e0 Y1 (x := x0) (hb hby d_method_5_6) (by decide) rfl ?_
  refine gIloadN X0 hx (hb hby d_method_5_7) rfl ?_
  by_cases g0 : x0 = p3
  · refine gIcmpY X0 hx (hb hby d_method_5_8) (pc' := 47) (XT.ii_eq_t g0) (by decide) (by decide) ?_
    show Goes p e below _ (s₁.setTop (mkF m 47 #[.val (.ref a1), .val (.int (4 : Int32)), .val (.int p3)] []))
    refine gIconst X0 hx (hb hby d_method_5_47) (v := (1 : Int32)) rfl ?_
    refine gGoto X0 hx (hb hby d_method_5_48) (pc' := 52) (by decide) (by decide) ?_
    show Goes p e below _ (s₁.setTop (mkF m 52 #[.val (.ref a1), .val (.int (4 : Int32)), .val (.int p3)] [(.int (1 : Int32))]))
    exact goRetN X0 hx (t := .boolean) hret hlocks (by simp) (hb hby d_method_5_52) (z' := (1 : Int32)) rfl (by decide) (by decide) e0 (⟨by simp [own_has4, g0], N0, rfl⟩)
  · refine gIcmpN X0 hx (hb hby d_method_5_8) (XT.ii_eq_f g0) ?_
    show Goes p e below _ (s₁.setTop (mkF m 11 #[.val (.ref a1), .val (.int (4 : Int32)), .val (.int p3)] []))
    refine gIloadN X0 hx (hb hby d_method_5_11) rfl ?_
    refine gIconst X0 hx (hb hby d_method_5_12) (v := (1 : Int32)) rfl ?_
    refine gIcmpN X0 hx (hb hby d_method_5_13) (XT.ii_le_f (by decide)) ?_
    show Goes p e below _ (s₁.setTop (mkF m 16 #[.val (.ref a1), .val (.int (4 : Int32)), .val (.int p3)] []))
    refine gAloadN X0 hx (hb hby d_method_5_16) rfl rfl ?_
    refine gIconst X0 hx (hb hby d_method_5_17) (v := (1 : Int32)) rfl ?_
    refine goIaload X0 hx hZ e0 Y1 (x := x1) (hb hby d_method_5_18) (by decide) rfl ?_
    refine gIloadN X0 hx (hb hby d_method_5_19) rfl ?_
    by_cases g1 : x1 = p3
    · refine gIcmpY X0 hx (hb hby d_method_5_20) (pc' := 47) (XT.ii_eq_t g1) (by decide) (by decide) ?_
      show Goes p e below _ (s₁.setTop (mkF m 47 #[.val (.ref a1), .val (.int (4 : Int32)), .val (.int p3)] []))
      refine gIconst X0 hx (hb hby d_method_5_47) (v := (1 : Int32)) rfl ?_
      refine gGoto X0 hx (hb hby d_method_5_48) (pc' := 52) (by decide) (by decide) ?_
      show Goes p e below _ (s₁.setTop (mkF m 52 #[.val (.ref a1), .val (.int (4 : Int32)), .val (.int p3)] [(.int (1 : Int32))]))
      exact goRetN X0 hx (t := .boolean) hret hlocks (by simp) (hb hby d_method_5_52) (z' := (1 : Int32)) rfl (by decide) (by decide) e0 (⟨by simp [own_has4, g0, g1], N0, rfl⟩)
    · refine gIcmpN X0 hx (hb hby d_method_5_20) (XT.ii_eq_f g1) ?_
      show Goes p e below _ (s₁.setTop (mkF m 23 #[.val (.ref a1), .val (.int (4 : Int32)), .val (.int p3)] []))
      refine gIloadN X0 hx (hb hby d_method_5_23) rfl ?_
      refine gIconst X0 hx (hb hby d_method_5_24) (v := (2 : Int32)) rfl ?_
      refine gIcmpN X0 hx (hb hby d_method_5_25) (XT.ii_le_f (by decide)) ?_
      show Goes p e below _ (s₁.setTop (mkF m 28 #[.val (.ref a1), .val (.int (4 : Int32)), .val (.int p3)] []))
      refine gAloadN X0 hx (hb hby d_method_5_28) rfl rfl ?_
      refine gIconst X0 hx (hb hby d_method_5_29) (v := (2 : Int32)) rfl ?_
      refine goIaload X0 hx hZ e0 Y1 (x := x2) (hb hby d_method_5_30) (by decide) rfl ?_
      refine gIloadN X0 hx (hb hby d_method_5_31) rfl ?_
      by_cases g2 : x2 = p3
      · refine gIcmpY X0 hx (hb hby d_method_5_32) (pc' := 47) (XT.ii_eq_t g2) (by decide) (by decide) ?_
        show Goes p e below _ (s₁.setTop (mkF m 47 #[.val (.ref a1), .val (.int (4 : Int32)), .val (.int p3)] []))
        refine gIconst X0 hx (hb hby d_method_5_47) (v := (1 : Int32)) rfl ?_
        refine gGoto X0 hx (hb hby d_method_5_48) (pc' := 52) (by decide) (by decide) ?_
        show Goes p e below _ (s₁.setTop (mkF m 52 #[.val (.ref a1), .val (.int (4 : Int32)), .val (.int p3)] [(.int (1 : Int32))]))
        exact goRetN X0 hx (t := .boolean) hret hlocks (by simp) (hb hby d_method_5_52) (z' := (1 : Int32)) rfl (by decide) (by decide) e0 (⟨by simp [own_has4, g0, g1, g2], N0, rfl⟩)
      · refine gIcmpN X0 hx (hb hby d_method_5_32) (XT.ii_eq_f g2) ?_
        show Goes p e below _ (s₁.setTop (mkF m 35 #[.val (.ref a1), .val (.int (4 : Int32)), .val (.int p3)] []))
        refine gIloadN X0 hx (hb hby d_method_5_35) rfl ?_
        refine gIconst X0 hx (hb hby d_method_5_36) (v := (3 : Int32)) rfl ?_
        refine gIcmpN X0 hx (hb hby d_method_5_37) (XT.ii_le_f (by decide)) ?_
        show Goes p e below _ (s₁.setTop (mkF m 40 #[.val (.ref a1), .val (.int (4 : Int32)), .val (.int p3)] []))
        refine gAloadN X0 hx (hb hby d_method_5_40) rfl rfl ?_
        refine gIconst X0 hx (hb hby d_method_5_41) (v := (3 : Int32)) rfl ?_
        refine goIaload X0 hx hZ e0 Y1 (x := x3) (hb hby d_method_5_42) (by decide) rfl ?_
        refine gIloadN X0 hx (hb hby d_method_5_43) rfl ?_
        by_cases g3 : x3 = p3
        · refine gIcmpN X0 hx (hb hby d_method_5_44) (XT.ii_ne_f g3) ?_
          show Goes p e below _ (s₁.setTop (mkF m 47 #[.val (.ref a1), .val (.int (4 : Int32)), .val (.int p3)] []))
          refine gIconst X0 hx (hb hby d_method_5_47) (v := (1 : Int32)) rfl ?_
          refine gGoto X0 hx (hb hby d_method_5_48) (pc' := 52) (by decide) (by decide) ?_
          show Goes p e below _ (s₁.setTop (mkF m 52 #[.val (.ref a1), .val (.int (4 : Int32)), .val (.int p3)] [(.int (1 : Int32))]))
          exact goRetN X0 hx (t := .boolean) hret hlocks (by simp) (hb hby d_method_5_52) (z' := (1 : Int32)) rfl (by decide) (by decide) e0 (⟨by simp [own_has4, g0, g1, g2, g3], N0, rfl⟩)
        · refine gIcmpY X0 hx (hb hby d_method_5_44) (pc' := 51) (XT.ii_ne_t g3) (by decide) (by decide) ?_
          show Goes p e below _ (s₁.setTop (mkF m 51 #[.val (.ref a1), .val (.int (4 : Int32)), .val (.int p3)] []))
          refine gIconst X0 hx (hb hby d_method_5_51) (v := (0 : Int32)) rfl ?_
          exact goRetN X0 hx (t := .boolean) hret hlocks (by simp) (hb hby d_method_5_52) (z' := (0 : Int32)) rfl (by decide) (by decide) e0 (⟨by simp [own_has4, g0, g1, g2, g3], N0, rfl⟩)
theorem pd_0 : parseMethodDescriptor "(IIIII)I" = some ⟨[.int, .int, .int, .int, .int], some .int⟩ := by decide +kernel
theorem pd_1 : parseMethodDescriptor "([III)V" = some ⟨[(.array .int), .int, .int], none⟩ := by decide +kernel
theorem own_net (z0 z1 z2 z3 : Int32) : ((own_lo (own_lo z0 z1) (own_lo z2 z3))).toInt ≤ ((own_lo (own_lo (own_hi z0 z1) (own_hi z2 z3)) (own_hi (own_lo z0 z1) (own_lo z2 z3)))).toInt ∧ ((own_lo (own_lo (own_hi z0 z1) (own_hi z2 z3)) (own_hi (own_lo z0 z1) (own_lo z2 z3)))).toInt ≤ ((own_hi (own_lo (own_hi z0 z1) (own_hi z2 z3)) (own_hi (own_lo z0 z1) (own_lo z2 z3)))).toInt ∧ ((own_hi (own_lo (own_hi z0 z1) (own_hi z2 z3)) (own_hi (own_lo z0 z1) (own_lo z2 z3)))).toInt ≤ ((own_hi (own_hi z0 z1) (own_hi z2 z3))).toInt := by
  simp only [own_loI, own_hiI]
  omega
theorem pd_2 : parseMethodDescriptor "([I)I" = some ⟨[(.array .int)], some .int⟩ := by decide +kernel
theorem pd_3 : parseMethodDescriptor "([III)Z" = some ⟨[(.array .int), .int, .int], some .boolean⟩ := by decide +kernel
theorem ef_rm0 (m : MethodId) (x0 : Int32) (x1 : Int32) (x2 : Int32) (x3 : Int32) (x4 : Int32) : entryFrame m #[(.int x0), (.int x1), (.int x2), (.int x3), (.int x4)] maxLocals = mkF m 0 #[.val (.int x0), .val (.int x1), .val (.int x2), .val (.int x3), .val (.int x4), .unset, .unset, .unset, .unset, .unset, .unset, .unset] [] := by first | (simp [entryFrame, mkF, argsToLocals, Value.category, maxLocals]; done) | rfl
set_option maxRecDepth 65536 in
set_option maxHeartbeats 40000000 in
theorem rm0 (l : Launch) (Z : State) (a0 : Array Value) (hw : ∀ d ∈ tables_1, d.before a0 Z = true)  (p0 : Int32) (p1 : Int32) (p2 : Int32) (p3 : Int32) (p4 : Int32) (h0 : Heap) (O0 : Ext Z.heap h0)  :
    Ctr l Z x code maxLocals ret tables_1 room_1 #[(.int p0), (.int p1), (.int p2), (.int p3), (.int p4)] h0 (fun v h L => v = some (.int 1) ∧ Fr Z.heap.size L) := by
  refine ctr (plainFor_of_name pn_0) ?_
  intro p e s m below meth c s₁ hx hby hml hown hnm hret hlocks hZ X0 e0
  have N0 := Fr.nil Z.heap.size
  have hsz : ∀ {Ls : Array Slot}, Ls.size = 12 → Ls.size = c.maxLocals := fun q => q.trans hml.symm
  refine goE (ef_rm0 m (p0) (p1) (p2) (p3) (p4)) ?_
  show Goes p e below _ (s₁.setTop (mkF m 0 #[.val (.int p0), .val (.int p1), .val (.int p2), .val (.int p3), .val (.int p4), .unset, .unset, .unset, .unset, .unset, .unset, .unset] []))
  refine gIconst X0 hx (hb hby at_0) (v := (4 : Int32)) rfl ?_
  obtain ⟨Tt1, ht1, kt1, Xt1, et1, Et1, At1, stt1⟩ := newP X0 hx hZ (hw _ (List.mem_of_getElem? (i := 0) rfl)) e0 (g := (mkF m 1 #[.val (.int p0), .val (.int p1), .val (.int p2), .val (.int p3), .val (.int p4), .unset, .unset, .unset, .unset, .unset, .unset, .unset] [(.int (4 : Int32))])) rfl (hb hby at_1) rfl (by decide) (cap := 4) (by decide) (by decide) (by decide) (by decide)
  obtain ⟨b2, gb2⟩ : ∃ z, z = h0.size := ⟨_, rfl⟩
  rw [← gb2] at At1 stt1
  refine go stt1 ?_
  have fr_b2 : Z.heap.size ≤ b2 := gb2 ▸ O0.1
  have O3 : Ext Z.heap ht1 := extT O0 Et1
  have Y_b2 : Ary Z ht1 b2 .int [(.int (0 : Int32)), (.int (0 : Int32)), (.int (0 : Int32)), (.int (0 : Int32))] := Ary.new At1 rfl (by decide)
  show Goes p e below _ (Tt1.setTop (mkF m 3 #[.val (.int p0), .val (.int p1), .val (.int p2), .val (.int p3), .val (.int p4), .unset, .unset, .unset, .unset, .unset, .unset, .unset] [(.ref b2)]))
  refine gAstore Xt1 hx (hb hby at_3) rfl (l' := #[.val (.int p0), .val (.int p1), .val (.int p2), .val (.int p3), .val (.int p4), .val (.ref b2), .unset, .unset, .unset, .unset, .unset, .unset]) rfl ?_
  refine gAload Xt1 hx (hb hby at_5) rfl rfl ?_
  refine gIconst Xt1 hx (hb hby at_7) (v := (0 : Int32)) rfl ?_
  refine gIloadN Xt1 hx (hb hby at_8) rfl ?_
  refine gIloadN Xt1 hx (hb hby at_9) rfl ?_
  refine gIloadN Xt1 hx (hb hby at_10) rfl ?_
  refine gIloadN Xt1 hx (hb hby at_11) rfl ?_
  show Goes p e below _ (Tt1.setTop (mkF m 12 #[.val (.int p0), .val (.int p1), .val (.int p2), .val (.int p3), .val (.int p4), .val (.ref b2), .unset, .unset, .unset, .unset, .unset, .unset] [(.int p3), (.int p2), (.int p1), (.int p0), (.int (0 : Int32)), (.ref b2)]))
  refine gIload Xt1 hx (hb hby at_12) rfl ?_
  refine gIconst Xt1 hx (hb hby at_14) (v := (3 : Int32)) rfl ?_
  refine gIand Xt1 hx (hb hby at_15) ?_
  refine goCallS Xt1 hx hZ hown (hw _ (List.mem_of_getElem? (i := 1) rfl)) (hw _ (List.mem_of_getElem? (i := 2) rfl)) (hw _ (List.mem_of_getElem? (i := 3) rfl)) (hw _ (List.mem_of_getElem? (i := 4) rfl)) (by decide) (rmP l Z a0 hw p0 p1 p2 p3 (p4 &&& (3 : Int32)) ht1 O3) 2 (by decide) (by decide) et1 (hsz rfl) [(.int p0), (.int p1), (.int p2), (.int p3), (.int (p4 &&& (3 : Int32)))] [(.int (0 : Int32)), (.ref b2)] pd_0 rfl rfl rfl (Nat.le_of_eq rfl) (hb hby at_16) (by decide) (by decide) (fun Tt4 vt4 Lt4 Xt4 qt4 => ?_)
  obtain ⟨z0, rfl, N5, et4⟩ := qt4
  have N6 := Fr.app N0 N5
  show Goes p e below _ (Tt4.setTop (mkF m 19 #[.val (.int p0), .val (.int p1), .val (.int p2), .val (.int p3), .val (.int p4), .val (.ref b2), .unset, .unset, .unset, .unset, .unset, .unset] [(.int z0), (.int (0 : Int32)), (.ref b2)]))
  refine goIastore Xt4 hx hZ et4 Y_b2 (hb hby at_19) (by decide) rfl (fun Tt7 ht7 Xt7 et7 Wt7 => ?_)
  have N8 := Fr.snoc Xt7 N6 fr_b2
  replace Y_b2 : Ary Z ht7 b2 .int [(.int z0), (.int (0 : Int32)), (.int (0 : Int32)), (.int (0 : Int32))] := Y_b2.set Wt7 rfl
  have O9 : Ext Z.heap ht7 := extW O3 Wt7 fr_b2
  show Goes p e below _ (Tt7.setTop (mkF m 20 #[.val (.int p0), .val (.int p1), .val (.int p2), .val (.int p3), .val (.int p4), .val (.ref b2), .unset, .unset, .unset, .unset, .unset, .unset] []))
  refine gAload Xt7 hx (hb hby at_20) rfl rfl ?_
  refine gIconst Xt7 hx (hb hby at_22) (v := (1 : Int32)) rfl ?_
  refine gIloadN Xt7 hx (hb hby at_23) rfl ?_
  refine gIloadN Xt7 hx (hb hby at_24) rfl ?_
  refine gIloadN Xt7 hx (hb hby at_25) rfl ?_
  refine gIloadN Xt7 hx (hb hby at_26) rfl ?_
  refine gIload Xt7 hx (hb hby at_27) rfl ?_
  show Goes p e below _ (Tt7.setTop (mkF m 29 #[.val (.int p0), .val (.int p1), .val (.int p2), .val (.int p3), .val (.int p4), .val (.ref b2), .unset, .unset, .unset, .unset, .unset, .unset] [(.int p4), (.int p3), (.int p2), (.int p1), (.int p0), (.int (1 : Int32)), (.ref b2)]))
  refine gIconst Xt7 hx (hb hby at_29) (v := (2 : Int32)) rfl ?_
  refine gIushr Xt7 hx (hb hby at_30) ?_
  refine gIconst Xt7 hx (hb hby at_31) (v := (3 : Int32)) rfl ?_
  refine gIand Xt7 hx (hb hby at_32) ?_
  refine goCallS Xt7 hx hZ hown (hw _ (List.mem_of_getElem? (i := 1) rfl)) (hw _ (List.mem_of_getElem? (i := 2) rfl)) (hw _ (List.mem_of_getElem? (i := 3) rfl)) (hw _ (List.mem_of_getElem? (i := 4) rfl)) (by decide) (rmP l Z a0 hw p0 p1 p2 p3 ((XT.ushr p4 (2 : Int32)) &&& (3 : Int32)) ht7 O9) 2 (by decide) (by decide) et7 (hsz rfl) [(.int p0), (.int p1), (.int p2), (.int p3), (.int ((XT.ushr p4 (2 : Int32)) &&& (3 : Int32)))] [(.int (1 : Int32)), (.ref b2)] pd_0 rfl rfl rfl (Nat.le_of_eq rfl) (hb hby at_33) (by decide) (by decide) (fun Tt10 vt10 Lt10 Xt10 qt10 => ?_)
  obtain ⟨z1, rfl, N11, et10⟩ := qt10
  have N12 := Fr.app N8 N11
  show Goes p e below _ (Tt10.setTop (mkF m 36 #[.val (.int p0), .val (.int p1), .val (.int p2), .val (.int p3), .val (.int p4), .val (.ref b2), .unset, .unset, .unset, .unset, .unset, .unset] [(.int z1), (.int (1 : Int32)), (.ref b2)]))
  refine goIastore Xt10 hx hZ et10 Y_b2 (hb hby at_36) (by decide) rfl (fun Tt13 ht13 Xt13 et13 Wt13 => ?_)
  have N14 := Fr.snoc Xt13 N12 fr_b2
  replace Y_b2 : Ary Z ht13 b2 .int [(.int z0), (.int z1), (.int (0 : Int32)), (.int (0 : Int32))] := Y_b2.set Wt13 rfl
  have O15 : Ext Z.heap ht13 := extW O9 Wt13 fr_b2
  show Goes p e below _ (Tt13.setTop (mkF m 37 #[.val (.int p0), .val (.int p1), .val (.int p2), .val (.int p3), .val (.int p4), .val (.ref b2), .unset, .unset, .unset, .unset, .unset, .unset] []))
  refine gAload Xt13 hx (hb hby at_37) rfl rfl ?_
  refine gIconst Xt13 hx (hb hby at_39) (v := (2 : Int32)) rfl ?_
  refine gIloadN Xt13 hx (hb hby at_40) rfl ?_
  refine gIloadN Xt13 hx (hb hby at_41) rfl ?_
  refine gIloadN Xt13 hx (hb hby at_42) rfl ?_
  refine gIloadN Xt13 hx (hb hby at_43) rfl ?_
  refine gIload Xt13 hx (hb hby at_44) rfl ?_
  show Goes p e below _ (Tt13.setTop (mkF m 46 #[.val (.int p0), .val (.int p1), .val (.int p2), .val (.int p3), .val (.int p4), .val (.ref b2), .unset, .unset, .unset, .unset, .unset, .unset] [(.int p4), (.int p3), (.int p2), (.int p1), (.int p0), (.int (2 : Int32)), (.ref b2)]))
  refine gIconst Xt13 hx (hb hby at_46) (v := (4 : Int32)) rfl ?_
  refine gIushr Xt13 hx (hb hby at_47) ?_
  refine gIconst Xt13 hx (hb hby at_48) (v := (3 : Int32)) rfl ?_
  refine gIand Xt13 hx (hb hby at_49) ?_
  refine goCallS Xt13 hx hZ hown (hw _ (List.mem_of_getElem? (i := 1) rfl)) (hw _ (List.mem_of_getElem? (i := 2) rfl)) (hw _ (List.mem_of_getElem? (i := 3) rfl)) (hw _ (List.mem_of_getElem? (i := 4) rfl)) (by decide) (rmP l Z a0 hw p0 p1 p2 p3 ((XT.ushr p4 (4 : Int32)) &&& (3 : Int32)) ht13 O15) 2 (by decide) (by decide) et13 (hsz rfl) [(.int p0), (.int p1), (.int p2), (.int p3), (.int ((XT.ushr p4 (4 : Int32)) &&& (3 : Int32)))] [(.int (2 : Int32)), (.ref b2)] pd_0 rfl rfl rfl (Nat.le_of_eq rfl) (hb hby at_50) (by decide) (by decide) (fun Tt16 vt16 Lt16 Xt16 qt16 => ?_)
  obtain ⟨z2, rfl, N17, et16⟩ := qt16
  have N18 := Fr.app N14 N17
  show Goes p e below _ (Tt16.setTop (mkF m 53 #[.val (.int p0), .val (.int p1), .val (.int p2), .val (.int p3), .val (.int p4), .val (.ref b2), .unset, .unset, .unset, .unset, .unset, .unset] [(.int z2), (.int (2 : Int32)), (.ref b2)]))
  refine goIastore Xt16 hx hZ et16 Y_b2 (hb hby at_53) (by decide) rfl (fun Tt19 ht19 Xt19 et19 Wt19 => ?_)
  have N20 := Fr.snoc Xt19 N18 fr_b2
  replace Y_b2 : Ary Z ht19 b2 .int [(.int z0), (.int z1), (.int z2), (.int (0 : Int32))] := Y_b2.set Wt19 rfl
  have O21 : Ext Z.heap ht19 := extW O15 Wt19 fr_b2
  show Goes p e below _ (Tt19.setTop (mkF m 54 #[.val (.int p0), .val (.int p1), .val (.int p2), .val (.int p3), .val (.int p4), .val (.ref b2), .unset, .unset, .unset, .unset, .unset, .unset] []))
  refine gAload Xt19 hx (hb hby at_54) rfl rfl ?_
  refine gIconst Xt19 hx (hb hby at_56) (v := (3 : Int32)) rfl ?_
  refine gIloadN Xt19 hx (hb hby at_57) rfl ?_
  refine gIloadN Xt19 hx (hb hby at_58) rfl ?_
  refine gIloadN Xt19 hx (hb hby at_59) rfl ?_
  refine gIloadN Xt19 hx (hb hby at_60) rfl ?_
  refine gIload Xt19 hx (hb hby at_61) rfl ?_
  show Goes p e below _ (Tt19.setTop (mkF m 63 #[.val (.int p0), .val (.int p1), .val (.int p2), .val (.int p3), .val (.int p4), .val (.ref b2), .unset, .unset, .unset, .unset, .unset, .unset] [(.int p4), (.int p3), (.int p2), (.int p1), (.int p0), (.int (3 : Int32)), (.ref b2)]))
  refine gBipush Xt19 hx (hb hby at_63) (v := (6 : Int32)) rfl ?_
  refine gIushr Xt19 hx (hb hby at_65) ?_
  refine gIconst Xt19 hx (hb hby at_66) (v := (3 : Int32)) rfl ?_
  refine gIand Xt19 hx (hb hby at_67) ?_
  refine goCallS Xt19 hx hZ hown (hw _ (List.mem_of_getElem? (i := 1) rfl)) (hw _ (List.mem_of_getElem? (i := 2) rfl)) (hw _ (List.mem_of_getElem? (i := 3) rfl)) (hw _ (List.mem_of_getElem? (i := 4) rfl)) (by decide) (rmP l Z a0 hw p0 p1 p2 p3 ((XT.ushr p4 (6 : Int32)) &&& (3 : Int32)) ht19 O21) 2 (by decide) (by decide) et19 (hsz rfl) [(.int p0), (.int p1), (.int p2), (.int p3), (.int ((XT.ushr p4 (6 : Int32)) &&& (3 : Int32)))] [(.int (3 : Int32)), (.ref b2)] pd_0 rfl rfl rfl (Nat.le_of_eq rfl) (hb hby at_68) (by decide) (by decide) (fun Tt22 vt22 Lt22 Xt22 qt22 => ?_)
  obtain ⟨z3, rfl, N23, et22⟩ := qt22
  have N24 := Fr.app N20 N23
  show Goes p e below _ (Tt22.setTop (mkF m 71 #[.val (.int p0), .val (.int p1), .val (.int p2), .val (.int p3), .val (.int p4), .val (.ref b2), .unset, .unset, .unset, .unset, .unset, .unset] [(.int z3), (.int (3 : Int32)), (.ref b2)]))
  refine goIastore Xt22 hx hZ et22 Y_b2 (hb hby at_71) (by decide) rfl (fun Tt25 ht25 Xt25 et25 Wt25 => ?_)
  have N26 := Fr.snoc Xt25 N24 fr_b2
  replace Y_b2 : Ary Z ht25 b2 .int [(.int z0), (.int z1), (.int z2), (.int z3)] := Y_b2.set Wt25 rfl
  have O27 : Ext Z.heap ht25 := extW O21 Wt25 fr_b2
  show Goes p e below _ (Tt25.setTop (mkF m 72 #[.val (.int p0), .val (.int p1), .val (.int p2), .val (.int p3), .val (.int p4), .val (.ref b2), .unset, .unset, .unset, .unset, .unset, .unset] []))
  refine gAload Xt25 hx (hb hby at_72) rfl rfl ?_
  refine gIconst Xt25 hx (hb hby at_74) (v := (0 : Int32)) rfl ?_
  refine gIconst Xt25 hx (hb hby at_75) (v := (1 : Int32)) rfl ?_
  refine goCallS Xt25 hx hZ hown (hw _ (List.mem_of_getElem? (i := 5) rfl)) (hw _ (List.mem_of_getElem? (i := 6) rfl)) (hw _ (List.mem_of_getElem? (i := 3) rfl)) (hw _ (List.mem_of_getElem? (i := 7) rfl)) (by decide) (rmC01 l Z a0 hw z0 z1 z2 z3 b2 ht25 O27 Y_b2 fr_b2) 0 (by decide) (by decide) et25 (hsz rfl) [(.ref b2), (.int (0 : Int32)), (.int (1 : Int32))] [] pd_1 rfl rfl rfl (Nat.le_of_eq rfl) (hb hby at_76) (by decide) (by decide) (fun Tt28 vt28 Lt28 Xt28 qt28 => ?_)
  obtain ⟨ht28, et28⟩ : ∃ z, Tt28.heap = z := ⟨_, rfl⟩
  rw [et28] at qt28
  obtain ⟨rfl, N29, Kct28, Yc0⟩ := qt28
  have N30 := Fr.app N26 N29
  have O31 : Ext Z.heap ht28 := extK O27 Kct28 (allS fr_b2 all0)
  show Goes p e below _ (Tt28.setTop (mkF m 79 #[.val (.int p0), .val (.int p1), .val (.int p2), .val (.int p3), .val (.int p4), .val (.ref b2), .unset, .unset, .unset, .unset, .unset, .unset] []))
  refine gAload Xt28 hx (hb hby at_79) rfl rfl ?_
  refine gIconst Xt28 hx (hb hby at_81) (v := (2 : Int32)) rfl ?_
  refine gIconst Xt28 hx (hb hby at_82) (v := (3 : Int32)) rfl ?_
  refine goCallS Xt28 hx hZ hown (hw _ (List.mem_of_getElem? (i := 5) rfl)) (hw _ (List.mem_of_getElem? (i := 6) rfl)) (hw _ (List.mem_of_getElem? (i := 3) rfl)) (hw _ (List.mem_of_getElem? (i := 7) rfl)) (by decide) (rmC23 l Z a0 hw (own_lo z0 z1) (own_hi z0 z1) z2 z3 b2 ht28 O31 Yc0 fr_b2) 0 (by decide) (by decide) et28 (hsz rfl) [(.ref b2), (.int (2 : Int32)), (.int (3 : Int32))] [] pd_1 rfl rfl rfl (Nat.le_of_eq rfl) (hb hby at_83) (by decide) (by decide) (fun Tt32 vt32 Lt32 Xt32 qt32 => ?_)
  obtain ⟨ht32, et32⟩ : ∃ z, Tt32.heap = z := ⟨_, rfl⟩
  rw [et32] at qt32
  obtain ⟨rfl, N33, Kct32, Yc1⟩ := qt32
  have N34 := Fr.app N30 N33
  have O35 : Ext Z.heap ht32 := extK O31 Kct32 (allS fr_b2 all0)
  show Goes p e below _ (Tt32.setTop (mkF m 86 #[.val (.int p0), .val (.int p1), .val (.int p2), .val (.int p3), .val (.int p4), .val (.ref b2), .unset, .unset, .unset, .unset, .unset, .unset] []))
  refine gAload Xt32 hx (hb hby at_86) rfl rfl ?_
  refine gIconst Xt32 hx (hb hby at_88) (v := (0 : Int32)) rfl ?_
  refine gIconst Xt32 hx (hb hby at_89) (v := (2 : Int32)) rfl ?_
  refine goCallS Xt32 hx hZ hown (hw _ (List.mem_of_getElem? (i := 5) rfl)) (hw _ (List.mem_of_getElem? (i := 6) rfl)) (hw _ (List.mem_of_getElem? (i := 3) rfl)) (hw _ (List.mem_of_getElem? (i := 7) rfl)) (by decide) (rmC02 l Z a0 hw (own_lo z0 z1) (own_hi z0 z1) (own_lo z2 z3) (own_hi z2 z3) b2 ht32 O35 Yc1 fr_b2) 0 (by decide) (by decide) et32 (hsz rfl) [(.ref b2), (.int (0 : Int32)), (.int (2 : Int32))] [] pd_1 rfl rfl rfl (Nat.le_of_eq rfl) (hb hby at_90) (by decide) (by decide) (fun Tt36 vt36 Lt36 Xt36 qt36 => ?_)
  obtain ⟨ht36, et36⟩ : ∃ z, Tt36.heap = z := ⟨_, rfl⟩
  rw [et36] at qt36
  obtain ⟨rfl, N37, Kct36, Yc2⟩ := qt36
  have N38 := Fr.app N34 N37
  have O39 : Ext Z.heap ht36 := extK O35 Kct36 (allS fr_b2 all0)
  show Goes p e below _ (Tt36.setTop (mkF m 93 #[.val (.int p0), .val (.int p1), .val (.int p2), .val (.int p3), .val (.int p4), .val (.ref b2), .unset, .unset, .unset, .unset, .unset, .unset] []))
  refine gAload Xt36 hx (hb hby at_93) rfl rfl ?_
  refine gIconst Xt36 hx (hb hby at_95) (v := (1 : Int32)) rfl ?_
  refine gIconst Xt36 hx (hb hby at_96) (v := (3 : Int32)) rfl ?_
  refine goCallS Xt36 hx hZ hown (hw _ (List.mem_of_getElem? (i := 5) rfl)) (hw _ (List.mem_of_getElem? (i := 6) rfl)) (hw _ (List.mem_of_getElem? (i := 3) rfl)) (hw _ (List.mem_of_getElem? (i := 7) rfl)) (by decide) (rmC13 l Z a0 hw (own_lo (own_lo z0 z1) (own_lo z2 z3)) (own_hi z0 z1) (own_hi (own_lo z0 z1) (own_lo z2 z3)) (own_hi z2 z3) b2 ht36 O39 Yc2 fr_b2) 0 (by decide) (by decide) et36 (hsz rfl) [(.ref b2), (.int (1 : Int32)), (.int (3 : Int32))] [] pd_1 rfl rfl rfl (Nat.le_of_eq rfl) (hb hby at_97) (by decide) (by decide) (fun Tt40 vt40 Lt40 Xt40 qt40 => ?_)
  obtain ⟨ht40, et40⟩ : ∃ z, Tt40.heap = z := ⟨_, rfl⟩
  rw [et40] at qt40
  obtain ⟨rfl, N41, Kct40, Yc3⟩ := qt40
  have N42 := Fr.app N38 N41
  have O43 : Ext Z.heap ht40 := extK O39 Kct40 (allS fr_b2 all0)
  show Goes p e below _ (Tt40.setTop (mkF m 100 #[.val (.int p0), .val (.int p1), .val (.int p2), .val (.int p3), .val (.int p4), .val (.ref b2), .unset, .unset, .unset, .unset, .unset, .unset] []))
  refine gAload Xt40 hx (hb hby at_100) rfl rfl ?_
  refine gIconst Xt40 hx (hb hby at_102) (v := (1 : Int32)) rfl ?_
  refine gIconst Xt40 hx (hb hby at_103) (v := (2 : Int32)) rfl ?_
  refine goCallS Xt40 hx hZ hown (hw _ (List.mem_of_getElem? (i := 5) rfl)) (hw _ (List.mem_of_getElem? (i := 6) rfl)) (hw _ (List.mem_of_getElem? (i := 3) rfl)) (hw _ (List.mem_of_getElem? (i := 7) rfl)) (by decide) (rmC12 l Z a0 hw (own_lo (own_lo z0 z1) (own_lo z2 z3)) (own_lo (own_hi z0 z1) (own_hi z2 z3)) (own_hi (own_lo z0 z1) (own_lo z2 z3)) (own_hi (own_hi z0 z1) (own_hi z2 z3)) b2 ht40 O43 Yc3 fr_b2) 0 (by decide) (by decide) et40 (hsz rfl) [(.ref b2), (.int (1 : Int32)), (.int (2 : Int32))] [] pd_1 rfl rfl rfl (Nat.le_of_eq rfl) (hb hby at_104) (by decide) (by decide) (fun Tt44 vt44 Lt44 Xt44 qt44 => ?_)
  obtain ⟨ht44, et44⟩ : ∃ z, Tt44.heap = z := ⟨_, rfl⟩
  rw [et44] at qt44
  obtain ⟨rfl, N45, Kct44, Yc4⟩ := qt44
  have N46 := Fr.app N42 N45
  have O47 : Ext Z.heap ht44 := extK O43 Kct44 (allS fr_b2 all0)
  show Goes p e below _ (Tt44.setTop (mkF m 107 #[.val (.int p0), .val (.int p1), .val (.int p2), .val (.int p3), .val (.int p4), .val (.ref b2), .unset, .unset, .unset, .unset, .unset, .unset] []))
  refine gIload Xt44 hx (hb hby at_107) rfl ?_
  refine gBipush Xt44 hx (hb hby at_109) (v := (8 : Int32)) rfl ?_
  refine gIushr Xt44 hx (hb hby at_111) ?_
  refine gBipush Xt44 hx (hb hby at_112) (v := (7 : Int32)) rfl ?_
  refine gIand Xt44 hx (hb hby at_114) ?_
  refine gIconst Xt44 hx (hb hby at_115) (v := (5 : Int32)) rfl ?_
  refine gIrem Xt44 hx (hb hby at_116) (by decide) ?_
  show Goes p e below _ (Tt44.setTop (mkF m 117 #[.val (.int p0), .val (.int p1), .val (.int p2), .val (.int p3), .val (.int p4), .val (.ref b2), .unset, .unset, .unset, .unset, .unset, .unset] [(.int (((XT.ushr p4 (8 : Int32)) &&& (7 : Int32)) % (5 : Int32)))]))
  refine gIstore Xt44 hx (hb hby at_117) (l' := #[.val (.int p0), .val (.int p1), .val (.int p2), .val (.int p3), .val (.int p4), .val (.ref b2), .val (.int (((XT.ushr p4 (8 : Int32)) &&& (7 : Int32)) % (5 : Int32))), .unset, .unset, .unset, .unset, .unset]) rfl ?_
  refine gIload Xt44 hx (hb hby at_119) rfl ?_
  have hs := own_net z0 z1 z2 z3
  generalize (own_lo (own_lo z0 z1) (own_lo z2 z3)) = t0 at hs Yc4
  generalize (own_lo (own_lo (own_hi z0 z1) (own_hi z2 z3)) (own_hi (own_lo z0 z1) (own_lo z2 z3))) = t1 at hs Yc4
  generalize (own_hi (own_lo (own_hi z0 z1) (own_hi z2 z3)) (own_hi (own_lo z0 z1) (own_lo z2 z3))) = t2 at hs Yc4
  generalize (own_hi (own_hi z0 z1) (own_hi z2 z3)) = t3 at hs Yc4
  obtain ⟨s01, s12, s23⟩ := hs
  have h5 := own_k5 p4
  show Goes p e below _ (Tt44.setTop (mkF m 121 #[.val (.int p0), .val (.int p1), .val (.int p2), .val (.int p3), .val (.int p4), .val (.ref b2), .val (.int (((XT.ushr p4 (8 : Int32)) &&& (7 : Int32)) % (5 : Int32))), .unset, .unset, .unset, .unset, .unset] [(.int (((XT.ushr p4 (8 : Int32)) &&& (7 : Int32)) % (5 : Int32)))]))
  generalize hk : (((XT.ushr p4 (8 : Int32)) &&& (7 : Int32)) % (5 : Int32)) = k at h5 ⊢
  show Goes p e below _ (Tt44.setTop (mkF m 121 #[.val (.int p0), .val (.int p1), .val (.int p2), .val (.int p3), .val (.int p4), .val (.ref b2), .val (.int k), .unset, .unset, .unset, .unset, .unset] [(.int k)]))
  rcases h5 with rfl | rfl | rfl | rfl | rfl
  · show Goes p e below _ (Tt44.setTop (mkF m 121 #[.val (.int p0), .val (.int p1), .val (.int p2), .val (.int p3), .val (.int p4), .val (.ref b2), .val (.int (0 : Int32)), .unset, .unset, .unset, .unset, .unset] [(.int (0 : Int32))]))
    obtain ⟨Tt49, ht49, kt49, Xt49, et49, Et49, At49, stt49⟩ := newP Xt44 hx hZ (hw _ (List.mem_of_getElem? (i := 0) rfl)) et44 (g := (mkF m 121 #[.val (.int p0), .val (.int p1), .val (.int p2), .val (.int p3), .val (.int p4), .val (.ref b2), .val (.int (0 : Int32)), .unset, .unset, .unset, .unset, .unset] [(.int (0 : Int32))])) rfl (hb hby at_121) rfl (by decide) (cap := 0) (by decide) (by decide) (by decide) (by decide)
    obtain ⟨b50, gb50⟩ : ∃ z, z = ht44.size := ⟨_, rfl⟩
    rw [← gb50] at At49 stt49
    refine go stt49 ?_
    have ne_b2_b50 : b2 ≠ b50 := Nat.ne_of_lt (gb50 ▸ Yc4.lt)
    have fr_b50 : Z.heap.size ≤ b50 := gb50 ▸ O47.1
    replace Yc4 := Yc4.ext Et49
    have O51 : Ext Z.heap ht49 := extT O47 Et49
    have Y_b50 : Ary Z ht49 b50 .int [] := Ary.new At49 rfl (by decide)
    show Goes p e below _ (Tt49.setTop (mkF m 123 #[.val (.int p0), .val (.int p1), .val (.int p2), .val (.int p3), .val (.int p4), .val (.ref b2), .val (.int (0 : Int32)), .unset, .unset, .unset, .unset, .unset] [(.ref b50)]))
    refine gAstore Xt49 hx (hb hby at_123) rfl (l' := #[.val (.int p0), .val (.int p1), .val (.int p2), .val (.int p3), .val (.int p4), .val (.ref b2), .val (.int (0 : Int32)), .val (.ref b50), .unset, .unset, .unset, .unset]) rfl ?_
    refine gIload Xt49 hx (hb hby at_125) rfl ?_
    refine gIfY Xt49 hx (hb hby at_127) (pc' := 138) (XT.i0_le_t (by decide)) (by decide) (by decide) ?_
    show Goes p e below _ (Tt49.setTop (mkF m 138 #[.val (.int p0), .val (.int p1), .val (.int p2), .val (.int p3), .val (.int p4), .val (.ref b2), .val (.int (0 : Int32)), .val (.ref b50), .unset, .unset, .unset, .unset] []))
    refine gIload Xt49 hx (hb hby at_138) rfl ?_
    refine gIconst Xt49 hx (hb hby at_140) (v := (1 : Int32)) rfl ?_
    refine gIcmpY Xt49 hx (hb hby at_141) (pc' := 152) (XT.ii_le_t (by decide)) (by decide) (by decide) ?_
    show Goes p e below _ (Tt49.setTop (mkF m 152 #[.val (.int p0), .val (.int p1), .val (.int p2), .val (.int p3), .val (.int p4), .val (.ref b2), .val (.int (0 : Int32)), .val (.ref b50), .unset, .unset, .unset, .unset] []))
    refine gIload Xt49 hx (hb hby at_152) rfl ?_
    refine gIconst Xt49 hx (hb hby at_154) (v := (2 : Int32)) rfl ?_
    refine gIcmpY Xt49 hx (hb hby at_155) (pc' := 166) (XT.ii_le_t (by decide)) (by decide) (by decide) ?_
    show Goes p e below _ (Tt49.setTop (mkF m 166 #[.val (.int p0), .val (.int p1), .val (.int p2), .val (.int p3), .val (.int p4), .val (.ref b2), .val (.int (0 : Int32)), .val (.ref b50), .unset, .unset, .unset, .unset] []))
    refine gIload Xt49 hx (hb hby at_166) rfl ?_
    refine gIconst Xt49 hx (hb hby at_168) (v := (3 : Int32)) rfl ?_
    refine gIcmpY Xt49 hx (hb hby at_169) (pc' := 180) (XT.ii_le_t (by decide)) (by decide) (by decide) ?_
    show Goes p e below _ (Tt49.setTop (mkF m 180 #[.val (.int p0), .val (.int p1), .val (.int p2), .val (.int p3), .val (.int p4), .val (.ref b2), .val (.int (0 : Int32)), .val (.ref b50), .unset, .unset, .unset, .unset] []))
    refine gAload Xt49 hx (hb hby at_180) rfl rfl ?_
    refine goCallS Xt49 hx hZ hown (hw _ (List.mem_of_getElem? (i := 8) rfl)) (hw _ (List.mem_of_getElem? (i := 9) rfl)) (hw _ (List.mem_of_getElem? (i := 10) rfl)) (hw _ (List.mem_of_getElem? (i := 11) rfl)) (by decide) (rmD0 l Z a0 hw  b50 ht49 O51 Y_b50 fr_b50) 0 (by decide) (by decide) et49 (hsz rfl) [(.ref b50)] [] pd_2 rfl rfl rfl (Nat.le_of_eq rfl) (hb hby at_182) (by decide) (by decide) (fun Tt52 vt52 Lt52 Xt52 qt52 => ?_)
    obtain ⟨ht52, et52⟩ : ∃ z, Tt52.heap = z := ⟨_, rfl⟩
    rw [et52] at qt52
    obtain ⟨k_, ws, rfl, N53, Kct52, Yd, alts⟩ := qt52
    have N54 := Fr.app N46 N53
    replace Yc4 := Yc4.keep Kct52 (ninS ne_b2_b50 nin0)
    have O55 : Ext Z.heap ht52 := extK O51 Kct52 (allS fr_b50 all0)
    show Goes p e below _ (Tt52.setTop (mkF m 185 #[.val (.int p0), .val (.int p1), .val (.int p2), .val (.int p3), .val (.int p4), .val (.ref b2), .val (.int (0 : Int32)), .val (.ref b50), .unset, .unset, .unset, .unset] [(.int k_)]))
    rcases alts with ⟨rfl, rfl, -⟩
    · show Goes p e below _ (Tt52.setTop (mkF m 185 #[.val (.int p0), .val (.int p1), .val (.int p2), .val (.int p3), .val (.int p4), .val (.ref b2), .val (.int (0 : Int32)), .val (.ref b50), .unset, .unset, .unset, .unset] [(.int (0 : Int32))]))
      refine gIstore Xt52 hx (hb hby at_185) (l' := #[.val (.int p0), .val (.int p1), .val (.int p2), .val (.int p3), .val (.int p4), .val (.ref b2), .val (.int (0 : Int32)), .val (.ref b50), .val (.int (0 : Int32)), .unset, .unset, .unset]) rfl ?_
      refine gIload Xt52 hx (hb hby at_187) rfl ?_
      refine gIfN Xt52 hx (hb hby at_189) (XT.i0_lt_f (by decide)) ?_
      show Goes p e below _ (Tt52.setTop (mkF m 192 #[.val (.int p0), .val (.int p1), .val (.int p2), .val (.int p3), .val (.int p4), .val (.ref b2), .val (.int (0 : Int32)), .val (.ref b50), .val (.int (0 : Int32)), .unset, .unset, .unset] []))
      refine gIload Xt52 hx (hb hby at_192) rfl ?_
      refine gIload Xt52 hx (hb hby at_194) rfl ?_
      refine gIcmpY Xt52 hx (hb hby at_196) (pc' := 201) (XT.ii_le_t (by decide)) (by decide) (by decide) ?_
      show Goes p e below _ (Tt52.setTop (mkF m 201 #[.val (.int p0), .val (.int p1), .val (.int p2), .val (.int p3), .val (.int p4), .val (.ref b2), .val (.int (0 : Int32)), .val (.ref b50), .val (.int (0 : Int32)), .unset, .unset, .unset] []))
      refine gIload Xt52 hx (hb hby at_201) rfl ?_
      refine gIconst Xt52 hx (hb hby at_203) (v := (2 : Int32)) rfl ?_
      refine gIcmpY Xt52 hx (hb hby at_204) (pc' := 218) (XT.ii_lt_t (by decide)) (by decide) (by decide) ?_
      show Goes p e below _ (Tt52.setTop (mkF m 218 #[.val (.int p0), .val (.int p1), .val (.int p2), .val (.int p3), .val (.int p4), .val (.ref b2), .val (.int (0 : Int32)), .val (.ref b50), .val (.int (0 : Int32)), .unset, .unset, .unset] []))
      refine gIload Xt52 hx (hb hby at_218) rfl ?_
      refine gIconst Xt52 hx (hb hby at_220) (v := (3 : Int32)) rfl ?_
      refine gIcmpY Xt52 hx (hb hby at_221) (pc' := 235) (XT.ii_lt_t (by decide)) (by decide) (by decide) ?_
      show Goes p e below _ (Tt52.setTop (mkF m 235 #[.val (.int p0), .val (.int p1), .val (.int p2), .val (.int p3), .val (.int p4), .val (.ref b2), .val (.int (0 : Int32)), .val (.ref b50), .val (.int (0 : Int32)), .unset, .unset, .unset] []))
      refine gIload Xt52 hx (hb hby at_235) rfl ?_
      refine gIconst Xt52 hx (hb hby at_237) (v := (4 : Int32)) rfl ?_
      refine gIcmpY Xt52 hx (hb hby at_238) (pc' := 252) (XT.ii_lt_t (by decide)) (by decide) (by decide) ?_
      show Goes p e below _ (Tt52.setTop (mkF m 252 #[.val (.int p0), .val (.int p1), .val (.int p2), .val (.int p3), .val (.int p4), .val (.ref b2), .val (.int (0 : Int32)), .val (.ref b50), .val (.int (0 : Int32)), .unset, .unset, .unset] []))
      refine gIconst Xt52 hx (hb hby at_252) (v := (1 : Int32)) rfl ?_
      refine gGoto Xt52 hx (hb hby at_253) (pc' := 257) (by decide) (by decide) ?_
      show Goes p e below _ (Tt52.setTop (mkF m 257 #[.val (.int p0), .val (.int p1), .val (.int p2), .val (.int p3), .val (.int p4), .val (.ref b2), .val (.int (0 : Int32)), .val (.ref b50), .val (.int (0 : Int32)), .unset, .unset, .unset] [(.int (1 : Int32))]))
      refine gIstore Xt52 hx (hb hby at_257) (l' := #[.val (.int p0), .val (.int p1), .val (.int p2), .val (.int p3), .val (.int p4), .val (.ref b2), .val (.int (0 : Int32)), .val (.ref b50), .val (.int (0 : Int32)), .val (.int (1 : Int32)), .unset, .unset]) rfl ?_
      refine gIload Xt52 hx (hb hby at_259) rfl ?_
      refine gIconst Xt52 hx (hb hby at_261) (v := (1 : Int32)) rfl ?_
      refine gIcmpY Xt52 hx (hb hby at_262) (pc' := 279) (XT.ii_lt_t (by decide)) (by decide) (by decide) ?_
      show Goes p e below _ (Tt52.setTop (mkF m 279 #[.val (.int p0), .val (.int p1), .val (.int p2), .val (.int p3), .val (.int p4), .val (.ref b2), .val (.int (0 : Int32)), .val (.ref b50), .val (.int (0 : Int32)), .val (.int (1 : Int32)), .unset, .unset] []))
      refine gIload Xt52 hx (hb hby at_279) rfl ?_
      refine gIconst Xt52 hx (hb hby at_281) (v := (2 : Int32)) rfl ?_
      refine gIcmpY Xt52 hx (hb hby at_282) (pc' := 299) (XT.ii_lt_t (by decide)) (by decide) (by decide) ?_
      show Goes p e below _ (Tt52.setTop (mkF m 299 #[.val (.int p0), .val (.int p1), .val (.int p2), .val (.int p3), .val (.int p4), .val (.ref b2), .val (.int (0 : Int32)), .val (.ref b50), .val (.int (0 : Int32)), .val (.int (1 : Int32)), .unset, .unset] []))
      refine gIload Xt52 hx (hb hby at_299) rfl ?_
      refine gIconst Xt52 hx (hb hby at_301) (v := (3 : Int32)) rfl ?_
      refine gIcmpY Xt52 hx (hb hby at_302) (pc' := 319) (XT.ii_lt_t (by decide)) (by decide) (by decide) ?_
      show Goes p e below _ (Tt52.setTop (mkF m 319 #[.val (.int p0), .val (.int p1), .val (.int p2), .val (.int p3), .val (.int p4), .val (.ref b2), .val (.int (0 : Int32)), .val (.ref b50), .val (.int (0 : Int32)), .val (.int (1 : Int32)), .unset, .unset] []))
      refine gIload Xt52 hx (hb hby at_319) rfl ?_
      refine gIconst Xt52 hx (hb hby at_321) (v := (4 : Int32)) rfl ?_
      refine gIcmpY Xt52 hx (hb hby at_322) (pc' := 339) (XT.ii_lt_t (by decide)) (by decide) (by decide) ?_
      show Goes p e below _ (Tt52.setTop (mkF m 339 #[.val (.int p0), .val (.int p1), .val (.int p2), .val (.int p3), .val (.int p4), .val (.ref b2), .val (.int (0 : Int32)), .val (.ref b50), .val (.int (0 : Int32)), .val (.int (1 : Int32)), .unset, .unset] []))
      refine gIconst Xt52 hx (hb hby at_339) (v := (1 : Int32)) rfl ?_
      refine gGoto Xt52 hx (hb hby at_340) (pc' := 344) (by decide) (by decide) ?_
      show Goes p e below _ (Tt52.setTop (mkF m 344 #[.val (.int p0), .val (.int p1), .val (.int p2), .val (.int p3), .val (.int p4), .val (.ref b2), .val (.int (0 : Int32)), .val (.ref b50), .val (.int (0 : Int32)), .val (.int (1 : Int32)), .unset, .unset] [(.int (1 : Int32))]))
      refine gIstore Xt52 hx (hb hby at_344) (l' := #[.val (.int p0), .val (.int p1), .val (.int p2), .val (.int p3), .val (.int p4), .val (.ref b2), .val (.int (0 : Int32)), .val (.ref b50), .val (.int (0 : Int32)), .val (.int (1 : Int32)), .val (.int (1 : Int32)), .unset]) rfl ?_
      refine gIload Xt52 hx (hb hby at_346) rfl ?_
      refine gIconst Xt52 hx (hb hby at_348) (v := (1 : Int32)) rfl ?_
      refine gIcmpY Xt52 hx (hb hby at_349) (pc' := 366) (XT.ii_lt_t (by decide)) (by decide) (by decide) ?_
      show Goes p e below _ (Tt52.setTop (mkF m 366 #[.val (.int p0), .val (.int p1), .val (.int p2), .val (.int p3), .val (.int p4), .val (.ref b2), .val (.int (0 : Int32)), .val (.ref b50), .val (.int (0 : Int32)), .val (.int (1 : Int32)), .val (.int (1 : Int32)), .unset] []))
      refine gIload Xt52 hx (hb hby at_366) rfl ?_
      refine gIconst Xt52 hx (hb hby at_368) (v := (2 : Int32)) rfl ?_
      refine gIcmpY Xt52 hx (hb hby at_369) (pc' := 386) (XT.ii_lt_t (by decide)) (by decide) (by decide) ?_
      show Goes p e below _ (Tt52.setTop (mkF m 386 #[.val (.int p0), .val (.int p1), .val (.int p2), .val (.int p3), .val (.int p4), .val (.ref b2), .val (.int (0 : Int32)), .val (.ref b50), .val (.int (0 : Int32)), .val (.int (1 : Int32)), .val (.int (1 : Int32)), .unset] []))
      refine gIload Xt52 hx (hb hby at_386) rfl ?_
      refine gIconst Xt52 hx (hb hby at_388) (v := (3 : Int32)) rfl ?_
      refine gIcmpY Xt52 hx (hb hby at_389) (pc' := 406) (XT.ii_lt_t (by decide)) (by decide) (by decide) ?_
      show Goes p e below _ (Tt52.setTop (mkF m 406 #[.val (.int p0), .val (.int p1), .val (.int p2), .val (.int p3), .val (.int p4), .val (.ref b2), .val (.int (0 : Int32)), .val (.ref b50), .val (.int (0 : Int32)), .val (.int (1 : Int32)), .val (.int (1 : Int32)), .unset] []))
      refine gIload Xt52 hx (hb hby at_406) rfl ?_
      refine gIconst Xt52 hx (hb hby at_408) (v := (4 : Int32)) rfl ?_
      refine gIcmpY Xt52 hx (hb hby at_409) (pc' := 426) (XT.ii_lt_t (by decide)) (by decide) (by decide) ?_
      show Goes p e below _ (Tt52.setTop (mkF m 426 #[.val (.int p0), .val (.int p1), .val (.int p2), .val (.int p3), .val (.int p4), .val (.ref b2), .val (.int (0 : Int32)), .val (.ref b50), .val (.int (0 : Int32)), .val (.int (1 : Int32)), .val (.int (1 : Int32)), .unset] []))
      refine gIconst Xt52 hx (hb hby at_426) (v := (1 : Int32)) rfl ?_
      refine gGoto Xt52 hx (hb hby at_427) (pc' := 431) (by decide) (by decide) ?_
      show Goes p e below _ (Tt52.setTop (mkF m 431 #[.val (.int p0), .val (.int p1), .val (.int p2), .val (.int p3), .val (.int p4), .val (.ref b2), .val (.int (0 : Int32)), .val (.ref b50), .val (.int (0 : Int32)), .val (.int (1 : Int32)), .val (.int (1 : Int32)), .unset] [(.int (1 : Int32))]))
      refine gIstore Xt52 hx (hb hby at_431) (l' := #[.val (.int p0), .val (.int p1), .val (.int p2), .val (.int p3), .val (.int p4), .val (.ref b2), .val (.int (0 : Int32)), .val (.ref b50), .val (.int (0 : Int32)), .val (.int (1 : Int32)), .val (.int (1 : Int32)), .val (.int (1 : Int32))]) rfl ?_
      refine gIload Xt52 hx (hb hby at_433) rfl ?_
      refine gIfN Xt52 hx (hb hby at_435) (XT.i0_eq_f (by decide)) ?_
      show Goes p e below _ (Tt52.setTop (mkF m 438 #[.val (.int p0), .val (.int p1), .val (.int p2), .val (.int p3), .val (.int p4), .val (.ref b2), .val (.int (0 : Int32)), .val (.ref b50), .val (.int (0 : Int32)), .val (.int (1 : Int32)), .val (.int (1 : Int32)), .val (.int (1 : Int32))] []))
      refine gIload Xt52 hx (hb hby at_438) rfl ?_
      refine gIfN Xt52 hx (hb hby at_440) (XT.i0_eq_f (by decide)) ?_
      show Goes p e below _ (Tt52.setTop (mkF m 443 #[.val (.int p0), .val (.int p1), .val (.int p2), .val (.int p3), .val (.int p4), .val (.ref b2), .val (.int (0 : Int32)), .val (.ref b50), .val (.int (0 : Int32)), .val (.int (1 : Int32)), .val (.int (1 : Int32)), .val (.int (1 : Int32))] []))
      refine gIload Xt52 hx (hb hby at_443) rfl ?_
      refine gIfN Xt52 hx (hb hby at_445) (XT.i0_eq_f (by decide)) ?_
      show Goes p e below _ (Tt52.setTop (mkF m 448 #[.val (.int p0), .val (.int p1), .val (.int p2), .val (.int p3), .val (.int p4), .val (.ref b2), .val (.int (0 : Int32)), .val (.ref b50), .val (.int (0 : Int32)), .val (.int (1 : Int32)), .val (.int (1 : Int32)), .val (.int (1 : Int32))] []))
      refine gIconst Xt52 hx (hb hby at_448) (v := (1 : Int32)) rfl ?_
      refine gGoto Xt52 hx (hb hby at_449) (pc' := 453) (by decide) (by decide) ?_
      show Goes p e below _ (Tt52.setTop (mkF m 453 #[.val (.int p0), .val (.int p1), .val (.int p2), .val (.int p3), .val (.int p4), .val (.ref b2), .val (.int (0 : Int32)), .val (.ref b50), .val (.int (0 : Int32)), .val (.int (1 : Int32)), .val (.int (1 : Int32)), .val (.int (1 : Int32))] [(.int (1 : Int32))]))
      exact goRetN Xt52 hx (t := .boolean) hret hlocks (by simp) (hb hby at_453) (z' := (1 : Int32)) rfl (by decide) (by decide) et52 (⟨rfl, N54⟩)
  · show Goes p e below _ (Tt44.setTop (mkF m 121 #[.val (.int p0), .val (.int p1), .val (.int p2), .val (.int p3), .val (.int p4), .val (.ref b2), .val (.int (1 : Int32)), .unset, .unset, .unset, .unset, .unset] [(.int (1 : Int32))]))
    obtain ⟨Tt56, ht56, kt56, Xt56, et56, Et56, At56, stt56⟩ := newP Xt44 hx hZ (hw _ (List.mem_of_getElem? (i := 0) rfl)) et44 (g := (mkF m 121 #[.val (.int p0), .val (.int p1), .val (.int p2), .val (.int p3), .val (.int p4), .val (.ref b2), .val (.int (1 : Int32)), .unset, .unset, .unset, .unset, .unset] [(.int (1 : Int32))])) rfl (hb hby at_121) rfl (by decide) (cap := 1) (by decide) (by decide) (by decide) (by decide)
    obtain ⟨b57, gb57⟩ : ∃ z, z = ht44.size := ⟨_, rfl⟩
    rw [← gb57] at At56 stt56
    refine go stt56 ?_
    have ne_b2_b57 : b2 ≠ b57 := Nat.ne_of_lt (gb57 ▸ Yc4.lt)
    have fr_b57 : Z.heap.size ≤ b57 := gb57 ▸ O47.1
    replace Yc4 := Yc4.ext Et56
    have O58 : Ext Z.heap ht56 := extT O47 Et56
    have Y_b57 : Ary Z ht56 b57 .int [(.int (0 : Int32))] := Ary.new At56 rfl (by decide)
    show Goes p e below _ (Tt56.setTop (mkF m 123 #[.val (.int p0), .val (.int p1), .val (.int p2), .val (.int p3), .val (.int p4), .val (.ref b2), .val (.int (1 : Int32)), .unset, .unset, .unset, .unset, .unset] [(.ref b57)]))
    refine gAstore Xt56 hx (hb hby at_123) rfl (l' := #[.val (.int p0), .val (.int p1), .val (.int p2), .val (.int p3), .val (.int p4), .val (.ref b2), .val (.int (1 : Int32)), .val (.ref b57), .unset, .unset, .unset, .unset]) rfl ?_
    refine gIload Xt56 hx (hb hby at_125) rfl ?_
    refine gIfN Xt56 hx (hb hby at_127) (XT.i0_le_f (by decide)) ?_
    show Goes p e below _ (Tt56.setTop (mkF m 130 #[.val (.int p0), .val (.int p1), .val (.int p2), .val (.int p3), .val (.int p4), .val (.ref b2), .val (.int (1 : Int32)), .val (.ref b57), .unset, .unset, .unset, .unset] []))
    refine gAload Xt56 hx (hb hby at_130) rfl rfl ?_
    refine gIconst Xt56 hx (hb hby at_132) (v := (0 : Int32)) rfl ?_
    refine gAload Xt56 hx (hb hby at_133) rfl rfl ?_
    refine gIconst Xt56 hx (hb hby at_135) (v := (0 : Int32)) rfl ?_
    refine goIaload Xt56 hx hZ et56 Yc4 (x := t0) (hb hby at_136) (by decide) rfl ?_
    refine goIastore Xt56 hx hZ et56 Y_b57 (hb hby at_137) (by decide) rfl (fun Tt59 ht59 Xt59 et59 Wt59 => ?_)
    have N60 := Fr.snoc Xt59 N46 fr_b57
    replace Y_b57 : Ary Z ht59 b57 .int [(.int t0)] := Y_b57.set Wt59 rfl
    replace Yc4 := Yc4.other Wt59 ne_b2_b57
    have O61 : Ext Z.heap ht59 := extW O58 Wt59 fr_b57
    show Goes p e below _ (Tt59.setTop (mkF m 138 #[.val (.int p0), .val (.int p1), .val (.int p2), .val (.int p3), .val (.int p4), .val (.ref b2), .val (.int (1 : Int32)), .val (.ref b57), .unset, .unset, .unset, .unset] []))
    refine gIload Xt59 hx (hb hby at_138) rfl ?_
    refine gIconst Xt59 hx (hb hby at_140) (v := (1 : Int32)) rfl ?_
    refine gIcmpY Xt59 hx (hb hby at_141) (pc' := 152) (XT.ii_le_t (by decide)) (by decide) (by decide) ?_
    show Goes p e below _ (Tt59.setTop (mkF m 152 #[.val (.int p0), .val (.int p1), .val (.int p2), .val (.int p3), .val (.int p4), .val (.ref b2), .val (.int (1 : Int32)), .val (.ref b57), .unset, .unset, .unset, .unset] []))
    refine gIload Xt59 hx (hb hby at_152) rfl ?_
    refine gIconst Xt59 hx (hb hby at_154) (v := (2 : Int32)) rfl ?_
    refine gIcmpY Xt59 hx (hb hby at_155) (pc' := 166) (XT.ii_le_t (by decide)) (by decide) (by decide) ?_
    show Goes p e below _ (Tt59.setTop (mkF m 166 #[.val (.int p0), .val (.int p1), .val (.int p2), .val (.int p3), .val (.int p4), .val (.ref b2), .val (.int (1 : Int32)), .val (.ref b57), .unset, .unset, .unset, .unset] []))
    refine gIload Xt59 hx (hb hby at_166) rfl ?_
    refine gIconst Xt59 hx (hb hby at_168) (v := (3 : Int32)) rfl ?_
    refine gIcmpY Xt59 hx (hb hby at_169) (pc' := 180) (XT.ii_le_t (by decide)) (by decide) (by decide) ?_
    show Goes p e below _ (Tt59.setTop (mkF m 180 #[.val (.int p0), .val (.int p1), .val (.int p2), .val (.int p3), .val (.int p4), .val (.ref b2), .val (.int (1 : Int32)), .val (.ref b57), .unset, .unset, .unset, .unset] []))
    refine gAload Xt59 hx (hb hby at_180) rfl rfl ?_
    refine goCallS Xt59 hx hZ hown (hw _ (List.mem_of_getElem? (i := 8) rfl)) (hw _ (List.mem_of_getElem? (i := 9) rfl)) (hw _ (List.mem_of_getElem? (i := 10) rfl)) (hw _ (List.mem_of_getElem? (i := 11) rfl)) (by decide) (rmD1 l Z a0 hw t0 b57 ht59 O61 Y_b57 fr_b57) 0 (by decide) (by decide) et59 (hsz rfl) [(.ref b57)] [] pd_2 rfl rfl rfl (Nat.le_of_eq rfl) (hb hby at_182) (by decide) (by decide) (fun Tt62 vt62 Lt62 Xt62 qt62 => ?_)
    obtain ⟨ht62, et62⟩ : ∃ z, Tt62.heap = z := ⟨_, rfl⟩
    rw [et62] at qt62
    obtain ⟨k_, ws, rfl, N63, Kct62, Yd, alts⟩ := qt62
    have N64 := Fr.app N60 N63
    replace Yc4 := Yc4.keep Kct62 (ninS ne_b2_b57 nin0)
    have O65 : Ext Z.heap ht62 := extK O61 Kct62 (allS fr_b57 all0)
    show Goes p e below _ (Tt62.setTop (mkF m 185 #[.val (.int p0), .val (.int p1), .val (.int p2), .val (.int p3), .val (.int p4), .val (.ref b2), .val (.int (1 : Int32)), .val (.ref b57), .unset, .unset, .unset, .unset] [(.int k_)]))
    rcases alts with ⟨rfl, rfl, -⟩
    · show Goes p e below _ (Tt62.setTop (mkF m 185 #[.val (.int p0), .val (.int p1), .val (.int p2), .val (.int p3), .val (.int p4), .val (.ref b2), .val (.int (1 : Int32)), .val (.ref b57), .unset, .unset, .unset, .unset] [(.int (1 : Int32))]))
      refine gIstore Xt62 hx (hb hby at_185) (l' := #[.val (.int p0), .val (.int p1), .val (.int p2), .val (.int p3), .val (.int p4), .val (.ref b2), .val (.int (1 : Int32)), .val (.ref b57), .val (.int (1 : Int32)), .unset, .unset, .unset]) rfl ?_
      refine gIload Xt62 hx (hb hby at_187) rfl ?_
      refine gIfN Xt62 hx (hb hby at_189) (XT.i0_lt_f (by decide)) ?_
      show Goes p e below _ (Tt62.setTop (mkF m 192 #[.val (.int p0), .val (.int p1), .val (.int p2), .val (.int p3), .val (.int p4), .val (.ref b2), .val (.int (1 : Int32)), .val (.ref b57), .val (.int (1 : Int32)), .unset, .unset, .unset] []))
      refine gIload Xt62 hx (hb hby at_192) rfl ?_
      refine gIload Xt62 hx (hb hby at_194) rfl ?_
      refine gIcmpY Xt62 hx (hb hby at_196) (pc' := 201) (XT.ii_le_t (by decide)) (by decide) (by decide) ?_
      show Goes p e below _ (Tt62.setTop (mkF m 201 #[.val (.int p0), .val (.int p1), .val (.int p2), .val (.int p3), .val (.int p4), .val (.ref b2), .val (.int (1 : Int32)), .val (.ref b57), .val (.int (1 : Int32)), .unset, .unset, .unset] []))
      refine gIload Xt62 hx (hb hby at_201) rfl ?_
      refine gIconst Xt62 hx (hb hby at_203) (v := (2 : Int32)) rfl ?_
      refine gIcmpY Xt62 hx (hb hby at_204) (pc' := 218) (XT.ii_lt_t (by decide)) (by decide) (by decide) ?_
      show Goes p e below _ (Tt62.setTop (mkF m 218 #[.val (.int p0), .val (.int p1), .val (.int p2), .val (.int p3), .val (.int p4), .val (.ref b2), .val (.int (1 : Int32)), .val (.ref b57), .val (.int (1 : Int32)), .unset, .unset, .unset] []))
      refine gIload Xt62 hx (hb hby at_218) rfl ?_
      refine gIconst Xt62 hx (hb hby at_220) (v := (3 : Int32)) rfl ?_
      refine gIcmpY Xt62 hx (hb hby at_221) (pc' := 235) (XT.ii_lt_t (by decide)) (by decide) (by decide) ?_
      show Goes p e below _ (Tt62.setTop (mkF m 235 #[.val (.int p0), .val (.int p1), .val (.int p2), .val (.int p3), .val (.int p4), .val (.ref b2), .val (.int (1 : Int32)), .val (.ref b57), .val (.int (1 : Int32)), .unset, .unset, .unset] []))
      refine gIload Xt62 hx (hb hby at_235) rfl ?_
      refine gIconst Xt62 hx (hb hby at_237) (v := (4 : Int32)) rfl ?_
      refine gIcmpY Xt62 hx (hb hby at_238) (pc' := 252) (XT.ii_lt_t (by decide)) (by decide) (by decide) ?_
      show Goes p e below _ (Tt62.setTop (mkF m 252 #[.val (.int p0), .val (.int p1), .val (.int p2), .val (.int p3), .val (.int p4), .val (.ref b2), .val (.int (1 : Int32)), .val (.ref b57), .val (.int (1 : Int32)), .unset, .unset, .unset] []))
      refine gIconst Xt62 hx (hb hby at_252) (v := (1 : Int32)) rfl ?_
      refine gGoto Xt62 hx (hb hby at_253) (pc' := 257) (by decide) (by decide) ?_
      show Goes p e below _ (Tt62.setTop (mkF m 257 #[.val (.int p0), .val (.int p1), .val (.int p2), .val (.int p3), .val (.int p4), .val (.ref b2), .val (.int (1 : Int32)), .val (.ref b57), .val (.int (1 : Int32)), .unset, .unset, .unset] [(.int (1 : Int32))]))
      refine gIstore Xt62 hx (hb hby at_257) (l' := #[.val (.int p0), .val (.int p1), .val (.int p2), .val (.int p3), .val (.int p4), .val (.ref b2), .val (.int (1 : Int32)), .val (.ref b57), .val (.int (1 : Int32)), .val (.int (1 : Int32)), .unset, .unset]) rfl ?_
      refine gIload Xt62 hx (hb hby at_259) rfl ?_
      refine gIconst Xt62 hx (hb hby at_261) (v := (1 : Int32)) rfl ?_
      refine gIcmpN Xt62 hx (hb hby at_262) (XT.ii_lt_f (by decide)) ?_
      show Goes p e below _ (Tt62.setTop (mkF m 265 #[.val (.int p0), .val (.int p1), .val (.int p2), .val (.int p3), .val (.int p4), .val (.ref b2), .val (.int (1 : Int32)), .val (.ref b57), .val (.int (1 : Int32)), .val (.int (1 : Int32)), .unset, .unset] []))
      refine gAload Xt62 hx (hb hby at_265) rfl rfl ?_
      refine gIload Xt62 hx (hb hby at_267) rfl ?_
      refine gAload Xt62 hx (hb hby at_269) rfl rfl ?_
      refine gIconst Xt62 hx (hb hby at_271) (v := (0 : Int32)) rfl ?_
      refine goIaload Xt62 hx hZ et62 Yc4 (x := t0) (hb hby at_272) (by decide) rfl ?_
      refine goCallS Xt62 hx hZ hown (hw _ (List.mem_of_getElem? (i := 12) rfl)) (hw _ (List.mem_of_getElem? (i := 13) rfl)) (hw _ (List.mem_of_getElem? (i := 3) rfl)) (hw _ (List.mem_of_getElem? (i := 14) rfl)) (by decide) (rmH1 l Z a0 hw t0 [] b57 t0 ht62 O65 Yd) 0 (by decide) (by decide) et62 (hsz rfl) [(.ref b57), (.int (1 : Int32)), (.int t0)] [] pd_3 rfl rfl rfl (Nat.le_of_eq rfl) (hb hby at_273) (by decide) (by decide) (fun Tt66 vt66 Lt66 Xt66 qt66 => ?_)
      obtain ⟨rfl, N67, et66⟩ := qt66
      have N68 := Fr.app N64 N67
      show Goes p e below _ (Tt66.setTop (mkF m 276 #[.val (.int p0), .val (.int p1), .val (.int p2), .val (.int p3), .val (.int p4), .val (.ref b2), .val (.int (1 : Int32)), .val (.ref b57), .val (.int (1 : Int32)), .val (.int (1 : Int32)), .unset, .unset] [(.int (own_has1 t0 t0))]))
      refine gIfN Xt66 hx (hb hby at_276) (XT.i0_eq_f (by simp [own_has1])) ?_
      show Goes p e below _ (Tt66.setTop (mkF m 279 #[.val (.int p0), .val (.int p1), .val (.int p2), .val (.int p3), .val (.int p4), .val (.ref b2), .val (.int (1 : Int32)), .val (.ref b57), .val (.int (1 : Int32)), .val (.int (1 : Int32)), .unset, .unset] []))
      refine gIload Xt66 hx (hb hby at_279) rfl ?_
      refine gIconst Xt66 hx (hb hby at_281) (v := (2 : Int32)) rfl ?_
      refine gIcmpY Xt66 hx (hb hby at_282) (pc' := 299) (XT.ii_lt_t (by decide)) (by decide) (by decide) ?_
      show Goes p e below _ (Tt66.setTop (mkF m 299 #[.val (.int p0), .val (.int p1), .val (.int p2), .val (.int p3), .val (.int p4), .val (.ref b2), .val (.int (1 : Int32)), .val (.ref b57), .val (.int (1 : Int32)), .val (.int (1 : Int32)), .unset, .unset] []))
      refine gIload Xt66 hx (hb hby at_299) rfl ?_
      refine gIconst Xt66 hx (hb hby at_301) (v := (3 : Int32)) rfl ?_
      refine gIcmpY Xt66 hx (hb hby at_302) (pc' := 319) (XT.ii_lt_t (by decide)) (by decide) (by decide) ?_
      show Goes p e below _ (Tt66.setTop (mkF m 319 #[.val (.int p0), .val (.int p1), .val (.int p2), .val (.int p3), .val (.int p4), .val (.ref b2), .val (.int (1 : Int32)), .val (.ref b57), .val (.int (1 : Int32)), .val (.int (1 : Int32)), .unset, .unset] []))
      refine gIload Xt66 hx (hb hby at_319) rfl ?_
      refine gIconst Xt66 hx (hb hby at_321) (v := (4 : Int32)) rfl ?_
      refine gIcmpY Xt66 hx (hb hby at_322) (pc' := 339) (XT.ii_lt_t (by decide)) (by decide) (by decide) ?_
      show Goes p e below _ (Tt66.setTop (mkF m 339 #[.val (.int p0), .val (.int p1), .val (.int p2), .val (.int p3), .val (.int p4), .val (.ref b2), .val (.int (1 : Int32)), .val (.ref b57), .val (.int (1 : Int32)), .val (.int (1 : Int32)), .unset, .unset] []))
      refine gIconst Xt66 hx (hb hby at_339) (v := (1 : Int32)) rfl ?_
      refine gGoto Xt66 hx (hb hby at_340) (pc' := 344) (by decide) (by decide) ?_
      show Goes p e below _ (Tt66.setTop (mkF m 344 #[.val (.int p0), .val (.int p1), .val (.int p2), .val (.int p3), .val (.int p4), .val (.ref b2), .val (.int (1 : Int32)), .val (.ref b57), .val (.int (1 : Int32)), .val (.int (1 : Int32)), .unset, .unset] [(.int (1 : Int32))]))
      refine gIstore Xt66 hx (hb hby at_344) (l' := #[.val (.int p0), .val (.int p1), .val (.int p2), .val (.int p3), .val (.int p4), .val (.ref b2), .val (.int (1 : Int32)), .val (.ref b57), .val (.int (1 : Int32)), .val (.int (1 : Int32)), .val (.int (1 : Int32)), .unset]) rfl ?_
      refine gIload Xt66 hx (hb hby at_346) rfl ?_
      refine gIconst Xt66 hx (hb hby at_348) (v := (1 : Int32)) rfl ?_
      refine gIcmpN Xt66 hx (hb hby at_349) (XT.ii_lt_f (by decide)) ?_
      show Goes p e below _ (Tt66.setTop (mkF m 352 #[.val (.int p0), .val (.int p1), .val (.int p2), .val (.int p3), .val (.int p4), .val (.ref b2), .val (.int (1 : Int32)), .val (.ref b57), .val (.int (1 : Int32)), .val (.int (1 : Int32)), .val (.int (1 : Int32)), .unset] []))
      refine gAload Xt66 hx (hb hby at_352) rfl rfl ?_
      refine gIload Xt66 hx (hb hby at_354) rfl ?_
      refine gAload Xt66 hx (hb hby at_356) rfl rfl ?_
      refine gIconst Xt66 hx (hb hby at_358) (v := (0 : Int32)) rfl ?_
      refine goIaload Xt66 hx hZ et66 Yd (x := t0) (hb hby at_359) (by decide) rfl ?_
      refine goCallS Xt66 hx hZ hown (hw _ (List.mem_of_getElem? (i := 12) rfl)) (hw _ (List.mem_of_getElem? (i := 13) rfl)) (hw _ (List.mem_of_getElem? (i := 3) rfl)) (hw _ (List.mem_of_getElem? (i := 14) rfl)) (by decide) (rmH1 l Z a0 hw t0 [.int t1, .int t2, .int t3] b2 t0 ht62 O65 Yc4) 0 (by decide) (by decide) et66 (hsz rfl) [(.ref b2), (.int (1 : Int32)), (.int t0)] [] pd_3 rfl rfl rfl (Nat.le_of_eq rfl) (hb hby at_360) (by decide) (by decide) (fun Tt69 vt69 Lt69 Xt69 qt69 => ?_)
      obtain ⟨rfl, N70, et69⟩ := qt69
      have N71 := Fr.app N68 N70
      show Goes p e below _ (Tt69.setTop (mkF m 363 #[.val (.int p0), .val (.int p1), .val (.int p2), .val (.int p3), .val (.int p4), .val (.ref b2), .val (.int (1 : Int32)), .val (.ref b57), .val (.int (1 : Int32)), .val (.int (1 : Int32)), .val (.int (1 : Int32)), .unset] [(.int (own_has1 t0 t0))]))
      refine gIfN Xt69 hx (hb hby at_363) (XT.i0_eq_f (by simp [own_has1])) ?_
      show Goes p e below _ (Tt69.setTop (mkF m 366 #[.val (.int p0), .val (.int p1), .val (.int p2), .val (.int p3), .val (.int p4), .val (.ref b2), .val (.int (1 : Int32)), .val (.ref b57), .val (.int (1 : Int32)), .val (.int (1 : Int32)), .val (.int (1 : Int32)), .unset] []))
      refine gIload Xt69 hx (hb hby at_366) rfl ?_
      refine gIconst Xt69 hx (hb hby at_368) (v := (2 : Int32)) rfl ?_
      refine gIcmpY Xt69 hx (hb hby at_369) (pc' := 386) (XT.ii_lt_t (by decide)) (by decide) (by decide) ?_
      show Goes p e below _ (Tt69.setTop (mkF m 386 #[.val (.int p0), .val (.int p1), .val (.int p2), .val (.int p3), .val (.int p4), .val (.ref b2), .val (.int (1 : Int32)), .val (.ref b57), .val (.int (1 : Int32)), .val (.int (1 : Int32)), .val (.int (1 : Int32)), .unset] []))
      refine gIload Xt69 hx (hb hby at_386) rfl ?_
      refine gIconst Xt69 hx (hb hby at_388) (v := (3 : Int32)) rfl ?_
      refine gIcmpY Xt69 hx (hb hby at_389) (pc' := 406) (XT.ii_lt_t (by decide)) (by decide) (by decide) ?_
      show Goes p e below _ (Tt69.setTop (mkF m 406 #[.val (.int p0), .val (.int p1), .val (.int p2), .val (.int p3), .val (.int p4), .val (.ref b2), .val (.int (1 : Int32)), .val (.ref b57), .val (.int (1 : Int32)), .val (.int (1 : Int32)), .val (.int (1 : Int32)), .unset] []))
      refine gIload Xt69 hx (hb hby at_406) rfl ?_
      refine gIconst Xt69 hx (hb hby at_408) (v := (4 : Int32)) rfl ?_
      refine gIcmpY Xt69 hx (hb hby at_409) (pc' := 426) (XT.ii_lt_t (by decide)) (by decide) (by decide) ?_
      show Goes p e below _ (Tt69.setTop (mkF m 426 #[.val (.int p0), .val (.int p1), .val (.int p2), .val (.int p3), .val (.int p4), .val (.ref b2), .val (.int (1 : Int32)), .val (.ref b57), .val (.int (1 : Int32)), .val (.int (1 : Int32)), .val (.int (1 : Int32)), .unset] []))
      refine gIconst Xt69 hx (hb hby at_426) (v := (1 : Int32)) rfl ?_
      refine gGoto Xt69 hx (hb hby at_427) (pc' := 431) (by decide) (by decide) ?_
      show Goes p e below _ (Tt69.setTop (mkF m 431 #[.val (.int p0), .val (.int p1), .val (.int p2), .val (.int p3), .val (.int p4), .val (.ref b2), .val (.int (1 : Int32)), .val (.ref b57), .val (.int (1 : Int32)), .val (.int (1 : Int32)), .val (.int (1 : Int32)), .unset] [(.int (1 : Int32))]))
      refine gIstore Xt69 hx (hb hby at_431) (l' := #[.val (.int p0), .val (.int p1), .val (.int p2), .val (.int p3), .val (.int p4), .val (.ref b2), .val (.int (1 : Int32)), .val (.ref b57), .val (.int (1 : Int32)), .val (.int (1 : Int32)), .val (.int (1 : Int32)), .val (.int (1 : Int32))]) rfl ?_
      refine gIload Xt69 hx (hb hby at_433) rfl ?_
      refine gIfN Xt69 hx (hb hby at_435) (XT.i0_eq_f (by decide)) ?_
      show Goes p e below _ (Tt69.setTop (mkF m 438 #[.val (.int p0), .val (.int p1), .val (.int p2), .val (.int p3), .val (.int p4), .val (.ref b2), .val (.int (1 : Int32)), .val (.ref b57), .val (.int (1 : Int32)), .val (.int (1 : Int32)), .val (.int (1 : Int32)), .val (.int (1 : Int32))] []))
      refine gIload Xt69 hx (hb hby at_438) rfl ?_
      refine gIfN Xt69 hx (hb hby at_440) (XT.i0_eq_f (by decide)) ?_
      show Goes p e below _ (Tt69.setTop (mkF m 443 #[.val (.int p0), .val (.int p1), .val (.int p2), .val (.int p3), .val (.int p4), .val (.ref b2), .val (.int (1 : Int32)), .val (.ref b57), .val (.int (1 : Int32)), .val (.int (1 : Int32)), .val (.int (1 : Int32)), .val (.int (1 : Int32))] []))
      refine gIload Xt69 hx (hb hby at_443) rfl ?_
      refine gIfN Xt69 hx (hb hby at_445) (XT.i0_eq_f (by decide)) ?_
      show Goes p e below _ (Tt69.setTop (mkF m 448 #[.val (.int p0), .val (.int p1), .val (.int p2), .val (.int p3), .val (.int p4), .val (.ref b2), .val (.int (1 : Int32)), .val (.ref b57), .val (.int (1 : Int32)), .val (.int (1 : Int32)), .val (.int (1 : Int32)), .val (.int (1 : Int32))] []))
      refine gIconst Xt69 hx (hb hby at_448) (v := (1 : Int32)) rfl ?_
      refine gGoto Xt69 hx (hb hby at_449) (pc' := 453) (by decide) (by decide) ?_
      show Goes p e below _ (Tt69.setTop (mkF m 453 #[.val (.int p0), .val (.int p1), .val (.int p2), .val (.int p3), .val (.int p4), .val (.ref b2), .val (.int (1 : Int32)), .val (.ref b57), .val (.int (1 : Int32)), .val (.int (1 : Int32)), .val (.int (1 : Int32)), .val (.int (1 : Int32))] [(.int (1 : Int32))]))
      exact goRetN Xt69 hx (t := .boolean) hret hlocks (by simp) (hb hby at_453) (z' := (1 : Int32)) rfl (by decide) (by decide) et69 (⟨rfl, N71⟩)
  · show Goes p e below _ (Tt44.setTop (mkF m 121 #[.val (.int p0), .val (.int p1), .val (.int p2), .val (.int p3), .val (.int p4), .val (.ref b2), .val (.int (2 : Int32)), .unset, .unset, .unset, .unset, .unset] [(.int (2 : Int32))]))
    obtain ⟨Tt72, ht72, kt72, Xt72, et72, Et72, At72, stt72⟩ := newP Xt44 hx hZ (hw _ (List.mem_of_getElem? (i := 0) rfl)) et44 (g := (mkF m 121 #[.val (.int p0), .val (.int p1), .val (.int p2), .val (.int p3), .val (.int p4), .val (.ref b2), .val (.int (2 : Int32)), .unset, .unset, .unset, .unset, .unset] [(.int (2 : Int32))])) rfl (hb hby at_121) rfl (by decide) (cap := 2) (by decide) (by decide) (by decide) (by decide)
    obtain ⟨b73, gb73⟩ : ∃ z, z = ht44.size := ⟨_, rfl⟩
    rw [← gb73] at At72 stt72
    refine go stt72 ?_
    have ne_b2_b73 : b2 ≠ b73 := Nat.ne_of_lt (gb73 ▸ Yc4.lt)
    have fr_b73 : Z.heap.size ≤ b73 := gb73 ▸ O47.1
    replace Yc4 := Yc4.ext Et72
    have O74 : Ext Z.heap ht72 := extT O47 Et72
    have Y_b73 : Ary Z ht72 b73 .int [(.int (0 : Int32)), (.int (0 : Int32))] := Ary.new At72 rfl (by decide)
    show Goes p e below _ (Tt72.setTop (mkF m 123 #[.val (.int p0), .val (.int p1), .val (.int p2), .val (.int p3), .val (.int p4), .val (.ref b2), .val (.int (2 : Int32)), .unset, .unset, .unset, .unset, .unset] [(.ref b73)]))
    refine gAstore Xt72 hx (hb hby at_123) rfl (l' := #[.val (.int p0), .val (.int p1), .val (.int p2), .val (.int p3), .val (.int p4), .val (.ref b2), .val (.int (2 : Int32)), .val (.ref b73), .unset, .unset, .unset, .unset]) rfl ?_
    refine gIload Xt72 hx (hb hby at_125) rfl ?_
    refine gIfN Xt72 hx (hb hby at_127) (XT.i0_le_f (by decide)) ?_
    show Goes p e below _ (Tt72.setTop (mkF m 130 #[.val (.int p0), .val (.int p1), .val (.int p2), .val (.int p3), .val (.int p4), .val (.ref b2), .val (.int (2 : Int32)), .val (.ref b73), .unset, .unset, .unset, .unset] []))
    refine gAload Xt72 hx (hb hby at_130) rfl rfl ?_
    refine gIconst Xt72 hx (hb hby at_132) (v := (0 : Int32)) rfl ?_
    refine gAload Xt72 hx (hb hby at_133) rfl rfl ?_
    refine gIconst Xt72 hx (hb hby at_135) (v := (0 : Int32)) rfl ?_
    refine goIaload Xt72 hx hZ et72 Yc4 (x := t0) (hb hby at_136) (by decide) rfl ?_
    refine goIastore Xt72 hx hZ et72 Y_b73 (hb hby at_137) (by decide) rfl (fun Tt75 ht75 Xt75 et75 Wt75 => ?_)
    have N76 := Fr.snoc Xt75 N46 fr_b73
    replace Y_b73 : Ary Z ht75 b73 .int [(.int t0), (.int (0 : Int32))] := Y_b73.set Wt75 rfl
    replace Yc4 := Yc4.other Wt75 ne_b2_b73
    have O77 : Ext Z.heap ht75 := extW O74 Wt75 fr_b73
    show Goes p e below _ (Tt75.setTop (mkF m 138 #[.val (.int p0), .val (.int p1), .val (.int p2), .val (.int p3), .val (.int p4), .val (.ref b2), .val (.int (2 : Int32)), .val (.ref b73), .unset, .unset, .unset, .unset] []))
    refine gIload Xt75 hx (hb hby at_138) rfl ?_
    refine gIconst Xt75 hx (hb hby at_140) (v := (1 : Int32)) rfl ?_
    refine gIcmpN Xt75 hx (hb hby at_141) (XT.ii_le_f (by decide)) ?_
    show Goes p e below _ (Tt75.setTop (mkF m 144 #[.val (.int p0), .val (.int p1), .val (.int p2), .val (.int p3), .val (.int p4), .val (.ref b2), .val (.int (2 : Int32)), .val (.ref b73), .unset, .unset, .unset, .unset] []))
    refine gAload Xt75 hx (hb hby at_144) rfl rfl ?_
    refine gIconst Xt75 hx (hb hby at_146) (v := (1 : Int32)) rfl ?_
    refine gAload Xt75 hx (hb hby at_147) rfl rfl ?_
    refine gIconst Xt75 hx (hb hby at_149) (v := (1 : Int32)) rfl ?_
    refine goIaload Xt75 hx hZ et75 Yc4 (x := t1) (hb hby at_150) (by decide) rfl ?_
    refine goIastore Xt75 hx hZ et75 Y_b73 (hb hby at_151) (by decide) rfl (fun Tt78 ht78 Xt78 et78 Wt78 => ?_)
    have N79 := Fr.snoc Xt78 N76 fr_b73
    replace Y_b73 : Ary Z ht78 b73 .int [(.int t0), (.int t1)] := Y_b73.set Wt78 rfl
    replace Yc4 := Yc4.other Wt78 ne_b2_b73
    have O80 : Ext Z.heap ht78 := extW O77 Wt78 fr_b73
    show Goes p e below _ (Tt78.setTop (mkF m 152 #[.val (.int p0), .val (.int p1), .val (.int p2), .val (.int p3), .val (.int p4), .val (.ref b2), .val (.int (2 : Int32)), .val (.ref b73), .unset, .unset, .unset, .unset] []))
    refine gIload Xt78 hx (hb hby at_152) rfl ?_
    refine gIconst Xt78 hx (hb hby at_154) (v := (2 : Int32)) rfl ?_
    refine gIcmpY Xt78 hx (hb hby at_155) (pc' := 166) (XT.ii_le_t (by decide)) (by decide) (by decide) ?_
    show Goes p e below _ (Tt78.setTop (mkF m 166 #[.val (.int p0), .val (.int p1), .val (.int p2), .val (.int p3), .val (.int p4), .val (.ref b2), .val (.int (2 : Int32)), .val (.ref b73), .unset, .unset, .unset, .unset] []))
    refine gIload Xt78 hx (hb hby at_166) rfl ?_
    refine gIconst Xt78 hx (hb hby at_168) (v := (3 : Int32)) rfl ?_
    refine gIcmpY Xt78 hx (hb hby at_169) (pc' := 180) (XT.ii_le_t (by decide)) (by decide) (by decide) ?_
    show Goes p e below _ (Tt78.setTop (mkF m 180 #[.val (.int p0), .val (.int p1), .val (.int p2), .val (.int p3), .val (.int p4), .val (.ref b2), .val (.int (2 : Int32)), .val (.ref b73), .unset, .unset, .unset, .unset] []))
    refine gAload Xt78 hx (hb hby at_180) rfl rfl ?_
    refine goCallS Xt78 hx hZ hown (hw _ (List.mem_of_getElem? (i := 8) rfl)) (hw _ (List.mem_of_getElem? (i := 9) rfl)) (hw _ (List.mem_of_getElem? (i := 10) rfl)) (hw _ (List.mem_of_getElem? (i := 11) rfl)) (by decide) (rmD2 l Z a0 hw t0 t1 b73 ht78 O80 Y_b73 fr_b73) 0 (by decide) (by decide) et78 (hsz rfl) [(.ref b73)] [] pd_2 rfl rfl rfl (Nat.le_of_eq rfl) (hb hby at_182) (by decide) (by decide) (fun Tt81 vt81 Lt81 Xt81 qt81 => ?_)
    obtain ⟨ht81, et81⟩ : ∃ z, Tt81.heap = z := ⟨_, rfl⟩
    rw [et81] at qt81
    obtain ⟨k_, ws, rfl, N82, Kct81, Yd, alts⟩ := qt81
    have N83 := Fr.app N79 N82
    replace Yc4 := Yc4.keep Kct81 (ninS ne_b2_b73 nin0)
    have O84 : Ext Z.heap ht81 := extK O80 Kct81 (allS fr_b73 all0)
    show Goes p e below _ (Tt81.setTop (mkF m 185 #[.val (.int p0), .val (.int p1), .val (.int p2), .val (.int p3), .val (.int p4), .val (.ref b2), .val (.int (2 : Int32)), .val (.ref b73), .unset, .unset, .unset, .unset] [(.int k_)]))
    rcases alts with ⟨rfl, rfl, e1, -⟩ | ⟨rfl, rfl, e1, -⟩
    · show Goes p e below _ (Tt81.setTop (mkF m 185 #[.val (.int p0), .val (.int p1), .val (.int p2), .val (.int p3), .val (.int p4), .val (.ref b2), .val (.int (2 : Int32)), .val (.ref b73), .unset, .unset, .unset, .unset] [(.int (1 : Int32))]))
      have f1 : t1.toInt = t0.toInt := by rw [e1]
      refine gIstore Xt81 hx (hb hby at_185) (l' := #[.val (.int p0), .val (.int p1), .val (.int p2), .val (.int p3), .val (.int p4), .val (.ref b2), .val (.int (2 : Int32)), .val (.ref b73), .val (.int (1 : Int32)), .unset, .unset, .unset]) rfl ?_
      refine gIload Xt81 hx (hb hby at_187) rfl ?_
      refine gIfN Xt81 hx (hb hby at_189) (XT.i0_lt_f (by decide)) ?_
      show Goes p e below _ (Tt81.setTop (mkF m 192 #[.val (.int p0), .val (.int p1), .val (.int p2), .val (.int p3), .val (.int p4), .val (.ref b2), .val (.int (2 : Int32)), .val (.ref b73), .val (.int (1 : Int32)), .unset, .unset, .unset] []))
      refine gIload Xt81 hx (hb hby at_192) rfl ?_
      refine gIload Xt81 hx (hb hby at_194) rfl ?_
      refine gIcmpY Xt81 hx (hb hby at_196) (pc' := 201) (XT.ii_le_t (by decide)) (by decide) (by decide) ?_
      show Goes p e below _ (Tt81.setTop (mkF m 201 #[.val (.int p0), .val (.int p1), .val (.int p2), .val (.int p3), .val (.int p4), .val (.ref b2), .val (.int (2 : Int32)), .val (.ref b73), .val (.int (1 : Int32)), .unset, .unset, .unset] []))
      refine gIload Xt81 hx (hb hby at_201) rfl ?_
      refine gIconst Xt81 hx (hb hby at_203) (v := (2 : Int32)) rfl ?_
      refine gIcmpY Xt81 hx (hb hby at_204) (pc' := 218) (XT.ii_lt_t (by decide)) (by decide) (by decide) ?_
      show Goes p e below _ (Tt81.setTop (mkF m 218 #[.val (.int p0), .val (.int p1), .val (.int p2), .val (.int p3), .val (.int p4), .val (.ref b2), .val (.int (2 : Int32)), .val (.ref b73), .val (.int (1 : Int32)), .unset, .unset, .unset] []))
      refine gIload Xt81 hx (hb hby at_218) rfl ?_
      refine gIconst Xt81 hx (hb hby at_220) (v := (3 : Int32)) rfl ?_
      refine gIcmpY Xt81 hx (hb hby at_221) (pc' := 235) (XT.ii_lt_t (by decide)) (by decide) (by decide) ?_
      show Goes p e below _ (Tt81.setTop (mkF m 235 #[.val (.int p0), .val (.int p1), .val (.int p2), .val (.int p3), .val (.int p4), .val (.ref b2), .val (.int (2 : Int32)), .val (.ref b73), .val (.int (1 : Int32)), .unset, .unset, .unset] []))
      refine gIload Xt81 hx (hb hby at_235) rfl ?_
      refine gIconst Xt81 hx (hb hby at_237) (v := (4 : Int32)) rfl ?_
      refine gIcmpY Xt81 hx (hb hby at_238) (pc' := 252) (XT.ii_lt_t (by decide)) (by decide) (by decide) ?_
      show Goes p e below _ (Tt81.setTop (mkF m 252 #[.val (.int p0), .val (.int p1), .val (.int p2), .val (.int p3), .val (.int p4), .val (.ref b2), .val (.int (2 : Int32)), .val (.ref b73), .val (.int (1 : Int32)), .unset, .unset, .unset] []))
      refine gIconst Xt81 hx (hb hby at_252) (v := (1 : Int32)) rfl ?_
      refine gGoto Xt81 hx (hb hby at_253) (pc' := 257) (by decide) (by decide) ?_
      show Goes p e below _ (Tt81.setTop (mkF m 257 #[.val (.int p0), .val (.int p1), .val (.int p2), .val (.int p3), .val (.int p4), .val (.ref b2), .val (.int (2 : Int32)), .val (.ref b73), .val (.int (1 : Int32)), .unset, .unset, .unset] [(.int (1 : Int32))]))
      refine gIstore Xt81 hx (hb hby at_257) (l' := #[.val (.int p0), .val (.int p1), .val (.int p2), .val (.int p3), .val (.int p4), .val (.ref b2), .val (.int (2 : Int32)), .val (.ref b73), .val (.int (1 : Int32)), .val (.int (1 : Int32)), .unset, .unset]) rfl ?_
      refine gIload Xt81 hx (hb hby at_259) rfl ?_
      refine gIconst Xt81 hx (hb hby at_261) (v := (1 : Int32)) rfl ?_
      refine gIcmpN Xt81 hx (hb hby at_262) (XT.ii_lt_f (by decide)) ?_
      show Goes p e below _ (Tt81.setTop (mkF m 265 #[.val (.int p0), .val (.int p1), .val (.int p2), .val (.int p3), .val (.int p4), .val (.ref b2), .val (.int (2 : Int32)), .val (.ref b73), .val (.int (1 : Int32)), .val (.int (1 : Int32)), .unset, .unset] []))
      refine gAload Xt81 hx (hb hby at_265) rfl rfl ?_
      refine gIload Xt81 hx (hb hby at_267) rfl ?_
      refine gAload Xt81 hx (hb hby at_269) rfl rfl ?_
      refine gIconst Xt81 hx (hb hby at_271) (v := (0 : Int32)) rfl ?_
      refine goIaload Xt81 hx hZ et81 Yc4 (x := t0) (hb hby at_272) (by decide) rfl ?_
      refine goCallS Xt81 hx hZ hown (hw _ (List.mem_of_getElem? (i := 12) rfl)) (hw _ (List.mem_of_getElem? (i := 13) rfl)) (hw _ (List.mem_of_getElem? (i := 3) rfl)) (hw _ (List.mem_of_getElem? (i := 14) rfl)) (by decide) (rmH1 l Z a0 hw t0 [.int t1] b73 t0 ht81 O84 Yd) 0 (by decide) (by decide) et81 (hsz rfl) [(.ref b73), (.int (1 : Int32)), (.int t0)] [] pd_3 rfl rfl rfl (Nat.le_of_eq rfl) (hb hby at_273) (by decide) (by decide) (fun Tt85 vt85 Lt85 Xt85 qt85 => ?_)
      obtain ⟨rfl, N86, et85⟩ := qt85
      have N87 := Fr.app N83 N86
      show Goes p e below _ (Tt85.setTop (mkF m 276 #[.val (.int p0), .val (.int p1), .val (.int p2), .val (.int p3), .val (.int p4), .val (.ref b2), .val (.int (2 : Int32)), .val (.ref b73), .val (.int (1 : Int32)), .val (.int (1 : Int32)), .unset, .unset] [(.int (own_has1 t0 t0))]))
      refine gIfN Xt85 hx (hb hby at_276) (XT.i0_eq_f (by simp [own_has1, e1])) ?_
      show Goes p e below _ (Tt85.setTop (mkF m 279 #[.val (.int p0), .val (.int p1), .val (.int p2), .val (.int p3), .val (.int p4), .val (.ref b2), .val (.int (2 : Int32)), .val (.ref b73), .val (.int (1 : Int32)), .val (.int (1 : Int32)), .unset, .unset] []))
      refine gIload Xt85 hx (hb hby at_279) rfl ?_
      refine gIconst Xt85 hx (hb hby at_281) (v := (2 : Int32)) rfl ?_
      refine gIcmpN Xt85 hx (hb hby at_282) (XT.ii_lt_f (by decide)) ?_
      show Goes p e below _ (Tt85.setTop (mkF m 285 #[.val (.int p0), .val (.int p1), .val (.int p2), .val (.int p3), .val (.int p4), .val (.ref b2), .val (.int (2 : Int32)), .val (.ref b73), .val (.int (1 : Int32)), .val (.int (1 : Int32)), .unset, .unset] []))
      refine gAload Xt85 hx (hb hby at_285) rfl rfl ?_
      refine gIload Xt85 hx (hb hby at_287) rfl ?_
      refine gAload Xt85 hx (hb hby at_289) rfl rfl ?_
      refine gIconst Xt85 hx (hb hby at_291) (v := (1 : Int32)) rfl ?_
      refine goIaload Xt85 hx hZ et85 Yc4 (x := t1) (hb hby at_292) (by decide) rfl ?_
      refine goCallS Xt85 hx hZ hown (hw _ (List.mem_of_getElem? (i := 12) rfl)) (hw _ (List.mem_of_getElem? (i := 13) rfl)) (hw _ (List.mem_of_getElem? (i := 3) rfl)) (hw _ (List.mem_of_getElem? (i := 14) rfl)) (by decide) (rmH1 l Z a0 hw t0 [.int t1] b73 t1 ht81 O84 Yd) 0 (by decide) (by decide) et85 (hsz rfl) [(.ref b73), (.int (1 : Int32)), (.int t1)] [] pd_3 rfl rfl rfl (Nat.le_of_eq rfl) (hb hby at_293) (by decide) (by decide) (fun Tt88 vt88 Lt88 Xt88 qt88 => ?_)
      obtain ⟨rfl, N89, et88⟩ := qt88
      have N90 := Fr.app N87 N89
      show Goes p e below _ (Tt88.setTop (mkF m 296 #[.val (.int p0), .val (.int p1), .val (.int p2), .val (.int p3), .val (.int p4), .val (.ref b2), .val (.int (2 : Int32)), .val (.ref b73), .val (.int (1 : Int32)), .val (.int (1 : Int32)), .unset, .unset] [(.int (own_has1 t0 t1))]))
      refine gIfN Xt88 hx (hb hby at_296) (XT.i0_eq_f (by simp [own_has1, e1])) ?_
      show Goes p e below _ (Tt88.setTop (mkF m 299 #[.val (.int p0), .val (.int p1), .val (.int p2), .val (.int p3), .val (.int p4), .val (.ref b2), .val (.int (2 : Int32)), .val (.ref b73), .val (.int (1 : Int32)), .val (.int (1 : Int32)), .unset, .unset] []))
      refine gIload Xt88 hx (hb hby at_299) rfl ?_
      refine gIconst Xt88 hx (hb hby at_301) (v := (3 : Int32)) rfl ?_
      refine gIcmpY Xt88 hx (hb hby at_302) (pc' := 319) (XT.ii_lt_t (by decide)) (by decide) (by decide) ?_
      show Goes p e below _ (Tt88.setTop (mkF m 319 #[.val (.int p0), .val (.int p1), .val (.int p2), .val (.int p3), .val (.int p4), .val (.ref b2), .val (.int (2 : Int32)), .val (.ref b73), .val (.int (1 : Int32)), .val (.int (1 : Int32)), .unset, .unset] []))
      refine gIload Xt88 hx (hb hby at_319) rfl ?_
      refine gIconst Xt88 hx (hb hby at_321) (v := (4 : Int32)) rfl ?_
      refine gIcmpY Xt88 hx (hb hby at_322) (pc' := 339) (XT.ii_lt_t (by decide)) (by decide) (by decide) ?_
      show Goes p e below _ (Tt88.setTop (mkF m 339 #[.val (.int p0), .val (.int p1), .val (.int p2), .val (.int p3), .val (.int p4), .val (.ref b2), .val (.int (2 : Int32)), .val (.ref b73), .val (.int (1 : Int32)), .val (.int (1 : Int32)), .unset, .unset] []))
      refine gIconst Xt88 hx (hb hby at_339) (v := (1 : Int32)) rfl ?_
      refine gGoto Xt88 hx (hb hby at_340) (pc' := 344) (by decide) (by decide) ?_
      show Goes p e below _ (Tt88.setTop (mkF m 344 #[.val (.int p0), .val (.int p1), .val (.int p2), .val (.int p3), .val (.int p4), .val (.ref b2), .val (.int (2 : Int32)), .val (.ref b73), .val (.int (1 : Int32)), .val (.int (1 : Int32)), .unset, .unset] [(.int (1 : Int32))]))
      refine gIstore Xt88 hx (hb hby at_344) (l' := #[.val (.int p0), .val (.int p1), .val (.int p2), .val (.int p3), .val (.int p4), .val (.ref b2), .val (.int (2 : Int32)), .val (.ref b73), .val (.int (1 : Int32)), .val (.int (1 : Int32)), .val (.int (1 : Int32)), .unset]) rfl ?_
      refine gIload Xt88 hx (hb hby at_346) rfl ?_
      refine gIconst Xt88 hx (hb hby at_348) (v := (1 : Int32)) rfl ?_
      refine gIcmpN Xt88 hx (hb hby at_349) (XT.ii_lt_f (by decide)) ?_
      show Goes p e below _ (Tt88.setTop (mkF m 352 #[.val (.int p0), .val (.int p1), .val (.int p2), .val (.int p3), .val (.int p4), .val (.ref b2), .val (.int (2 : Int32)), .val (.ref b73), .val (.int (1 : Int32)), .val (.int (1 : Int32)), .val (.int (1 : Int32)), .unset] []))
      refine gAload Xt88 hx (hb hby at_352) rfl rfl ?_
      refine gIload Xt88 hx (hb hby at_354) rfl ?_
      refine gAload Xt88 hx (hb hby at_356) rfl rfl ?_
      refine gIconst Xt88 hx (hb hby at_358) (v := (0 : Int32)) rfl ?_
      refine goIaload Xt88 hx hZ et88 Yd (x := t0) (hb hby at_359) (by decide) rfl ?_
      refine goCallS Xt88 hx hZ hown (hw _ (List.mem_of_getElem? (i := 12) rfl)) (hw _ (List.mem_of_getElem? (i := 13) rfl)) (hw _ (List.mem_of_getElem? (i := 3) rfl)) (hw _ (List.mem_of_getElem? (i := 14) rfl)) (by decide) (rmH2 l Z a0 hw t0 t1 [.int t2, .int t3] b2 t0 ht81 O84 Yc4) 0 (by decide) (by decide) et88 (hsz rfl) [(.ref b2), (.int (2 : Int32)), (.int t0)] [] pd_3 rfl rfl rfl (Nat.le_of_eq rfl) (hb hby at_360) (by decide) (by decide) (fun Tt91 vt91 Lt91 Xt91 qt91 => ?_)
      obtain ⟨rfl, N92, et91⟩ := qt91
      have N93 := Fr.app N90 N92
      show Goes p e below _ (Tt91.setTop (mkF m 363 #[.val (.int p0), .val (.int p1), .val (.int p2), .val (.int p3), .val (.int p4), .val (.ref b2), .val (.int (2 : Int32)), .val (.ref b73), .val (.int (1 : Int32)), .val (.int (1 : Int32)), .val (.int (1 : Int32)), .unset] [(.int (own_has2 t0 t1 t0))]))
      refine gIfN Xt91 hx (hb hby at_363) (XT.i0_eq_f (by simp [own_has2, e1])) ?_
      show Goes p e below _ (Tt91.setTop (mkF m 366 #[.val (.int p0), .val (.int p1), .val (.int p2), .val (.int p3), .val (.int p4), .val (.ref b2), .val (.int (2 : Int32)), .val (.ref b73), .val (.int (1 : Int32)), .val (.int (1 : Int32)), .val (.int (1 : Int32)), .unset] []))
      refine gIload Xt91 hx (hb hby at_366) rfl ?_
      refine gIconst Xt91 hx (hb hby at_368) (v := (2 : Int32)) rfl ?_
      refine gIcmpY Xt91 hx (hb hby at_369) (pc' := 386) (XT.ii_lt_t (by decide)) (by decide) (by decide) ?_
      show Goes p e below _ (Tt91.setTop (mkF m 386 #[.val (.int p0), .val (.int p1), .val (.int p2), .val (.int p3), .val (.int p4), .val (.ref b2), .val (.int (2 : Int32)), .val (.ref b73), .val (.int (1 : Int32)), .val (.int (1 : Int32)), .val (.int (1 : Int32)), .unset] []))
      refine gIload Xt91 hx (hb hby at_386) rfl ?_
      refine gIconst Xt91 hx (hb hby at_388) (v := (3 : Int32)) rfl ?_
      refine gIcmpY Xt91 hx (hb hby at_389) (pc' := 406) (XT.ii_lt_t (by decide)) (by decide) (by decide) ?_
      show Goes p e below _ (Tt91.setTop (mkF m 406 #[.val (.int p0), .val (.int p1), .val (.int p2), .val (.int p3), .val (.int p4), .val (.ref b2), .val (.int (2 : Int32)), .val (.ref b73), .val (.int (1 : Int32)), .val (.int (1 : Int32)), .val (.int (1 : Int32)), .unset] []))
      refine gIload Xt91 hx (hb hby at_406) rfl ?_
      refine gIconst Xt91 hx (hb hby at_408) (v := (4 : Int32)) rfl ?_
      refine gIcmpY Xt91 hx (hb hby at_409) (pc' := 426) (XT.ii_lt_t (by decide)) (by decide) (by decide) ?_
      show Goes p e below _ (Tt91.setTop (mkF m 426 #[.val (.int p0), .val (.int p1), .val (.int p2), .val (.int p3), .val (.int p4), .val (.ref b2), .val (.int (2 : Int32)), .val (.ref b73), .val (.int (1 : Int32)), .val (.int (1 : Int32)), .val (.int (1 : Int32)), .unset] []))
      refine gIconst Xt91 hx (hb hby at_426) (v := (1 : Int32)) rfl ?_
      refine gGoto Xt91 hx (hb hby at_427) (pc' := 431) (by decide) (by decide) ?_
      show Goes p e below _ (Tt91.setTop (mkF m 431 #[.val (.int p0), .val (.int p1), .val (.int p2), .val (.int p3), .val (.int p4), .val (.ref b2), .val (.int (2 : Int32)), .val (.ref b73), .val (.int (1 : Int32)), .val (.int (1 : Int32)), .val (.int (1 : Int32)), .unset] [(.int (1 : Int32))]))
      refine gIstore Xt91 hx (hb hby at_431) (l' := #[.val (.int p0), .val (.int p1), .val (.int p2), .val (.int p3), .val (.int p4), .val (.ref b2), .val (.int (2 : Int32)), .val (.ref b73), .val (.int (1 : Int32)), .val (.int (1 : Int32)), .val (.int (1 : Int32)), .val (.int (1 : Int32))]) rfl ?_
      refine gIload Xt91 hx (hb hby at_433) rfl ?_
      refine gIfN Xt91 hx (hb hby at_435) (XT.i0_eq_f (by decide)) ?_
      show Goes p e below _ (Tt91.setTop (mkF m 438 #[.val (.int p0), .val (.int p1), .val (.int p2), .val (.int p3), .val (.int p4), .val (.ref b2), .val (.int (2 : Int32)), .val (.ref b73), .val (.int (1 : Int32)), .val (.int (1 : Int32)), .val (.int (1 : Int32)), .val (.int (1 : Int32))] []))
      refine gIload Xt91 hx (hb hby at_438) rfl ?_
      refine gIfN Xt91 hx (hb hby at_440) (XT.i0_eq_f (by decide)) ?_
      show Goes p e below _ (Tt91.setTop (mkF m 443 #[.val (.int p0), .val (.int p1), .val (.int p2), .val (.int p3), .val (.int p4), .val (.ref b2), .val (.int (2 : Int32)), .val (.ref b73), .val (.int (1 : Int32)), .val (.int (1 : Int32)), .val (.int (1 : Int32)), .val (.int (1 : Int32))] []))
      refine gIload Xt91 hx (hb hby at_443) rfl ?_
      refine gIfN Xt91 hx (hb hby at_445) (XT.i0_eq_f (by decide)) ?_
      show Goes p e below _ (Tt91.setTop (mkF m 448 #[.val (.int p0), .val (.int p1), .val (.int p2), .val (.int p3), .val (.int p4), .val (.ref b2), .val (.int (2 : Int32)), .val (.ref b73), .val (.int (1 : Int32)), .val (.int (1 : Int32)), .val (.int (1 : Int32)), .val (.int (1 : Int32))] []))
      refine gIconst Xt91 hx (hb hby at_448) (v := (1 : Int32)) rfl ?_
      refine gGoto Xt91 hx (hb hby at_449) (pc' := 453) (by decide) (by decide) ?_
      show Goes p e below _ (Tt91.setTop (mkF m 453 #[.val (.int p0), .val (.int p1), .val (.int p2), .val (.int p3), .val (.int p4), .val (.ref b2), .val (.int (2 : Int32)), .val (.ref b73), .val (.int (1 : Int32)), .val (.int (1 : Int32)), .val (.int (1 : Int32)), .val (.int (1 : Int32))] [(.int (1 : Int32))]))
      exact goRetN Xt91 hx (t := .boolean) hret hlocks (by simp) (hb hby at_453) (z' := (1 : Int32)) rfl (by decide) (by decide) et91 (⟨rfl, N93⟩)
    · show Goes p e below _ (Tt81.setTop (mkF m 185 #[.val (.int p0), .val (.int p1), .val (.int p2), .val (.int p3), .val (.int p4), .val (.ref b2), .val (.int (2 : Int32)), .val (.ref b73), .unset, .unset, .unset, .unset] [(.int (2 : Int32))]))
      have f1 : ¬ t1.toInt = t0.toInt := fun z => e1 (Int32.toInt_inj.mp z)
      refine gIstore Xt81 hx (hb hby at_185) (l' := #[.val (.int p0), .val (.int p1), .val (.int p2), .val (.int p3), .val (.int p4), .val (.ref b2), .val (.int (2 : Int32)), .val (.ref b73), .val (.int (2 : Int32)), .unset, .unset, .unset]) rfl ?_
      refine gIload Xt81 hx (hb hby at_187) rfl ?_
      refine gIfN Xt81 hx (hb hby at_189) (XT.i0_lt_f (by decide)) ?_
      show Goes p e below _ (Tt81.setTop (mkF m 192 #[.val (.int p0), .val (.int p1), .val (.int p2), .val (.int p3), .val (.int p4), .val (.ref b2), .val (.int (2 : Int32)), .val (.ref b73), .val (.int (2 : Int32)), .unset, .unset, .unset] []))
      refine gIload Xt81 hx (hb hby at_192) rfl ?_
      refine gIload Xt81 hx (hb hby at_194) rfl ?_
      refine gIcmpY Xt81 hx (hb hby at_196) (pc' := 201) (XT.ii_le_t (by decide)) (by decide) (by decide) ?_
      show Goes p e below _ (Tt81.setTop (mkF m 201 #[.val (.int p0), .val (.int p1), .val (.int p2), .val (.int p3), .val (.int p4), .val (.ref b2), .val (.int (2 : Int32)), .val (.ref b73), .val (.int (2 : Int32)), .unset, .unset, .unset] []))
      refine gIload Xt81 hx (hb hby at_201) rfl ?_
      refine gIconst Xt81 hx (hb hby at_203) (v := (2 : Int32)) rfl ?_
      refine gIcmpN Xt81 hx (hb hby at_204) (XT.ii_lt_f (by decide)) ?_
      show Goes p e below _ (Tt81.setTop (mkF m 207 #[.val (.int p0), .val (.int p1), .val (.int p2), .val (.int p3), .val (.int p4), .val (.ref b2), .val (.int (2 : Int32)), .val (.ref b73), .val (.int (2 : Int32)), .unset, .unset, .unset] []))
      refine gAload Xt81 hx (hb hby at_207) rfl rfl ?_
      refine gIconst Xt81 hx (hb hby at_209) (v := (0 : Int32)) rfl ?_
      refine goIaload Xt81 hx hZ et81 Yd (x := t0) (hb hby at_210) (by decide) rfl ?_
      refine gAload Xt81 hx (hb hby at_211) rfl rfl ?_
      refine gIconst Xt81 hx (hb hby at_213) (v := (1 : Int32)) rfl ?_
      refine goIaload Xt81 hx hZ et81 Yd (x := t1) (hb hby at_214) (by decide) rfl ?_
      refine gIcmpN Xt81 hx (hb hby at_215) (XT.ii_ge_f (Int32.lt_iff_toInt_lt.mpr (by omega))) ?_
      show Goes p e below _ (Tt81.setTop (mkF m 218 #[.val (.int p0), .val (.int p1), .val (.int p2), .val (.int p3), .val (.int p4), .val (.ref b2), .val (.int (2 : Int32)), .val (.ref b73), .val (.int (2 : Int32)), .unset, .unset, .unset] []))
      refine gIload Xt81 hx (hb hby at_218) rfl ?_
      refine gIconst Xt81 hx (hb hby at_220) (v := (3 : Int32)) rfl ?_
      refine gIcmpY Xt81 hx (hb hby at_221) (pc' := 235) (XT.ii_lt_t (by decide)) (by decide) (by decide) ?_
      show Goes p e below _ (Tt81.setTop (mkF m 235 #[.val (.int p0), .val (.int p1), .val (.int p2), .val (.int p3), .val (.int p4), .val (.ref b2), .val (.int (2 : Int32)), .val (.ref b73), .val (.int (2 : Int32)), .unset, .unset, .unset] []))
      refine gIload Xt81 hx (hb hby at_235) rfl ?_
      refine gIconst Xt81 hx (hb hby at_237) (v := (4 : Int32)) rfl ?_
      refine gIcmpY Xt81 hx (hb hby at_238) (pc' := 252) (XT.ii_lt_t (by decide)) (by decide) (by decide) ?_
      show Goes p e below _ (Tt81.setTop (mkF m 252 #[.val (.int p0), .val (.int p1), .val (.int p2), .val (.int p3), .val (.int p4), .val (.ref b2), .val (.int (2 : Int32)), .val (.ref b73), .val (.int (2 : Int32)), .unset, .unset, .unset] []))
      refine gIconst Xt81 hx (hb hby at_252) (v := (1 : Int32)) rfl ?_
      refine gGoto Xt81 hx (hb hby at_253) (pc' := 257) (by decide) (by decide) ?_
      show Goes p e below _ (Tt81.setTop (mkF m 257 #[.val (.int p0), .val (.int p1), .val (.int p2), .val (.int p3), .val (.int p4), .val (.ref b2), .val (.int (2 : Int32)), .val (.ref b73), .val (.int (2 : Int32)), .unset, .unset, .unset] [(.int (1 : Int32))]))
      refine gIstore Xt81 hx (hb hby at_257) (l' := #[.val (.int p0), .val (.int p1), .val (.int p2), .val (.int p3), .val (.int p4), .val (.ref b2), .val (.int (2 : Int32)), .val (.ref b73), .val (.int (2 : Int32)), .val (.int (1 : Int32)), .unset, .unset]) rfl ?_
      refine gIload Xt81 hx (hb hby at_259) rfl ?_
      refine gIconst Xt81 hx (hb hby at_261) (v := (1 : Int32)) rfl ?_
      refine gIcmpN Xt81 hx (hb hby at_262) (XT.ii_lt_f (by decide)) ?_
      show Goes p e below _ (Tt81.setTop (mkF m 265 #[.val (.int p0), .val (.int p1), .val (.int p2), .val (.int p3), .val (.int p4), .val (.ref b2), .val (.int (2 : Int32)), .val (.ref b73), .val (.int (2 : Int32)), .val (.int (1 : Int32)), .unset, .unset] []))
      refine gAload Xt81 hx (hb hby at_265) rfl rfl ?_
      refine gIload Xt81 hx (hb hby at_267) rfl ?_
      refine gAload Xt81 hx (hb hby at_269) rfl rfl ?_
      refine gIconst Xt81 hx (hb hby at_271) (v := (0 : Int32)) rfl ?_
      refine goIaload Xt81 hx hZ et81 Yc4 (x := t0) (hb hby at_272) (by decide) rfl ?_
      refine goCallS Xt81 hx hZ hown (hw _ (List.mem_of_getElem? (i := 12) rfl)) (hw _ (List.mem_of_getElem? (i := 13) rfl)) (hw _ (List.mem_of_getElem? (i := 3) rfl)) (hw _ (List.mem_of_getElem? (i := 14) rfl)) (by decide) (rmH2 l Z a0 hw t0 t1 [] b73 t0 ht81 O84 Yd) 0 (by decide) (by decide) et81 (hsz rfl) [(.ref b73), (.int (2 : Int32)), (.int t0)] [] pd_3 rfl rfl rfl (Nat.le_of_eq rfl) (hb hby at_273) (by decide) (by decide) (fun Tt94 vt94 Lt94 Xt94 qt94 => ?_)
      obtain ⟨rfl, N95, et94⟩ := qt94
      have N96 := Fr.app N83 N95
      show Goes p e below _ (Tt94.setTop (mkF m 276 #[.val (.int p0), .val (.int p1), .val (.int p2), .val (.int p3), .val (.int p4), .val (.ref b2), .val (.int (2 : Int32)), .val (.ref b73), .val (.int (2 : Int32)), .val (.int (1 : Int32)), .unset, .unset] [(.int (own_has2 t0 t1 t0))]))
      refine gIfN Xt94 hx (hb hby at_276) (XT.i0_eq_f (by simp [own_has2, e1])) ?_
      show Goes p e below _ (Tt94.setTop (mkF m 279 #[.val (.int p0), .val (.int p1), .val (.int p2), .val (.int p3), .val (.int p4), .val (.ref b2), .val (.int (2 : Int32)), .val (.ref b73), .val (.int (2 : Int32)), .val (.int (1 : Int32)), .unset, .unset] []))
      refine gIload Xt94 hx (hb hby at_279) rfl ?_
      refine gIconst Xt94 hx (hb hby at_281) (v := (2 : Int32)) rfl ?_
      refine gIcmpN Xt94 hx (hb hby at_282) (XT.ii_lt_f (by decide)) ?_
      show Goes p e below _ (Tt94.setTop (mkF m 285 #[.val (.int p0), .val (.int p1), .val (.int p2), .val (.int p3), .val (.int p4), .val (.ref b2), .val (.int (2 : Int32)), .val (.ref b73), .val (.int (2 : Int32)), .val (.int (1 : Int32)), .unset, .unset] []))
      refine gAload Xt94 hx (hb hby at_285) rfl rfl ?_
      refine gIload Xt94 hx (hb hby at_287) rfl ?_
      refine gAload Xt94 hx (hb hby at_289) rfl rfl ?_
      refine gIconst Xt94 hx (hb hby at_291) (v := (1 : Int32)) rfl ?_
      refine goIaload Xt94 hx hZ et94 Yc4 (x := t1) (hb hby at_292) (by decide) rfl ?_
      refine goCallS Xt94 hx hZ hown (hw _ (List.mem_of_getElem? (i := 12) rfl)) (hw _ (List.mem_of_getElem? (i := 13) rfl)) (hw _ (List.mem_of_getElem? (i := 3) rfl)) (hw _ (List.mem_of_getElem? (i := 14) rfl)) (by decide) (rmH2 l Z a0 hw t0 t1 [] b73 t1 ht81 O84 Yd) 0 (by decide) (by decide) et94 (hsz rfl) [(.ref b73), (.int (2 : Int32)), (.int t1)] [] pd_3 rfl rfl rfl (Nat.le_of_eq rfl) (hb hby at_293) (by decide) (by decide) (fun Tt97 vt97 Lt97 Xt97 qt97 => ?_)
      obtain ⟨rfl, N98, et97⟩ := qt97
      have N99 := Fr.app N96 N98
      show Goes p e below _ (Tt97.setTop (mkF m 296 #[.val (.int p0), .val (.int p1), .val (.int p2), .val (.int p3), .val (.int p4), .val (.ref b2), .val (.int (2 : Int32)), .val (.ref b73), .val (.int (2 : Int32)), .val (.int (1 : Int32)), .unset, .unset] [(.int (own_has2 t0 t1 t1))]))
      refine gIfN Xt97 hx (hb hby at_296) (XT.i0_eq_f (by simp [own_has2, e1])) ?_
      show Goes p e below _ (Tt97.setTop (mkF m 299 #[.val (.int p0), .val (.int p1), .val (.int p2), .val (.int p3), .val (.int p4), .val (.ref b2), .val (.int (2 : Int32)), .val (.ref b73), .val (.int (2 : Int32)), .val (.int (1 : Int32)), .unset, .unset] []))
      refine gIload Xt97 hx (hb hby at_299) rfl ?_
      refine gIconst Xt97 hx (hb hby at_301) (v := (3 : Int32)) rfl ?_
      refine gIcmpY Xt97 hx (hb hby at_302) (pc' := 319) (XT.ii_lt_t (by decide)) (by decide) (by decide) ?_
      show Goes p e below _ (Tt97.setTop (mkF m 319 #[.val (.int p0), .val (.int p1), .val (.int p2), .val (.int p3), .val (.int p4), .val (.ref b2), .val (.int (2 : Int32)), .val (.ref b73), .val (.int (2 : Int32)), .val (.int (1 : Int32)), .unset, .unset] []))
      refine gIload Xt97 hx (hb hby at_319) rfl ?_
      refine gIconst Xt97 hx (hb hby at_321) (v := (4 : Int32)) rfl ?_
      refine gIcmpY Xt97 hx (hb hby at_322) (pc' := 339) (XT.ii_lt_t (by decide)) (by decide) (by decide) ?_
      show Goes p e below _ (Tt97.setTop (mkF m 339 #[.val (.int p0), .val (.int p1), .val (.int p2), .val (.int p3), .val (.int p4), .val (.ref b2), .val (.int (2 : Int32)), .val (.ref b73), .val (.int (2 : Int32)), .val (.int (1 : Int32)), .unset, .unset] []))
      refine gIconst Xt97 hx (hb hby at_339) (v := (1 : Int32)) rfl ?_
      refine gGoto Xt97 hx (hb hby at_340) (pc' := 344) (by decide) (by decide) ?_
      show Goes p e below _ (Tt97.setTop (mkF m 344 #[.val (.int p0), .val (.int p1), .val (.int p2), .val (.int p3), .val (.int p4), .val (.ref b2), .val (.int (2 : Int32)), .val (.ref b73), .val (.int (2 : Int32)), .val (.int (1 : Int32)), .unset, .unset] [(.int (1 : Int32))]))
      refine gIstore Xt97 hx (hb hby at_344) (l' := #[.val (.int p0), .val (.int p1), .val (.int p2), .val (.int p3), .val (.int p4), .val (.ref b2), .val (.int (2 : Int32)), .val (.ref b73), .val (.int (2 : Int32)), .val (.int (1 : Int32)), .val (.int (1 : Int32)), .unset]) rfl ?_
      refine gIload Xt97 hx (hb hby at_346) rfl ?_
      refine gIconst Xt97 hx (hb hby at_348) (v := (1 : Int32)) rfl ?_
      refine gIcmpN Xt97 hx (hb hby at_349) (XT.ii_lt_f (by decide)) ?_
      show Goes p e below _ (Tt97.setTop (mkF m 352 #[.val (.int p0), .val (.int p1), .val (.int p2), .val (.int p3), .val (.int p4), .val (.ref b2), .val (.int (2 : Int32)), .val (.ref b73), .val (.int (2 : Int32)), .val (.int (1 : Int32)), .val (.int (1 : Int32)), .unset] []))
      refine gAload Xt97 hx (hb hby at_352) rfl rfl ?_
      refine gIload Xt97 hx (hb hby at_354) rfl ?_
      refine gAload Xt97 hx (hb hby at_356) rfl rfl ?_
      refine gIconst Xt97 hx (hb hby at_358) (v := (0 : Int32)) rfl ?_
      refine goIaload Xt97 hx hZ et97 Yd (x := t0) (hb hby at_359) (by decide) rfl ?_
      refine goCallS Xt97 hx hZ hown (hw _ (List.mem_of_getElem? (i := 12) rfl)) (hw _ (List.mem_of_getElem? (i := 13) rfl)) (hw _ (List.mem_of_getElem? (i := 3) rfl)) (hw _ (List.mem_of_getElem? (i := 14) rfl)) (by decide) (rmH2 l Z a0 hw t0 t1 [.int t2, .int t3] b2 t0 ht81 O84 Yc4) 0 (by decide) (by decide) et97 (hsz rfl) [(.ref b2), (.int (2 : Int32)), (.int t0)] [] pd_3 rfl rfl rfl (Nat.le_of_eq rfl) (hb hby at_360) (by decide) (by decide) (fun Tt100 vt100 Lt100 Xt100 qt100 => ?_)
      obtain ⟨rfl, N101, et100⟩ := qt100
      have N102 := Fr.app N99 N101
      show Goes p e below _ (Tt100.setTop (mkF m 363 #[.val (.int p0), .val (.int p1), .val (.int p2), .val (.int p3), .val (.int p4), .val (.ref b2), .val (.int (2 : Int32)), .val (.ref b73), .val (.int (2 : Int32)), .val (.int (1 : Int32)), .val (.int (1 : Int32)), .unset] [(.int (own_has2 t0 t1 t0))]))
      refine gIfN Xt100 hx (hb hby at_363) (XT.i0_eq_f (by simp [own_has2, e1])) ?_
      show Goes p e below _ (Tt100.setTop (mkF m 366 #[.val (.int p0), .val (.int p1), .val (.int p2), .val (.int p3), .val (.int p4), .val (.ref b2), .val (.int (2 : Int32)), .val (.ref b73), .val (.int (2 : Int32)), .val (.int (1 : Int32)), .val (.int (1 : Int32)), .unset] []))
      refine gIload Xt100 hx (hb hby at_366) rfl ?_
      refine gIconst Xt100 hx (hb hby at_368) (v := (2 : Int32)) rfl ?_
      refine gIcmpN Xt100 hx (hb hby at_369) (XT.ii_lt_f (by decide)) ?_
      show Goes p e below _ (Tt100.setTop (mkF m 372 #[.val (.int p0), .val (.int p1), .val (.int p2), .val (.int p3), .val (.int p4), .val (.ref b2), .val (.int (2 : Int32)), .val (.ref b73), .val (.int (2 : Int32)), .val (.int (1 : Int32)), .val (.int (1 : Int32)), .unset] []))
      refine gAload Xt100 hx (hb hby at_372) rfl rfl ?_
      refine gIload Xt100 hx (hb hby at_374) rfl ?_
      refine gAload Xt100 hx (hb hby at_376) rfl rfl ?_
      refine gIconst Xt100 hx (hb hby at_378) (v := (1 : Int32)) rfl ?_
      refine goIaload Xt100 hx hZ et100 Yd (x := t1) (hb hby at_379) (by decide) rfl ?_
      refine goCallS Xt100 hx hZ hown (hw _ (List.mem_of_getElem? (i := 12) rfl)) (hw _ (List.mem_of_getElem? (i := 13) rfl)) (hw _ (List.mem_of_getElem? (i := 3) rfl)) (hw _ (List.mem_of_getElem? (i := 14) rfl)) (by decide) (rmH2 l Z a0 hw t0 t1 [.int t2, .int t3] b2 t1 ht81 O84 Yc4) 0 (by decide) (by decide) et100 (hsz rfl) [(.ref b2), (.int (2 : Int32)), (.int t1)] [] pd_3 rfl rfl rfl (Nat.le_of_eq rfl) (hb hby at_380) (by decide) (by decide) (fun Tt103 vt103 Lt103 Xt103 qt103 => ?_)
      obtain ⟨rfl, N104, et103⟩ := qt103
      have N105 := Fr.app N102 N104
      show Goes p e below _ (Tt103.setTop (mkF m 383 #[.val (.int p0), .val (.int p1), .val (.int p2), .val (.int p3), .val (.int p4), .val (.ref b2), .val (.int (2 : Int32)), .val (.ref b73), .val (.int (2 : Int32)), .val (.int (1 : Int32)), .val (.int (1 : Int32)), .unset] [(.int (own_has2 t0 t1 t1))]))
      refine gIfN Xt103 hx (hb hby at_383) (XT.i0_eq_f (by simp [own_has2, e1])) ?_
      show Goes p e below _ (Tt103.setTop (mkF m 386 #[.val (.int p0), .val (.int p1), .val (.int p2), .val (.int p3), .val (.int p4), .val (.ref b2), .val (.int (2 : Int32)), .val (.ref b73), .val (.int (2 : Int32)), .val (.int (1 : Int32)), .val (.int (1 : Int32)), .unset] []))
      refine gIload Xt103 hx (hb hby at_386) rfl ?_
      refine gIconst Xt103 hx (hb hby at_388) (v := (3 : Int32)) rfl ?_
      refine gIcmpY Xt103 hx (hb hby at_389) (pc' := 406) (XT.ii_lt_t (by decide)) (by decide) (by decide) ?_
      show Goes p e below _ (Tt103.setTop (mkF m 406 #[.val (.int p0), .val (.int p1), .val (.int p2), .val (.int p3), .val (.int p4), .val (.ref b2), .val (.int (2 : Int32)), .val (.ref b73), .val (.int (2 : Int32)), .val (.int (1 : Int32)), .val (.int (1 : Int32)), .unset] []))
      refine gIload Xt103 hx (hb hby at_406) rfl ?_
      refine gIconst Xt103 hx (hb hby at_408) (v := (4 : Int32)) rfl ?_
      refine gIcmpY Xt103 hx (hb hby at_409) (pc' := 426) (XT.ii_lt_t (by decide)) (by decide) (by decide) ?_
      show Goes p e below _ (Tt103.setTop (mkF m 426 #[.val (.int p0), .val (.int p1), .val (.int p2), .val (.int p3), .val (.int p4), .val (.ref b2), .val (.int (2 : Int32)), .val (.ref b73), .val (.int (2 : Int32)), .val (.int (1 : Int32)), .val (.int (1 : Int32)), .unset] []))
      refine gIconst Xt103 hx (hb hby at_426) (v := (1 : Int32)) rfl ?_
      refine gGoto Xt103 hx (hb hby at_427) (pc' := 431) (by decide) (by decide) ?_
      show Goes p e below _ (Tt103.setTop (mkF m 431 #[.val (.int p0), .val (.int p1), .val (.int p2), .val (.int p3), .val (.int p4), .val (.ref b2), .val (.int (2 : Int32)), .val (.ref b73), .val (.int (2 : Int32)), .val (.int (1 : Int32)), .val (.int (1 : Int32)), .unset] [(.int (1 : Int32))]))
      refine gIstore Xt103 hx (hb hby at_431) (l' := #[.val (.int p0), .val (.int p1), .val (.int p2), .val (.int p3), .val (.int p4), .val (.ref b2), .val (.int (2 : Int32)), .val (.ref b73), .val (.int (2 : Int32)), .val (.int (1 : Int32)), .val (.int (1 : Int32)), .val (.int (1 : Int32))]) rfl ?_
      refine gIload Xt103 hx (hb hby at_433) rfl ?_
      refine gIfN Xt103 hx (hb hby at_435) (XT.i0_eq_f (by decide)) ?_
      show Goes p e below _ (Tt103.setTop (mkF m 438 #[.val (.int p0), .val (.int p1), .val (.int p2), .val (.int p3), .val (.int p4), .val (.ref b2), .val (.int (2 : Int32)), .val (.ref b73), .val (.int (2 : Int32)), .val (.int (1 : Int32)), .val (.int (1 : Int32)), .val (.int (1 : Int32))] []))
      refine gIload Xt103 hx (hb hby at_438) rfl ?_
      refine gIfN Xt103 hx (hb hby at_440) (XT.i0_eq_f (by decide)) ?_
      show Goes p e below _ (Tt103.setTop (mkF m 443 #[.val (.int p0), .val (.int p1), .val (.int p2), .val (.int p3), .val (.int p4), .val (.ref b2), .val (.int (2 : Int32)), .val (.ref b73), .val (.int (2 : Int32)), .val (.int (1 : Int32)), .val (.int (1 : Int32)), .val (.int (1 : Int32))] []))
      refine gIload Xt103 hx (hb hby at_443) rfl ?_
      refine gIfN Xt103 hx (hb hby at_445) (XT.i0_eq_f (by decide)) ?_
      show Goes p e below _ (Tt103.setTop (mkF m 448 #[.val (.int p0), .val (.int p1), .val (.int p2), .val (.int p3), .val (.int p4), .val (.ref b2), .val (.int (2 : Int32)), .val (.ref b73), .val (.int (2 : Int32)), .val (.int (1 : Int32)), .val (.int (1 : Int32)), .val (.int (1 : Int32))] []))
      refine gIconst Xt103 hx (hb hby at_448) (v := (1 : Int32)) rfl ?_
      refine gGoto Xt103 hx (hb hby at_449) (pc' := 453) (by decide) (by decide) ?_
      show Goes p e below _ (Tt103.setTop (mkF m 453 #[.val (.int p0), .val (.int p1), .val (.int p2), .val (.int p3), .val (.int p4), .val (.ref b2), .val (.int (2 : Int32)), .val (.ref b73), .val (.int (2 : Int32)), .val (.int (1 : Int32)), .val (.int (1 : Int32)), .val (.int (1 : Int32))] [(.int (1 : Int32))]))
      exact goRetN Xt103 hx (t := .boolean) hret hlocks (by simp) (hb hby at_453) (z' := (1 : Int32)) rfl (by decide) (by decide) et103 (⟨rfl, N105⟩)
  · show Goes p e below _ (Tt44.setTop (mkF m 121 #[.val (.int p0), .val (.int p1), .val (.int p2), .val (.int p3), .val (.int p4), .val (.ref b2), .val (.int (3 : Int32)), .unset, .unset, .unset, .unset, .unset] [(.int (3 : Int32))]))
    obtain ⟨Tt106, ht106, kt106, Xt106, et106, Et106, At106, stt106⟩ := newP Xt44 hx hZ (hw _ (List.mem_of_getElem? (i := 0) rfl)) et44 (g := (mkF m 121 #[.val (.int p0), .val (.int p1), .val (.int p2), .val (.int p3), .val (.int p4), .val (.ref b2), .val (.int (3 : Int32)), .unset, .unset, .unset, .unset, .unset] [(.int (3 : Int32))])) rfl (hb hby at_121) rfl (by decide) (cap := 3) (by decide) (by decide) (by decide) (by decide)
    obtain ⟨b107, gb107⟩ : ∃ z, z = ht44.size := ⟨_, rfl⟩
    rw [← gb107] at At106 stt106
    refine go stt106 ?_
    have ne_b2_b107 : b2 ≠ b107 := Nat.ne_of_lt (gb107 ▸ Yc4.lt)
    have fr_b107 : Z.heap.size ≤ b107 := gb107 ▸ O47.1
    replace Yc4 := Yc4.ext Et106
    have O108 : Ext Z.heap ht106 := extT O47 Et106
    have Y_b107 : Ary Z ht106 b107 .int [(.int (0 : Int32)), (.int (0 : Int32)), (.int (0 : Int32))] := Ary.new At106 rfl (by decide)
    show Goes p e below _ (Tt106.setTop (mkF m 123 #[.val (.int p0), .val (.int p1), .val (.int p2), .val (.int p3), .val (.int p4), .val (.ref b2), .val (.int (3 : Int32)), .unset, .unset, .unset, .unset, .unset] [(.ref b107)]))
    refine gAstore Xt106 hx (hb hby at_123) rfl (l' := #[.val (.int p0), .val (.int p1), .val (.int p2), .val (.int p3), .val (.int p4), .val (.ref b2), .val (.int (3 : Int32)), .val (.ref b107), .unset, .unset, .unset, .unset]) rfl ?_
    refine gIload Xt106 hx (hb hby at_125) rfl ?_
    refine gIfN Xt106 hx (hb hby at_127) (XT.i0_le_f (by decide)) ?_
    show Goes p e below _ (Tt106.setTop (mkF m 130 #[.val (.int p0), .val (.int p1), .val (.int p2), .val (.int p3), .val (.int p4), .val (.ref b2), .val (.int (3 : Int32)), .val (.ref b107), .unset, .unset, .unset, .unset] []))
    refine gAload Xt106 hx (hb hby at_130) rfl rfl ?_
    refine gIconst Xt106 hx (hb hby at_132) (v := (0 : Int32)) rfl ?_
    refine gAload Xt106 hx (hb hby at_133) rfl rfl ?_
    refine gIconst Xt106 hx (hb hby at_135) (v := (0 : Int32)) rfl ?_
    refine goIaload Xt106 hx hZ et106 Yc4 (x := t0) (hb hby at_136) (by decide) rfl ?_
    refine goIastore Xt106 hx hZ et106 Y_b107 (hb hby at_137) (by decide) rfl (fun Tt109 ht109 Xt109 et109 Wt109 => ?_)
    have N110 := Fr.snoc Xt109 N46 fr_b107
    replace Y_b107 : Ary Z ht109 b107 .int [(.int t0), (.int (0 : Int32)), (.int (0 : Int32))] := Y_b107.set Wt109 rfl
    replace Yc4 := Yc4.other Wt109 ne_b2_b107
    have O111 : Ext Z.heap ht109 := extW O108 Wt109 fr_b107
    show Goes p e below _ (Tt109.setTop (mkF m 138 #[.val (.int p0), .val (.int p1), .val (.int p2), .val (.int p3), .val (.int p4), .val (.ref b2), .val (.int (3 : Int32)), .val (.ref b107), .unset, .unset, .unset, .unset] []))
    refine gIload Xt109 hx (hb hby at_138) rfl ?_
    refine gIconst Xt109 hx (hb hby at_140) (v := (1 : Int32)) rfl ?_
    refine gIcmpN Xt109 hx (hb hby at_141) (XT.ii_le_f (by decide)) ?_
    show Goes p e below _ (Tt109.setTop (mkF m 144 #[.val (.int p0), .val (.int p1), .val (.int p2), .val (.int p3), .val (.int p4), .val (.ref b2), .val (.int (3 : Int32)), .val (.ref b107), .unset, .unset, .unset, .unset] []))
    refine gAload Xt109 hx (hb hby at_144) rfl rfl ?_
    refine gIconst Xt109 hx (hb hby at_146) (v := (1 : Int32)) rfl ?_
    refine gAload Xt109 hx (hb hby at_147) rfl rfl ?_
    refine gIconst Xt109 hx (hb hby at_149) (v := (1 : Int32)) rfl ?_
    refine goIaload Xt109 hx hZ et109 Yc4 (x := t1) (hb hby at_150) (by decide) rfl ?_
    refine goIastore Xt109 hx hZ et109 Y_b107 (hb hby at_151) (by decide) rfl (fun Tt112 ht112 Xt112 et112 Wt112 => ?_)
    have N113 := Fr.snoc Xt112 N110 fr_b107
    replace Y_b107 : Ary Z ht112 b107 .int [(.int t0), (.int t1), (.int (0 : Int32))] := Y_b107.set Wt112 rfl
    replace Yc4 := Yc4.other Wt112 ne_b2_b107
    have O114 : Ext Z.heap ht112 := extW O111 Wt112 fr_b107
    show Goes p e below _ (Tt112.setTop (mkF m 152 #[.val (.int p0), .val (.int p1), .val (.int p2), .val (.int p3), .val (.int p4), .val (.ref b2), .val (.int (3 : Int32)), .val (.ref b107), .unset, .unset, .unset, .unset] []))
    refine gIload Xt112 hx (hb hby at_152) rfl ?_
    refine gIconst Xt112 hx (hb hby at_154) (v := (2 : Int32)) rfl ?_
    refine gIcmpN Xt112 hx (hb hby at_155) (XT.ii_le_f (by decide)) ?_
    show Goes p e below _ (Tt112.setTop (mkF m 158 #[.val (.int p0), .val (.int p1), .val (.int p2), .val (.int p3), .val (.int p4), .val (.ref b2), .val (.int (3 : Int32)), .val (.ref b107), .unset, .unset, .unset, .unset] []))
    refine gAload Xt112 hx (hb hby at_158) rfl rfl ?_
    refine gIconst Xt112 hx (hb hby at_160) (v := (2 : Int32)) rfl ?_
    refine gAload Xt112 hx (hb hby at_161) rfl rfl ?_
    refine gIconst Xt112 hx (hb hby at_163) (v := (2 : Int32)) rfl ?_
    refine goIaload Xt112 hx hZ et112 Yc4 (x := t2) (hb hby at_164) (by decide) rfl ?_
    refine goIastore Xt112 hx hZ et112 Y_b107 (hb hby at_165) (by decide) rfl (fun Tt115 ht115 Xt115 et115 Wt115 => ?_)
    have N116 := Fr.snoc Xt115 N113 fr_b107
    replace Y_b107 : Ary Z ht115 b107 .int [(.int t0), (.int t1), (.int t2)] := Y_b107.set Wt115 rfl
    replace Yc4 := Yc4.other Wt115 ne_b2_b107
    have O117 : Ext Z.heap ht115 := extW O114 Wt115 fr_b107
    show Goes p e below _ (Tt115.setTop (mkF m 166 #[.val (.int p0), .val (.int p1), .val (.int p2), .val (.int p3), .val (.int p4), .val (.ref b2), .val (.int (3 : Int32)), .val (.ref b107), .unset, .unset, .unset, .unset] []))
    refine gIload Xt115 hx (hb hby at_166) rfl ?_
    refine gIconst Xt115 hx (hb hby at_168) (v := (3 : Int32)) rfl ?_
    refine gIcmpY Xt115 hx (hb hby at_169) (pc' := 180) (XT.ii_le_t (by decide)) (by decide) (by decide) ?_
    show Goes p e below _ (Tt115.setTop (mkF m 180 #[.val (.int p0), .val (.int p1), .val (.int p2), .val (.int p3), .val (.int p4), .val (.ref b2), .val (.int (3 : Int32)), .val (.ref b107), .unset, .unset, .unset, .unset] []))
    refine gAload Xt115 hx (hb hby at_180) rfl rfl ?_
    refine goCallS Xt115 hx hZ hown (hw _ (List.mem_of_getElem? (i := 8) rfl)) (hw _ (List.mem_of_getElem? (i := 9) rfl)) (hw _ (List.mem_of_getElem? (i := 10) rfl)) (hw _ (List.mem_of_getElem? (i := 11) rfl)) (by decide) (rmD3 l Z a0 hw t0 t1 t2 b107 ht115 O117 Y_b107 fr_b107) 0 (by decide) (by decide) et115 (hsz rfl) [(.ref b107)] [] pd_2 rfl rfl rfl (Nat.le_of_eq rfl) (hb hby at_182) (by decide) (by decide) (fun Tt118 vt118 Lt118 Xt118 qt118 => ?_)
    obtain ⟨ht118, et118⟩ : ∃ z, Tt118.heap = z := ⟨_, rfl⟩
    rw [et118] at qt118
    obtain ⟨k_, ws, rfl, N119, Kct118, Yd, alts⟩ := qt118
    have N120 := Fr.app N116 N119
    replace Yc4 := Yc4.keep Kct118 (ninS ne_b2_b107 nin0)
    have O121 : Ext Z.heap ht118 := extK O117 Kct118 (allS fr_b107 all0)
    show Goes p e below _ (Tt118.setTop (mkF m 185 #[.val (.int p0), .val (.int p1), .val (.int p2), .val (.int p3), .val (.int p4), .val (.ref b2), .val (.int (3 : Int32)), .val (.ref b107), .unset, .unset, .unset, .unset] [(.int k_)]))
    rcases alts with ⟨rfl, rfl, e1, e2, -⟩ | ⟨rfl, rfl, e1, e2, -⟩ | ⟨rfl, rfl, e1, e2, -⟩ | ⟨rfl, rfl, e1, e2, -⟩
    · show Goes p e below _ (Tt118.setTop (mkF m 185 #[.val (.int p0), .val (.int p1), .val (.int p2), .val (.int p3), .val (.int p4), .val (.ref b2), .val (.int (3 : Int32)), .val (.ref b107), .unset, .unset, .unset, .unset] [(.int (1 : Int32))]))
      have f1 : t1.toInt = t0.toInt := by rw [e1]
      have f2 : t2.toInt = t1.toInt := by rw [e2]
      refine gIstore Xt118 hx (hb hby at_185) (l' := #[.val (.int p0), .val (.int p1), .val (.int p2), .val (.int p3), .val (.int p4), .val (.ref b2), .val (.int (3 : Int32)), .val (.ref b107), .val (.int (1 : Int32)), .unset, .unset, .unset]) rfl ?_
      refine gIload Xt118 hx (hb hby at_187) rfl ?_
      refine gIfN Xt118 hx (hb hby at_189) (XT.i0_lt_f (by decide)) ?_
      show Goes p e below _ (Tt118.setTop (mkF m 192 #[.val (.int p0), .val (.int p1), .val (.int p2), .val (.int p3), .val (.int p4), .val (.ref b2), .val (.int (3 : Int32)), .val (.ref b107), .val (.int (1 : Int32)), .unset, .unset, .unset] []))
      refine gIload Xt118 hx (hb hby at_192) rfl ?_
      refine gIload Xt118 hx (hb hby at_194) rfl ?_
      refine gIcmpY Xt118 hx (hb hby at_196) (pc' := 201) (XT.ii_le_t (by decide)) (by decide) (by decide) ?_
      show Goes p e below _ (Tt118.setTop (mkF m 201 #[.val (.int p0), .val (.int p1), .val (.int p2), .val (.int p3), .val (.int p4), .val (.ref b2), .val (.int (3 : Int32)), .val (.ref b107), .val (.int (1 : Int32)), .unset, .unset, .unset] []))
      refine gIload Xt118 hx (hb hby at_201) rfl ?_
      refine gIconst Xt118 hx (hb hby at_203) (v := (2 : Int32)) rfl ?_
      refine gIcmpY Xt118 hx (hb hby at_204) (pc' := 218) (XT.ii_lt_t (by decide)) (by decide) (by decide) ?_
      show Goes p e below _ (Tt118.setTop (mkF m 218 #[.val (.int p0), .val (.int p1), .val (.int p2), .val (.int p3), .val (.int p4), .val (.ref b2), .val (.int (3 : Int32)), .val (.ref b107), .val (.int (1 : Int32)), .unset, .unset, .unset] []))
      refine gIload Xt118 hx (hb hby at_218) rfl ?_
      refine gIconst Xt118 hx (hb hby at_220) (v := (3 : Int32)) rfl ?_
      refine gIcmpY Xt118 hx (hb hby at_221) (pc' := 235) (XT.ii_lt_t (by decide)) (by decide) (by decide) ?_
      show Goes p e below _ (Tt118.setTop (mkF m 235 #[.val (.int p0), .val (.int p1), .val (.int p2), .val (.int p3), .val (.int p4), .val (.ref b2), .val (.int (3 : Int32)), .val (.ref b107), .val (.int (1 : Int32)), .unset, .unset, .unset] []))
      refine gIload Xt118 hx (hb hby at_235) rfl ?_
      refine gIconst Xt118 hx (hb hby at_237) (v := (4 : Int32)) rfl ?_
      refine gIcmpY Xt118 hx (hb hby at_238) (pc' := 252) (XT.ii_lt_t (by decide)) (by decide) (by decide) ?_
      show Goes p e below _ (Tt118.setTop (mkF m 252 #[.val (.int p0), .val (.int p1), .val (.int p2), .val (.int p3), .val (.int p4), .val (.ref b2), .val (.int (3 : Int32)), .val (.ref b107), .val (.int (1 : Int32)), .unset, .unset, .unset] []))
      refine gIconst Xt118 hx (hb hby at_252) (v := (1 : Int32)) rfl ?_
      refine gGoto Xt118 hx (hb hby at_253) (pc' := 257) (by decide) (by decide) ?_
      show Goes p e below _ (Tt118.setTop (mkF m 257 #[.val (.int p0), .val (.int p1), .val (.int p2), .val (.int p3), .val (.int p4), .val (.ref b2), .val (.int (3 : Int32)), .val (.ref b107), .val (.int (1 : Int32)), .unset, .unset, .unset] [(.int (1 : Int32))]))
      refine gIstore Xt118 hx (hb hby at_257) (l' := #[.val (.int p0), .val (.int p1), .val (.int p2), .val (.int p3), .val (.int p4), .val (.ref b2), .val (.int (3 : Int32)), .val (.ref b107), .val (.int (1 : Int32)), .val (.int (1 : Int32)), .unset, .unset]) rfl ?_
      refine gIload Xt118 hx (hb hby at_259) rfl ?_
      refine gIconst Xt118 hx (hb hby at_261) (v := (1 : Int32)) rfl ?_
      refine gIcmpN Xt118 hx (hb hby at_262) (XT.ii_lt_f (by decide)) ?_
      show Goes p e below _ (Tt118.setTop (mkF m 265 #[.val (.int p0), .val (.int p1), .val (.int p2), .val (.int p3), .val (.int p4), .val (.ref b2), .val (.int (3 : Int32)), .val (.ref b107), .val (.int (1 : Int32)), .val (.int (1 : Int32)), .unset, .unset] []))
      refine gAload Xt118 hx (hb hby at_265) rfl rfl ?_
      refine gIload Xt118 hx (hb hby at_267) rfl ?_
      refine gAload Xt118 hx (hb hby at_269) rfl rfl ?_
      refine gIconst Xt118 hx (hb hby at_271) (v := (0 : Int32)) rfl ?_
      refine goIaload Xt118 hx hZ et118 Yc4 (x := t0) (hb hby at_272) (by decide) rfl ?_
      refine goCallS Xt118 hx hZ hown (hw _ (List.mem_of_getElem? (i := 12) rfl)) (hw _ (List.mem_of_getElem? (i := 13) rfl)) (hw _ (List.mem_of_getElem? (i := 3) rfl)) (hw _ (List.mem_of_getElem? (i := 14) rfl)) (by decide) (rmH1 l Z a0 hw t0 [.int t1, .int t2] b107 t0 ht118 O121 Yd) 0 (by decide) (by decide) et118 (hsz rfl) [(.ref b107), (.int (1 : Int32)), (.int t0)] [] pd_3 rfl rfl rfl (Nat.le_of_eq rfl) (hb hby at_273) (by decide) (by decide) (fun Tt122 vt122 Lt122 Xt122 qt122 => ?_)
      obtain ⟨rfl, N123, et122⟩ := qt122
      have N124 := Fr.app N120 N123
      show Goes p e below _ (Tt122.setTop (mkF m 276 #[.val (.int p0), .val (.int p1), .val (.int p2), .val (.int p3), .val (.int p4), .val (.ref b2), .val (.int (3 : Int32)), .val (.ref b107), .val (.int (1 : Int32)), .val (.int (1 : Int32)), .unset, .unset] [(.int (own_has1 t0 t0))]))
      refine gIfN Xt122 hx (hb hby at_276) (XT.i0_eq_f (by simp [own_has1, e1, e2])) ?_
      show Goes p e below _ (Tt122.setTop (mkF m 279 #[.val (.int p0), .val (.int p1), .val (.int p2), .val (.int p3), .val (.int p4), .val (.ref b2), .val (.int (3 : Int32)), .val (.ref b107), .val (.int (1 : Int32)), .val (.int (1 : Int32)), .unset, .unset] []))
      refine gIload Xt122 hx (hb hby at_279) rfl ?_
      refine gIconst Xt122 hx (hb hby at_281) (v := (2 : Int32)) rfl ?_
      refine gIcmpN Xt122 hx (hb hby at_282) (XT.ii_lt_f (by decide)) ?_
      show Goes p e below _ (Tt122.setTop (mkF m 285 #[.val (.int p0), .val (.int p1), .val (.int p2), .val (.int p3), .val (.int p4), .val (.ref b2), .val (.int (3 : Int32)), .val (.ref b107), .val (.int (1 : Int32)), .val (.int (1 : Int32)), .unset, .unset] []))
      refine gAload Xt122 hx (hb hby at_285) rfl rfl ?_
      refine gIload Xt122 hx (hb hby at_287) rfl ?_
      refine gAload Xt122 hx (hb hby at_289) rfl rfl ?_
      refine gIconst Xt122 hx (hb hby at_291) (v := (1 : Int32)) rfl ?_
      refine goIaload Xt122 hx hZ et122 Yc4 (x := t1) (hb hby at_292) (by decide) rfl ?_
      refine goCallS Xt122 hx hZ hown (hw _ (List.mem_of_getElem? (i := 12) rfl)) (hw _ (List.mem_of_getElem? (i := 13) rfl)) (hw _ (List.mem_of_getElem? (i := 3) rfl)) (hw _ (List.mem_of_getElem? (i := 14) rfl)) (by decide) (rmH1 l Z a0 hw t0 [.int t1, .int t2] b107 t1 ht118 O121 Yd) 0 (by decide) (by decide) et122 (hsz rfl) [(.ref b107), (.int (1 : Int32)), (.int t1)] [] pd_3 rfl rfl rfl (Nat.le_of_eq rfl) (hb hby at_293) (by decide) (by decide) (fun Tt125 vt125 Lt125 Xt125 qt125 => ?_)
      obtain ⟨rfl, N126, et125⟩ := qt125
      have N127 := Fr.app N124 N126
      show Goes p e below _ (Tt125.setTop (mkF m 296 #[.val (.int p0), .val (.int p1), .val (.int p2), .val (.int p3), .val (.int p4), .val (.ref b2), .val (.int (3 : Int32)), .val (.ref b107), .val (.int (1 : Int32)), .val (.int (1 : Int32)), .unset, .unset] [(.int (own_has1 t0 t1))]))
      refine gIfN Xt125 hx (hb hby at_296) (XT.i0_eq_f (by simp [own_has1, e1, e2])) ?_
      show Goes p e below _ (Tt125.setTop (mkF m 299 #[.val (.int p0), .val (.int p1), .val (.int p2), .val (.int p3), .val (.int p4), .val (.ref b2), .val (.int (3 : Int32)), .val (.ref b107), .val (.int (1 : Int32)), .val (.int (1 : Int32)), .unset, .unset] []))
      refine gIload Xt125 hx (hb hby at_299) rfl ?_
      refine gIconst Xt125 hx (hb hby at_301) (v := (3 : Int32)) rfl ?_
      refine gIcmpN Xt125 hx (hb hby at_302) (XT.ii_lt_f (by decide)) ?_
      show Goes p e below _ (Tt125.setTop (mkF m 305 #[.val (.int p0), .val (.int p1), .val (.int p2), .val (.int p3), .val (.int p4), .val (.ref b2), .val (.int (3 : Int32)), .val (.ref b107), .val (.int (1 : Int32)), .val (.int (1 : Int32)), .unset, .unset] []))
      refine gAload Xt125 hx (hb hby at_305) rfl rfl ?_
      refine gIload Xt125 hx (hb hby at_307) rfl ?_
      refine gAload Xt125 hx (hb hby at_309) rfl rfl ?_
      refine gIconst Xt125 hx (hb hby at_311) (v := (2 : Int32)) rfl ?_
      refine goIaload Xt125 hx hZ et125 Yc4 (x := t2) (hb hby at_312) (by decide) rfl ?_
      refine goCallS Xt125 hx hZ hown (hw _ (List.mem_of_getElem? (i := 12) rfl)) (hw _ (List.mem_of_getElem? (i := 13) rfl)) (hw _ (List.mem_of_getElem? (i := 3) rfl)) (hw _ (List.mem_of_getElem? (i := 14) rfl)) (by decide) (rmH1 l Z a0 hw t0 [.int t1, .int t2] b107 t2 ht118 O121 Yd) 0 (by decide) (by decide) et125 (hsz rfl) [(.ref b107), (.int (1 : Int32)), (.int t2)] [] pd_3 rfl rfl rfl (Nat.le_of_eq rfl) (hb hby at_313) (by decide) (by decide) (fun Tt128 vt128 Lt128 Xt128 qt128 => ?_)
      obtain ⟨rfl, N129, et128⟩ := qt128
      have N130 := Fr.app N127 N129
      show Goes p e below _ (Tt128.setTop (mkF m 316 #[.val (.int p0), .val (.int p1), .val (.int p2), .val (.int p3), .val (.int p4), .val (.ref b2), .val (.int (3 : Int32)), .val (.ref b107), .val (.int (1 : Int32)), .val (.int (1 : Int32)), .unset, .unset] [(.int (own_has1 t0 t2))]))
      refine gIfN Xt128 hx (hb hby at_316) (XT.i0_eq_f (by simp [own_has1, e1, e2])) ?_
      show Goes p e below _ (Tt128.setTop (mkF m 319 #[.val (.int p0), .val (.int p1), .val (.int p2), .val (.int p3), .val (.int p4), .val (.ref b2), .val (.int (3 : Int32)), .val (.ref b107), .val (.int (1 : Int32)), .val (.int (1 : Int32)), .unset, .unset] []))
      refine gIload Xt128 hx (hb hby at_319) rfl ?_
      refine gIconst Xt128 hx (hb hby at_321) (v := (4 : Int32)) rfl ?_
      refine gIcmpY Xt128 hx (hb hby at_322) (pc' := 339) (XT.ii_lt_t (by decide)) (by decide) (by decide) ?_
      show Goes p e below _ (Tt128.setTop (mkF m 339 #[.val (.int p0), .val (.int p1), .val (.int p2), .val (.int p3), .val (.int p4), .val (.ref b2), .val (.int (3 : Int32)), .val (.ref b107), .val (.int (1 : Int32)), .val (.int (1 : Int32)), .unset, .unset] []))
      refine gIconst Xt128 hx (hb hby at_339) (v := (1 : Int32)) rfl ?_
      refine gGoto Xt128 hx (hb hby at_340) (pc' := 344) (by decide) (by decide) ?_
      show Goes p e below _ (Tt128.setTop (mkF m 344 #[.val (.int p0), .val (.int p1), .val (.int p2), .val (.int p3), .val (.int p4), .val (.ref b2), .val (.int (3 : Int32)), .val (.ref b107), .val (.int (1 : Int32)), .val (.int (1 : Int32)), .unset, .unset] [(.int (1 : Int32))]))
      refine gIstore Xt128 hx (hb hby at_344) (l' := #[.val (.int p0), .val (.int p1), .val (.int p2), .val (.int p3), .val (.int p4), .val (.ref b2), .val (.int (3 : Int32)), .val (.ref b107), .val (.int (1 : Int32)), .val (.int (1 : Int32)), .val (.int (1 : Int32)), .unset]) rfl ?_
      refine gIload Xt128 hx (hb hby at_346) rfl ?_
      refine gIconst Xt128 hx (hb hby at_348) (v := (1 : Int32)) rfl ?_
      refine gIcmpN Xt128 hx (hb hby at_349) (XT.ii_lt_f (by decide)) ?_
      show Goes p e below _ (Tt128.setTop (mkF m 352 #[.val (.int p0), .val (.int p1), .val (.int p2), .val (.int p3), .val (.int p4), .val (.ref b2), .val (.int (3 : Int32)), .val (.ref b107), .val (.int (1 : Int32)), .val (.int (1 : Int32)), .val (.int (1 : Int32)), .unset] []))
      refine gAload Xt128 hx (hb hby at_352) rfl rfl ?_
      refine gIload Xt128 hx (hb hby at_354) rfl ?_
      refine gAload Xt128 hx (hb hby at_356) rfl rfl ?_
      refine gIconst Xt128 hx (hb hby at_358) (v := (0 : Int32)) rfl ?_
      refine goIaload Xt128 hx hZ et128 Yd (x := t0) (hb hby at_359) (by decide) rfl ?_
      refine goCallS Xt128 hx hZ hown (hw _ (List.mem_of_getElem? (i := 12) rfl)) (hw _ (List.mem_of_getElem? (i := 13) rfl)) (hw _ (List.mem_of_getElem? (i := 3) rfl)) (hw _ (List.mem_of_getElem? (i := 14) rfl)) (by decide) (rmH3 l Z a0 hw t0 t1 t2 [.int t3] b2 t0 ht118 O121 Yc4) 0 (by decide) (by decide) et128 (hsz rfl) [(.ref b2), (.int (3 : Int32)), (.int t0)] [] pd_3 rfl rfl rfl (Nat.le_of_eq rfl) (hb hby at_360) (by decide) (by decide) (fun Tt131 vt131 Lt131 Xt131 qt131 => ?_)
      obtain ⟨rfl, N132, et131⟩ := qt131
      have N133 := Fr.app N130 N132
      show Goes p e below _ (Tt131.setTop (mkF m 363 #[.val (.int p0), .val (.int p1), .val (.int p2), .val (.int p3), .val (.int p4), .val (.ref b2), .val (.int (3 : Int32)), .val (.ref b107), .val (.int (1 : Int32)), .val (.int (1 : Int32)), .val (.int (1 : Int32)), .unset] [(.int (own_has3 t0 t1 t2 t0))]))
      refine gIfN Xt131 hx (hb hby at_363) (XT.i0_eq_f (by simp [own_has3, e1, e2])) ?_
      show Goes p e below _ (Tt131.setTop (mkF m 366 #[.val (.int p0), .val (.int p1), .val (.int p2), .val (.int p3), .val (.int p4), .val (.ref b2), .val (.int (3 : Int32)), .val (.ref b107), .val (.int (1 : Int32)), .val (.int (1 : Int32)), .val (.int (1 : Int32)), .unset] []))
      refine gIload Xt131 hx (hb hby at_366) rfl ?_
      refine gIconst Xt131 hx (hb hby at_368) (v := (2 : Int32)) rfl ?_
      refine gIcmpY Xt131 hx (hb hby at_369) (pc' := 386) (XT.ii_lt_t (by decide)) (by decide) (by decide) ?_
      show Goes p e below _ (Tt131.setTop (mkF m 386 #[.val (.int p0), .val (.int p1), .val (.int p2), .val (.int p3), .val (.int p4), .val (.ref b2), .val (.int (3 : Int32)), .val (.ref b107), .val (.int (1 : Int32)), .val (.int (1 : Int32)), .val (.int (1 : Int32)), .unset] []))
      refine gIload Xt131 hx (hb hby at_386) rfl ?_
      refine gIconst Xt131 hx (hb hby at_388) (v := (3 : Int32)) rfl ?_
      refine gIcmpY Xt131 hx (hb hby at_389) (pc' := 406) (XT.ii_lt_t (by decide)) (by decide) (by decide) ?_
      show Goes p e below _ (Tt131.setTop (mkF m 406 #[.val (.int p0), .val (.int p1), .val (.int p2), .val (.int p3), .val (.int p4), .val (.ref b2), .val (.int (3 : Int32)), .val (.ref b107), .val (.int (1 : Int32)), .val (.int (1 : Int32)), .val (.int (1 : Int32)), .unset] []))
      refine gIload Xt131 hx (hb hby at_406) rfl ?_
      refine gIconst Xt131 hx (hb hby at_408) (v := (4 : Int32)) rfl ?_
      refine gIcmpY Xt131 hx (hb hby at_409) (pc' := 426) (XT.ii_lt_t (by decide)) (by decide) (by decide) ?_
      show Goes p e below _ (Tt131.setTop (mkF m 426 #[.val (.int p0), .val (.int p1), .val (.int p2), .val (.int p3), .val (.int p4), .val (.ref b2), .val (.int (3 : Int32)), .val (.ref b107), .val (.int (1 : Int32)), .val (.int (1 : Int32)), .val (.int (1 : Int32)), .unset] []))
      refine gIconst Xt131 hx (hb hby at_426) (v := (1 : Int32)) rfl ?_
      refine gGoto Xt131 hx (hb hby at_427) (pc' := 431) (by decide) (by decide) ?_
      show Goes p e below _ (Tt131.setTop (mkF m 431 #[.val (.int p0), .val (.int p1), .val (.int p2), .val (.int p3), .val (.int p4), .val (.ref b2), .val (.int (3 : Int32)), .val (.ref b107), .val (.int (1 : Int32)), .val (.int (1 : Int32)), .val (.int (1 : Int32)), .unset] [(.int (1 : Int32))]))
      refine gIstore Xt131 hx (hb hby at_431) (l' := #[.val (.int p0), .val (.int p1), .val (.int p2), .val (.int p3), .val (.int p4), .val (.ref b2), .val (.int (3 : Int32)), .val (.ref b107), .val (.int (1 : Int32)), .val (.int (1 : Int32)), .val (.int (1 : Int32)), .val (.int (1 : Int32))]) rfl ?_
      refine gIload Xt131 hx (hb hby at_433) rfl ?_
      refine gIfN Xt131 hx (hb hby at_435) (XT.i0_eq_f (by decide)) ?_
      show Goes p e below _ (Tt131.setTop (mkF m 438 #[.val (.int p0), .val (.int p1), .val (.int p2), .val (.int p3), .val (.int p4), .val (.ref b2), .val (.int (3 : Int32)), .val (.ref b107), .val (.int (1 : Int32)), .val (.int (1 : Int32)), .val (.int (1 : Int32)), .val (.int (1 : Int32))] []))
      refine gIload Xt131 hx (hb hby at_438) rfl ?_
      refine gIfN Xt131 hx (hb hby at_440) (XT.i0_eq_f (by decide)) ?_
      show Goes p e below _ (Tt131.setTop (mkF m 443 #[.val (.int p0), .val (.int p1), .val (.int p2), .val (.int p3), .val (.int p4), .val (.ref b2), .val (.int (3 : Int32)), .val (.ref b107), .val (.int (1 : Int32)), .val (.int (1 : Int32)), .val (.int (1 : Int32)), .val (.int (1 : Int32))] []))
      refine gIload Xt131 hx (hb hby at_443) rfl ?_
      refine gIfN Xt131 hx (hb hby at_445) (XT.i0_eq_f (by decide)) ?_
      show Goes p e below _ (Tt131.setTop (mkF m 448 #[.val (.int p0), .val (.int p1), .val (.int p2), .val (.int p3), .val (.int p4), .val (.ref b2), .val (.int (3 : Int32)), .val (.ref b107), .val (.int (1 : Int32)), .val (.int (1 : Int32)), .val (.int (1 : Int32)), .val (.int (1 : Int32))] []))
      refine gIconst Xt131 hx (hb hby at_448) (v := (1 : Int32)) rfl ?_
      refine gGoto Xt131 hx (hb hby at_449) (pc' := 453) (by decide) (by decide) ?_
      show Goes p e below _ (Tt131.setTop (mkF m 453 #[.val (.int p0), .val (.int p1), .val (.int p2), .val (.int p3), .val (.int p4), .val (.ref b2), .val (.int (3 : Int32)), .val (.ref b107), .val (.int (1 : Int32)), .val (.int (1 : Int32)), .val (.int (1 : Int32)), .val (.int (1 : Int32))] [(.int (1 : Int32))]))
      exact goRetN Xt131 hx (t := .boolean) hret hlocks (by simp) (hb hby at_453) (z' := (1 : Int32)) rfl (by decide) (by decide) et131 (⟨rfl, N133⟩)
    · show Goes p e below _ (Tt118.setTop (mkF m 185 #[.val (.int p0), .val (.int p1), .val (.int p2), .val (.int p3), .val (.int p4), .val (.ref b2), .val (.int (3 : Int32)), .val (.ref b107), .unset, .unset, .unset, .unset] [(.int (2 : Int32))]))
      have f1 : t1.toInt = t0.toInt := by rw [e1]
      have f2 : ¬ t2.toInt = t1.toInt := fun z => e2 (Int32.toInt_inj.mp z)
      refine gIstore Xt118 hx (hb hby at_185) (l' := #[.val (.int p0), .val (.int p1), .val (.int p2), .val (.int p3), .val (.int p4), .val (.ref b2), .val (.int (3 : Int32)), .val (.ref b107), .val (.int (2 : Int32)), .unset, .unset, .unset]) rfl ?_
      refine gIload Xt118 hx (hb hby at_187) rfl ?_
      refine gIfN Xt118 hx (hb hby at_189) (XT.i0_lt_f (by decide)) ?_
      show Goes p e below _ (Tt118.setTop (mkF m 192 #[.val (.int p0), .val (.int p1), .val (.int p2), .val (.int p3), .val (.int p4), .val (.ref b2), .val (.int (3 : Int32)), .val (.ref b107), .val (.int (2 : Int32)), .unset, .unset, .unset] []))
      refine gIload Xt118 hx (hb hby at_192) rfl ?_
      refine gIload Xt118 hx (hb hby at_194) rfl ?_
      refine gIcmpY Xt118 hx (hb hby at_196) (pc' := 201) (XT.ii_le_t (by decide)) (by decide) (by decide) ?_
      show Goes p e below _ (Tt118.setTop (mkF m 201 #[.val (.int p0), .val (.int p1), .val (.int p2), .val (.int p3), .val (.int p4), .val (.ref b2), .val (.int (3 : Int32)), .val (.ref b107), .val (.int (2 : Int32)), .unset, .unset, .unset] []))
      refine gIload Xt118 hx (hb hby at_201) rfl ?_
      refine gIconst Xt118 hx (hb hby at_203) (v := (2 : Int32)) rfl ?_
      refine gIcmpN Xt118 hx (hb hby at_204) (XT.ii_lt_f (by decide)) ?_
      show Goes p e below _ (Tt118.setTop (mkF m 207 #[.val (.int p0), .val (.int p1), .val (.int p2), .val (.int p3), .val (.int p4), .val (.ref b2), .val (.int (3 : Int32)), .val (.ref b107), .val (.int (2 : Int32)), .unset, .unset, .unset] []))
      refine gAload Xt118 hx (hb hby at_207) rfl rfl ?_
      refine gIconst Xt118 hx (hb hby at_209) (v := (0 : Int32)) rfl ?_
      refine goIaload Xt118 hx hZ et118 Yd (x := t0) (hb hby at_210) (by decide) rfl ?_
      refine gAload Xt118 hx (hb hby at_211) rfl rfl ?_
      refine gIconst Xt118 hx (hb hby at_213) (v := (1 : Int32)) rfl ?_
      refine goIaload Xt118 hx hZ et118 Yd (x := t2) (hb hby at_214) (by decide) rfl ?_
      refine gIcmpN Xt118 hx (hb hby at_215) (XT.ii_ge_f (Int32.lt_iff_toInt_lt.mpr (by omega))) ?_
      show Goes p e below _ (Tt118.setTop (mkF m 218 #[.val (.int p0), .val (.int p1), .val (.int p2), .val (.int p3), .val (.int p4), .val (.ref b2), .val (.int (3 : Int32)), .val (.ref b107), .val (.int (2 : Int32)), .unset, .unset, .unset] []))
      refine gIload Xt118 hx (hb hby at_218) rfl ?_
      refine gIconst Xt118 hx (hb hby at_220) (v := (3 : Int32)) rfl ?_
      refine gIcmpY Xt118 hx (hb hby at_221) (pc' := 235) (XT.ii_lt_t (by decide)) (by decide) (by decide) ?_
      show Goes p e below _ (Tt118.setTop (mkF m 235 #[.val (.int p0), .val (.int p1), .val (.int p2), .val (.int p3), .val (.int p4), .val (.ref b2), .val (.int (3 : Int32)), .val (.ref b107), .val (.int (2 : Int32)), .unset, .unset, .unset] []))
      refine gIload Xt118 hx (hb hby at_235) rfl ?_
      refine gIconst Xt118 hx (hb hby at_237) (v := (4 : Int32)) rfl ?_
      refine gIcmpY Xt118 hx (hb hby at_238) (pc' := 252) (XT.ii_lt_t (by decide)) (by decide) (by decide) ?_
      show Goes p e below _ (Tt118.setTop (mkF m 252 #[.val (.int p0), .val (.int p1), .val (.int p2), .val (.int p3), .val (.int p4), .val (.ref b2), .val (.int (3 : Int32)), .val (.ref b107), .val (.int (2 : Int32)), .unset, .unset, .unset] []))
      refine gIconst Xt118 hx (hb hby at_252) (v := (1 : Int32)) rfl ?_
      refine gGoto Xt118 hx (hb hby at_253) (pc' := 257) (by decide) (by decide) ?_
      show Goes p e below _ (Tt118.setTop (mkF m 257 #[.val (.int p0), .val (.int p1), .val (.int p2), .val (.int p3), .val (.int p4), .val (.ref b2), .val (.int (3 : Int32)), .val (.ref b107), .val (.int (2 : Int32)), .unset, .unset, .unset] [(.int (1 : Int32))]))
      refine gIstore Xt118 hx (hb hby at_257) (l' := #[.val (.int p0), .val (.int p1), .val (.int p2), .val (.int p3), .val (.int p4), .val (.ref b2), .val (.int (3 : Int32)), .val (.ref b107), .val (.int (2 : Int32)), .val (.int (1 : Int32)), .unset, .unset]) rfl ?_
      refine gIload Xt118 hx (hb hby at_259) rfl ?_
      refine gIconst Xt118 hx (hb hby at_261) (v := (1 : Int32)) rfl ?_
      refine gIcmpN Xt118 hx (hb hby at_262) (XT.ii_lt_f (by decide)) ?_
      show Goes p e below _ (Tt118.setTop (mkF m 265 #[.val (.int p0), .val (.int p1), .val (.int p2), .val (.int p3), .val (.int p4), .val (.ref b2), .val (.int (3 : Int32)), .val (.ref b107), .val (.int (2 : Int32)), .val (.int (1 : Int32)), .unset, .unset] []))
      refine gAload Xt118 hx (hb hby at_265) rfl rfl ?_
      refine gIload Xt118 hx (hb hby at_267) rfl ?_
      refine gAload Xt118 hx (hb hby at_269) rfl rfl ?_
      refine gIconst Xt118 hx (hb hby at_271) (v := (0 : Int32)) rfl ?_
      refine goIaload Xt118 hx hZ et118 Yc4 (x := t0) (hb hby at_272) (by decide) rfl ?_
      refine goCallS Xt118 hx hZ hown (hw _ (List.mem_of_getElem? (i := 12) rfl)) (hw _ (List.mem_of_getElem? (i := 13) rfl)) (hw _ (List.mem_of_getElem? (i := 3) rfl)) (hw _ (List.mem_of_getElem? (i := 14) rfl)) (by decide) (rmH2 l Z a0 hw t0 t2 [.int t2] b107 t0 ht118 O121 Yd) 0 (by decide) (by decide) et118 (hsz rfl) [(.ref b107), (.int (2 : Int32)), (.int t0)] [] pd_3 rfl rfl rfl (Nat.le_of_eq rfl) (hb hby at_273) (by decide) (by decide) (fun Tt134 vt134 Lt134 Xt134 qt134 => ?_)
      obtain ⟨rfl, N135, et134⟩ := qt134
      have N136 := Fr.app N120 N135
      show Goes p e below _ (Tt134.setTop (mkF m 276 #[.val (.int p0), .val (.int p1), .val (.int p2), .val (.int p3), .val (.int p4), .val (.ref b2), .val (.int (3 : Int32)), .val (.ref b107), .val (.int (2 : Int32)), .val (.int (1 : Int32)), .unset, .unset] [(.int (own_has2 t0 t2 t0))]))
      refine gIfN Xt134 hx (hb hby at_276) (XT.i0_eq_f (by simp [own_has2, e1, e2])) ?_
      show Goes p e below _ (Tt134.setTop (mkF m 279 #[.val (.int p0), .val (.int p1), .val (.int p2), .val (.int p3), .val (.int p4), .val (.ref b2), .val (.int (3 : Int32)), .val (.ref b107), .val (.int (2 : Int32)), .val (.int (1 : Int32)), .unset, .unset] []))
      refine gIload Xt134 hx (hb hby at_279) rfl ?_
      refine gIconst Xt134 hx (hb hby at_281) (v := (2 : Int32)) rfl ?_
      refine gIcmpN Xt134 hx (hb hby at_282) (XT.ii_lt_f (by decide)) ?_
      show Goes p e below _ (Tt134.setTop (mkF m 285 #[.val (.int p0), .val (.int p1), .val (.int p2), .val (.int p3), .val (.int p4), .val (.ref b2), .val (.int (3 : Int32)), .val (.ref b107), .val (.int (2 : Int32)), .val (.int (1 : Int32)), .unset, .unset] []))
      refine gAload Xt134 hx (hb hby at_285) rfl rfl ?_
      refine gIload Xt134 hx (hb hby at_287) rfl ?_
      refine gAload Xt134 hx (hb hby at_289) rfl rfl ?_
      refine gIconst Xt134 hx (hb hby at_291) (v := (1 : Int32)) rfl ?_
      refine goIaload Xt134 hx hZ et134 Yc4 (x := t1) (hb hby at_292) (by decide) rfl ?_
      refine goCallS Xt134 hx hZ hown (hw _ (List.mem_of_getElem? (i := 12) rfl)) (hw _ (List.mem_of_getElem? (i := 13) rfl)) (hw _ (List.mem_of_getElem? (i := 3) rfl)) (hw _ (List.mem_of_getElem? (i := 14) rfl)) (by decide) (rmH2 l Z a0 hw t0 t2 [.int t2] b107 t1 ht118 O121 Yd) 0 (by decide) (by decide) et134 (hsz rfl) [(.ref b107), (.int (2 : Int32)), (.int t1)] [] pd_3 rfl rfl rfl (Nat.le_of_eq rfl) (hb hby at_293) (by decide) (by decide) (fun Tt137 vt137 Lt137 Xt137 qt137 => ?_)
      obtain ⟨rfl, N138, et137⟩ := qt137
      have N139 := Fr.app N136 N138
      show Goes p e below _ (Tt137.setTop (mkF m 296 #[.val (.int p0), .val (.int p1), .val (.int p2), .val (.int p3), .val (.int p4), .val (.ref b2), .val (.int (3 : Int32)), .val (.ref b107), .val (.int (2 : Int32)), .val (.int (1 : Int32)), .unset, .unset] [(.int (own_has2 t0 t2 t1))]))
      refine gIfN Xt137 hx (hb hby at_296) (XT.i0_eq_f (by simp [own_has2, e1, e2])) ?_
      show Goes p e below _ (Tt137.setTop (mkF m 299 #[.val (.int p0), .val (.int p1), .val (.int p2), .val (.int p3), .val (.int p4), .val (.ref b2), .val (.int (3 : Int32)), .val (.ref b107), .val (.int (2 : Int32)), .val (.int (1 : Int32)), .unset, .unset] []))
      refine gIload Xt137 hx (hb hby at_299) rfl ?_
      refine gIconst Xt137 hx (hb hby at_301) (v := (3 : Int32)) rfl ?_
      refine gIcmpN Xt137 hx (hb hby at_302) (XT.ii_lt_f (by decide)) ?_
      show Goes p e below _ (Tt137.setTop (mkF m 305 #[.val (.int p0), .val (.int p1), .val (.int p2), .val (.int p3), .val (.int p4), .val (.ref b2), .val (.int (3 : Int32)), .val (.ref b107), .val (.int (2 : Int32)), .val (.int (1 : Int32)), .unset, .unset] []))
      refine gAload Xt137 hx (hb hby at_305) rfl rfl ?_
      refine gIload Xt137 hx (hb hby at_307) rfl ?_
      refine gAload Xt137 hx (hb hby at_309) rfl rfl ?_
      refine gIconst Xt137 hx (hb hby at_311) (v := (2 : Int32)) rfl ?_
      refine goIaload Xt137 hx hZ et137 Yc4 (x := t2) (hb hby at_312) (by decide) rfl ?_
      refine goCallS Xt137 hx hZ hown (hw _ (List.mem_of_getElem? (i := 12) rfl)) (hw _ (List.mem_of_getElem? (i := 13) rfl)) (hw _ (List.mem_of_getElem? (i := 3) rfl)) (hw _ (List.mem_of_getElem? (i := 14) rfl)) (by decide) (rmH2 l Z a0 hw t0 t2 [.int t2] b107 t2 ht118 O121 Yd) 0 (by decide) (by decide) et137 (hsz rfl) [(.ref b107), (.int (2 : Int32)), (.int t2)] [] pd_3 rfl rfl rfl (Nat.le_of_eq rfl) (hb hby at_313) (by decide) (by decide) (fun Tt140 vt140 Lt140 Xt140 qt140 => ?_)
      obtain ⟨rfl, N141, et140⟩ := qt140
      have N142 := Fr.app N139 N141
      show Goes p e below _ (Tt140.setTop (mkF m 316 #[.val (.int p0), .val (.int p1), .val (.int p2), .val (.int p3), .val (.int p4), .val (.ref b2), .val (.int (3 : Int32)), .val (.ref b107), .val (.int (2 : Int32)), .val (.int (1 : Int32)), .unset, .unset] [(.int (own_has2 t0 t2 t2))]))
      refine gIfN Xt140 hx (hb hby at_316) (XT.i0_eq_f (by simp [own_has2, e1, e2])) ?_
      show Goes p e below _ (Tt140.setTop (mkF m 319 #[.val (.int p0), .val (.int p1), .val (.int p2), .val (.int p3), .val (.int p4), .val (.ref b2), .val (.int (3 : Int32)), .val (.ref b107), .val (.int (2 : Int32)), .val (.int (1 : Int32)), .unset, .unset] []))
      refine gIload Xt140 hx (hb hby at_319) rfl ?_
      refine gIconst Xt140 hx (hb hby at_321) (v := (4 : Int32)) rfl ?_
      refine gIcmpY Xt140 hx (hb hby at_322) (pc' := 339) (XT.ii_lt_t (by decide)) (by decide) (by decide) ?_
      show Goes p e below _ (Tt140.setTop (mkF m 339 #[.val (.int p0), .val (.int p1), .val (.int p2), .val (.int p3), .val (.int p4), .val (.ref b2), .val (.int (3 : Int32)), .val (.ref b107), .val (.int (2 : Int32)), .val (.int (1 : Int32)), .unset, .unset] []))
      refine gIconst Xt140 hx (hb hby at_339) (v := (1 : Int32)) rfl ?_
      refine gGoto Xt140 hx (hb hby at_340) (pc' := 344) (by decide) (by decide) ?_
      show Goes p e below _ (Tt140.setTop (mkF m 344 #[.val (.int p0), .val (.int p1), .val (.int p2), .val (.int p3), .val (.int p4), .val (.ref b2), .val (.int (3 : Int32)), .val (.ref b107), .val (.int (2 : Int32)), .val (.int (1 : Int32)), .unset, .unset] [(.int (1 : Int32))]))
      refine gIstore Xt140 hx (hb hby at_344) (l' := #[.val (.int p0), .val (.int p1), .val (.int p2), .val (.int p3), .val (.int p4), .val (.ref b2), .val (.int (3 : Int32)), .val (.ref b107), .val (.int (2 : Int32)), .val (.int (1 : Int32)), .val (.int (1 : Int32)), .unset]) rfl ?_
      refine gIload Xt140 hx (hb hby at_346) rfl ?_
      refine gIconst Xt140 hx (hb hby at_348) (v := (1 : Int32)) rfl ?_
      refine gIcmpN Xt140 hx (hb hby at_349) (XT.ii_lt_f (by decide)) ?_
      show Goes p e below _ (Tt140.setTop (mkF m 352 #[.val (.int p0), .val (.int p1), .val (.int p2), .val (.int p3), .val (.int p4), .val (.ref b2), .val (.int (3 : Int32)), .val (.ref b107), .val (.int (2 : Int32)), .val (.int (1 : Int32)), .val (.int (1 : Int32)), .unset] []))
      refine gAload Xt140 hx (hb hby at_352) rfl rfl ?_
      refine gIload Xt140 hx (hb hby at_354) rfl ?_
      refine gAload Xt140 hx (hb hby at_356) rfl rfl ?_
      refine gIconst Xt140 hx (hb hby at_358) (v := (0 : Int32)) rfl ?_
      refine goIaload Xt140 hx hZ et140 Yd (x := t0) (hb hby at_359) (by decide) rfl ?_
      refine goCallS Xt140 hx hZ hown (hw _ (List.mem_of_getElem? (i := 12) rfl)) (hw _ (List.mem_of_getElem? (i := 13) rfl)) (hw _ (List.mem_of_getElem? (i := 3) rfl)) (hw _ (List.mem_of_getElem? (i := 14) rfl)) (by decide) (rmH3 l Z a0 hw t0 t1 t2 [.int t3] b2 t0 ht118 O121 Yc4) 0 (by decide) (by decide) et140 (hsz rfl) [(.ref b2), (.int (3 : Int32)), (.int t0)] [] pd_3 rfl rfl rfl (Nat.le_of_eq rfl) (hb hby at_360) (by decide) (by decide) (fun Tt143 vt143 Lt143 Xt143 qt143 => ?_)
      obtain ⟨rfl, N144, et143⟩ := qt143
      have N145 := Fr.app N142 N144
      show Goes p e below _ (Tt143.setTop (mkF m 363 #[.val (.int p0), .val (.int p1), .val (.int p2), .val (.int p3), .val (.int p4), .val (.ref b2), .val (.int (3 : Int32)), .val (.ref b107), .val (.int (2 : Int32)), .val (.int (1 : Int32)), .val (.int (1 : Int32)), .unset] [(.int (own_has3 t0 t1 t2 t0))]))
      refine gIfN Xt143 hx (hb hby at_363) (XT.i0_eq_f (by simp [own_has3, e1, e2])) ?_
      show Goes p e below _ (Tt143.setTop (mkF m 366 #[.val (.int p0), .val (.int p1), .val (.int p2), .val (.int p3), .val (.int p4), .val (.ref b2), .val (.int (3 : Int32)), .val (.ref b107), .val (.int (2 : Int32)), .val (.int (1 : Int32)), .val (.int (1 : Int32)), .unset] []))
      refine gIload Xt143 hx (hb hby at_366) rfl ?_
      refine gIconst Xt143 hx (hb hby at_368) (v := (2 : Int32)) rfl ?_
      refine gIcmpN Xt143 hx (hb hby at_369) (XT.ii_lt_f (by decide)) ?_
      show Goes p e below _ (Tt143.setTop (mkF m 372 #[.val (.int p0), .val (.int p1), .val (.int p2), .val (.int p3), .val (.int p4), .val (.ref b2), .val (.int (3 : Int32)), .val (.ref b107), .val (.int (2 : Int32)), .val (.int (1 : Int32)), .val (.int (1 : Int32)), .unset] []))
      refine gAload Xt143 hx (hb hby at_372) rfl rfl ?_
      refine gIload Xt143 hx (hb hby at_374) rfl ?_
      refine gAload Xt143 hx (hb hby at_376) rfl rfl ?_
      refine gIconst Xt143 hx (hb hby at_378) (v := (1 : Int32)) rfl ?_
      refine goIaload Xt143 hx hZ et143 Yd (x := t2) (hb hby at_379) (by decide) rfl ?_
      refine goCallS Xt143 hx hZ hown (hw _ (List.mem_of_getElem? (i := 12) rfl)) (hw _ (List.mem_of_getElem? (i := 13) rfl)) (hw _ (List.mem_of_getElem? (i := 3) rfl)) (hw _ (List.mem_of_getElem? (i := 14) rfl)) (by decide) (rmH3 l Z a0 hw t0 t1 t2 [.int t3] b2 t2 ht118 O121 Yc4) 0 (by decide) (by decide) et143 (hsz rfl) [(.ref b2), (.int (3 : Int32)), (.int t2)] [] pd_3 rfl rfl rfl (Nat.le_of_eq rfl) (hb hby at_380) (by decide) (by decide) (fun Tt146 vt146 Lt146 Xt146 qt146 => ?_)
      obtain ⟨rfl, N147, et146⟩ := qt146
      have N148 := Fr.app N145 N147
      show Goes p e below _ (Tt146.setTop (mkF m 383 #[.val (.int p0), .val (.int p1), .val (.int p2), .val (.int p3), .val (.int p4), .val (.ref b2), .val (.int (3 : Int32)), .val (.ref b107), .val (.int (2 : Int32)), .val (.int (1 : Int32)), .val (.int (1 : Int32)), .unset] [(.int (own_has3 t0 t1 t2 t2))]))
      refine gIfN Xt146 hx (hb hby at_383) (XT.i0_eq_f (by simp [own_has3, e1, e2])) ?_
      show Goes p e below _ (Tt146.setTop (mkF m 386 #[.val (.int p0), .val (.int p1), .val (.int p2), .val (.int p3), .val (.int p4), .val (.ref b2), .val (.int (3 : Int32)), .val (.ref b107), .val (.int (2 : Int32)), .val (.int (1 : Int32)), .val (.int (1 : Int32)), .unset] []))
      refine gIload Xt146 hx (hb hby at_386) rfl ?_
      refine gIconst Xt146 hx (hb hby at_388) (v := (3 : Int32)) rfl ?_
      refine gIcmpY Xt146 hx (hb hby at_389) (pc' := 406) (XT.ii_lt_t (by decide)) (by decide) (by decide) ?_
      show Goes p e below _ (Tt146.setTop (mkF m 406 #[.val (.int p0), .val (.int p1), .val (.int p2), .val (.int p3), .val (.int p4), .val (.ref b2), .val (.int (3 : Int32)), .val (.ref b107), .val (.int (2 : Int32)), .val (.int (1 : Int32)), .val (.int (1 : Int32)), .unset] []))
      refine gIload Xt146 hx (hb hby at_406) rfl ?_
      refine gIconst Xt146 hx (hb hby at_408) (v := (4 : Int32)) rfl ?_
      refine gIcmpY Xt146 hx (hb hby at_409) (pc' := 426) (XT.ii_lt_t (by decide)) (by decide) (by decide) ?_
      show Goes p e below _ (Tt146.setTop (mkF m 426 #[.val (.int p0), .val (.int p1), .val (.int p2), .val (.int p3), .val (.int p4), .val (.ref b2), .val (.int (3 : Int32)), .val (.ref b107), .val (.int (2 : Int32)), .val (.int (1 : Int32)), .val (.int (1 : Int32)), .unset] []))
      refine gIconst Xt146 hx (hb hby at_426) (v := (1 : Int32)) rfl ?_
      refine gGoto Xt146 hx (hb hby at_427) (pc' := 431) (by decide) (by decide) ?_
      show Goes p e below _ (Tt146.setTop (mkF m 431 #[.val (.int p0), .val (.int p1), .val (.int p2), .val (.int p3), .val (.int p4), .val (.ref b2), .val (.int (3 : Int32)), .val (.ref b107), .val (.int (2 : Int32)), .val (.int (1 : Int32)), .val (.int (1 : Int32)), .unset] [(.int (1 : Int32))]))
      refine gIstore Xt146 hx (hb hby at_431) (l' := #[.val (.int p0), .val (.int p1), .val (.int p2), .val (.int p3), .val (.int p4), .val (.ref b2), .val (.int (3 : Int32)), .val (.ref b107), .val (.int (2 : Int32)), .val (.int (1 : Int32)), .val (.int (1 : Int32)), .val (.int (1 : Int32))]) rfl ?_
      refine gIload Xt146 hx (hb hby at_433) rfl ?_
      refine gIfN Xt146 hx (hb hby at_435) (XT.i0_eq_f (by decide)) ?_
      show Goes p e below _ (Tt146.setTop (mkF m 438 #[.val (.int p0), .val (.int p1), .val (.int p2), .val (.int p3), .val (.int p4), .val (.ref b2), .val (.int (3 : Int32)), .val (.ref b107), .val (.int (2 : Int32)), .val (.int (1 : Int32)), .val (.int (1 : Int32)), .val (.int (1 : Int32))] []))
      refine gIload Xt146 hx (hb hby at_438) rfl ?_
      refine gIfN Xt146 hx (hb hby at_440) (XT.i0_eq_f (by decide)) ?_
      show Goes p e below _ (Tt146.setTop (mkF m 443 #[.val (.int p0), .val (.int p1), .val (.int p2), .val (.int p3), .val (.int p4), .val (.ref b2), .val (.int (3 : Int32)), .val (.ref b107), .val (.int (2 : Int32)), .val (.int (1 : Int32)), .val (.int (1 : Int32)), .val (.int (1 : Int32))] []))
      refine gIload Xt146 hx (hb hby at_443) rfl ?_
      refine gIfN Xt146 hx (hb hby at_445) (XT.i0_eq_f (by decide)) ?_
      show Goes p e below _ (Tt146.setTop (mkF m 448 #[.val (.int p0), .val (.int p1), .val (.int p2), .val (.int p3), .val (.int p4), .val (.ref b2), .val (.int (3 : Int32)), .val (.ref b107), .val (.int (2 : Int32)), .val (.int (1 : Int32)), .val (.int (1 : Int32)), .val (.int (1 : Int32))] []))
      refine gIconst Xt146 hx (hb hby at_448) (v := (1 : Int32)) rfl ?_
      refine gGoto Xt146 hx (hb hby at_449) (pc' := 453) (by decide) (by decide) ?_
      show Goes p e below _ (Tt146.setTop (mkF m 453 #[.val (.int p0), .val (.int p1), .val (.int p2), .val (.int p3), .val (.int p4), .val (.ref b2), .val (.int (3 : Int32)), .val (.ref b107), .val (.int (2 : Int32)), .val (.int (1 : Int32)), .val (.int (1 : Int32)), .val (.int (1 : Int32))] [(.int (1 : Int32))]))
      exact goRetN Xt146 hx (t := .boolean) hret hlocks (by simp) (hb hby at_453) (z' := (1 : Int32)) rfl (by decide) (by decide) et146 (⟨rfl, N148⟩)
    · show Goes p e below _ (Tt118.setTop (mkF m 185 #[.val (.int p0), .val (.int p1), .val (.int p2), .val (.int p3), .val (.int p4), .val (.ref b2), .val (.int (3 : Int32)), .val (.ref b107), .unset, .unset, .unset, .unset] [(.int (2 : Int32))]))
      have f1 : ¬ t1.toInt = t0.toInt := fun z => e1 (Int32.toInt_inj.mp z)
      have f2 : t2.toInt = t1.toInt := by rw [e2]
      refine gIstore Xt118 hx (hb hby at_185) (l' := #[.val (.int p0), .val (.int p1), .val (.int p2), .val (.int p3), .val (.int p4), .val (.ref b2), .val (.int (3 : Int32)), .val (.ref b107), .val (.int (2 : Int32)), .unset, .unset, .unset]) rfl ?_
      refine gIload Xt118 hx (hb hby at_187) rfl ?_
      refine gIfN Xt118 hx (hb hby at_189) (XT.i0_lt_f (by decide)) ?_
      show Goes p e below _ (Tt118.setTop (mkF m 192 #[.val (.int p0), .val (.int p1), .val (.int p2), .val (.int p3), .val (.int p4), .val (.ref b2), .val (.int (3 : Int32)), .val (.ref b107), .val (.int (2 : Int32)), .unset, .unset, .unset] []))
      refine gIload Xt118 hx (hb hby at_192) rfl ?_
      refine gIload Xt118 hx (hb hby at_194) rfl ?_
      refine gIcmpY Xt118 hx (hb hby at_196) (pc' := 201) (XT.ii_le_t (by decide)) (by decide) (by decide) ?_
      show Goes p e below _ (Tt118.setTop (mkF m 201 #[.val (.int p0), .val (.int p1), .val (.int p2), .val (.int p3), .val (.int p4), .val (.ref b2), .val (.int (3 : Int32)), .val (.ref b107), .val (.int (2 : Int32)), .unset, .unset, .unset] []))
      refine gIload Xt118 hx (hb hby at_201) rfl ?_
      refine gIconst Xt118 hx (hb hby at_203) (v := (2 : Int32)) rfl ?_
      refine gIcmpN Xt118 hx (hb hby at_204) (XT.ii_lt_f (by decide)) ?_
      show Goes p e below _ (Tt118.setTop (mkF m 207 #[.val (.int p0), .val (.int p1), .val (.int p2), .val (.int p3), .val (.int p4), .val (.ref b2), .val (.int (3 : Int32)), .val (.ref b107), .val (.int (2 : Int32)), .unset, .unset, .unset] []))
      refine gAload Xt118 hx (hb hby at_207) rfl rfl ?_
      refine gIconst Xt118 hx (hb hby at_209) (v := (0 : Int32)) rfl ?_
      refine goIaload Xt118 hx hZ et118 Yd (x := t0) (hb hby at_210) (by decide) rfl ?_
      refine gAload Xt118 hx (hb hby at_211) rfl rfl ?_
      refine gIconst Xt118 hx (hb hby at_213) (v := (1 : Int32)) rfl ?_
      refine goIaload Xt118 hx hZ et118 Yd (x := t1) (hb hby at_214) (by decide) rfl ?_
      refine gIcmpN Xt118 hx (hb hby at_215) (XT.ii_ge_f (Int32.lt_iff_toInt_lt.mpr (by omega))) ?_
      show Goes p e below _ (Tt118.setTop (mkF m 218 #[.val (.int p0), .val (.int p1), .val (.int p2), .val (.int p3), .val (.int p4), .val (.ref b2), .val (.int (3 : Int32)), .val (.ref b107), .val (.int (2 : Int32)), .unset, .unset, .unset] []))
      refine gIload Xt118 hx (hb hby at_218) rfl ?_
      refine gIconst Xt118 hx (hb hby at_220) (v := (3 : Int32)) rfl ?_
      refine gIcmpY Xt118 hx (hb hby at_221) (pc' := 235) (XT.ii_lt_t (by decide)) (by decide) (by decide) ?_
      show Goes p e below _ (Tt118.setTop (mkF m 235 #[.val (.int p0), .val (.int p1), .val (.int p2), .val (.int p3), .val (.int p4), .val (.ref b2), .val (.int (3 : Int32)), .val (.ref b107), .val (.int (2 : Int32)), .unset, .unset, .unset] []))
      refine gIload Xt118 hx (hb hby at_235) rfl ?_
      refine gIconst Xt118 hx (hb hby at_237) (v := (4 : Int32)) rfl ?_
      refine gIcmpY Xt118 hx (hb hby at_238) (pc' := 252) (XT.ii_lt_t (by decide)) (by decide) (by decide) ?_
      show Goes p e below _ (Tt118.setTop (mkF m 252 #[.val (.int p0), .val (.int p1), .val (.int p2), .val (.int p3), .val (.int p4), .val (.ref b2), .val (.int (3 : Int32)), .val (.ref b107), .val (.int (2 : Int32)), .unset, .unset, .unset] []))
      refine gIconst Xt118 hx (hb hby at_252) (v := (1 : Int32)) rfl ?_
      refine gGoto Xt118 hx (hb hby at_253) (pc' := 257) (by decide) (by decide) ?_
      show Goes p e below _ (Tt118.setTop (mkF m 257 #[.val (.int p0), .val (.int p1), .val (.int p2), .val (.int p3), .val (.int p4), .val (.ref b2), .val (.int (3 : Int32)), .val (.ref b107), .val (.int (2 : Int32)), .unset, .unset, .unset] [(.int (1 : Int32))]))
      refine gIstore Xt118 hx (hb hby at_257) (l' := #[.val (.int p0), .val (.int p1), .val (.int p2), .val (.int p3), .val (.int p4), .val (.ref b2), .val (.int (3 : Int32)), .val (.ref b107), .val (.int (2 : Int32)), .val (.int (1 : Int32)), .unset, .unset]) rfl ?_
      refine gIload Xt118 hx (hb hby at_259) rfl ?_
      refine gIconst Xt118 hx (hb hby at_261) (v := (1 : Int32)) rfl ?_
      refine gIcmpN Xt118 hx (hb hby at_262) (XT.ii_lt_f (by decide)) ?_
      show Goes p e below _ (Tt118.setTop (mkF m 265 #[.val (.int p0), .val (.int p1), .val (.int p2), .val (.int p3), .val (.int p4), .val (.ref b2), .val (.int (3 : Int32)), .val (.ref b107), .val (.int (2 : Int32)), .val (.int (1 : Int32)), .unset, .unset] []))
      refine gAload Xt118 hx (hb hby at_265) rfl rfl ?_
      refine gIload Xt118 hx (hb hby at_267) rfl ?_
      refine gAload Xt118 hx (hb hby at_269) rfl rfl ?_
      refine gIconst Xt118 hx (hb hby at_271) (v := (0 : Int32)) rfl ?_
      refine goIaload Xt118 hx hZ et118 Yc4 (x := t0) (hb hby at_272) (by decide) rfl ?_
      refine goCallS Xt118 hx hZ hown (hw _ (List.mem_of_getElem? (i := 12) rfl)) (hw _ (List.mem_of_getElem? (i := 13) rfl)) (hw _ (List.mem_of_getElem? (i := 3) rfl)) (hw _ (List.mem_of_getElem? (i := 14) rfl)) (by decide) (rmH2 l Z a0 hw t0 t1 [.int t2] b107 t0 ht118 O121 Yd) 0 (by decide) (by decide) et118 (hsz rfl) [(.ref b107), (.int (2 : Int32)), (.int t0)] [] pd_3 rfl rfl rfl (Nat.le_of_eq rfl) (hb hby at_273) (by decide) (by decide) (fun Tt149 vt149 Lt149 Xt149 qt149 => ?_)
      obtain ⟨rfl, N150, et149⟩ := qt149
      have N151 := Fr.app N120 N150
      show Goes p e below _ (Tt149.setTop (mkF m 276 #[.val (.int p0), .val (.int p1), .val (.int p2), .val (.int p3), .val (.int p4), .val (.ref b2), .val (.int (3 : Int32)), .val (.ref b107), .val (.int (2 : Int32)), .val (.int (1 : Int32)), .unset, .unset] [(.int (own_has2 t0 t1 t0))]))
      refine gIfN Xt149 hx (hb hby at_276) (XT.i0_eq_f (by simp [own_has2, e1, e2])) ?_
      show Goes p e below _ (Tt149.setTop (mkF m 279 #[.val (.int p0), .val (.int p1), .val (.int p2), .val (.int p3), .val (.int p4), .val (.ref b2), .val (.int (3 : Int32)), .val (.ref b107), .val (.int (2 : Int32)), .val (.int (1 : Int32)), .unset, .unset] []))
      refine gIload Xt149 hx (hb hby at_279) rfl ?_
      refine gIconst Xt149 hx (hb hby at_281) (v := (2 : Int32)) rfl ?_
      refine gIcmpN Xt149 hx (hb hby at_282) (XT.ii_lt_f (by decide)) ?_
      show Goes p e below _ (Tt149.setTop (mkF m 285 #[.val (.int p0), .val (.int p1), .val (.int p2), .val (.int p3), .val (.int p4), .val (.ref b2), .val (.int (3 : Int32)), .val (.ref b107), .val (.int (2 : Int32)), .val (.int (1 : Int32)), .unset, .unset] []))
      refine gAload Xt149 hx (hb hby at_285) rfl rfl ?_
      refine gIload Xt149 hx (hb hby at_287) rfl ?_
      refine gAload Xt149 hx (hb hby at_289) rfl rfl ?_
      refine gIconst Xt149 hx (hb hby at_291) (v := (1 : Int32)) rfl ?_
      refine goIaload Xt149 hx hZ et149 Yc4 (x := t1) (hb hby at_292) (by decide) rfl ?_
      refine goCallS Xt149 hx hZ hown (hw _ (List.mem_of_getElem? (i := 12) rfl)) (hw _ (List.mem_of_getElem? (i := 13) rfl)) (hw _ (List.mem_of_getElem? (i := 3) rfl)) (hw _ (List.mem_of_getElem? (i := 14) rfl)) (by decide) (rmH2 l Z a0 hw t0 t1 [.int t2] b107 t1 ht118 O121 Yd) 0 (by decide) (by decide) et149 (hsz rfl) [(.ref b107), (.int (2 : Int32)), (.int t1)] [] pd_3 rfl rfl rfl (Nat.le_of_eq rfl) (hb hby at_293) (by decide) (by decide) (fun Tt152 vt152 Lt152 Xt152 qt152 => ?_)
      obtain ⟨rfl, N153, et152⟩ := qt152
      have N154 := Fr.app N151 N153
      show Goes p e below _ (Tt152.setTop (mkF m 296 #[.val (.int p0), .val (.int p1), .val (.int p2), .val (.int p3), .val (.int p4), .val (.ref b2), .val (.int (3 : Int32)), .val (.ref b107), .val (.int (2 : Int32)), .val (.int (1 : Int32)), .unset, .unset] [(.int (own_has2 t0 t1 t1))]))
      refine gIfN Xt152 hx (hb hby at_296) (XT.i0_eq_f (by simp [own_has2, e1, e2])) ?_
      show Goes p e below _ (Tt152.setTop (mkF m 299 #[.val (.int p0), .val (.int p1), .val (.int p2), .val (.int p3), .val (.int p4), .val (.ref b2), .val (.int (3 : Int32)), .val (.ref b107), .val (.int (2 : Int32)), .val (.int (1 : Int32)), .unset, .unset] []))
      refine gIload Xt152 hx (hb hby at_299) rfl ?_
      refine gIconst Xt152 hx (hb hby at_301) (v := (3 : Int32)) rfl ?_
      refine gIcmpN Xt152 hx (hb hby at_302) (XT.ii_lt_f (by decide)) ?_
      show Goes p e below _ (Tt152.setTop (mkF m 305 #[.val (.int p0), .val (.int p1), .val (.int p2), .val (.int p3), .val (.int p4), .val (.ref b2), .val (.int (3 : Int32)), .val (.ref b107), .val (.int (2 : Int32)), .val (.int (1 : Int32)), .unset, .unset] []))
      refine gAload Xt152 hx (hb hby at_305) rfl rfl ?_
      refine gIload Xt152 hx (hb hby at_307) rfl ?_
      refine gAload Xt152 hx (hb hby at_309) rfl rfl ?_
      refine gIconst Xt152 hx (hb hby at_311) (v := (2 : Int32)) rfl ?_
      refine goIaload Xt152 hx hZ et152 Yc4 (x := t2) (hb hby at_312) (by decide) rfl ?_
      refine goCallS Xt152 hx hZ hown (hw _ (List.mem_of_getElem? (i := 12) rfl)) (hw _ (List.mem_of_getElem? (i := 13) rfl)) (hw _ (List.mem_of_getElem? (i := 3) rfl)) (hw _ (List.mem_of_getElem? (i := 14) rfl)) (by decide) (rmH2 l Z a0 hw t0 t1 [.int t2] b107 t2 ht118 O121 Yd) 0 (by decide) (by decide) et152 (hsz rfl) [(.ref b107), (.int (2 : Int32)), (.int t2)] [] pd_3 rfl rfl rfl (Nat.le_of_eq rfl) (hb hby at_313) (by decide) (by decide) (fun Tt155 vt155 Lt155 Xt155 qt155 => ?_)
      obtain ⟨rfl, N156, et155⟩ := qt155
      have N157 := Fr.app N154 N156
      show Goes p e below _ (Tt155.setTop (mkF m 316 #[.val (.int p0), .val (.int p1), .val (.int p2), .val (.int p3), .val (.int p4), .val (.ref b2), .val (.int (3 : Int32)), .val (.ref b107), .val (.int (2 : Int32)), .val (.int (1 : Int32)), .unset, .unset] [(.int (own_has2 t0 t1 t2))]))
      refine gIfN Xt155 hx (hb hby at_316) (XT.i0_eq_f (by simp [own_has2, e1, e2])) ?_
      show Goes p e below _ (Tt155.setTop (mkF m 319 #[.val (.int p0), .val (.int p1), .val (.int p2), .val (.int p3), .val (.int p4), .val (.ref b2), .val (.int (3 : Int32)), .val (.ref b107), .val (.int (2 : Int32)), .val (.int (1 : Int32)), .unset, .unset] []))
      refine gIload Xt155 hx (hb hby at_319) rfl ?_
      refine gIconst Xt155 hx (hb hby at_321) (v := (4 : Int32)) rfl ?_
      refine gIcmpY Xt155 hx (hb hby at_322) (pc' := 339) (XT.ii_lt_t (by decide)) (by decide) (by decide) ?_
      show Goes p e below _ (Tt155.setTop (mkF m 339 #[.val (.int p0), .val (.int p1), .val (.int p2), .val (.int p3), .val (.int p4), .val (.ref b2), .val (.int (3 : Int32)), .val (.ref b107), .val (.int (2 : Int32)), .val (.int (1 : Int32)), .unset, .unset] []))
      refine gIconst Xt155 hx (hb hby at_339) (v := (1 : Int32)) rfl ?_
      refine gGoto Xt155 hx (hb hby at_340) (pc' := 344) (by decide) (by decide) ?_
      show Goes p e below _ (Tt155.setTop (mkF m 344 #[.val (.int p0), .val (.int p1), .val (.int p2), .val (.int p3), .val (.int p4), .val (.ref b2), .val (.int (3 : Int32)), .val (.ref b107), .val (.int (2 : Int32)), .val (.int (1 : Int32)), .unset, .unset] [(.int (1 : Int32))]))
      refine gIstore Xt155 hx (hb hby at_344) (l' := #[.val (.int p0), .val (.int p1), .val (.int p2), .val (.int p3), .val (.int p4), .val (.ref b2), .val (.int (3 : Int32)), .val (.ref b107), .val (.int (2 : Int32)), .val (.int (1 : Int32)), .val (.int (1 : Int32)), .unset]) rfl ?_
      refine gIload Xt155 hx (hb hby at_346) rfl ?_
      refine gIconst Xt155 hx (hb hby at_348) (v := (1 : Int32)) rfl ?_
      refine gIcmpN Xt155 hx (hb hby at_349) (XT.ii_lt_f (by decide)) ?_
      show Goes p e below _ (Tt155.setTop (mkF m 352 #[.val (.int p0), .val (.int p1), .val (.int p2), .val (.int p3), .val (.int p4), .val (.ref b2), .val (.int (3 : Int32)), .val (.ref b107), .val (.int (2 : Int32)), .val (.int (1 : Int32)), .val (.int (1 : Int32)), .unset] []))
      refine gAload Xt155 hx (hb hby at_352) rfl rfl ?_
      refine gIload Xt155 hx (hb hby at_354) rfl ?_
      refine gAload Xt155 hx (hb hby at_356) rfl rfl ?_
      refine gIconst Xt155 hx (hb hby at_358) (v := (0 : Int32)) rfl ?_
      refine goIaload Xt155 hx hZ et155 Yd (x := t0) (hb hby at_359) (by decide) rfl ?_
      refine goCallS Xt155 hx hZ hown (hw _ (List.mem_of_getElem? (i := 12) rfl)) (hw _ (List.mem_of_getElem? (i := 13) rfl)) (hw _ (List.mem_of_getElem? (i := 3) rfl)) (hw _ (List.mem_of_getElem? (i := 14) rfl)) (by decide) (rmH3 l Z a0 hw t0 t1 t2 [.int t3] b2 t0 ht118 O121 Yc4) 0 (by decide) (by decide) et155 (hsz rfl) [(.ref b2), (.int (3 : Int32)), (.int t0)] [] pd_3 rfl rfl rfl (Nat.le_of_eq rfl) (hb hby at_360) (by decide) (by decide) (fun Tt158 vt158 Lt158 Xt158 qt158 => ?_)
      obtain ⟨rfl, N159, et158⟩ := qt158
      have N160 := Fr.app N157 N159
      show Goes p e below _ (Tt158.setTop (mkF m 363 #[.val (.int p0), .val (.int p1), .val (.int p2), .val (.int p3), .val (.int p4), .val (.ref b2), .val (.int (3 : Int32)), .val (.ref b107), .val (.int (2 : Int32)), .val (.int (1 : Int32)), .val (.int (1 : Int32)), .unset] [(.int (own_has3 t0 t1 t2 t0))]))
      refine gIfN Xt158 hx (hb hby at_363) (XT.i0_eq_f (by simp [own_has3, e1, e2])) ?_
      show Goes p e below _ (Tt158.setTop (mkF m 366 #[.val (.int p0), .val (.int p1), .val (.int p2), .val (.int p3), .val (.int p4), .val (.ref b2), .val (.int (3 : Int32)), .val (.ref b107), .val (.int (2 : Int32)), .val (.int (1 : Int32)), .val (.int (1 : Int32)), .unset] []))
      refine gIload Xt158 hx (hb hby at_366) rfl ?_
      refine gIconst Xt158 hx (hb hby at_368) (v := (2 : Int32)) rfl ?_
      refine gIcmpN Xt158 hx (hb hby at_369) (XT.ii_lt_f (by decide)) ?_
      show Goes p e below _ (Tt158.setTop (mkF m 372 #[.val (.int p0), .val (.int p1), .val (.int p2), .val (.int p3), .val (.int p4), .val (.ref b2), .val (.int (3 : Int32)), .val (.ref b107), .val (.int (2 : Int32)), .val (.int (1 : Int32)), .val (.int (1 : Int32)), .unset] []))
      refine gAload Xt158 hx (hb hby at_372) rfl rfl ?_
      refine gIload Xt158 hx (hb hby at_374) rfl ?_
      refine gAload Xt158 hx (hb hby at_376) rfl rfl ?_
      refine gIconst Xt158 hx (hb hby at_378) (v := (1 : Int32)) rfl ?_
      refine goIaload Xt158 hx hZ et158 Yd (x := t1) (hb hby at_379) (by decide) rfl ?_
      refine goCallS Xt158 hx hZ hown (hw _ (List.mem_of_getElem? (i := 12) rfl)) (hw _ (List.mem_of_getElem? (i := 13) rfl)) (hw _ (List.mem_of_getElem? (i := 3) rfl)) (hw _ (List.mem_of_getElem? (i := 14) rfl)) (by decide) (rmH3 l Z a0 hw t0 t1 t2 [.int t3] b2 t1 ht118 O121 Yc4) 0 (by decide) (by decide) et158 (hsz rfl) [(.ref b2), (.int (3 : Int32)), (.int t1)] [] pd_3 rfl rfl rfl (Nat.le_of_eq rfl) (hb hby at_380) (by decide) (by decide) (fun Tt161 vt161 Lt161 Xt161 qt161 => ?_)
      obtain ⟨rfl, N162, et161⟩ := qt161
      have N163 := Fr.app N160 N162
      show Goes p e below _ (Tt161.setTop (mkF m 383 #[.val (.int p0), .val (.int p1), .val (.int p2), .val (.int p3), .val (.int p4), .val (.ref b2), .val (.int (3 : Int32)), .val (.ref b107), .val (.int (2 : Int32)), .val (.int (1 : Int32)), .val (.int (1 : Int32)), .unset] [(.int (own_has3 t0 t1 t2 t1))]))
      refine gIfN Xt161 hx (hb hby at_383) (XT.i0_eq_f (by simp [own_has3, e1, e2])) ?_
      show Goes p e below _ (Tt161.setTop (mkF m 386 #[.val (.int p0), .val (.int p1), .val (.int p2), .val (.int p3), .val (.int p4), .val (.ref b2), .val (.int (3 : Int32)), .val (.ref b107), .val (.int (2 : Int32)), .val (.int (1 : Int32)), .val (.int (1 : Int32)), .unset] []))
      refine gIload Xt161 hx (hb hby at_386) rfl ?_
      refine gIconst Xt161 hx (hb hby at_388) (v := (3 : Int32)) rfl ?_
      refine gIcmpY Xt161 hx (hb hby at_389) (pc' := 406) (XT.ii_lt_t (by decide)) (by decide) (by decide) ?_
      show Goes p e below _ (Tt161.setTop (mkF m 406 #[.val (.int p0), .val (.int p1), .val (.int p2), .val (.int p3), .val (.int p4), .val (.ref b2), .val (.int (3 : Int32)), .val (.ref b107), .val (.int (2 : Int32)), .val (.int (1 : Int32)), .val (.int (1 : Int32)), .unset] []))
      refine gIload Xt161 hx (hb hby at_406) rfl ?_
      refine gIconst Xt161 hx (hb hby at_408) (v := (4 : Int32)) rfl ?_
      refine gIcmpY Xt161 hx (hb hby at_409) (pc' := 426) (XT.ii_lt_t (by decide)) (by decide) (by decide) ?_
      show Goes p e below _ (Tt161.setTop (mkF m 426 #[.val (.int p0), .val (.int p1), .val (.int p2), .val (.int p3), .val (.int p4), .val (.ref b2), .val (.int (3 : Int32)), .val (.ref b107), .val (.int (2 : Int32)), .val (.int (1 : Int32)), .val (.int (1 : Int32)), .unset] []))
      refine gIconst Xt161 hx (hb hby at_426) (v := (1 : Int32)) rfl ?_
      refine gGoto Xt161 hx (hb hby at_427) (pc' := 431) (by decide) (by decide) ?_
      show Goes p e below _ (Tt161.setTop (mkF m 431 #[.val (.int p0), .val (.int p1), .val (.int p2), .val (.int p3), .val (.int p4), .val (.ref b2), .val (.int (3 : Int32)), .val (.ref b107), .val (.int (2 : Int32)), .val (.int (1 : Int32)), .val (.int (1 : Int32)), .unset] [(.int (1 : Int32))]))
      refine gIstore Xt161 hx (hb hby at_431) (l' := #[.val (.int p0), .val (.int p1), .val (.int p2), .val (.int p3), .val (.int p4), .val (.ref b2), .val (.int (3 : Int32)), .val (.ref b107), .val (.int (2 : Int32)), .val (.int (1 : Int32)), .val (.int (1 : Int32)), .val (.int (1 : Int32))]) rfl ?_
      refine gIload Xt161 hx (hb hby at_433) rfl ?_
      refine gIfN Xt161 hx (hb hby at_435) (XT.i0_eq_f (by decide)) ?_
      show Goes p e below _ (Tt161.setTop (mkF m 438 #[.val (.int p0), .val (.int p1), .val (.int p2), .val (.int p3), .val (.int p4), .val (.ref b2), .val (.int (3 : Int32)), .val (.ref b107), .val (.int (2 : Int32)), .val (.int (1 : Int32)), .val (.int (1 : Int32)), .val (.int (1 : Int32))] []))
      refine gIload Xt161 hx (hb hby at_438) rfl ?_
      refine gIfN Xt161 hx (hb hby at_440) (XT.i0_eq_f (by decide)) ?_
      show Goes p e below _ (Tt161.setTop (mkF m 443 #[.val (.int p0), .val (.int p1), .val (.int p2), .val (.int p3), .val (.int p4), .val (.ref b2), .val (.int (3 : Int32)), .val (.ref b107), .val (.int (2 : Int32)), .val (.int (1 : Int32)), .val (.int (1 : Int32)), .val (.int (1 : Int32))] []))
      refine gIload Xt161 hx (hb hby at_443) rfl ?_
      refine gIfN Xt161 hx (hb hby at_445) (XT.i0_eq_f (by decide)) ?_
      show Goes p e below _ (Tt161.setTop (mkF m 448 #[.val (.int p0), .val (.int p1), .val (.int p2), .val (.int p3), .val (.int p4), .val (.ref b2), .val (.int (3 : Int32)), .val (.ref b107), .val (.int (2 : Int32)), .val (.int (1 : Int32)), .val (.int (1 : Int32)), .val (.int (1 : Int32))] []))
      refine gIconst Xt161 hx (hb hby at_448) (v := (1 : Int32)) rfl ?_
      refine gGoto Xt161 hx (hb hby at_449) (pc' := 453) (by decide) (by decide) ?_
      show Goes p e below _ (Tt161.setTop (mkF m 453 #[.val (.int p0), .val (.int p1), .val (.int p2), .val (.int p3), .val (.int p4), .val (.ref b2), .val (.int (3 : Int32)), .val (.ref b107), .val (.int (2 : Int32)), .val (.int (1 : Int32)), .val (.int (1 : Int32)), .val (.int (1 : Int32))] [(.int (1 : Int32))]))
      exact goRetN Xt161 hx (t := .boolean) hret hlocks (by simp) (hb hby at_453) (z' := (1 : Int32)) rfl (by decide) (by decide) et161 (⟨rfl, N163⟩)
    · show Goes p e below _ (Tt118.setTop (mkF m 185 #[.val (.int p0), .val (.int p1), .val (.int p2), .val (.int p3), .val (.int p4), .val (.ref b2), .val (.int (3 : Int32)), .val (.ref b107), .unset, .unset, .unset, .unset] [(.int (3 : Int32))]))
      have f1 : ¬ t1.toInt = t0.toInt := fun z => e1 (Int32.toInt_inj.mp z)
      have f2 : ¬ t2.toInt = t1.toInt := fun z => e2 (Int32.toInt_inj.mp z)
      refine gIstore Xt118 hx (hb hby at_185) (l' := #[.val (.int p0), .val (.int p1), .val (.int p2), .val (.int p3), .val (.int p4), .val (.ref b2), .val (.int (3 : Int32)), .val (.ref b107), .val (.int (3 : Int32)), .unset, .unset, .unset]) rfl ?_
      refine gIload Xt118 hx (hb hby at_187) rfl ?_
      refine gIfN Xt118 hx (hb hby at_189) (XT.i0_lt_f (by decide)) ?_
      show Goes p e below _ (Tt118.setTop (mkF m 192 #[.val (.int p0), .val (.int p1), .val (.int p2), .val (.int p3), .val (.int p4), .val (.ref b2), .val (.int (3 : Int32)), .val (.ref b107), .val (.int (3 : Int32)), .unset, .unset, .unset] []))
      refine gIload Xt118 hx (hb hby at_192) rfl ?_
      refine gIload Xt118 hx (hb hby at_194) rfl ?_
      refine gIcmpY Xt118 hx (hb hby at_196) (pc' := 201) (XT.ii_le_t (by decide)) (by decide) (by decide) ?_
      show Goes p e below _ (Tt118.setTop (mkF m 201 #[.val (.int p0), .val (.int p1), .val (.int p2), .val (.int p3), .val (.int p4), .val (.ref b2), .val (.int (3 : Int32)), .val (.ref b107), .val (.int (3 : Int32)), .unset, .unset, .unset] []))
      refine gIload Xt118 hx (hb hby at_201) rfl ?_
      refine gIconst Xt118 hx (hb hby at_203) (v := (2 : Int32)) rfl ?_
      refine gIcmpN Xt118 hx (hb hby at_204) (XT.ii_lt_f (by decide)) ?_
      show Goes p e below _ (Tt118.setTop (mkF m 207 #[.val (.int p0), .val (.int p1), .val (.int p2), .val (.int p3), .val (.int p4), .val (.ref b2), .val (.int (3 : Int32)), .val (.ref b107), .val (.int (3 : Int32)), .unset, .unset, .unset] []))
      refine gAload Xt118 hx (hb hby at_207) rfl rfl ?_
      refine gIconst Xt118 hx (hb hby at_209) (v := (0 : Int32)) rfl ?_
      refine goIaload Xt118 hx hZ et118 Yd (x := t0) (hb hby at_210) (by decide) rfl ?_
      refine gAload Xt118 hx (hb hby at_211) rfl rfl ?_
      refine gIconst Xt118 hx (hb hby at_213) (v := (1 : Int32)) rfl ?_
      refine goIaload Xt118 hx hZ et118 Yd (x := t1) (hb hby at_214) (by decide) rfl ?_
      refine gIcmpN Xt118 hx (hb hby at_215) (XT.ii_ge_f (Int32.lt_iff_toInt_lt.mpr (by omega))) ?_
      show Goes p e below _ (Tt118.setTop (mkF m 218 #[.val (.int p0), .val (.int p1), .val (.int p2), .val (.int p3), .val (.int p4), .val (.ref b2), .val (.int (3 : Int32)), .val (.ref b107), .val (.int (3 : Int32)), .unset, .unset, .unset] []))
      refine gIload Xt118 hx (hb hby at_218) rfl ?_
      refine gIconst Xt118 hx (hb hby at_220) (v := (3 : Int32)) rfl ?_
      refine gIcmpN Xt118 hx (hb hby at_221) (XT.ii_lt_f (by decide)) ?_
      show Goes p e below _ (Tt118.setTop (mkF m 224 #[.val (.int p0), .val (.int p1), .val (.int p2), .val (.int p3), .val (.int p4), .val (.ref b2), .val (.int (3 : Int32)), .val (.ref b107), .val (.int (3 : Int32)), .unset, .unset, .unset] []))
      refine gAload Xt118 hx (hb hby at_224) rfl rfl ?_
      refine gIconst Xt118 hx (hb hby at_226) (v := (1 : Int32)) rfl ?_
      refine goIaload Xt118 hx hZ et118 Yd (x := t1) (hb hby at_227) (by decide) rfl ?_
      refine gAload Xt118 hx (hb hby at_228) rfl rfl ?_
      refine gIconst Xt118 hx (hb hby at_230) (v := (2 : Int32)) rfl ?_
      refine goIaload Xt118 hx hZ et118 Yd (x := t2) (hb hby at_231) (by decide) rfl ?_
      refine gIcmpN Xt118 hx (hb hby at_232) (XT.ii_ge_f (Int32.lt_iff_toInt_lt.mpr (by omega))) ?_
      show Goes p e below _ (Tt118.setTop (mkF m 235 #[.val (.int p0), .val (.int p1), .val (.int p2), .val (.int p3), .val (.int p4), .val (.ref b2), .val (.int (3 : Int32)), .val (.ref b107), .val (.int (3 : Int32)), .unset, .unset, .unset] []))
      refine gIload Xt118 hx (hb hby at_235) rfl ?_
      refine gIconst Xt118 hx (hb hby at_237) (v := (4 : Int32)) rfl ?_
      refine gIcmpY Xt118 hx (hb hby at_238) (pc' := 252) (XT.ii_lt_t (by decide)) (by decide) (by decide) ?_
      show Goes p e below _ (Tt118.setTop (mkF m 252 #[.val (.int p0), .val (.int p1), .val (.int p2), .val (.int p3), .val (.int p4), .val (.ref b2), .val (.int (3 : Int32)), .val (.ref b107), .val (.int (3 : Int32)), .unset, .unset, .unset] []))
      refine gIconst Xt118 hx (hb hby at_252) (v := (1 : Int32)) rfl ?_
      refine gGoto Xt118 hx (hb hby at_253) (pc' := 257) (by decide) (by decide) ?_
      show Goes p e below _ (Tt118.setTop (mkF m 257 #[.val (.int p0), .val (.int p1), .val (.int p2), .val (.int p3), .val (.int p4), .val (.ref b2), .val (.int (3 : Int32)), .val (.ref b107), .val (.int (3 : Int32)), .unset, .unset, .unset] [(.int (1 : Int32))]))
      refine gIstore Xt118 hx (hb hby at_257) (l' := #[.val (.int p0), .val (.int p1), .val (.int p2), .val (.int p3), .val (.int p4), .val (.ref b2), .val (.int (3 : Int32)), .val (.ref b107), .val (.int (3 : Int32)), .val (.int (1 : Int32)), .unset, .unset]) rfl ?_
      refine gIload Xt118 hx (hb hby at_259) rfl ?_
      refine gIconst Xt118 hx (hb hby at_261) (v := (1 : Int32)) rfl ?_
      refine gIcmpN Xt118 hx (hb hby at_262) (XT.ii_lt_f (by decide)) ?_
      show Goes p e below _ (Tt118.setTop (mkF m 265 #[.val (.int p0), .val (.int p1), .val (.int p2), .val (.int p3), .val (.int p4), .val (.ref b2), .val (.int (3 : Int32)), .val (.ref b107), .val (.int (3 : Int32)), .val (.int (1 : Int32)), .unset, .unset] []))
      refine gAload Xt118 hx (hb hby at_265) rfl rfl ?_
      refine gIload Xt118 hx (hb hby at_267) rfl ?_
      refine gAload Xt118 hx (hb hby at_269) rfl rfl ?_
      refine gIconst Xt118 hx (hb hby at_271) (v := (0 : Int32)) rfl ?_
      refine goIaload Xt118 hx hZ et118 Yc4 (x := t0) (hb hby at_272) (by decide) rfl ?_
      refine goCallS Xt118 hx hZ hown (hw _ (List.mem_of_getElem? (i := 12) rfl)) (hw _ (List.mem_of_getElem? (i := 13) rfl)) (hw _ (List.mem_of_getElem? (i := 3) rfl)) (hw _ (List.mem_of_getElem? (i := 14) rfl)) (by decide) (rmH3 l Z a0 hw t0 t1 t2 [] b107 t0 ht118 O121 Yd) 0 (by decide) (by decide) et118 (hsz rfl) [(.ref b107), (.int (3 : Int32)), (.int t0)] [] pd_3 rfl rfl rfl (Nat.le_of_eq rfl) (hb hby at_273) (by decide) (by decide) (fun Tt164 vt164 Lt164 Xt164 qt164 => ?_)
      obtain ⟨rfl, N165, et164⟩ := qt164
      have N166 := Fr.app N120 N165
      show Goes p e below _ (Tt164.setTop (mkF m 276 #[.val (.int p0), .val (.int p1), .val (.int p2), .val (.int p3), .val (.int p4), .val (.ref b2), .val (.int (3 : Int32)), .val (.ref b107), .val (.int (3 : Int32)), .val (.int (1 : Int32)), .unset, .unset] [(.int (own_has3 t0 t1 t2 t0))]))
      refine gIfN Xt164 hx (hb hby at_276) (XT.i0_eq_f (by simp [own_has3, e1, e2])) ?_
      show Goes p e below _ (Tt164.setTop (mkF m 279 #[.val (.int p0), .val (.int p1), .val (.int p2), .val (.int p3), .val (.int p4), .val (.ref b2), .val (.int (3 : Int32)), .val (.ref b107), .val (.int (3 : Int32)), .val (.int (1 : Int32)), .unset, .unset] []))
      refine gIload Xt164 hx (hb hby at_279) rfl ?_
      refine gIconst Xt164 hx (hb hby at_281) (v := (2 : Int32)) rfl ?_
      refine gIcmpN Xt164 hx (hb hby at_282) (XT.ii_lt_f (by decide)) ?_
      show Goes p e below _ (Tt164.setTop (mkF m 285 #[.val (.int p0), .val (.int p1), .val (.int p2), .val (.int p3), .val (.int p4), .val (.ref b2), .val (.int (3 : Int32)), .val (.ref b107), .val (.int (3 : Int32)), .val (.int (1 : Int32)), .unset, .unset] []))
      refine gAload Xt164 hx (hb hby at_285) rfl rfl ?_
      refine gIload Xt164 hx (hb hby at_287) rfl ?_
      refine gAload Xt164 hx (hb hby at_289) rfl rfl ?_
      refine gIconst Xt164 hx (hb hby at_291) (v := (1 : Int32)) rfl ?_
      refine goIaload Xt164 hx hZ et164 Yc4 (x := t1) (hb hby at_292) (by decide) rfl ?_
      refine goCallS Xt164 hx hZ hown (hw _ (List.mem_of_getElem? (i := 12) rfl)) (hw _ (List.mem_of_getElem? (i := 13) rfl)) (hw _ (List.mem_of_getElem? (i := 3) rfl)) (hw _ (List.mem_of_getElem? (i := 14) rfl)) (by decide) (rmH3 l Z a0 hw t0 t1 t2 [] b107 t1 ht118 O121 Yd) 0 (by decide) (by decide) et164 (hsz rfl) [(.ref b107), (.int (3 : Int32)), (.int t1)] [] pd_3 rfl rfl rfl (Nat.le_of_eq rfl) (hb hby at_293) (by decide) (by decide) (fun Tt167 vt167 Lt167 Xt167 qt167 => ?_)
      obtain ⟨rfl, N168, et167⟩ := qt167
      have N169 := Fr.app N166 N168
      show Goes p e below _ (Tt167.setTop (mkF m 296 #[.val (.int p0), .val (.int p1), .val (.int p2), .val (.int p3), .val (.int p4), .val (.ref b2), .val (.int (3 : Int32)), .val (.ref b107), .val (.int (3 : Int32)), .val (.int (1 : Int32)), .unset, .unset] [(.int (own_has3 t0 t1 t2 t1))]))
      refine gIfN Xt167 hx (hb hby at_296) (XT.i0_eq_f (by simp [own_has3, e1, e2])) ?_
      show Goes p e below _ (Tt167.setTop (mkF m 299 #[.val (.int p0), .val (.int p1), .val (.int p2), .val (.int p3), .val (.int p4), .val (.ref b2), .val (.int (3 : Int32)), .val (.ref b107), .val (.int (3 : Int32)), .val (.int (1 : Int32)), .unset, .unset] []))
      refine gIload Xt167 hx (hb hby at_299) rfl ?_
      refine gIconst Xt167 hx (hb hby at_301) (v := (3 : Int32)) rfl ?_
      refine gIcmpN Xt167 hx (hb hby at_302) (XT.ii_lt_f (by decide)) ?_
      show Goes p e below _ (Tt167.setTop (mkF m 305 #[.val (.int p0), .val (.int p1), .val (.int p2), .val (.int p3), .val (.int p4), .val (.ref b2), .val (.int (3 : Int32)), .val (.ref b107), .val (.int (3 : Int32)), .val (.int (1 : Int32)), .unset, .unset] []))
      refine gAload Xt167 hx (hb hby at_305) rfl rfl ?_
      refine gIload Xt167 hx (hb hby at_307) rfl ?_
      refine gAload Xt167 hx (hb hby at_309) rfl rfl ?_
      refine gIconst Xt167 hx (hb hby at_311) (v := (2 : Int32)) rfl ?_
      refine goIaload Xt167 hx hZ et167 Yc4 (x := t2) (hb hby at_312) (by decide) rfl ?_
      refine goCallS Xt167 hx hZ hown (hw _ (List.mem_of_getElem? (i := 12) rfl)) (hw _ (List.mem_of_getElem? (i := 13) rfl)) (hw _ (List.mem_of_getElem? (i := 3) rfl)) (hw _ (List.mem_of_getElem? (i := 14) rfl)) (by decide) (rmH3 l Z a0 hw t0 t1 t2 [] b107 t2 ht118 O121 Yd) 0 (by decide) (by decide) et167 (hsz rfl) [(.ref b107), (.int (3 : Int32)), (.int t2)] [] pd_3 rfl rfl rfl (Nat.le_of_eq rfl) (hb hby at_313) (by decide) (by decide) (fun Tt170 vt170 Lt170 Xt170 qt170 => ?_)
      obtain ⟨rfl, N171, et170⟩ := qt170
      have N172 := Fr.app N169 N171
      show Goes p e below _ (Tt170.setTop (mkF m 316 #[.val (.int p0), .val (.int p1), .val (.int p2), .val (.int p3), .val (.int p4), .val (.ref b2), .val (.int (3 : Int32)), .val (.ref b107), .val (.int (3 : Int32)), .val (.int (1 : Int32)), .unset, .unset] [(.int (own_has3 t0 t1 t2 t2))]))
      refine gIfN Xt170 hx (hb hby at_316) (XT.i0_eq_f (by simp [own_has3, e1, e2])) ?_
      show Goes p e below _ (Tt170.setTop (mkF m 319 #[.val (.int p0), .val (.int p1), .val (.int p2), .val (.int p3), .val (.int p4), .val (.ref b2), .val (.int (3 : Int32)), .val (.ref b107), .val (.int (3 : Int32)), .val (.int (1 : Int32)), .unset, .unset] []))
      refine gIload Xt170 hx (hb hby at_319) rfl ?_
      refine gIconst Xt170 hx (hb hby at_321) (v := (4 : Int32)) rfl ?_
      refine gIcmpY Xt170 hx (hb hby at_322) (pc' := 339) (XT.ii_lt_t (by decide)) (by decide) (by decide) ?_
      show Goes p e below _ (Tt170.setTop (mkF m 339 #[.val (.int p0), .val (.int p1), .val (.int p2), .val (.int p3), .val (.int p4), .val (.ref b2), .val (.int (3 : Int32)), .val (.ref b107), .val (.int (3 : Int32)), .val (.int (1 : Int32)), .unset, .unset] []))
      refine gIconst Xt170 hx (hb hby at_339) (v := (1 : Int32)) rfl ?_
      refine gGoto Xt170 hx (hb hby at_340) (pc' := 344) (by decide) (by decide) ?_
      show Goes p e below _ (Tt170.setTop (mkF m 344 #[.val (.int p0), .val (.int p1), .val (.int p2), .val (.int p3), .val (.int p4), .val (.ref b2), .val (.int (3 : Int32)), .val (.ref b107), .val (.int (3 : Int32)), .val (.int (1 : Int32)), .unset, .unset] [(.int (1 : Int32))]))
      refine gIstore Xt170 hx (hb hby at_344) (l' := #[.val (.int p0), .val (.int p1), .val (.int p2), .val (.int p3), .val (.int p4), .val (.ref b2), .val (.int (3 : Int32)), .val (.ref b107), .val (.int (3 : Int32)), .val (.int (1 : Int32)), .val (.int (1 : Int32)), .unset]) rfl ?_
      refine gIload Xt170 hx (hb hby at_346) rfl ?_
      refine gIconst Xt170 hx (hb hby at_348) (v := (1 : Int32)) rfl ?_
      refine gIcmpN Xt170 hx (hb hby at_349) (XT.ii_lt_f (by decide)) ?_
      show Goes p e below _ (Tt170.setTop (mkF m 352 #[.val (.int p0), .val (.int p1), .val (.int p2), .val (.int p3), .val (.int p4), .val (.ref b2), .val (.int (3 : Int32)), .val (.ref b107), .val (.int (3 : Int32)), .val (.int (1 : Int32)), .val (.int (1 : Int32)), .unset] []))
      refine gAload Xt170 hx (hb hby at_352) rfl rfl ?_
      refine gIload Xt170 hx (hb hby at_354) rfl ?_
      refine gAload Xt170 hx (hb hby at_356) rfl rfl ?_
      refine gIconst Xt170 hx (hb hby at_358) (v := (0 : Int32)) rfl ?_
      refine goIaload Xt170 hx hZ et170 Yd (x := t0) (hb hby at_359) (by decide) rfl ?_
      refine goCallS Xt170 hx hZ hown (hw _ (List.mem_of_getElem? (i := 12) rfl)) (hw _ (List.mem_of_getElem? (i := 13) rfl)) (hw _ (List.mem_of_getElem? (i := 3) rfl)) (hw _ (List.mem_of_getElem? (i := 14) rfl)) (by decide) (rmH3 l Z a0 hw t0 t1 t2 [.int t3] b2 t0 ht118 O121 Yc4) 0 (by decide) (by decide) et170 (hsz rfl) [(.ref b2), (.int (3 : Int32)), (.int t0)] [] pd_3 rfl rfl rfl (Nat.le_of_eq rfl) (hb hby at_360) (by decide) (by decide) (fun Tt173 vt173 Lt173 Xt173 qt173 => ?_)
      obtain ⟨rfl, N174, et173⟩ := qt173
      have N175 := Fr.app N172 N174
      show Goes p e below _ (Tt173.setTop (mkF m 363 #[.val (.int p0), .val (.int p1), .val (.int p2), .val (.int p3), .val (.int p4), .val (.ref b2), .val (.int (3 : Int32)), .val (.ref b107), .val (.int (3 : Int32)), .val (.int (1 : Int32)), .val (.int (1 : Int32)), .unset] [(.int (own_has3 t0 t1 t2 t0))]))
      refine gIfN Xt173 hx (hb hby at_363) (XT.i0_eq_f (by simp [own_has3, e1, e2])) ?_
      show Goes p e below _ (Tt173.setTop (mkF m 366 #[.val (.int p0), .val (.int p1), .val (.int p2), .val (.int p3), .val (.int p4), .val (.ref b2), .val (.int (3 : Int32)), .val (.ref b107), .val (.int (3 : Int32)), .val (.int (1 : Int32)), .val (.int (1 : Int32)), .unset] []))
      refine gIload Xt173 hx (hb hby at_366) rfl ?_
      refine gIconst Xt173 hx (hb hby at_368) (v := (2 : Int32)) rfl ?_
      refine gIcmpN Xt173 hx (hb hby at_369) (XT.ii_lt_f (by decide)) ?_
      show Goes p e below _ (Tt173.setTop (mkF m 372 #[.val (.int p0), .val (.int p1), .val (.int p2), .val (.int p3), .val (.int p4), .val (.ref b2), .val (.int (3 : Int32)), .val (.ref b107), .val (.int (3 : Int32)), .val (.int (1 : Int32)), .val (.int (1 : Int32)), .unset] []))
      refine gAload Xt173 hx (hb hby at_372) rfl rfl ?_
      refine gIload Xt173 hx (hb hby at_374) rfl ?_
      refine gAload Xt173 hx (hb hby at_376) rfl rfl ?_
      refine gIconst Xt173 hx (hb hby at_378) (v := (1 : Int32)) rfl ?_
      refine goIaload Xt173 hx hZ et173 Yd (x := t1) (hb hby at_379) (by decide) rfl ?_
      refine goCallS Xt173 hx hZ hown (hw _ (List.mem_of_getElem? (i := 12) rfl)) (hw _ (List.mem_of_getElem? (i := 13) rfl)) (hw _ (List.mem_of_getElem? (i := 3) rfl)) (hw _ (List.mem_of_getElem? (i := 14) rfl)) (by decide) (rmH3 l Z a0 hw t0 t1 t2 [.int t3] b2 t1 ht118 O121 Yc4) 0 (by decide) (by decide) et173 (hsz rfl) [(.ref b2), (.int (3 : Int32)), (.int t1)] [] pd_3 rfl rfl rfl (Nat.le_of_eq rfl) (hb hby at_380) (by decide) (by decide) (fun Tt176 vt176 Lt176 Xt176 qt176 => ?_)
      obtain ⟨rfl, N177, et176⟩ := qt176
      have N178 := Fr.app N175 N177
      show Goes p e below _ (Tt176.setTop (mkF m 383 #[.val (.int p0), .val (.int p1), .val (.int p2), .val (.int p3), .val (.int p4), .val (.ref b2), .val (.int (3 : Int32)), .val (.ref b107), .val (.int (3 : Int32)), .val (.int (1 : Int32)), .val (.int (1 : Int32)), .unset] [(.int (own_has3 t0 t1 t2 t1))]))
      refine gIfN Xt176 hx (hb hby at_383) (XT.i0_eq_f (by simp [own_has3, e1, e2])) ?_
      show Goes p e below _ (Tt176.setTop (mkF m 386 #[.val (.int p0), .val (.int p1), .val (.int p2), .val (.int p3), .val (.int p4), .val (.ref b2), .val (.int (3 : Int32)), .val (.ref b107), .val (.int (3 : Int32)), .val (.int (1 : Int32)), .val (.int (1 : Int32)), .unset] []))
      refine gIload Xt176 hx (hb hby at_386) rfl ?_
      refine gIconst Xt176 hx (hb hby at_388) (v := (3 : Int32)) rfl ?_
      refine gIcmpN Xt176 hx (hb hby at_389) (XT.ii_lt_f (by decide)) ?_
      show Goes p e below _ (Tt176.setTop (mkF m 392 #[.val (.int p0), .val (.int p1), .val (.int p2), .val (.int p3), .val (.int p4), .val (.ref b2), .val (.int (3 : Int32)), .val (.ref b107), .val (.int (3 : Int32)), .val (.int (1 : Int32)), .val (.int (1 : Int32)), .unset] []))
      refine gAload Xt176 hx (hb hby at_392) rfl rfl ?_
      refine gIload Xt176 hx (hb hby at_394) rfl ?_
      refine gAload Xt176 hx (hb hby at_396) rfl rfl ?_
      refine gIconst Xt176 hx (hb hby at_398) (v := (2 : Int32)) rfl ?_
      refine goIaload Xt176 hx hZ et176 Yd (x := t2) (hb hby at_399) (by decide) rfl ?_
      refine goCallS Xt176 hx hZ hown (hw _ (List.mem_of_getElem? (i := 12) rfl)) (hw _ (List.mem_of_getElem? (i := 13) rfl)) (hw _ (List.mem_of_getElem? (i := 3) rfl)) (hw _ (List.mem_of_getElem? (i := 14) rfl)) (by decide) (rmH3 l Z a0 hw t0 t1 t2 [.int t3] b2 t2 ht118 O121 Yc4) 0 (by decide) (by decide) et176 (hsz rfl) [(.ref b2), (.int (3 : Int32)), (.int t2)] [] pd_3 rfl rfl rfl (Nat.le_of_eq rfl) (hb hby at_400) (by decide) (by decide) (fun Tt179 vt179 Lt179 Xt179 qt179 => ?_)
      obtain ⟨rfl, N180, et179⟩ := qt179
      have N181 := Fr.app N178 N180
      show Goes p e below _ (Tt179.setTop (mkF m 403 #[.val (.int p0), .val (.int p1), .val (.int p2), .val (.int p3), .val (.int p4), .val (.ref b2), .val (.int (3 : Int32)), .val (.ref b107), .val (.int (3 : Int32)), .val (.int (1 : Int32)), .val (.int (1 : Int32)), .unset] [(.int (own_has3 t0 t1 t2 t2))]))
      refine gIfN Xt179 hx (hb hby at_403) (XT.i0_eq_f (by simp [own_has3, e1, e2])) ?_
      show Goes p e below _ (Tt179.setTop (mkF m 406 #[.val (.int p0), .val (.int p1), .val (.int p2), .val (.int p3), .val (.int p4), .val (.ref b2), .val (.int (3 : Int32)), .val (.ref b107), .val (.int (3 : Int32)), .val (.int (1 : Int32)), .val (.int (1 : Int32)), .unset] []))
      refine gIload Xt179 hx (hb hby at_406) rfl ?_
      refine gIconst Xt179 hx (hb hby at_408) (v := (4 : Int32)) rfl ?_
      refine gIcmpY Xt179 hx (hb hby at_409) (pc' := 426) (XT.ii_lt_t (by decide)) (by decide) (by decide) ?_
      show Goes p e below _ (Tt179.setTop (mkF m 426 #[.val (.int p0), .val (.int p1), .val (.int p2), .val (.int p3), .val (.int p4), .val (.ref b2), .val (.int (3 : Int32)), .val (.ref b107), .val (.int (3 : Int32)), .val (.int (1 : Int32)), .val (.int (1 : Int32)), .unset] []))
      refine gIconst Xt179 hx (hb hby at_426) (v := (1 : Int32)) rfl ?_
      refine gGoto Xt179 hx (hb hby at_427) (pc' := 431) (by decide) (by decide) ?_
      show Goes p e below _ (Tt179.setTop (mkF m 431 #[.val (.int p0), .val (.int p1), .val (.int p2), .val (.int p3), .val (.int p4), .val (.ref b2), .val (.int (3 : Int32)), .val (.ref b107), .val (.int (3 : Int32)), .val (.int (1 : Int32)), .val (.int (1 : Int32)), .unset] [(.int (1 : Int32))]))
      refine gIstore Xt179 hx (hb hby at_431) (l' := #[.val (.int p0), .val (.int p1), .val (.int p2), .val (.int p3), .val (.int p4), .val (.ref b2), .val (.int (3 : Int32)), .val (.ref b107), .val (.int (3 : Int32)), .val (.int (1 : Int32)), .val (.int (1 : Int32)), .val (.int (1 : Int32))]) rfl ?_
      refine gIload Xt179 hx (hb hby at_433) rfl ?_
      refine gIfN Xt179 hx (hb hby at_435) (XT.i0_eq_f (by decide)) ?_
      show Goes p e below _ (Tt179.setTop (mkF m 438 #[.val (.int p0), .val (.int p1), .val (.int p2), .val (.int p3), .val (.int p4), .val (.ref b2), .val (.int (3 : Int32)), .val (.ref b107), .val (.int (3 : Int32)), .val (.int (1 : Int32)), .val (.int (1 : Int32)), .val (.int (1 : Int32))] []))
      refine gIload Xt179 hx (hb hby at_438) rfl ?_
      refine gIfN Xt179 hx (hb hby at_440) (XT.i0_eq_f (by decide)) ?_
      show Goes p e below _ (Tt179.setTop (mkF m 443 #[.val (.int p0), .val (.int p1), .val (.int p2), .val (.int p3), .val (.int p4), .val (.ref b2), .val (.int (3 : Int32)), .val (.ref b107), .val (.int (3 : Int32)), .val (.int (1 : Int32)), .val (.int (1 : Int32)), .val (.int (1 : Int32))] []))
      refine gIload Xt179 hx (hb hby at_443) rfl ?_
      refine gIfN Xt179 hx (hb hby at_445) (XT.i0_eq_f (by decide)) ?_
      show Goes p e below _ (Tt179.setTop (mkF m 448 #[.val (.int p0), .val (.int p1), .val (.int p2), .val (.int p3), .val (.int p4), .val (.ref b2), .val (.int (3 : Int32)), .val (.ref b107), .val (.int (3 : Int32)), .val (.int (1 : Int32)), .val (.int (1 : Int32)), .val (.int (1 : Int32))] []))
      refine gIconst Xt179 hx (hb hby at_448) (v := (1 : Int32)) rfl ?_
      refine gGoto Xt179 hx (hb hby at_449) (pc' := 453) (by decide) (by decide) ?_
      show Goes p e below _ (Tt179.setTop (mkF m 453 #[.val (.int p0), .val (.int p1), .val (.int p2), .val (.int p3), .val (.int p4), .val (.ref b2), .val (.int (3 : Int32)), .val (.ref b107), .val (.int (3 : Int32)), .val (.int (1 : Int32)), .val (.int (1 : Int32)), .val (.int (1 : Int32))] [(.int (1 : Int32))]))
      exact goRetN Xt179 hx (t := .boolean) hret hlocks (by simp) (hb hby at_453) (z' := (1 : Int32)) rfl (by decide) (by decide) et179 (⟨rfl, N181⟩)
  · show Goes p e below _ (Tt44.setTop (mkF m 121 #[.val (.int p0), .val (.int p1), .val (.int p2), .val (.int p3), .val (.int p4), .val (.ref b2), .val (.int (4 : Int32)), .unset, .unset, .unset, .unset, .unset] [(.int (4 : Int32))]))
    obtain ⟨Tt182, ht182, kt182, Xt182, et182, Et182, At182, stt182⟩ := newP Xt44 hx hZ (hw _ (List.mem_of_getElem? (i := 0) rfl)) et44 (g := (mkF m 121 #[.val (.int p0), .val (.int p1), .val (.int p2), .val (.int p3), .val (.int p4), .val (.ref b2), .val (.int (4 : Int32)), .unset, .unset, .unset, .unset, .unset] [(.int (4 : Int32))])) rfl (hb hby at_121) rfl (by decide) (cap := 4) (by decide) (by decide) (by decide) (by decide)
    obtain ⟨b183, gb183⟩ : ∃ z, z = ht44.size := ⟨_, rfl⟩
    rw [← gb183] at At182 stt182
    refine go stt182 ?_
    have ne_b2_b183 : b2 ≠ b183 := Nat.ne_of_lt (gb183 ▸ Yc4.lt)
    have fr_b183 : Z.heap.size ≤ b183 := gb183 ▸ O47.1
    replace Yc4 := Yc4.ext Et182
    have O184 : Ext Z.heap ht182 := extT O47 Et182
    have Y_b183 : Ary Z ht182 b183 .int [(.int (0 : Int32)), (.int (0 : Int32)), (.int (0 : Int32)), (.int (0 : Int32))] := Ary.new At182 rfl (by decide)
    show Goes p e below _ (Tt182.setTop (mkF m 123 #[.val (.int p0), .val (.int p1), .val (.int p2), .val (.int p3), .val (.int p4), .val (.ref b2), .val (.int (4 : Int32)), .unset, .unset, .unset, .unset, .unset] [(.ref b183)]))
    refine gAstore Xt182 hx (hb hby at_123) rfl (l' := #[.val (.int p0), .val (.int p1), .val (.int p2), .val (.int p3), .val (.int p4), .val (.ref b2), .val (.int (4 : Int32)), .val (.ref b183), .unset, .unset, .unset, .unset]) rfl ?_
    refine gIload Xt182 hx (hb hby at_125) rfl ?_
    refine gIfN Xt182 hx (hb hby at_127) (XT.i0_le_f (by decide)) ?_
    show Goes p e below _ (Tt182.setTop (mkF m 130 #[.val (.int p0), .val (.int p1), .val (.int p2), .val (.int p3), .val (.int p4), .val (.ref b2), .val (.int (4 : Int32)), .val (.ref b183), .unset, .unset, .unset, .unset] []))
    refine gAload Xt182 hx (hb hby at_130) rfl rfl ?_
    refine gIconst Xt182 hx (hb hby at_132) (v := (0 : Int32)) rfl ?_
    refine gAload Xt182 hx (hb hby at_133) rfl rfl ?_
    refine gIconst Xt182 hx (hb hby at_135) (v := (0 : Int32)) rfl ?_
    refine goIaload Xt182 hx hZ et182 Yc4 (x := t0) (hb hby at_136) (by decide) rfl ?_
    refine goIastore Xt182 hx hZ et182 Y_b183 (hb hby at_137) (by decide) rfl (fun Tt185 ht185 Xt185 et185 Wt185 => ?_)
    have N186 := Fr.snoc Xt185 N46 fr_b183
    replace Y_b183 : Ary Z ht185 b183 .int [(.int t0), (.int (0 : Int32)), (.int (0 : Int32)), (.int (0 : Int32))] := Y_b183.set Wt185 rfl
    replace Yc4 := Yc4.other Wt185 ne_b2_b183
    have O187 : Ext Z.heap ht185 := extW O184 Wt185 fr_b183
    show Goes p e below _ (Tt185.setTop (mkF m 138 #[.val (.int p0), .val (.int p1), .val (.int p2), .val (.int p3), .val (.int p4), .val (.ref b2), .val (.int (4 : Int32)), .val (.ref b183), .unset, .unset, .unset, .unset] []))
    refine gIload Xt185 hx (hb hby at_138) rfl ?_
    refine gIconst Xt185 hx (hb hby at_140) (v := (1 : Int32)) rfl ?_
    refine gIcmpN Xt185 hx (hb hby at_141) (XT.ii_le_f (by decide)) ?_
    show Goes p e below _ (Tt185.setTop (mkF m 144 #[.val (.int p0), .val (.int p1), .val (.int p2), .val (.int p3), .val (.int p4), .val (.ref b2), .val (.int (4 : Int32)), .val (.ref b183), .unset, .unset, .unset, .unset] []))
    refine gAload Xt185 hx (hb hby at_144) rfl rfl ?_
    refine gIconst Xt185 hx (hb hby at_146) (v := (1 : Int32)) rfl ?_
    refine gAload Xt185 hx (hb hby at_147) rfl rfl ?_
    refine gIconst Xt185 hx (hb hby at_149) (v := (1 : Int32)) rfl ?_
    refine goIaload Xt185 hx hZ et185 Yc4 (x := t1) (hb hby at_150) (by decide) rfl ?_
    refine goIastore Xt185 hx hZ et185 Y_b183 (hb hby at_151) (by decide) rfl (fun Tt188 ht188 Xt188 et188 Wt188 => ?_)
    have N189 := Fr.snoc Xt188 N186 fr_b183
    replace Y_b183 : Ary Z ht188 b183 .int [(.int t0), (.int t1), (.int (0 : Int32)), (.int (0 : Int32))] := Y_b183.set Wt188 rfl
    replace Yc4 := Yc4.other Wt188 ne_b2_b183
    have O190 : Ext Z.heap ht188 := extW O187 Wt188 fr_b183
    show Goes p e below _ (Tt188.setTop (mkF m 152 #[.val (.int p0), .val (.int p1), .val (.int p2), .val (.int p3), .val (.int p4), .val (.ref b2), .val (.int (4 : Int32)), .val (.ref b183), .unset, .unset, .unset, .unset] []))
    refine gIload Xt188 hx (hb hby at_152) rfl ?_
    refine gIconst Xt188 hx (hb hby at_154) (v := (2 : Int32)) rfl ?_
    refine gIcmpN Xt188 hx (hb hby at_155) (XT.ii_le_f (by decide)) ?_
    show Goes p e below _ (Tt188.setTop (mkF m 158 #[.val (.int p0), .val (.int p1), .val (.int p2), .val (.int p3), .val (.int p4), .val (.ref b2), .val (.int (4 : Int32)), .val (.ref b183), .unset, .unset, .unset, .unset] []))
    refine gAload Xt188 hx (hb hby at_158) rfl rfl ?_
    refine gIconst Xt188 hx (hb hby at_160) (v := (2 : Int32)) rfl ?_
    refine gAload Xt188 hx (hb hby at_161) rfl rfl ?_
    refine gIconst Xt188 hx (hb hby at_163) (v := (2 : Int32)) rfl ?_
    refine goIaload Xt188 hx hZ et188 Yc4 (x := t2) (hb hby at_164) (by decide) rfl ?_
    refine goIastore Xt188 hx hZ et188 Y_b183 (hb hby at_165) (by decide) rfl (fun Tt191 ht191 Xt191 et191 Wt191 => ?_)
    have N192 := Fr.snoc Xt191 N189 fr_b183
    replace Y_b183 : Ary Z ht191 b183 .int [(.int t0), (.int t1), (.int t2), (.int (0 : Int32))] := Y_b183.set Wt191 rfl
    replace Yc4 := Yc4.other Wt191 ne_b2_b183
    have O193 : Ext Z.heap ht191 := extW O190 Wt191 fr_b183
    show Goes p e below _ (Tt191.setTop (mkF m 166 #[.val (.int p0), .val (.int p1), .val (.int p2), .val (.int p3), .val (.int p4), .val (.ref b2), .val (.int (4 : Int32)), .val (.ref b183), .unset, .unset, .unset, .unset] []))
    refine gIload Xt191 hx (hb hby at_166) rfl ?_
    refine gIconst Xt191 hx (hb hby at_168) (v := (3 : Int32)) rfl ?_
    refine gIcmpN Xt191 hx (hb hby at_169) (XT.ii_le_f (by decide)) ?_
    show Goes p e below _ (Tt191.setTop (mkF m 172 #[.val (.int p0), .val (.int p1), .val (.int p2), .val (.int p3), .val (.int p4), .val (.ref b2), .val (.int (4 : Int32)), .val (.ref b183), .unset, .unset, .unset, .unset] []))
    refine gAload Xt191 hx (hb hby at_172) rfl rfl ?_
    refine gIconst Xt191 hx (hb hby at_174) (v := (3 : Int32)) rfl ?_
    refine gAload Xt191 hx (hb hby at_175) rfl rfl ?_
    refine gIconst Xt191 hx (hb hby at_177) (v := (3 : Int32)) rfl ?_
    refine goIaload Xt191 hx hZ et191 Yc4 (x := t3) (hb hby at_178) (by decide) rfl ?_
    refine goIastore Xt191 hx hZ et191 Y_b183 (hb hby at_179) (by decide) rfl (fun Tt194 ht194 Xt194 et194 Wt194 => ?_)
    have N195 := Fr.snoc Xt194 N192 fr_b183
    replace Y_b183 : Ary Z ht194 b183 .int [(.int t0), (.int t1), (.int t2), (.int t3)] := Y_b183.set Wt194 rfl
    replace Yc4 := Yc4.other Wt194 ne_b2_b183
    have O196 : Ext Z.heap ht194 := extW O193 Wt194 fr_b183
    show Goes p e below _ (Tt194.setTop (mkF m 180 #[.val (.int p0), .val (.int p1), .val (.int p2), .val (.int p3), .val (.int p4), .val (.ref b2), .val (.int (4 : Int32)), .val (.ref b183), .unset, .unset, .unset, .unset] []))
    refine gAload Xt194 hx (hb hby at_180) rfl rfl ?_
    refine goCallS Xt194 hx hZ hown (hw _ (List.mem_of_getElem? (i := 8) rfl)) (hw _ (List.mem_of_getElem? (i := 9) rfl)) (hw _ (List.mem_of_getElem? (i := 10) rfl)) (hw _ (List.mem_of_getElem? (i := 11) rfl)) (by decide) (rmD4 l Z a0 hw t0 t1 t2 t3 b183 ht194 O196 Y_b183 fr_b183) 0 (by decide) (by decide) et194 (hsz rfl) [(.ref b183)] [] pd_2 rfl rfl rfl (Nat.le_of_eq rfl) (hb hby at_182) (by decide) (by decide) (fun Tt197 vt197 Lt197 Xt197 qt197 => ?_)
    obtain ⟨ht197, et197⟩ : ∃ z, Tt197.heap = z := ⟨_, rfl⟩
    rw [et197] at qt197
    obtain ⟨k_, ws, rfl, N198, Kct197, Yd, alts⟩ := qt197
    have N199 := Fr.app N195 N198
    replace Yc4 := Yc4.keep Kct197 (ninS ne_b2_b183 nin0)
    have O200 : Ext Z.heap ht197 := extK O196 Kct197 (allS fr_b183 all0)
    show Goes p e below _ (Tt197.setTop (mkF m 185 #[.val (.int p0), .val (.int p1), .val (.int p2), .val (.int p3), .val (.int p4), .val (.ref b2), .val (.int (4 : Int32)), .val (.ref b183), .unset, .unset, .unset, .unset] [(.int k_)]))
    rcases alts with ⟨rfl, rfl, e1, e2, e3, -⟩ | ⟨rfl, rfl, e1, e2, e3, -⟩ | ⟨rfl, rfl, e1, e2, e3, -⟩ | ⟨rfl, rfl, e1, e2, e3, -⟩ | ⟨rfl, rfl, e1, e2, e3, -⟩ | ⟨rfl, rfl, e1, e2, e3, -⟩ | ⟨rfl, rfl, e1, e2, e3, -⟩ | ⟨rfl, rfl, e1, e2, e3, -⟩
    · show Goes p e below _ (Tt197.setTop (mkF m 185 #[.val (.int p0), .val (.int p1), .val (.int p2), .val (.int p3), .val (.int p4), .val (.ref b2), .val (.int (4 : Int32)), .val (.ref b183), .unset, .unset, .unset, .unset] [(.int (1 : Int32))]))
      have f1 : t1.toInt = t0.toInt := by rw [e1]
      have f2 : t2.toInt = t1.toInt := by rw [e2]
      have f3 : t3.toInt = t2.toInt := by rw [e3]
      refine gIstore Xt197 hx (hb hby at_185) (l' := #[.val (.int p0), .val (.int p1), .val (.int p2), .val (.int p3), .val (.int p4), .val (.ref b2), .val (.int (4 : Int32)), .val (.ref b183), .val (.int (1 : Int32)), .unset, .unset, .unset]) rfl ?_
      refine gIload Xt197 hx (hb hby at_187) rfl ?_
      refine gIfN Xt197 hx (hb hby at_189) (XT.i0_lt_f (by decide)) ?_
      show Goes p e below _ (Tt197.setTop (mkF m 192 #[.val (.int p0), .val (.int p1), .val (.int p2), .val (.int p3), .val (.int p4), .val (.ref b2), .val (.int (4 : Int32)), .val (.ref b183), .val (.int (1 : Int32)), .unset, .unset, .unset] []))
      refine gIload Xt197 hx (hb hby at_192) rfl ?_
      refine gIload Xt197 hx (hb hby at_194) rfl ?_
      refine gIcmpY Xt197 hx (hb hby at_196) (pc' := 201) (XT.ii_le_t (by decide)) (by decide) (by decide) ?_
      show Goes p e below _ (Tt197.setTop (mkF m 201 #[.val (.int p0), .val (.int p1), .val (.int p2), .val (.int p3), .val (.int p4), .val (.ref b2), .val (.int (4 : Int32)), .val (.ref b183), .val (.int (1 : Int32)), .unset, .unset, .unset] []))
      refine gIload Xt197 hx (hb hby at_201) rfl ?_
      refine gIconst Xt197 hx (hb hby at_203) (v := (2 : Int32)) rfl ?_
      refine gIcmpY Xt197 hx (hb hby at_204) (pc' := 218) (XT.ii_lt_t (by decide)) (by decide) (by decide) ?_
      show Goes p e below _ (Tt197.setTop (mkF m 218 #[.val (.int p0), .val (.int p1), .val (.int p2), .val (.int p3), .val (.int p4), .val (.ref b2), .val (.int (4 : Int32)), .val (.ref b183), .val (.int (1 : Int32)), .unset, .unset, .unset] []))
      refine gIload Xt197 hx (hb hby at_218) rfl ?_
      refine gIconst Xt197 hx (hb hby at_220) (v := (3 : Int32)) rfl ?_
      refine gIcmpY Xt197 hx (hb hby at_221) (pc' := 235) (XT.ii_lt_t (by decide)) (by decide) (by decide) ?_
      show Goes p e below _ (Tt197.setTop (mkF m 235 #[.val (.int p0), .val (.int p1), .val (.int p2), .val (.int p3), .val (.int p4), .val (.ref b2), .val (.int (4 : Int32)), .val (.ref b183), .val (.int (1 : Int32)), .unset, .unset, .unset] []))
      refine gIload Xt197 hx (hb hby at_235) rfl ?_
      refine gIconst Xt197 hx (hb hby at_237) (v := (4 : Int32)) rfl ?_
      refine gIcmpY Xt197 hx (hb hby at_238) (pc' := 252) (XT.ii_lt_t (by decide)) (by decide) (by decide) ?_
      show Goes p e below _ (Tt197.setTop (mkF m 252 #[.val (.int p0), .val (.int p1), .val (.int p2), .val (.int p3), .val (.int p4), .val (.ref b2), .val (.int (4 : Int32)), .val (.ref b183), .val (.int (1 : Int32)), .unset, .unset, .unset] []))
      refine gIconst Xt197 hx (hb hby at_252) (v := (1 : Int32)) rfl ?_
      refine gGoto Xt197 hx (hb hby at_253) (pc' := 257) (by decide) (by decide) ?_
      show Goes p e below _ (Tt197.setTop (mkF m 257 #[.val (.int p0), .val (.int p1), .val (.int p2), .val (.int p3), .val (.int p4), .val (.ref b2), .val (.int (4 : Int32)), .val (.ref b183), .val (.int (1 : Int32)), .unset, .unset, .unset] [(.int (1 : Int32))]))
      refine gIstore Xt197 hx (hb hby at_257) (l' := #[.val (.int p0), .val (.int p1), .val (.int p2), .val (.int p3), .val (.int p4), .val (.ref b2), .val (.int (4 : Int32)), .val (.ref b183), .val (.int (1 : Int32)), .val (.int (1 : Int32)), .unset, .unset]) rfl ?_
      refine gIload Xt197 hx (hb hby at_259) rfl ?_
      refine gIconst Xt197 hx (hb hby at_261) (v := (1 : Int32)) rfl ?_
      refine gIcmpN Xt197 hx (hb hby at_262) (XT.ii_lt_f (by decide)) ?_
      show Goes p e below _ (Tt197.setTop (mkF m 265 #[.val (.int p0), .val (.int p1), .val (.int p2), .val (.int p3), .val (.int p4), .val (.ref b2), .val (.int (4 : Int32)), .val (.ref b183), .val (.int (1 : Int32)), .val (.int (1 : Int32)), .unset, .unset] []))
      refine gAload Xt197 hx (hb hby at_265) rfl rfl ?_
      refine gIload Xt197 hx (hb hby at_267) rfl ?_
      refine gAload Xt197 hx (hb hby at_269) rfl rfl ?_
      refine gIconst Xt197 hx (hb hby at_271) (v := (0 : Int32)) rfl ?_
      refine goIaload Xt197 hx hZ et197 Yc4 (x := t0) (hb hby at_272) (by decide) rfl ?_
      refine goCallS Xt197 hx hZ hown (hw _ (List.mem_of_getElem? (i := 12) rfl)) (hw _ (List.mem_of_getElem? (i := 13) rfl)) (hw _ (List.mem_of_getElem? (i := 3) rfl)) (hw _ (List.mem_of_getElem? (i := 14) rfl)) (by decide) (rmH1 l Z a0 hw t0 [.int t1, .int t2, .int t3] b183 t0 ht197 O200 Yd) 0 (by decide) (by decide) et197 (hsz rfl) [(.ref b183), (.int (1 : Int32)), (.int t0)] [] pd_3 rfl rfl rfl (Nat.le_of_eq rfl) (hb hby at_273) (by decide) (by decide) (fun Tt201 vt201 Lt201 Xt201 qt201 => ?_)
      obtain ⟨rfl, N202, et201⟩ := qt201
      have N203 := Fr.app N199 N202
      show Goes p e below _ (Tt201.setTop (mkF m 276 #[.val (.int p0), .val (.int p1), .val (.int p2), .val (.int p3), .val (.int p4), .val (.ref b2), .val (.int (4 : Int32)), .val (.ref b183), .val (.int (1 : Int32)), .val (.int (1 : Int32)), .unset, .unset] [(.int (own_has1 t0 t0))]))
      refine gIfN Xt201 hx (hb hby at_276) (XT.i0_eq_f (by simp [own_has1, e1, e2, e3])) ?_
      show Goes p e below _ (Tt201.setTop (mkF m 279 #[.val (.int p0), .val (.int p1), .val (.int p2), .val (.int p3), .val (.int p4), .val (.ref b2), .val (.int (4 : Int32)), .val (.ref b183), .val (.int (1 : Int32)), .val (.int (1 : Int32)), .unset, .unset] []))
      refine gIload Xt201 hx (hb hby at_279) rfl ?_
      refine gIconst Xt201 hx (hb hby at_281) (v := (2 : Int32)) rfl ?_
      refine gIcmpN Xt201 hx (hb hby at_282) (XT.ii_lt_f (by decide)) ?_
      show Goes p e below _ (Tt201.setTop (mkF m 285 #[.val (.int p0), .val (.int p1), .val (.int p2), .val (.int p3), .val (.int p4), .val (.ref b2), .val (.int (4 : Int32)), .val (.ref b183), .val (.int (1 : Int32)), .val (.int (1 : Int32)), .unset, .unset] []))
      refine gAload Xt201 hx (hb hby at_285) rfl rfl ?_
      refine gIload Xt201 hx (hb hby at_287) rfl ?_
      refine gAload Xt201 hx (hb hby at_289) rfl rfl ?_
      refine gIconst Xt201 hx (hb hby at_291) (v := (1 : Int32)) rfl ?_
      refine goIaload Xt201 hx hZ et201 Yc4 (x := t1) (hb hby at_292) (by decide) rfl ?_
      refine goCallS Xt201 hx hZ hown (hw _ (List.mem_of_getElem? (i := 12) rfl)) (hw _ (List.mem_of_getElem? (i := 13) rfl)) (hw _ (List.mem_of_getElem? (i := 3) rfl)) (hw _ (List.mem_of_getElem? (i := 14) rfl)) (by decide) (rmH1 l Z a0 hw t0 [.int t1, .int t2, .int t3] b183 t1 ht197 O200 Yd) 0 (by decide) (by decide) et201 (hsz rfl) [(.ref b183), (.int (1 : Int32)), (.int t1)] [] pd_3 rfl rfl rfl (Nat.le_of_eq rfl) (hb hby at_293) (by decide) (by decide) (fun Tt204 vt204 Lt204 Xt204 qt204 => ?_)
      obtain ⟨rfl, N205, et204⟩ := qt204
      have N206 := Fr.app N203 N205
      show Goes p e below _ (Tt204.setTop (mkF m 296 #[.val (.int p0), .val (.int p1), .val (.int p2), .val (.int p3), .val (.int p4), .val (.ref b2), .val (.int (4 : Int32)), .val (.ref b183), .val (.int (1 : Int32)), .val (.int (1 : Int32)), .unset, .unset] [(.int (own_has1 t0 t1))]))
      refine gIfN Xt204 hx (hb hby at_296) (XT.i0_eq_f (by simp [own_has1, e1, e2, e3])) ?_
      show Goes p e below _ (Tt204.setTop (mkF m 299 #[.val (.int p0), .val (.int p1), .val (.int p2), .val (.int p3), .val (.int p4), .val (.ref b2), .val (.int (4 : Int32)), .val (.ref b183), .val (.int (1 : Int32)), .val (.int (1 : Int32)), .unset, .unset] []))
      refine gIload Xt204 hx (hb hby at_299) rfl ?_
      refine gIconst Xt204 hx (hb hby at_301) (v := (3 : Int32)) rfl ?_
      refine gIcmpN Xt204 hx (hb hby at_302) (XT.ii_lt_f (by decide)) ?_
      show Goes p e below _ (Tt204.setTop (mkF m 305 #[.val (.int p0), .val (.int p1), .val (.int p2), .val (.int p3), .val (.int p4), .val (.ref b2), .val (.int (4 : Int32)), .val (.ref b183), .val (.int (1 : Int32)), .val (.int (1 : Int32)), .unset, .unset] []))
      refine gAload Xt204 hx (hb hby at_305) rfl rfl ?_
      refine gIload Xt204 hx (hb hby at_307) rfl ?_
      refine gAload Xt204 hx (hb hby at_309) rfl rfl ?_
      refine gIconst Xt204 hx (hb hby at_311) (v := (2 : Int32)) rfl ?_
      refine goIaload Xt204 hx hZ et204 Yc4 (x := t2) (hb hby at_312) (by decide) rfl ?_
      refine goCallS Xt204 hx hZ hown (hw _ (List.mem_of_getElem? (i := 12) rfl)) (hw _ (List.mem_of_getElem? (i := 13) rfl)) (hw _ (List.mem_of_getElem? (i := 3) rfl)) (hw _ (List.mem_of_getElem? (i := 14) rfl)) (by decide) (rmH1 l Z a0 hw t0 [.int t1, .int t2, .int t3] b183 t2 ht197 O200 Yd) 0 (by decide) (by decide) et204 (hsz rfl) [(.ref b183), (.int (1 : Int32)), (.int t2)] [] pd_3 rfl rfl rfl (Nat.le_of_eq rfl) (hb hby at_313) (by decide) (by decide) (fun Tt207 vt207 Lt207 Xt207 qt207 => ?_)
      obtain ⟨rfl, N208, et207⟩ := qt207
      have N209 := Fr.app N206 N208
      show Goes p e below _ (Tt207.setTop (mkF m 316 #[.val (.int p0), .val (.int p1), .val (.int p2), .val (.int p3), .val (.int p4), .val (.ref b2), .val (.int (4 : Int32)), .val (.ref b183), .val (.int (1 : Int32)), .val (.int (1 : Int32)), .unset, .unset] [(.int (own_has1 t0 t2))]))
      refine gIfN Xt207 hx (hb hby at_316) (XT.i0_eq_f (by simp [own_has1, e1, e2, e3])) ?_
      show Goes p e below _ (Tt207.setTop (mkF m 319 #[.val (.int p0), .val (.int p1), .val (.int p2), .val (.int p3), .val (.int p4), .val (.ref b2), .val (.int (4 : Int32)), .val (.ref b183), .val (.int (1 : Int32)), .val (.int (1 : Int32)), .unset, .unset] []))
      refine gIload Xt207 hx (hb hby at_319) rfl ?_
      refine gIconst Xt207 hx (hb hby at_321) (v := (4 : Int32)) rfl ?_
      refine gIcmpN Xt207 hx (hb hby at_322) (XT.ii_lt_f (by decide)) ?_
      show Goes p e below _ (Tt207.setTop (mkF m 325 #[.val (.int p0), .val (.int p1), .val (.int p2), .val (.int p3), .val (.int p4), .val (.ref b2), .val (.int (4 : Int32)), .val (.ref b183), .val (.int (1 : Int32)), .val (.int (1 : Int32)), .unset, .unset] []))
      refine gAload Xt207 hx (hb hby at_325) rfl rfl ?_
      refine gIload Xt207 hx (hb hby at_327) rfl ?_
      refine gAload Xt207 hx (hb hby at_329) rfl rfl ?_
      refine gIconst Xt207 hx (hb hby at_331) (v := (3 : Int32)) rfl ?_
      refine goIaload Xt207 hx hZ et207 Yc4 (x := t3) (hb hby at_332) (by decide) rfl ?_
      refine goCallS Xt207 hx hZ hown (hw _ (List.mem_of_getElem? (i := 12) rfl)) (hw _ (List.mem_of_getElem? (i := 13) rfl)) (hw _ (List.mem_of_getElem? (i := 3) rfl)) (hw _ (List.mem_of_getElem? (i := 14) rfl)) (by decide) (rmH1 l Z a0 hw t0 [.int t1, .int t2, .int t3] b183 t3 ht197 O200 Yd) 0 (by decide) (by decide) et207 (hsz rfl) [(.ref b183), (.int (1 : Int32)), (.int t3)] [] pd_3 rfl rfl rfl (Nat.le_of_eq rfl) (hb hby at_333) (by decide) (by decide) (fun Tt210 vt210 Lt210 Xt210 qt210 => ?_)
      obtain ⟨rfl, N211, et210⟩ := qt210
      have N212 := Fr.app N209 N211
      show Goes p e below _ (Tt210.setTop (mkF m 336 #[.val (.int p0), .val (.int p1), .val (.int p2), .val (.int p3), .val (.int p4), .val (.ref b2), .val (.int (4 : Int32)), .val (.ref b183), .val (.int (1 : Int32)), .val (.int (1 : Int32)), .unset, .unset] [(.int (own_has1 t0 t3))]))
      refine gIfN Xt210 hx (hb hby at_336) (XT.i0_eq_f (by simp [own_has1, e1, e2, e3])) ?_
      show Goes p e below _ (Tt210.setTop (mkF m 339 #[.val (.int p0), .val (.int p1), .val (.int p2), .val (.int p3), .val (.int p4), .val (.ref b2), .val (.int (4 : Int32)), .val (.ref b183), .val (.int (1 : Int32)), .val (.int (1 : Int32)), .unset, .unset] []))
      refine gIconst Xt210 hx (hb hby at_339) (v := (1 : Int32)) rfl ?_
      refine gGoto Xt210 hx (hb hby at_340) (pc' := 344) (by decide) (by decide) ?_
      show Goes p e below _ (Tt210.setTop (mkF m 344 #[.val (.int p0), .val (.int p1), .val (.int p2), .val (.int p3), .val (.int p4), .val (.ref b2), .val (.int (4 : Int32)), .val (.ref b183), .val (.int (1 : Int32)), .val (.int (1 : Int32)), .unset, .unset] [(.int (1 : Int32))]))
      refine gIstore Xt210 hx (hb hby at_344) (l' := #[.val (.int p0), .val (.int p1), .val (.int p2), .val (.int p3), .val (.int p4), .val (.ref b2), .val (.int (4 : Int32)), .val (.ref b183), .val (.int (1 : Int32)), .val (.int (1 : Int32)), .val (.int (1 : Int32)), .unset]) rfl ?_
      refine gIload Xt210 hx (hb hby at_346) rfl ?_
      refine gIconst Xt210 hx (hb hby at_348) (v := (1 : Int32)) rfl ?_
      refine gIcmpN Xt210 hx (hb hby at_349) (XT.ii_lt_f (by decide)) ?_
      show Goes p e below _ (Tt210.setTop (mkF m 352 #[.val (.int p0), .val (.int p1), .val (.int p2), .val (.int p3), .val (.int p4), .val (.ref b2), .val (.int (4 : Int32)), .val (.ref b183), .val (.int (1 : Int32)), .val (.int (1 : Int32)), .val (.int (1 : Int32)), .unset] []))
      refine gAload Xt210 hx (hb hby at_352) rfl rfl ?_
      refine gIload Xt210 hx (hb hby at_354) rfl ?_
      refine gAload Xt210 hx (hb hby at_356) rfl rfl ?_
      refine gIconst Xt210 hx (hb hby at_358) (v := (0 : Int32)) rfl ?_
      refine goIaload Xt210 hx hZ et210 Yd (x := t0) (hb hby at_359) (by decide) rfl ?_
      refine goCallS Xt210 hx hZ hown (hw _ (List.mem_of_getElem? (i := 12) rfl)) (hw _ (List.mem_of_getElem? (i := 13) rfl)) (hw _ (List.mem_of_getElem? (i := 3) rfl)) (hw _ (List.mem_of_getElem? (i := 14) rfl)) (by decide) (rmH4 l Z a0 hw t0 t1 t2 t3 [] b2 t0 ht197 O200 Yc4) 0 (by decide) (by decide) et210 (hsz rfl) [(.ref b2), (.int (4 : Int32)), (.int t0)] [] pd_3 rfl rfl rfl (Nat.le_of_eq rfl) (hb hby at_360) (by decide) (by decide) (fun Tt213 vt213 Lt213 Xt213 qt213 => ?_)
      obtain ⟨rfl, N214, et213⟩ := qt213
      have N215 := Fr.app N212 N214
      show Goes p e below _ (Tt213.setTop (mkF m 363 #[.val (.int p0), .val (.int p1), .val (.int p2), .val (.int p3), .val (.int p4), .val (.ref b2), .val (.int (4 : Int32)), .val (.ref b183), .val (.int (1 : Int32)), .val (.int (1 : Int32)), .val (.int (1 : Int32)), .unset] [(.int (own_has4 t0 t1 t2 t3 t0))]))
      refine gIfN Xt213 hx (hb hby at_363) (XT.i0_eq_f (by simp [own_has4, e1, e2, e3])) ?_
      show Goes p e below _ (Tt213.setTop (mkF m 366 #[.val (.int p0), .val (.int p1), .val (.int p2), .val (.int p3), .val (.int p4), .val (.ref b2), .val (.int (4 : Int32)), .val (.ref b183), .val (.int (1 : Int32)), .val (.int (1 : Int32)), .val (.int (1 : Int32)), .unset] []))
      refine gIload Xt213 hx (hb hby at_366) rfl ?_
      refine gIconst Xt213 hx (hb hby at_368) (v := (2 : Int32)) rfl ?_
      refine gIcmpY Xt213 hx (hb hby at_369) (pc' := 386) (XT.ii_lt_t (by decide)) (by decide) (by decide) ?_
      show Goes p e below _ (Tt213.setTop (mkF m 386 #[.val (.int p0), .val (.int p1), .val (.int p2), .val (.int p3), .val (.int p4), .val (.ref b2), .val (.int (4 : Int32)), .val (.ref b183), .val (.int (1 : Int32)), .val (.int (1 : Int32)), .val (.int (1 : Int32)), .unset] []))
      refine gIload Xt213 hx (hb hby at_386) rfl ?_
      refine gIconst Xt213 hx (hb hby at_388) (v := (3 : Int32)) rfl ?_
      refine gIcmpY Xt213 hx (hb hby at_389) (pc' := 406) (XT.ii_lt_t (by decide)) (by decide) (by decide) ?_
      show Goes p e below _ (Tt213.setTop (mkF m 406 #[.val (.int p0), .val (.int p1), .val (.int p2), .val (.int p3), .val (.int p4), .val (.ref b2), .val (.int (4 : Int32)), .val (.ref b183), .val (.int (1 : Int32)), .val (.int (1 : Int32)), .val (.int (1 : Int32)), .unset] []))
      refine gIload Xt213 hx (hb hby at_406) rfl ?_
      refine gIconst Xt213 hx (hb hby at_408) (v := (4 : Int32)) rfl ?_
      refine gIcmpY Xt213 hx (hb hby at_409) (pc' := 426) (XT.ii_lt_t (by decide)) (by decide) (by decide) ?_
      show Goes p e below _ (Tt213.setTop (mkF m 426 #[.val (.int p0), .val (.int p1), .val (.int p2), .val (.int p3), .val (.int p4), .val (.ref b2), .val (.int (4 : Int32)), .val (.ref b183), .val (.int (1 : Int32)), .val (.int (1 : Int32)), .val (.int (1 : Int32)), .unset] []))
      refine gIconst Xt213 hx (hb hby at_426) (v := (1 : Int32)) rfl ?_
      refine gGoto Xt213 hx (hb hby at_427) (pc' := 431) (by decide) (by decide) ?_
      show Goes p e below _ (Tt213.setTop (mkF m 431 #[.val (.int p0), .val (.int p1), .val (.int p2), .val (.int p3), .val (.int p4), .val (.ref b2), .val (.int (4 : Int32)), .val (.ref b183), .val (.int (1 : Int32)), .val (.int (1 : Int32)), .val (.int (1 : Int32)), .unset] [(.int (1 : Int32))]))
      refine gIstore Xt213 hx (hb hby at_431) (l' := #[.val (.int p0), .val (.int p1), .val (.int p2), .val (.int p3), .val (.int p4), .val (.ref b2), .val (.int (4 : Int32)), .val (.ref b183), .val (.int (1 : Int32)), .val (.int (1 : Int32)), .val (.int (1 : Int32)), .val (.int (1 : Int32))]) rfl ?_
      refine gIload Xt213 hx (hb hby at_433) rfl ?_
      refine gIfN Xt213 hx (hb hby at_435) (XT.i0_eq_f (by decide)) ?_
      show Goes p e below _ (Tt213.setTop (mkF m 438 #[.val (.int p0), .val (.int p1), .val (.int p2), .val (.int p3), .val (.int p4), .val (.ref b2), .val (.int (4 : Int32)), .val (.ref b183), .val (.int (1 : Int32)), .val (.int (1 : Int32)), .val (.int (1 : Int32)), .val (.int (1 : Int32))] []))
      refine gIload Xt213 hx (hb hby at_438) rfl ?_
      refine gIfN Xt213 hx (hb hby at_440) (XT.i0_eq_f (by decide)) ?_
      show Goes p e below _ (Tt213.setTop (mkF m 443 #[.val (.int p0), .val (.int p1), .val (.int p2), .val (.int p3), .val (.int p4), .val (.ref b2), .val (.int (4 : Int32)), .val (.ref b183), .val (.int (1 : Int32)), .val (.int (1 : Int32)), .val (.int (1 : Int32)), .val (.int (1 : Int32))] []))
      refine gIload Xt213 hx (hb hby at_443) rfl ?_
      refine gIfN Xt213 hx (hb hby at_445) (XT.i0_eq_f (by decide)) ?_
      show Goes p e below _ (Tt213.setTop (mkF m 448 #[.val (.int p0), .val (.int p1), .val (.int p2), .val (.int p3), .val (.int p4), .val (.ref b2), .val (.int (4 : Int32)), .val (.ref b183), .val (.int (1 : Int32)), .val (.int (1 : Int32)), .val (.int (1 : Int32)), .val (.int (1 : Int32))] []))
      refine gIconst Xt213 hx (hb hby at_448) (v := (1 : Int32)) rfl ?_
      refine gGoto Xt213 hx (hb hby at_449) (pc' := 453) (by decide) (by decide) ?_
      show Goes p e below _ (Tt213.setTop (mkF m 453 #[.val (.int p0), .val (.int p1), .val (.int p2), .val (.int p3), .val (.int p4), .val (.ref b2), .val (.int (4 : Int32)), .val (.ref b183), .val (.int (1 : Int32)), .val (.int (1 : Int32)), .val (.int (1 : Int32)), .val (.int (1 : Int32))] [(.int (1 : Int32))]))
      exact goRetN Xt213 hx (t := .boolean) hret hlocks (by simp) (hb hby at_453) (z' := (1 : Int32)) rfl (by decide) (by decide) et213 (⟨rfl, N215⟩)
    · show Goes p e below _ (Tt197.setTop (mkF m 185 #[.val (.int p0), .val (.int p1), .val (.int p2), .val (.int p3), .val (.int p4), .val (.ref b2), .val (.int (4 : Int32)), .val (.ref b183), .unset, .unset, .unset, .unset] [(.int (2 : Int32))]))
      have f1 : t1.toInt = t0.toInt := by rw [e1]
      have f2 : t2.toInt = t1.toInt := by rw [e2]
      have f3 : ¬ t3.toInt = t2.toInt := fun z => e3 (Int32.toInt_inj.mp z)
      refine gIstore Xt197 hx (hb hby at_185) (l' := #[.val (.int p0), .val (.int p1), .val (.int p2), .val (.int p3), .val (.int p4), .val (.ref b2), .val (.int (4 : Int32)), .val (.ref b183), .val (.int (2 : Int32)), .unset, .unset, .unset]) rfl ?_
      refine gIload Xt197 hx (hb hby at_187) rfl ?_
      refine gIfN Xt197 hx (hb hby at_189) (XT.i0_lt_f (by decide)) ?_
      show Goes p e below _ (Tt197.setTop (mkF m 192 #[.val (.int p0), .val (.int p1), .val (.int p2), .val (.int p3), .val (.int p4), .val (.ref b2), .val (.int (4 : Int32)), .val (.ref b183), .val (.int (2 : Int32)), .unset, .unset, .unset] []))
      refine gIload Xt197 hx (hb hby at_192) rfl ?_
      refine gIload Xt197 hx (hb hby at_194) rfl ?_
      refine gIcmpY Xt197 hx (hb hby at_196) (pc' := 201) (XT.ii_le_t (by decide)) (by decide) (by decide) ?_
      show Goes p e below _ (Tt197.setTop (mkF m 201 #[.val (.int p0), .val (.int p1), .val (.int p2), .val (.int p3), .val (.int p4), .val (.ref b2), .val (.int (4 : Int32)), .val (.ref b183), .val (.int (2 : Int32)), .unset, .unset, .unset] []))
      refine gIload Xt197 hx (hb hby at_201) rfl ?_
      refine gIconst Xt197 hx (hb hby at_203) (v := (2 : Int32)) rfl ?_
      refine gIcmpN Xt197 hx (hb hby at_204) (XT.ii_lt_f (by decide)) ?_
      show Goes p e below _ (Tt197.setTop (mkF m 207 #[.val (.int p0), .val (.int p1), .val (.int p2), .val (.int p3), .val (.int p4), .val (.ref b2), .val (.int (4 : Int32)), .val (.ref b183), .val (.int (2 : Int32)), .unset, .unset, .unset] []))
      refine gAload Xt197 hx (hb hby at_207) rfl rfl ?_
      refine gIconst Xt197 hx (hb hby at_209) (v := (0 : Int32)) rfl ?_
      refine goIaload Xt197 hx hZ et197 Yd (x := t0) (hb hby at_210) (by decide) rfl ?_
      refine gAload Xt197 hx (hb hby at_211) rfl rfl ?_
      refine gIconst Xt197 hx (hb hby at_213) (v := (1 : Int32)) rfl ?_
      refine goIaload Xt197 hx hZ et197 Yd (x := t3) (hb hby at_214) (by decide) rfl ?_
      refine gIcmpN Xt197 hx (hb hby at_215) (XT.ii_ge_f (Int32.lt_iff_toInt_lt.mpr (by omega))) ?_
      show Goes p e below _ (Tt197.setTop (mkF m 218 #[.val (.int p0), .val (.int p1), .val (.int p2), .val (.int p3), .val (.int p4), .val (.ref b2), .val (.int (4 : Int32)), .val (.ref b183), .val (.int (2 : Int32)), .unset, .unset, .unset] []))
      refine gIload Xt197 hx (hb hby at_218) rfl ?_
      refine gIconst Xt197 hx (hb hby at_220) (v := (3 : Int32)) rfl ?_
      refine gIcmpY Xt197 hx (hb hby at_221) (pc' := 235) (XT.ii_lt_t (by decide)) (by decide) (by decide) ?_
      show Goes p e below _ (Tt197.setTop (mkF m 235 #[.val (.int p0), .val (.int p1), .val (.int p2), .val (.int p3), .val (.int p4), .val (.ref b2), .val (.int (4 : Int32)), .val (.ref b183), .val (.int (2 : Int32)), .unset, .unset, .unset] []))
      refine gIload Xt197 hx (hb hby at_235) rfl ?_
      refine gIconst Xt197 hx (hb hby at_237) (v := (4 : Int32)) rfl ?_
      refine gIcmpY Xt197 hx (hb hby at_238) (pc' := 252) (XT.ii_lt_t (by decide)) (by decide) (by decide) ?_
      show Goes p e below _ (Tt197.setTop (mkF m 252 #[.val (.int p0), .val (.int p1), .val (.int p2), .val (.int p3), .val (.int p4), .val (.ref b2), .val (.int (4 : Int32)), .val (.ref b183), .val (.int (2 : Int32)), .unset, .unset, .unset] []))
      refine gIconst Xt197 hx (hb hby at_252) (v := (1 : Int32)) rfl ?_
      refine gGoto Xt197 hx (hb hby at_253) (pc' := 257) (by decide) (by decide) ?_
      show Goes p e below _ (Tt197.setTop (mkF m 257 #[.val (.int p0), .val (.int p1), .val (.int p2), .val (.int p3), .val (.int p4), .val (.ref b2), .val (.int (4 : Int32)), .val (.ref b183), .val (.int (2 : Int32)), .unset, .unset, .unset] [(.int (1 : Int32))]))
      refine gIstore Xt197 hx (hb hby at_257) (l' := #[.val (.int p0), .val (.int p1), .val (.int p2), .val (.int p3), .val (.int p4), .val (.ref b2), .val (.int (4 : Int32)), .val (.ref b183), .val (.int (2 : Int32)), .val (.int (1 : Int32)), .unset, .unset]) rfl ?_
      refine gIload Xt197 hx (hb hby at_259) rfl ?_
      refine gIconst Xt197 hx (hb hby at_261) (v := (1 : Int32)) rfl ?_
      refine gIcmpN Xt197 hx (hb hby at_262) (XT.ii_lt_f (by decide)) ?_
      show Goes p e below _ (Tt197.setTop (mkF m 265 #[.val (.int p0), .val (.int p1), .val (.int p2), .val (.int p3), .val (.int p4), .val (.ref b2), .val (.int (4 : Int32)), .val (.ref b183), .val (.int (2 : Int32)), .val (.int (1 : Int32)), .unset, .unset] []))
      refine gAload Xt197 hx (hb hby at_265) rfl rfl ?_
      refine gIload Xt197 hx (hb hby at_267) rfl ?_
      refine gAload Xt197 hx (hb hby at_269) rfl rfl ?_
      refine gIconst Xt197 hx (hb hby at_271) (v := (0 : Int32)) rfl ?_
      refine goIaload Xt197 hx hZ et197 Yc4 (x := t0) (hb hby at_272) (by decide) rfl ?_
      refine goCallS Xt197 hx hZ hown (hw _ (List.mem_of_getElem? (i := 12) rfl)) (hw _ (List.mem_of_getElem? (i := 13) rfl)) (hw _ (List.mem_of_getElem? (i := 3) rfl)) (hw _ (List.mem_of_getElem? (i := 14) rfl)) (by decide) (rmH2 l Z a0 hw t0 t3 [.int t2, .int t3] b183 t0 ht197 O200 Yd) 0 (by decide) (by decide) et197 (hsz rfl) [(.ref b183), (.int (2 : Int32)), (.int t0)] [] pd_3 rfl rfl rfl (Nat.le_of_eq rfl) (hb hby at_273) (by decide) (by decide) (fun Tt216 vt216 Lt216 Xt216 qt216 => ?_)
      obtain ⟨rfl, N217, et216⟩ := qt216
      have N218 := Fr.app N199 N217
      show Goes p e below _ (Tt216.setTop (mkF m 276 #[.val (.int p0), .val (.int p1), .val (.int p2), .val (.int p3), .val (.int p4), .val (.ref b2), .val (.int (4 : Int32)), .val (.ref b183), .val (.int (2 : Int32)), .val (.int (1 : Int32)), .unset, .unset] [(.int (own_has2 t0 t3 t0))]))
      refine gIfN Xt216 hx (hb hby at_276) (XT.i0_eq_f (by simp [own_has2, e1, e2, e3])) ?_
      show Goes p e below _ (Tt216.setTop (mkF m 279 #[.val (.int p0), .val (.int p1), .val (.int p2), .val (.int p3), .val (.int p4), .val (.ref b2), .val (.int (4 : Int32)), .val (.ref b183), .val (.int (2 : Int32)), .val (.int (1 : Int32)), .unset, .unset] []))
      refine gIload Xt216 hx (hb hby at_279) rfl ?_
      refine gIconst Xt216 hx (hb hby at_281) (v := (2 : Int32)) rfl ?_
      refine gIcmpN Xt216 hx (hb hby at_282) (XT.ii_lt_f (by decide)) ?_
      show Goes p e below _ (Tt216.setTop (mkF m 285 #[.val (.int p0), .val (.int p1), .val (.int p2), .val (.int p3), .val (.int p4), .val (.ref b2), .val (.int (4 : Int32)), .val (.ref b183), .val (.int (2 : Int32)), .val (.int (1 : Int32)), .unset, .unset] []))
      refine gAload Xt216 hx (hb hby at_285) rfl rfl ?_
      refine gIload Xt216 hx (hb hby at_287) rfl ?_
      refine gAload Xt216 hx (hb hby at_289) rfl rfl ?_
      refine gIconst Xt216 hx (hb hby at_291) (v := (1 : Int32)) rfl ?_
      refine goIaload Xt216 hx hZ et216 Yc4 (x := t1) (hb hby at_292) (by decide) rfl ?_
      refine goCallS Xt216 hx hZ hown (hw _ (List.mem_of_getElem? (i := 12) rfl)) (hw _ (List.mem_of_getElem? (i := 13) rfl)) (hw _ (List.mem_of_getElem? (i := 3) rfl)) (hw _ (List.mem_of_getElem? (i := 14) rfl)) (by decide) (rmH2 l Z a0 hw t0 t3 [.int t2, .int t3] b183 t1 ht197 O200 Yd) 0 (by decide) (by decide) et216 (hsz rfl) [(.ref b183), (.int (2 : Int32)), (.int t1)] [] pd_3 rfl rfl rfl (Nat.le_of_eq rfl) (hb hby at_293) (by decide) (by decide) (fun Tt219 vt219 Lt219 Xt219 qt219 => ?_)
      obtain ⟨rfl, N220, et219⟩ := qt219
      have N221 := Fr.app N218 N220
      show Goes p e below _ (Tt219.setTop (mkF m 296 #[.val (.int p0), .val (.int p1), .val (.int p2), .val (.int p3), .val (.int p4), .val (.ref b2), .val (.int (4 : Int32)), .val (.ref b183), .val (.int (2 : Int32)), .val (.int (1 : Int32)), .unset, .unset] [(.int (own_has2 t0 t3 t1))]))
      refine gIfN Xt219 hx (hb hby at_296) (XT.i0_eq_f (by simp [own_has2, e1, e2, e3])) ?_
      show Goes p e below _ (Tt219.setTop (mkF m 299 #[.val (.int p0), .val (.int p1), .val (.int p2), .val (.int p3), .val (.int p4), .val (.ref b2), .val (.int (4 : Int32)), .val (.ref b183), .val (.int (2 : Int32)), .val (.int (1 : Int32)), .unset, .unset] []))
      refine gIload Xt219 hx (hb hby at_299) rfl ?_
      refine gIconst Xt219 hx (hb hby at_301) (v := (3 : Int32)) rfl ?_
      refine gIcmpN Xt219 hx (hb hby at_302) (XT.ii_lt_f (by decide)) ?_
      show Goes p e below _ (Tt219.setTop (mkF m 305 #[.val (.int p0), .val (.int p1), .val (.int p2), .val (.int p3), .val (.int p4), .val (.ref b2), .val (.int (4 : Int32)), .val (.ref b183), .val (.int (2 : Int32)), .val (.int (1 : Int32)), .unset, .unset] []))
      refine gAload Xt219 hx (hb hby at_305) rfl rfl ?_
      refine gIload Xt219 hx (hb hby at_307) rfl ?_
      refine gAload Xt219 hx (hb hby at_309) rfl rfl ?_
      refine gIconst Xt219 hx (hb hby at_311) (v := (2 : Int32)) rfl ?_
      refine goIaload Xt219 hx hZ et219 Yc4 (x := t2) (hb hby at_312) (by decide) rfl ?_
      refine goCallS Xt219 hx hZ hown (hw _ (List.mem_of_getElem? (i := 12) rfl)) (hw _ (List.mem_of_getElem? (i := 13) rfl)) (hw _ (List.mem_of_getElem? (i := 3) rfl)) (hw _ (List.mem_of_getElem? (i := 14) rfl)) (by decide) (rmH2 l Z a0 hw t0 t3 [.int t2, .int t3] b183 t2 ht197 O200 Yd) 0 (by decide) (by decide) et219 (hsz rfl) [(.ref b183), (.int (2 : Int32)), (.int t2)] [] pd_3 rfl rfl rfl (Nat.le_of_eq rfl) (hb hby at_313) (by decide) (by decide) (fun Tt222 vt222 Lt222 Xt222 qt222 => ?_)
      obtain ⟨rfl, N223, et222⟩ := qt222
      have N224 := Fr.app N221 N223
      show Goes p e below _ (Tt222.setTop (mkF m 316 #[.val (.int p0), .val (.int p1), .val (.int p2), .val (.int p3), .val (.int p4), .val (.ref b2), .val (.int (4 : Int32)), .val (.ref b183), .val (.int (2 : Int32)), .val (.int (1 : Int32)), .unset, .unset] [(.int (own_has2 t0 t3 t2))]))
      refine gIfN Xt222 hx (hb hby at_316) (XT.i0_eq_f (by simp [own_has2, e1, e2, e3])) ?_
      show Goes p e below _ (Tt222.setTop (mkF m 319 #[.val (.int p0), .val (.int p1), .val (.int p2), .val (.int p3), .val (.int p4), .val (.ref b2), .val (.int (4 : Int32)), .val (.ref b183), .val (.int (2 : Int32)), .val (.int (1 : Int32)), .unset, .unset] []))
      refine gIload Xt222 hx (hb hby at_319) rfl ?_
      refine gIconst Xt222 hx (hb hby at_321) (v := (4 : Int32)) rfl ?_
      refine gIcmpN Xt222 hx (hb hby at_322) (XT.ii_lt_f (by decide)) ?_
      show Goes p e below _ (Tt222.setTop (mkF m 325 #[.val (.int p0), .val (.int p1), .val (.int p2), .val (.int p3), .val (.int p4), .val (.ref b2), .val (.int (4 : Int32)), .val (.ref b183), .val (.int (2 : Int32)), .val (.int (1 : Int32)), .unset, .unset] []))
      refine gAload Xt222 hx (hb hby at_325) rfl rfl ?_
      refine gIload Xt222 hx (hb hby at_327) rfl ?_
      refine gAload Xt222 hx (hb hby at_329) rfl rfl ?_
      refine gIconst Xt222 hx (hb hby at_331) (v := (3 : Int32)) rfl ?_
      refine goIaload Xt222 hx hZ et222 Yc4 (x := t3) (hb hby at_332) (by decide) rfl ?_
      refine goCallS Xt222 hx hZ hown (hw _ (List.mem_of_getElem? (i := 12) rfl)) (hw _ (List.mem_of_getElem? (i := 13) rfl)) (hw _ (List.mem_of_getElem? (i := 3) rfl)) (hw _ (List.mem_of_getElem? (i := 14) rfl)) (by decide) (rmH2 l Z a0 hw t0 t3 [.int t2, .int t3] b183 t3 ht197 O200 Yd) 0 (by decide) (by decide) et222 (hsz rfl) [(.ref b183), (.int (2 : Int32)), (.int t3)] [] pd_3 rfl rfl rfl (Nat.le_of_eq rfl) (hb hby at_333) (by decide) (by decide) (fun Tt225 vt225 Lt225 Xt225 qt225 => ?_)
      obtain ⟨rfl, N226, et225⟩ := qt225
      have N227 := Fr.app N224 N226
      show Goes p e below _ (Tt225.setTop (mkF m 336 #[.val (.int p0), .val (.int p1), .val (.int p2), .val (.int p3), .val (.int p4), .val (.ref b2), .val (.int (4 : Int32)), .val (.ref b183), .val (.int (2 : Int32)), .val (.int (1 : Int32)), .unset, .unset] [(.int (own_has2 t0 t3 t3))]))
      refine gIfN Xt225 hx (hb hby at_336) (XT.i0_eq_f (by simp [own_has2, e1, e2, e3])) ?_
      show Goes p e below _ (Tt225.setTop (mkF m 339 #[.val (.int p0), .val (.int p1), .val (.int p2), .val (.int p3), .val (.int p4), .val (.ref b2), .val (.int (4 : Int32)), .val (.ref b183), .val (.int (2 : Int32)), .val (.int (1 : Int32)), .unset, .unset] []))
      refine gIconst Xt225 hx (hb hby at_339) (v := (1 : Int32)) rfl ?_
      refine gGoto Xt225 hx (hb hby at_340) (pc' := 344) (by decide) (by decide) ?_
      show Goes p e below _ (Tt225.setTop (mkF m 344 #[.val (.int p0), .val (.int p1), .val (.int p2), .val (.int p3), .val (.int p4), .val (.ref b2), .val (.int (4 : Int32)), .val (.ref b183), .val (.int (2 : Int32)), .val (.int (1 : Int32)), .unset, .unset] [(.int (1 : Int32))]))
      refine gIstore Xt225 hx (hb hby at_344) (l' := #[.val (.int p0), .val (.int p1), .val (.int p2), .val (.int p3), .val (.int p4), .val (.ref b2), .val (.int (4 : Int32)), .val (.ref b183), .val (.int (2 : Int32)), .val (.int (1 : Int32)), .val (.int (1 : Int32)), .unset]) rfl ?_
      refine gIload Xt225 hx (hb hby at_346) rfl ?_
      refine gIconst Xt225 hx (hb hby at_348) (v := (1 : Int32)) rfl ?_
      refine gIcmpN Xt225 hx (hb hby at_349) (XT.ii_lt_f (by decide)) ?_
      show Goes p e below _ (Tt225.setTop (mkF m 352 #[.val (.int p0), .val (.int p1), .val (.int p2), .val (.int p3), .val (.int p4), .val (.ref b2), .val (.int (4 : Int32)), .val (.ref b183), .val (.int (2 : Int32)), .val (.int (1 : Int32)), .val (.int (1 : Int32)), .unset] []))
      refine gAload Xt225 hx (hb hby at_352) rfl rfl ?_
      refine gIload Xt225 hx (hb hby at_354) rfl ?_
      refine gAload Xt225 hx (hb hby at_356) rfl rfl ?_
      refine gIconst Xt225 hx (hb hby at_358) (v := (0 : Int32)) rfl ?_
      refine goIaload Xt225 hx hZ et225 Yd (x := t0) (hb hby at_359) (by decide) rfl ?_
      refine goCallS Xt225 hx hZ hown (hw _ (List.mem_of_getElem? (i := 12) rfl)) (hw _ (List.mem_of_getElem? (i := 13) rfl)) (hw _ (List.mem_of_getElem? (i := 3) rfl)) (hw _ (List.mem_of_getElem? (i := 14) rfl)) (by decide) (rmH4 l Z a0 hw t0 t1 t2 t3 [] b2 t0 ht197 O200 Yc4) 0 (by decide) (by decide) et225 (hsz rfl) [(.ref b2), (.int (4 : Int32)), (.int t0)] [] pd_3 rfl rfl rfl (Nat.le_of_eq rfl) (hb hby at_360) (by decide) (by decide) (fun Tt228 vt228 Lt228 Xt228 qt228 => ?_)
      obtain ⟨rfl, N229, et228⟩ := qt228
      have N230 := Fr.app N227 N229
      show Goes p e below _ (Tt228.setTop (mkF m 363 #[.val (.int p0), .val (.int p1), .val (.int p2), .val (.int p3), .val (.int p4), .val (.ref b2), .val (.int (4 : Int32)), .val (.ref b183), .val (.int (2 : Int32)), .val (.int (1 : Int32)), .val (.int (1 : Int32)), .unset] [(.int (own_has4 t0 t1 t2 t3 t0))]))
      refine gIfN Xt228 hx (hb hby at_363) (XT.i0_eq_f (by simp [own_has4, e1, e2, e3])) ?_
      show Goes p e below _ (Tt228.setTop (mkF m 366 #[.val (.int p0), .val (.int p1), .val (.int p2), .val (.int p3), .val (.int p4), .val (.ref b2), .val (.int (4 : Int32)), .val (.ref b183), .val (.int (2 : Int32)), .val (.int (1 : Int32)), .val (.int (1 : Int32)), .unset] []))
      refine gIload Xt228 hx (hb hby at_366) rfl ?_
      refine gIconst Xt228 hx (hb hby at_368) (v := (2 : Int32)) rfl ?_
      refine gIcmpN Xt228 hx (hb hby at_369) (XT.ii_lt_f (by decide)) ?_
      show Goes p e below _ (Tt228.setTop (mkF m 372 #[.val (.int p0), .val (.int p1), .val (.int p2), .val (.int p3), .val (.int p4), .val (.ref b2), .val (.int (4 : Int32)), .val (.ref b183), .val (.int (2 : Int32)), .val (.int (1 : Int32)), .val (.int (1 : Int32)), .unset] []))
      refine gAload Xt228 hx (hb hby at_372) rfl rfl ?_
      refine gIload Xt228 hx (hb hby at_374) rfl ?_
      refine gAload Xt228 hx (hb hby at_376) rfl rfl ?_
      refine gIconst Xt228 hx (hb hby at_378) (v := (1 : Int32)) rfl ?_
      refine goIaload Xt228 hx hZ et228 Yd (x := t3) (hb hby at_379) (by decide) rfl ?_
      refine goCallS Xt228 hx hZ hown (hw _ (List.mem_of_getElem? (i := 12) rfl)) (hw _ (List.mem_of_getElem? (i := 13) rfl)) (hw _ (List.mem_of_getElem? (i := 3) rfl)) (hw _ (List.mem_of_getElem? (i := 14) rfl)) (by decide) (rmH4 l Z a0 hw t0 t1 t2 t3 [] b2 t3 ht197 O200 Yc4) 0 (by decide) (by decide) et228 (hsz rfl) [(.ref b2), (.int (4 : Int32)), (.int t3)] [] pd_3 rfl rfl rfl (Nat.le_of_eq rfl) (hb hby at_380) (by decide) (by decide) (fun Tt231 vt231 Lt231 Xt231 qt231 => ?_)
      obtain ⟨rfl, N232, et231⟩ := qt231
      have N233 := Fr.app N230 N232
      show Goes p e below _ (Tt231.setTop (mkF m 383 #[.val (.int p0), .val (.int p1), .val (.int p2), .val (.int p3), .val (.int p4), .val (.ref b2), .val (.int (4 : Int32)), .val (.ref b183), .val (.int (2 : Int32)), .val (.int (1 : Int32)), .val (.int (1 : Int32)), .unset] [(.int (own_has4 t0 t1 t2 t3 t3))]))
      refine gIfN Xt231 hx (hb hby at_383) (XT.i0_eq_f (by simp [own_has4, e1, e2, e3])) ?_
      show Goes p e below _ (Tt231.setTop (mkF m 386 #[.val (.int p0), .val (.int p1), .val (.int p2), .val (.int p3), .val (.int p4), .val (.ref b2), .val (.int (4 : Int32)), .val (.ref b183), .val (.int (2 : Int32)), .val (.int (1 : Int32)), .val (.int (1 : Int32)), .unset] []))
      refine gIload Xt231 hx (hb hby at_386) rfl ?_
      refine gIconst Xt231 hx (hb hby at_388) (v := (3 : Int32)) rfl ?_
      refine gIcmpY Xt231 hx (hb hby at_389) (pc' := 406) (XT.ii_lt_t (by decide)) (by decide) (by decide) ?_
      show Goes p e below _ (Tt231.setTop (mkF m 406 #[.val (.int p0), .val (.int p1), .val (.int p2), .val (.int p3), .val (.int p4), .val (.ref b2), .val (.int (4 : Int32)), .val (.ref b183), .val (.int (2 : Int32)), .val (.int (1 : Int32)), .val (.int (1 : Int32)), .unset] []))
      refine gIload Xt231 hx (hb hby at_406) rfl ?_
      refine gIconst Xt231 hx (hb hby at_408) (v := (4 : Int32)) rfl ?_
      refine gIcmpY Xt231 hx (hb hby at_409) (pc' := 426) (XT.ii_lt_t (by decide)) (by decide) (by decide) ?_
      show Goes p e below _ (Tt231.setTop (mkF m 426 #[.val (.int p0), .val (.int p1), .val (.int p2), .val (.int p3), .val (.int p4), .val (.ref b2), .val (.int (4 : Int32)), .val (.ref b183), .val (.int (2 : Int32)), .val (.int (1 : Int32)), .val (.int (1 : Int32)), .unset] []))
      refine gIconst Xt231 hx (hb hby at_426) (v := (1 : Int32)) rfl ?_
      refine gGoto Xt231 hx (hb hby at_427) (pc' := 431) (by decide) (by decide) ?_
      show Goes p e below _ (Tt231.setTop (mkF m 431 #[.val (.int p0), .val (.int p1), .val (.int p2), .val (.int p3), .val (.int p4), .val (.ref b2), .val (.int (4 : Int32)), .val (.ref b183), .val (.int (2 : Int32)), .val (.int (1 : Int32)), .val (.int (1 : Int32)), .unset] [(.int (1 : Int32))]))
      refine gIstore Xt231 hx (hb hby at_431) (l' := #[.val (.int p0), .val (.int p1), .val (.int p2), .val (.int p3), .val (.int p4), .val (.ref b2), .val (.int (4 : Int32)), .val (.ref b183), .val (.int (2 : Int32)), .val (.int (1 : Int32)), .val (.int (1 : Int32)), .val (.int (1 : Int32))]) rfl ?_
      refine gIload Xt231 hx (hb hby at_433) rfl ?_
      refine gIfN Xt231 hx (hb hby at_435) (XT.i0_eq_f (by decide)) ?_
      show Goes p e below _ (Tt231.setTop (mkF m 438 #[.val (.int p0), .val (.int p1), .val (.int p2), .val (.int p3), .val (.int p4), .val (.ref b2), .val (.int (4 : Int32)), .val (.ref b183), .val (.int (2 : Int32)), .val (.int (1 : Int32)), .val (.int (1 : Int32)), .val (.int (1 : Int32))] []))
      refine gIload Xt231 hx (hb hby at_438) rfl ?_
      refine gIfN Xt231 hx (hb hby at_440) (XT.i0_eq_f (by decide)) ?_
      show Goes p e below _ (Tt231.setTop (mkF m 443 #[.val (.int p0), .val (.int p1), .val (.int p2), .val (.int p3), .val (.int p4), .val (.ref b2), .val (.int (4 : Int32)), .val (.ref b183), .val (.int (2 : Int32)), .val (.int (1 : Int32)), .val (.int (1 : Int32)), .val (.int (1 : Int32))] []))
      refine gIload Xt231 hx (hb hby at_443) rfl ?_
      refine gIfN Xt231 hx (hb hby at_445) (XT.i0_eq_f (by decide)) ?_
      show Goes p e below _ (Tt231.setTop (mkF m 448 #[.val (.int p0), .val (.int p1), .val (.int p2), .val (.int p3), .val (.int p4), .val (.ref b2), .val (.int (4 : Int32)), .val (.ref b183), .val (.int (2 : Int32)), .val (.int (1 : Int32)), .val (.int (1 : Int32)), .val (.int (1 : Int32))] []))
      refine gIconst Xt231 hx (hb hby at_448) (v := (1 : Int32)) rfl ?_
      refine gGoto Xt231 hx (hb hby at_449) (pc' := 453) (by decide) (by decide) ?_
      show Goes p e below _ (Tt231.setTop (mkF m 453 #[.val (.int p0), .val (.int p1), .val (.int p2), .val (.int p3), .val (.int p4), .val (.ref b2), .val (.int (4 : Int32)), .val (.ref b183), .val (.int (2 : Int32)), .val (.int (1 : Int32)), .val (.int (1 : Int32)), .val (.int (1 : Int32))] [(.int (1 : Int32))]))
      exact goRetN Xt231 hx (t := .boolean) hret hlocks (by simp) (hb hby at_453) (z' := (1 : Int32)) rfl (by decide) (by decide) et231 (⟨rfl, N233⟩)
    · show Goes p e below _ (Tt197.setTop (mkF m 185 #[.val (.int p0), .val (.int p1), .val (.int p2), .val (.int p3), .val (.int p4), .val (.ref b2), .val (.int (4 : Int32)), .val (.ref b183), .unset, .unset, .unset, .unset] [(.int (2 : Int32))]))
      have f1 : t1.toInt = t0.toInt := by rw [e1]
      have f2 : ¬ t2.toInt = t1.toInt := fun z => e2 (Int32.toInt_inj.mp z)
      have f3 : t3.toInt = t2.toInt := by rw [e3]
      refine gIstore Xt197 hx (hb hby at_185) (l' := #[.val (.int p0), .val (.int p1), .val (.int p2), .val (.int p3), .val (.int p4), .val (.ref b2), .val (.int (4 : Int32)), .val (.ref b183), .val (.int (2 : Int32)), .unset, .unset, .unset]) rfl ?_
      refine gIload Xt197 hx (hb hby at_187) rfl ?_
      refine gIfN Xt197 hx (hb hby at_189) (XT.i0_lt_f (by decide)) ?_
      show Goes p e below _ (Tt197.setTop (mkF m 192 #[.val (.int p0), .val (.int p1), .val (.int p2), .val (.int p3), .val (.int p4), .val (.ref b2), .val (.int (4 : Int32)), .val (.ref b183), .val (.int (2 : Int32)), .unset, .unset, .unset] []))
      refine gIload Xt197 hx (hb hby at_192) rfl ?_
      refine gIload Xt197 hx (hb hby at_194) rfl ?_
      refine gIcmpY Xt197 hx (hb hby at_196) (pc' := 201) (XT.ii_le_t (by decide)) (by decide) (by decide) ?_
      show Goes p e below _ (Tt197.setTop (mkF m 201 #[.val (.int p0), .val (.int p1), .val (.int p2), .val (.int p3), .val (.int p4), .val (.ref b2), .val (.int (4 : Int32)), .val (.ref b183), .val (.int (2 : Int32)), .unset, .unset, .unset] []))
      refine gIload Xt197 hx (hb hby at_201) rfl ?_
      refine gIconst Xt197 hx (hb hby at_203) (v := (2 : Int32)) rfl ?_
      refine gIcmpN Xt197 hx (hb hby at_204) (XT.ii_lt_f (by decide)) ?_
      show Goes p e below _ (Tt197.setTop (mkF m 207 #[.val (.int p0), .val (.int p1), .val (.int p2), .val (.int p3), .val (.int p4), .val (.ref b2), .val (.int (4 : Int32)), .val (.ref b183), .val (.int (2 : Int32)), .unset, .unset, .unset] []))
      refine gAload Xt197 hx (hb hby at_207) rfl rfl ?_
      refine gIconst Xt197 hx (hb hby at_209) (v := (0 : Int32)) rfl ?_
      refine goIaload Xt197 hx hZ et197 Yd (x := t0) (hb hby at_210) (by decide) rfl ?_
      refine gAload Xt197 hx (hb hby at_211) rfl rfl ?_
      refine gIconst Xt197 hx (hb hby at_213) (v := (1 : Int32)) rfl ?_
      refine goIaload Xt197 hx hZ et197 Yd (x := t2) (hb hby at_214) (by decide) rfl ?_
      refine gIcmpN Xt197 hx (hb hby at_215) (XT.ii_ge_f (Int32.lt_iff_toInt_lt.mpr (by omega))) ?_
      show Goes p e below _ (Tt197.setTop (mkF m 218 #[.val (.int p0), .val (.int p1), .val (.int p2), .val (.int p3), .val (.int p4), .val (.ref b2), .val (.int (4 : Int32)), .val (.ref b183), .val (.int (2 : Int32)), .unset, .unset, .unset] []))
      refine gIload Xt197 hx (hb hby at_218) rfl ?_
      refine gIconst Xt197 hx (hb hby at_220) (v := (3 : Int32)) rfl ?_
      refine gIcmpY Xt197 hx (hb hby at_221) (pc' := 235) (XT.ii_lt_t (by decide)) (by decide) (by decide) ?_
      show Goes p e below _ (Tt197.setTop (mkF m 235 #[.val (.int p0), .val (.int p1), .val (.int p2), .val (.int p3), .val (.int p4), .val (.ref b2), .val (.int (4 : Int32)), .val (.ref b183), .val (.int (2 : Int32)), .unset, .unset, .unset] []))
      refine gIload Xt197 hx (hb hby at_235) rfl ?_
      refine gIconst Xt197 hx (hb hby at_237) (v := (4 : Int32)) rfl ?_
      refine gIcmpY Xt197 hx (hb hby at_238) (pc' := 252) (XT.ii_lt_t (by decide)) (by decide) (by decide) ?_
      show Goes p e below _ (Tt197.setTop (mkF m 252 #[.val (.int p0), .val (.int p1), .val (.int p2), .val (.int p3), .val (.int p4), .val (.ref b2), .val (.int (4 : Int32)), .val (.ref b183), .val (.int (2 : Int32)), .unset, .unset, .unset] []))
      refine gIconst Xt197 hx (hb hby at_252) (v := (1 : Int32)) rfl ?_
      refine gGoto Xt197 hx (hb hby at_253) (pc' := 257) (by decide) (by decide) ?_
      show Goes p e below _ (Tt197.setTop (mkF m 257 #[.val (.int p0), .val (.int p1), .val (.int p2), .val (.int p3), .val (.int p4), .val (.ref b2), .val (.int (4 : Int32)), .val (.ref b183), .val (.int (2 : Int32)), .unset, .unset, .unset] [(.int (1 : Int32))]))
      refine gIstore Xt197 hx (hb hby at_257) (l' := #[.val (.int p0), .val (.int p1), .val (.int p2), .val (.int p3), .val (.int p4), .val (.ref b2), .val (.int (4 : Int32)), .val (.ref b183), .val (.int (2 : Int32)), .val (.int (1 : Int32)), .unset, .unset]) rfl ?_
      refine gIload Xt197 hx (hb hby at_259) rfl ?_
      refine gIconst Xt197 hx (hb hby at_261) (v := (1 : Int32)) rfl ?_
      refine gIcmpN Xt197 hx (hb hby at_262) (XT.ii_lt_f (by decide)) ?_
      show Goes p e below _ (Tt197.setTop (mkF m 265 #[.val (.int p0), .val (.int p1), .val (.int p2), .val (.int p3), .val (.int p4), .val (.ref b2), .val (.int (4 : Int32)), .val (.ref b183), .val (.int (2 : Int32)), .val (.int (1 : Int32)), .unset, .unset] []))
      refine gAload Xt197 hx (hb hby at_265) rfl rfl ?_
      refine gIload Xt197 hx (hb hby at_267) rfl ?_
      refine gAload Xt197 hx (hb hby at_269) rfl rfl ?_
      refine gIconst Xt197 hx (hb hby at_271) (v := (0 : Int32)) rfl ?_
      refine goIaload Xt197 hx hZ et197 Yc4 (x := t0) (hb hby at_272) (by decide) rfl ?_
      refine goCallS Xt197 hx hZ hown (hw _ (List.mem_of_getElem? (i := 12) rfl)) (hw _ (List.mem_of_getElem? (i := 13) rfl)) (hw _ (List.mem_of_getElem? (i := 3) rfl)) (hw _ (List.mem_of_getElem? (i := 14) rfl)) (by decide) (rmH2 l Z a0 hw t0 t2 [.int t2, .int t3] b183 t0 ht197 O200 Yd) 0 (by decide) (by decide) et197 (hsz rfl) [(.ref b183), (.int (2 : Int32)), (.int t0)] [] pd_3 rfl rfl rfl (Nat.le_of_eq rfl) (hb hby at_273) (by decide) (by decide) (fun Tt234 vt234 Lt234 Xt234 qt234 => ?_)
      obtain ⟨rfl, N235, et234⟩ := qt234
      have N236 := Fr.app N199 N235
      show Goes p e below _ (Tt234.setTop (mkF m 276 #[.val (.int p0), .val (.int p1), .val (.int p2), .val (.int p3), .val (.int p4), .val (.ref b2), .val (.int (4 : Int32)), .val (.ref b183), .val (.int (2 : Int32)), .val (.int (1 : Int32)), .unset, .unset] [(.int (own_has2 t0 t2 t0))]))
      refine gIfN Xt234 hx (hb hby at_276) (XT.i0_eq_f (by simp [own_has2, e1, e2, e3])) ?_
      show Goes p e below _ (Tt234.setTop (mkF m 279 #[.val (.int p0), .val (.int p1), .val (.int p2), .val (.int p3), .val (.int p4), .val (.ref b2), .val (.int (4 : Int32)), .val (.ref b183), .val (.int (2 : Int32)), .val (.int (1 : Int32)), .unset, .unset] []))
      refine gIload Xt234 hx (hb hby at_279) rfl ?_
      refine gIconst Xt234 hx (hb hby at_281) (v := (2 : Int32)) rfl ?_
      refine gIcmpN Xt234 hx (hb hby at_282) (XT.ii_lt_f (by decide)) ?_
      show Goes p e below _ (Tt234.setTop (mkF m 285 #[.val (.int p0), .val (.int p1), .val (.int p2), .val (.int p3), .val (.int p4), .val (.ref b2), .val (.int (4 : Int32)), .val (.ref b183), .val (.int (2 : Int32)), .val (.int (1 : Int32)), .unset, .unset] []))
      refine gAload Xt234 hx (hb hby at_285) rfl rfl ?_
      refine gIload Xt234 hx (hb hby at_287) rfl ?_
      refine gAload Xt234 hx (hb hby at_289) rfl rfl ?_
      refine gIconst Xt234 hx (hb hby at_291) (v := (1 : Int32)) rfl ?_
      refine goIaload Xt234 hx hZ et234 Yc4 (x := t1) (hb hby at_292) (by decide) rfl ?_
      refine goCallS Xt234 hx hZ hown (hw _ (List.mem_of_getElem? (i := 12) rfl)) (hw _ (List.mem_of_getElem? (i := 13) rfl)) (hw _ (List.mem_of_getElem? (i := 3) rfl)) (hw _ (List.mem_of_getElem? (i := 14) rfl)) (by decide) (rmH2 l Z a0 hw t0 t2 [.int t2, .int t3] b183 t1 ht197 O200 Yd) 0 (by decide) (by decide) et234 (hsz rfl) [(.ref b183), (.int (2 : Int32)), (.int t1)] [] pd_3 rfl rfl rfl (Nat.le_of_eq rfl) (hb hby at_293) (by decide) (by decide) (fun Tt237 vt237 Lt237 Xt237 qt237 => ?_)
      obtain ⟨rfl, N238, et237⟩ := qt237
      have N239 := Fr.app N236 N238
      show Goes p e below _ (Tt237.setTop (mkF m 296 #[.val (.int p0), .val (.int p1), .val (.int p2), .val (.int p3), .val (.int p4), .val (.ref b2), .val (.int (4 : Int32)), .val (.ref b183), .val (.int (2 : Int32)), .val (.int (1 : Int32)), .unset, .unset] [(.int (own_has2 t0 t2 t1))]))
      refine gIfN Xt237 hx (hb hby at_296) (XT.i0_eq_f (by simp [own_has2, e1, e2, e3])) ?_
      show Goes p e below _ (Tt237.setTop (mkF m 299 #[.val (.int p0), .val (.int p1), .val (.int p2), .val (.int p3), .val (.int p4), .val (.ref b2), .val (.int (4 : Int32)), .val (.ref b183), .val (.int (2 : Int32)), .val (.int (1 : Int32)), .unset, .unset] []))
      refine gIload Xt237 hx (hb hby at_299) rfl ?_
      refine gIconst Xt237 hx (hb hby at_301) (v := (3 : Int32)) rfl ?_
      refine gIcmpN Xt237 hx (hb hby at_302) (XT.ii_lt_f (by decide)) ?_
      show Goes p e below _ (Tt237.setTop (mkF m 305 #[.val (.int p0), .val (.int p1), .val (.int p2), .val (.int p3), .val (.int p4), .val (.ref b2), .val (.int (4 : Int32)), .val (.ref b183), .val (.int (2 : Int32)), .val (.int (1 : Int32)), .unset, .unset] []))
      refine gAload Xt237 hx (hb hby at_305) rfl rfl ?_
      refine gIload Xt237 hx (hb hby at_307) rfl ?_
      refine gAload Xt237 hx (hb hby at_309) rfl rfl ?_
      refine gIconst Xt237 hx (hb hby at_311) (v := (2 : Int32)) rfl ?_
      refine goIaload Xt237 hx hZ et237 Yc4 (x := t2) (hb hby at_312) (by decide) rfl ?_
      refine goCallS Xt237 hx hZ hown (hw _ (List.mem_of_getElem? (i := 12) rfl)) (hw _ (List.mem_of_getElem? (i := 13) rfl)) (hw _ (List.mem_of_getElem? (i := 3) rfl)) (hw _ (List.mem_of_getElem? (i := 14) rfl)) (by decide) (rmH2 l Z a0 hw t0 t2 [.int t2, .int t3] b183 t2 ht197 O200 Yd) 0 (by decide) (by decide) et237 (hsz rfl) [(.ref b183), (.int (2 : Int32)), (.int t2)] [] pd_3 rfl rfl rfl (Nat.le_of_eq rfl) (hb hby at_313) (by decide) (by decide) (fun Tt240 vt240 Lt240 Xt240 qt240 => ?_)
      obtain ⟨rfl, N241, et240⟩ := qt240
      have N242 := Fr.app N239 N241
      show Goes p e below _ (Tt240.setTop (mkF m 316 #[.val (.int p0), .val (.int p1), .val (.int p2), .val (.int p3), .val (.int p4), .val (.ref b2), .val (.int (4 : Int32)), .val (.ref b183), .val (.int (2 : Int32)), .val (.int (1 : Int32)), .unset, .unset] [(.int (own_has2 t0 t2 t2))]))
      refine gIfN Xt240 hx (hb hby at_316) (XT.i0_eq_f (by simp [own_has2, e1, e2, e3])) ?_
      show Goes p e below _ (Tt240.setTop (mkF m 319 #[.val (.int p0), .val (.int p1), .val (.int p2), .val (.int p3), .val (.int p4), .val (.ref b2), .val (.int (4 : Int32)), .val (.ref b183), .val (.int (2 : Int32)), .val (.int (1 : Int32)), .unset, .unset] []))
      refine gIload Xt240 hx (hb hby at_319) rfl ?_
      refine gIconst Xt240 hx (hb hby at_321) (v := (4 : Int32)) rfl ?_
      refine gIcmpN Xt240 hx (hb hby at_322) (XT.ii_lt_f (by decide)) ?_
      show Goes p e below _ (Tt240.setTop (mkF m 325 #[.val (.int p0), .val (.int p1), .val (.int p2), .val (.int p3), .val (.int p4), .val (.ref b2), .val (.int (4 : Int32)), .val (.ref b183), .val (.int (2 : Int32)), .val (.int (1 : Int32)), .unset, .unset] []))
      refine gAload Xt240 hx (hb hby at_325) rfl rfl ?_
      refine gIload Xt240 hx (hb hby at_327) rfl ?_
      refine gAload Xt240 hx (hb hby at_329) rfl rfl ?_
      refine gIconst Xt240 hx (hb hby at_331) (v := (3 : Int32)) rfl ?_
      refine goIaload Xt240 hx hZ et240 Yc4 (x := t3) (hb hby at_332) (by decide) rfl ?_
      refine goCallS Xt240 hx hZ hown (hw _ (List.mem_of_getElem? (i := 12) rfl)) (hw _ (List.mem_of_getElem? (i := 13) rfl)) (hw _ (List.mem_of_getElem? (i := 3) rfl)) (hw _ (List.mem_of_getElem? (i := 14) rfl)) (by decide) (rmH2 l Z a0 hw t0 t2 [.int t2, .int t3] b183 t3 ht197 O200 Yd) 0 (by decide) (by decide) et240 (hsz rfl) [(.ref b183), (.int (2 : Int32)), (.int t3)] [] pd_3 rfl rfl rfl (Nat.le_of_eq rfl) (hb hby at_333) (by decide) (by decide) (fun Tt243 vt243 Lt243 Xt243 qt243 => ?_)
      obtain ⟨rfl, N244, et243⟩ := qt243
      have N245 := Fr.app N242 N244
      show Goes p e below _ (Tt243.setTop (mkF m 336 #[.val (.int p0), .val (.int p1), .val (.int p2), .val (.int p3), .val (.int p4), .val (.ref b2), .val (.int (4 : Int32)), .val (.ref b183), .val (.int (2 : Int32)), .val (.int (1 : Int32)), .unset, .unset] [(.int (own_has2 t0 t2 t3))]))
      refine gIfN Xt243 hx (hb hby at_336) (XT.i0_eq_f (by simp [own_has2, e1, e2, e3])) ?_
      show Goes p e below _ (Tt243.setTop (mkF m 339 #[.val (.int p0), .val (.int p1), .val (.int p2), .val (.int p3), .val (.int p4), .val (.ref b2), .val (.int (4 : Int32)), .val (.ref b183), .val (.int (2 : Int32)), .val (.int (1 : Int32)), .unset, .unset] []))
      refine gIconst Xt243 hx (hb hby at_339) (v := (1 : Int32)) rfl ?_
      refine gGoto Xt243 hx (hb hby at_340) (pc' := 344) (by decide) (by decide) ?_
      show Goes p e below _ (Tt243.setTop (mkF m 344 #[.val (.int p0), .val (.int p1), .val (.int p2), .val (.int p3), .val (.int p4), .val (.ref b2), .val (.int (4 : Int32)), .val (.ref b183), .val (.int (2 : Int32)), .val (.int (1 : Int32)), .unset, .unset] [(.int (1 : Int32))]))
      refine gIstore Xt243 hx (hb hby at_344) (l' := #[.val (.int p0), .val (.int p1), .val (.int p2), .val (.int p3), .val (.int p4), .val (.ref b2), .val (.int (4 : Int32)), .val (.ref b183), .val (.int (2 : Int32)), .val (.int (1 : Int32)), .val (.int (1 : Int32)), .unset]) rfl ?_
      refine gIload Xt243 hx (hb hby at_346) rfl ?_
      refine gIconst Xt243 hx (hb hby at_348) (v := (1 : Int32)) rfl ?_
      refine gIcmpN Xt243 hx (hb hby at_349) (XT.ii_lt_f (by decide)) ?_
      show Goes p e below _ (Tt243.setTop (mkF m 352 #[.val (.int p0), .val (.int p1), .val (.int p2), .val (.int p3), .val (.int p4), .val (.ref b2), .val (.int (4 : Int32)), .val (.ref b183), .val (.int (2 : Int32)), .val (.int (1 : Int32)), .val (.int (1 : Int32)), .unset] []))
      refine gAload Xt243 hx (hb hby at_352) rfl rfl ?_
      refine gIload Xt243 hx (hb hby at_354) rfl ?_
      refine gAload Xt243 hx (hb hby at_356) rfl rfl ?_
      refine gIconst Xt243 hx (hb hby at_358) (v := (0 : Int32)) rfl ?_
      refine goIaload Xt243 hx hZ et243 Yd (x := t0) (hb hby at_359) (by decide) rfl ?_
      refine goCallS Xt243 hx hZ hown (hw _ (List.mem_of_getElem? (i := 12) rfl)) (hw _ (List.mem_of_getElem? (i := 13) rfl)) (hw _ (List.mem_of_getElem? (i := 3) rfl)) (hw _ (List.mem_of_getElem? (i := 14) rfl)) (by decide) (rmH4 l Z a0 hw t0 t1 t2 t3 [] b2 t0 ht197 O200 Yc4) 0 (by decide) (by decide) et243 (hsz rfl) [(.ref b2), (.int (4 : Int32)), (.int t0)] [] pd_3 rfl rfl rfl (Nat.le_of_eq rfl) (hb hby at_360) (by decide) (by decide) (fun Tt246 vt246 Lt246 Xt246 qt246 => ?_)
      obtain ⟨rfl, N247, et246⟩ := qt246
      have N248 := Fr.app N245 N247
      show Goes p e below _ (Tt246.setTop (mkF m 363 #[.val (.int p0), .val (.int p1), .val (.int p2), .val (.int p3), .val (.int p4), .val (.ref b2), .val (.int (4 : Int32)), .val (.ref b183), .val (.int (2 : Int32)), .val (.int (1 : Int32)), .val (.int (1 : Int32)), .unset] [(.int (own_has4 t0 t1 t2 t3 t0))]))
      refine gIfN Xt246 hx (hb hby at_363) (XT.i0_eq_f (by simp [own_has4, e1, e2, e3])) ?_
      show Goes p e below _ (Tt246.setTop (mkF m 366 #[.val (.int p0), .val (.int p1), .val (.int p2), .val (.int p3), .val (.int p4), .val (.ref b2), .val (.int (4 : Int32)), .val (.ref b183), .val (.int (2 : Int32)), .val (.int (1 : Int32)), .val (.int (1 : Int32)), .unset] []))
      refine gIload Xt246 hx (hb hby at_366) rfl ?_
      refine gIconst Xt246 hx (hb hby at_368) (v := (2 : Int32)) rfl ?_
      refine gIcmpN Xt246 hx (hb hby at_369) (XT.ii_lt_f (by decide)) ?_
      show Goes p e below _ (Tt246.setTop (mkF m 372 #[.val (.int p0), .val (.int p1), .val (.int p2), .val (.int p3), .val (.int p4), .val (.ref b2), .val (.int (4 : Int32)), .val (.ref b183), .val (.int (2 : Int32)), .val (.int (1 : Int32)), .val (.int (1 : Int32)), .unset] []))
      refine gAload Xt246 hx (hb hby at_372) rfl rfl ?_
      refine gIload Xt246 hx (hb hby at_374) rfl ?_
      refine gAload Xt246 hx (hb hby at_376) rfl rfl ?_
      refine gIconst Xt246 hx (hb hby at_378) (v := (1 : Int32)) rfl ?_
      refine goIaload Xt246 hx hZ et246 Yd (x := t2) (hb hby at_379) (by decide) rfl ?_
      refine goCallS Xt246 hx hZ hown (hw _ (List.mem_of_getElem? (i := 12) rfl)) (hw _ (List.mem_of_getElem? (i := 13) rfl)) (hw _ (List.mem_of_getElem? (i := 3) rfl)) (hw _ (List.mem_of_getElem? (i := 14) rfl)) (by decide) (rmH4 l Z a0 hw t0 t1 t2 t3 [] b2 t2 ht197 O200 Yc4) 0 (by decide) (by decide) et246 (hsz rfl) [(.ref b2), (.int (4 : Int32)), (.int t2)] [] pd_3 rfl rfl rfl (Nat.le_of_eq rfl) (hb hby at_380) (by decide) (by decide) (fun Tt249 vt249 Lt249 Xt249 qt249 => ?_)
      obtain ⟨rfl, N250, et249⟩ := qt249
      have N251 := Fr.app N248 N250
      show Goes p e below _ (Tt249.setTop (mkF m 383 #[.val (.int p0), .val (.int p1), .val (.int p2), .val (.int p3), .val (.int p4), .val (.ref b2), .val (.int (4 : Int32)), .val (.ref b183), .val (.int (2 : Int32)), .val (.int (1 : Int32)), .val (.int (1 : Int32)), .unset] [(.int (own_has4 t0 t1 t2 t3 t2))]))
      refine gIfN Xt249 hx (hb hby at_383) (XT.i0_eq_f (by simp [own_has4, e1, e2, e3])) ?_
      show Goes p e below _ (Tt249.setTop (mkF m 386 #[.val (.int p0), .val (.int p1), .val (.int p2), .val (.int p3), .val (.int p4), .val (.ref b2), .val (.int (4 : Int32)), .val (.ref b183), .val (.int (2 : Int32)), .val (.int (1 : Int32)), .val (.int (1 : Int32)), .unset] []))
      refine gIload Xt249 hx (hb hby at_386) rfl ?_
      refine gIconst Xt249 hx (hb hby at_388) (v := (3 : Int32)) rfl ?_
      refine gIcmpY Xt249 hx (hb hby at_389) (pc' := 406) (XT.ii_lt_t (by decide)) (by decide) (by decide) ?_
      show Goes p e below _ (Tt249.setTop (mkF m 406 #[.val (.int p0), .val (.int p1), .val (.int p2), .val (.int p3), .val (.int p4), .val (.ref b2), .val (.int (4 : Int32)), .val (.ref b183), .val (.int (2 : Int32)), .val (.int (1 : Int32)), .val (.int (1 : Int32)), .unset] []))
      refine gIload Xt249 hx (hb hby at_406) rfl ?_
      refine gIconst Xt249 hx (hb hby at_408) (v := (4 : Int32)) rfl ?_
      refine gIcmpY Xt249 hx (hb hby at_409) (pc' := 426) (XT.ii_lt_t (by decide)) (by decide) (by decide) ?_
      show Goes p e below _ (Tt249.setTop (mkF m 426 #[.val (.int p0), .val (.int p1), .val (.int p2), .val (.int p3), .val (.int p4), .val (.ref b2), .val (.int (4 : Int32)), .val (.ref b183), .val (.int (2 : Int32)), .val (.int (1 : Int32)), .val (.int (1 : Int32)), .unset] []))
      refine gIconst Xt249 hx (hb hby at_426) (v := (1 : Int32)) rfl ?_
      refine gGoto Xt249 hx (hb hby at_427) (pc' := 431) (by decide) (by decide) ?_
      show Goes p e below _ (Tt249.setTop (mkF m 431 #[.val (.int p0), .val (.int p1), .val (.int p2), .val (.int p3), .val (.int p4), .val (.ref b2), .val (.int (4 : Int32)), .val (.ref b183), .val (.int (2 : Int32)), .val (.int (1 : Int32)), .val (.int (1 : Int32)), .unset] [(.int (1 : Int32))]))
      refine gIstore Xt249 hx (hb hby at_431) (l' := #[.val (.int p0), .val (.int p1), .val (.int p2), .val (.int p3), .val (.int p4), .val (.ref b2), .val (.int (4 : Int32)), .val (.ref b183), .val (.int (2 : Int32)), .val (.int (1 : Int32)), .val (.int (1 : Int32)), .val (.int (1 : Int32))]) rfl ?_
      refine gIload Xt249 hx (hb hby at_433) rfl ?_
      refine gIfN Xt249 hx (hb hby at_435) (XT.i0_eq_f (by decide)) ?_
      show Goes p e below _ (Tt249.setTop (mkF m 438 #[.val (.int p0), .val (.int p1), .val (.int p2), .val (.int p3), .val (.int p4), .val (.ref b2), .val (.int (4 : Int32)), .val (.ref b183), .val (.int (2 : Int32)), .val (.int (1 : Int32)), .val (.int (1 : Int32)), .val (.int (1 : Int32))] []))
      refine gIload Xt249 hx (hb hby at_438) rfl ?_
      refine gIfN Xt249 hx (hb hby at_440) (XT.i0_eq_f (by decide)) ?_
      show Goes p e below _ (Tt249.setTop (mkF m 443 #[.val (.int p0), .val (.int p1), .val (.int p2), .val (.int p3), .val (.int p4), .val (.ref b2), .val (.int (4 : Int32)), .val (.ref b183), .val (.int (2 : Int32)), .val (.int (1 : Int32)), .val (.int (1 : Int32)), .val (.int (1 : Int32))] []))
      refine gIload Xt249 hx (hb hby at_443) rfl ?_
      refine gIfN Xt249 hx (hb hby at_445) (XT.i0_eq_f (by decide)) ?_
      show Goes p e below _ (Tt249.setTop (mkF m 448 #[.val (.int p0), .val (.int p1), .val (.int p2), .val (.int p3), .val (.int p4), .val (.ref b2), .val (.int (4 : Int32)), .val (.ref b183), .val (.int (2 : Int32)), .val (.int (1 : Int32)), .val (.int (1 : Int32)), .val (.int (1 : Int32))] []))
      refine gIconst Xt249 hx (hb hby at_448) (v := (1 : Int32)) rfl ?_
      refine gGoto Xt249 hx (hb hby at_449) (pc' := 453) (by decide) (by decide) ?_
      show Goes p e below _ (Tt249.setTop (mkF m 453 #[.val (.int p0), .val (.int p1), .val (.int p2), .val (.int p3), .val (.int p4), .val (.ref b2), .val (.int (4 : Int32)), .val (.ref b183), .val (.int (2 : Int32)), .val (.int (1 : Int32)), .val (.int (1 : Int32)), .val (.int (1 : Int32))] [(.int (1 : Int32))]))
      exact goRetN Xt249 hx (t := .boolean) hret hlocks (by simp) (hb hby at_453) (z' := (1 : Int32)) rfl (by decide) (by decide) et249 (⟨rfl, N251⟩)
    · show Goes p e below _ (Tt197.setTop (mkF m 185 #[.val (.int p0), .val (.int p1), .val (.int p2), .val (.int p3), .val (.int p4), .val (.ref b2), .val (.int (4 : Int32)), .val (.ref b183), .unset, .unset, .unset, .unset] [(.int (3 : Int32))]))
      have f1 : t1.toInt = t0.toInt := by rw [e1]
      have f2 : ¬ t2.toInt = t1.toInt := fun z => e2 (Int32.toInt_inj.mp z)
      have f3 : ¬ t3.toInt = t2.toInt := fun z => e3 (Int32.toInt_inj.mp z)
      refine gIstore Xt197 hx (hb hby at_185) (l' := #[.val (.int p0), .val (.int p1), .val (.int p2), .val (.int p3), .val (.int p4), .val (.ref b2), .val (.int (4 : Int32)), .val (.ref b183), .val (.int (3 : Int32)), .unset, .unset, .unset]) rfl ?_
      refine gIload Xt197 hx (hb hby at_187) rfl ?_
      refine gIfN Xt197 hx (hb hby at_189) (XT.i0_lt_f (by decide)) ?_
      show Goes p e below _ (Tt197.setTop (mkF m 192 #[.val (.int p0), .val (.int p1), .val (.int p2), .val (.int p3), .val (.int p4), .val (.ref b2), .val (.int (4 : Int32)), .val (.ref b183), .val (.int (3 : Int32)), .unset, .unset, .unset] []))
      refine gIload Xt197 hx (hb hby at_192) rfl ?_
      refine gIload Xt197 hx (hb hby at_194) rfl ?_
      refine gIcmpY Xt197 hx (hb hby at_196) (pc' := 201) (XT.ii_le_t (by decide)) (by decide) (by decide) ?_
      show Goes p e below _ (Tt197.setTop (mkF m 201 #[.val (.int p0), .val (.int p1), .val (.int p2), .val (.int p3), .val (.int p4), .val (.ref b2), .val (.int (4 : Int32)), .val (.ref b183), .val (.int (3 : Int32)), .unset, .unset, .unset] []))
      refine gIload Xt197 hx (hb hby at_201) rfl ?_
      refine gIconst Xt197 hx (hb hby at_203) (v := (2 : Int32)) rfl ?_
      refine gIcmpN Xt197 hx (hb hby at_204) (XT.ii_lt_f (by decide)) ?_
      show Goes p e below _ (Tt197.setTop (mkF m 207 #[.val (.int p0), .val (.int p1), .val (.int p2), .val (.int p3), .val (.int p4), .val (.ref b2), .val (.int (4 : Int32)), .val (.ref b183), .val (.int (3 : Int32)), .unset, .unset, .unset] []))
      refine gAload Xt197 hx (hb hby at_207) rfl rfl ?_
      refine gIconst Xt197 hx (hb hby at_209) (v := (0 : Int32)) rfl ?_
      refine goIaload Xt197 hx hZ et197 Yd (x := t0) (hb hby at_210) (by decide) rfl ?_
      refine gAload Xt197 hx (hb hby at_211) rfl rfl ?_
      refine gIconst Xt197 hx (hb hby at_213) (v := (1 : Int32)) rfl ?_
      refine goIaload Xt197 hx hZ et197 Yd (x := t2) (hb hby at_214) (by decide) rfl ?_
      refine gIcmpN Xt197 hx (hb hby at_215) (XT.ii_ge_f (Int32.lt_iff_toInt_lt.mpr (by omega))) ?_
      show Goes p e below _ (Tt197.setTop (mkF m 218 #[.val (.int p0), .val (.int p1), .val (.int p2), .val (.int p3), .val (.int p4), .val (.ref b2), .val (.int (4 : Int32)), .val (.ref b183), .val (.int (3 : Int32)), .unset, .unset, .unset] []))
      refine gIload Xt197 hx (hb hby at_218) rfl ?_
      refine gIconst Xt197 hx (hb hby at_220) (v := (3 : Int32)) rfl ?_
      refine gIcmpN Xt197 hx (hb hby at_221) (XT.ii_lt_f (by decide)) ?_
      show Goes p e below _ (Tt197.setTop (mkF m 224 #[.val (.int p0), .val (.int p1), .val (.int p2), .val (.int p3), .val (.int p4), .val (.ref b2), .val (.int (4 : Int32)), .val (.ref b183), .val (.int (3 : Int32)), .unset, .unset, .unset] []))
      refine gAload Xt197 hx (hb hby at_224) rfl rfl ?_
      refine gIconst Xt197 hx (hb hby at_226) (v := (1 : Int32)) rfl ?_
      refine goIaload Xt197 hx hZ et197 Yd (x := t2) (hb hby at_227) (by decide) rfl ?_
      refine gAload Xt197 hx (hb hby at_228) rfl rfl ?_
      refine gIconst Xt197 hx (hb hby at_230) (v := (2 : Int32)) rfl ?_
      refine goIaload Xt197 hx hZ et197 Yd (x := t3) (hb hby at_231) (by decide) rfl ?_
      refine gIcmpN Xt197 hx (hb hby at_232) (XT.ii_ge_f (Int32.lt_iff_toInt_lt.mpr (by omega))) ?_
      show Goes p e below _ (Tt197.setTop (mkF m 235 #[.val (.int p0), .val (.int p1), .val (.int p2), .val (.int p3), .val (.int p4), .val (.ref b2), .val (.int (4 : Int32)), .val (.ref b183), .val (.int (3 : Int32)), .unset, .unset, .unset] []))
      refine gIload Xt197 hx (hb hby at_235) rfl ?_
      refine gIconst Xt197 hx (hb hby at_237) (v := (4 : Int32)) rfl ?_
      refine gIcmpY Xt197 hx (hb hby at_238) (pc' := 252) (XT.ii_lt_t (by decide)) (by decide) (by decide) ?_
      show Goes p e below _ (Tt197.setTop (mkF m 252 #[.val (.int p0), .val (.int p1), .val (.int p2), .val (.int p3), .val (.int p4), .val (.ref b2), .val (.int (4 : Int32)), .val (.ref b183), .val (.int (3 : Int32)), .unset, .unset, .unset] []))
      refine gIconst Xt197 hx (hb hby at_252) (v := (1 : Int32)) rfl ?_
      refine gGoto Xt197 hx (hb hby at_253) (pc' := 257) (by decide) (by decide) ?_
      show Goes p e below _ (Tt197.setTop (mkF m 257 #[.val (.int p0), .val (.int p1), .val (.int p2), .val (.int p3), .val (.int p4), .val (.ref b2), .val (.int (4 : Int32)), .val (.ref b183), .val (.int (3 : Int32)), .unset, .unset, .unset] [(.int (1 : Int32))]))
      refine gIstore Xt197 hx (hb hby at_257) (l' := #[.val (.int p0), .val (.int p1), .val (.int p2), .val (.int p3), .val (.int p4), .val (.ref b2), .val (.int (4 : Int32)), .val (.ref b183), .val (.int (3 : Int32)), .val (.int (1 : Int32)), .unset, .unset]) rfl ?_
      refine gIload Xt197 hx (hb hby at_259) rfl ?_
      refine gIconst Xt197 hx (hb hby at_261) (v := (1 : Int32)) rfl ?_
      refine gIcmpN Xt197 hx (hb hby at_262) (XT.ii_lt_f (by decide)) ?_
      show Goes p e below _ (Tt197.setTop (mkF m 265 #[.val (.int p0), .val (.int p1), .val (.int p2), .val (.int p3), .val (.int p4), .val (.ref b2), .val (.int (4 : Int32)), .val (.ref b183), .val (.int (3 : Int32)), .val (.int (1 : Int32)), .unset, .unset] []))
      refine gAload Xt197 hx (hb hby at_265) rfl rfl ?_
      refine gIload Xt197 hx (hb hby at_267) rfl ?_
      refine gAload Xt197 hx (hb hby at_269) rfl rfl ?_
      refine gIconst Xt197 hx (hb hby at_271) (v := (0 : Int32)) rfl ?_
      refine goIaload Xt197 hx hZ et197 Yc4 (x := t0) (hb hby at_272) (by decide) rfl ?_
      refine goCallS Xt197 hx hZ hown (hw _ (List.mem_of_getElem? (i := 12) rfl)) (hw _ (List.mem_of_getElem? (i := 13) rfl)) (hw _ (List.mem_of_getElem? (i := 3) rfl)) (hw _ (List.mem_of_getElem? (i := 14) rfl)) (by decide) (rmH3 l Z a0 hw t0 t2 t3 [.int t3] b183 t0 ht197 O200 Yd) 0 (by decide) (by decide) et197 (hsz rfl) [(.ref b183), (.int (3 : Int32)), (.int t0)] [] pd_3 rfl rfl rfl (Nat.le_of_eq rfl) (hb hby at_273) (by decide) (by decide) (fun Tt252 vt252 Lt252 Xt252 qt252 => ?_)
      obtain ⟨rfl, N253, et252⟩ := qt252
      have N254 := Fr.app N199 N253
      show Goes p e below _ (Tt252.setTop (mkF m 276 #[.val (.int p0), .val (.int p1), .val (.int p2), .val (.int p3), .val (.int p4), .val (.ref b2), .val (.int (4 : Int32)), .val (.ref b183), .val (.int (3 : Int32)), .val (.int (1 : Int32)), .unset, .unset] [(.int (own_has3 t0 t2 t3 t0))]))
      refine gIfN Xt252 hx (hb hby at_276) (XT.i0_eq_f (by simp [own_has3, e1, e2, e3])) ?_
      show Goes p e below _ (Tt252.setTop (mkF m 279 #[.val (.int p0), .val (.int p1), .val (.int p2), .val (.int p3), .val (.int p4), .val (.ref b2), .val (.int (4 : Int32)), .val (.ref b183), .val (.int (3 : Int32)), .val (.int (1 : Int32)), .unset, .unset] []))
      refine gIload Xt252 hx (hb hby at_279) rfl ?_
      refine gIconst Xt252 hx (hb hby at_281) (v := (2 : Int32)) rfl ?_
      refine gIcmpN Xt252 hx (hb hby at_282) (XT.ii_lt_f (by decide)) ?_
      show Goes p e below _ (Tt252.setTop (mkF m 285 #[.val (.int p0), .val (.int p1), .val (.int p2), .val (.int p3), .val (.int p4), .val (.ref b2), .val (.int (4 : Int32)), .val (.ref b183), .val (.int (3 : Int32)), .val (.int (1 : Int32)), .unset, .unset] []))
      refine gAload Xt252 hx (hb hby at_285) rfl rfl ?_
      refine gIload Xt252 hx (hb hby at_287) rfl ?_
      refine gAload Xt252 hx (hb hby at_289) rfl rfl ?_
      refine gIconst Xt252 hx (hb hby at_291) (v := (1 : Int32)) rfl ?_
      refine goIaload Xt252 hx hZ et252 Yc4 (x := t1) (hb hby at_292) (by decide) rfl ?_
      refine goCallS Xt252 hx hZ hown (hw _ (List.mem_of_getElem? (i := 12) rfl)) (hw _ (List.mem_of_getElem? (i := 13) rfl)) (hw _ (List.mem_of_getElem? (i := 3) rfl)) (hw _ (List.mem_of_getElem? (i := 14) rfl)) (by decide) (rmH3 l Z a0 hw t0 t2 t3 [.int t3] b183 t1 ht197 O200 Yd) 0 (by decide) (by decide) et252 (hsz rfl) [(.ref b183), (.int (3 : Int32)), (.int t1)] [] pd_3 rfl rfl rfl (Nat.le_of_eq rfl) (hb hby at_293) (by decide) (by decide) (fun Tt255 vt255 Lt255 Xt255 qt255 => ?_)
      obtain ⟨rfl, N256, et255⟩ := qt255
      have N257 := Fr.app N254 N256
      show Goes p e below _ (Tt255.setTop (mkF m 296 #[.val (.int p0), .val (.int p1), .val (.int p2), .val (.int p3), .val (.int p4), .val (.ref b2), .val (.int (4 : Int32)), .val (.ref b183), .val (.int (3 : Int32)), .val (.int (1 : Int32)), .unset, .unset] [(.int (own_has3 t0 t2 t3 t1))]))
      refine gIfN Xt255 hx (hb hby at_296) (XT.i0_eq_f (by simp [own_has3, e1, e2, e3])) ?_
      show Goes p e below _ (Tt255.setTop (mkF m 299 #[.val (.int p0), .val (.int p1), .val (.int p2), .val (.int p3), .val (.int p4), .val (.ref b2), .val (.int (4 : Int32)), .val (.ref b183), .val (.int (3 : Int32)), .val (.int (1 : Int32)), .unset, .unset] []))
      refine gIload Xt255 hx (hb hby at_299) rfl ?_
      refine gIconst Xt255 hx (hb hby at_301) (v := (3 : Int32)) rfl ?_
      refine gIcmpN Xt255 hx (hb hby at_302) (XT.ii_lt_f (by decide)) ?_
      show Goes p e below _ (Tt255.setTop (mkF m 305 #[.val (.int p0), .val (.int p1), .val (.int p2), .val (.int p3), .val (.int p4), .val (.ref b2), .val (.int (4 : Int32)), .val (.ref b183), .val (.int (3 : Int32)), .val (.int (1 : Int32)), .unset, .unset] []))
      refine gAload Xt255 hx (hb hby at_305) rfl rfl ?_
      refine gIload Xt255 hx (hb hby at_307) rfl ?_
      refine gAload Xt255 hx (hb hby at_309) rfl rfl ?_
      refine gIconst Xt255 hx (hb hby at_311) (v := (2 : Int32)) rfl ?_
      refine goIaload Xt255 hx hZ et255 Yc4 (x := t2) (hb hby at_312) (by decide) rfl ?_
      refine goCallS Xt255 hx hZ hown (hw _ (List.mem_of_getElem? (i := 12) rfl)) (hw _ (List.mem_of_getElem? (i := 13) rfl)) (hw _ (List.mem_of_getElem? (i := 3) rfl)) (hw _ (List.mem_of_getElem? (i := 14) rfl)) (by decide) (rmH3 l Z a0 hw t0 t2 t3 [.int t3] b183 t2 ht197 O200 Yd) 0 (by decide) (by decide) et255 (hsz rfl) [(.ref b183), (.int (3 : Int32)), (.int t2)] [] pd_3 rfl rfl rfl (Nat.le_of_eq rfl) (hb hby at_313) (by decide) (by decide) (fun Tt258 vt258 Lt258 Xt258 qt258 => ?_)
      obtain ⟨rfl, N259, et258⟩ := qt258
      have N260 := Fr.app N257 N259
      show Goes p e below _ (Tt258.setTop (mkF m 316 #[.val (.int p0), .val (.int p1), .val (.int p2), .val (.int p3), .val (.int p4), .val (.ref b2), .val (.int (4 : Int32)), .val (.ref b183), .val (.int (3 : Int32)), .val (.int (1 : Int32)), .unset, .unset] [(.int (own_has3 t0 t2 t3 t2))]))
      refine gIfN Xt258 hx (hb hby at_316) (XT.i0_eq_f (by simp [own_has3, e1, e2, e3])) ?_
      show Goes p e below _ (Tt258.setTop (mkF m 319 #[.val (.int p0), .val (.int p1), .val (.int p2), .val (.int p3), .val (.int p4), .val (.ref b2), .val (.int (4 : Int32)), .val (.ref b183), .val (.int (3 : Int32)), .val (.int (1 : Int32)), .unset, .unset] []))
      refine gIload Xt258 hx (hb hby at_319) rfl ?_
      refine gIconst Xt258 hx (hb hby at_321) (v := (4 : Int32)) rfl ?_
      refine gIcmpN Xt258 hx (hb hby at_322) (XT.ii_lt_f (by decide)) ?_
      show Goes p e below _ (Tt258.setTop (mkF m 325 #[.val (.int p0), .val (.int p1), .val (.int p2), .val (.int p3), .val (.int p4), .val (.ref b2), .val (.int (4 : Int32)), .val (.ref b183), .val (.int (3 : Int32)), .val (.int (1 : Int32)), .unset, .unset] []))
      refine gAload Xt258 hx (hb hby at_325) rfl rfl ?_
      refine gIload Xt258 hx (hb hby at_327) rfl ?_
      refine gAload Xt258 hx (hb hby at_329) rfl rfl ?_
      refine gIconst Xt258 hx (hb hby at_331) (v := (3 : Int32)) rfl ?_
      refine goIaload Xt258 hx hZ et258 Yc4 (x := t3) (hb hby at_332) (by decide) rfl ?_
      refine goCallS Xt258 hx hZ hown (hw _ (List.mem_of_getElem? (i := 12) rfl)) (hw _ (List.mem_of_getElem? (i := 13) rfl)) (hw _ (List.mem_of_getElem? (i := 3) rfl)) (hw _ (List.mem_of_getElem? (i := 14) rfl)) (by decide) (rmH3 l Z a0 hw t0 t2 t3 [.int t3] b183 t3 ht197 O200 Yd) 0 (by decide) (by decide) et258 (hsz rfl) [(.ref b183), (.int (3 : Int32)), (.int t3)] [] pd_3 rfl rfl rfl (Nat.le_of_eq rfl) (hb hby at_333) (by decide) (by decide) (fun Tt261 vt261 Lt261 Xt261 qt261 => ?_)
      obtain ⟨rfl, N262, et261⟩ := qt261
      have N263 := Fr.app N260 N262
      show Goes p e below _ (Tt261.setTop (mkF m 336 #[.val (.int p0), .val (.int p1), .val (.int p2), .val (.int p3), .val (.int p4), .val (.ref b2), .val (.int (4 : Int32)), .val (.ref b183), .val (.int (3 : Int32)), .val (.int (1 : Int32)), .unset, .unset] [(.int (own_has3 t0 t2 t3 t3))]))
      refine gIfN Xt261 hx (hb hby at_336) (XT.i0_eq_f (by simp [own_has3, e1, e2, e3])) ?_
      show Goes p e below _ (Tt261.setTop (mkF m 339 #[.val (.int p0), .val (.int p1), .val (.int p2), .val (.int p3), .val (.int p4), .val (.ref b2), .val (.int (4 : Int32)), .val (.ref b183), .val (.int (3 : Int32)), .val (.int (1 : Int32)), .unset, .unset] []))
      refine gIconst Xt261 hx (hb hby at_339) (v := (1 : Int32)) rfl ?_
      refine gGoto Xt261 hx (hb hby at_340) (pc' := 344) (by decide) (by decide) ?_
      show Goes p e below _ (Tt261.setTop (mkF m 344 #[.val (.int p0), .val (.int p1), .val (.int p2), .val (.int p3), .val (.int p4), .val (.ref b2), .val (.int (4 : Int32)), .val (.ref b183), .val (.int (3 : Int32)), .val (.int (1 : Int32)), .unset, .unset] [(.int (1 : Int32))]))
      refine gIstore Xt261 hx (hb hby at_344) (l' := #[.val (.int p0), .val (.int p1), .val (.int p2), .val (.int p3), .val (.int p4), .val (.ref b2), .val (.int (4 : Int32)), .val (.ref b183), .val (.int (3 : Int32)), .val (.int (1 : Int32)), .val (.int (1 : Int32)), .unset]) rfl ?_
      refine gIload Xt261 hx (hb hby at_346) rfl ?_
      refine gIconst Xt261 hx (hb hby at_348) (v := (1 : Int32)) rfl ?_
      refine gIcmpN Xt261 hx (hb hby at_349) (XT.ii_lt_f (by decide)) ?_
      show Goes p e below _ (Tt261.setTop (mkF m 352 #[.val (.int p0), .val (.int p1), .val (.int p2), .val (.int p3), .val (.int p4), .val (.ref b2), .val (.int (4 : Int32)), .val (.ref b183), .val (.int (3 : Int32)), .val (.int (1 : Int32)), .val (.int (1 : Int32)), .unset] []))
      refine gAload Xt261 hx (hb hby at_352) rfl rfl ?_
      refine gIload Xt261 hx (hb hby at_354) rfl ?_
      refine gAload Xt261 hx (hb hby at_356) rfl rfl ?_
      refine gIconst Xt261 hx (hb hby at_358) (v := (0 : Int32)) rfl ?_
      refine goIaload Xt261 hx hZ et261 Yd (x := t0) (hb hby at_359) (by decide) rfl ?_
      refine goCallS Xt261 hx hZ hown (hw _ (List.mem_of_getElem? (i := 12) rfl)) (hw _ (List.mem_of_getElem? (i := 13) rfl)) (hw _ (List.mem_of_getElem? (i := 3) rfl)) (hw _ (List.mem_of_getElem? (i := 14) rfl)) (by decide) (rmH4 l Z a0 hw t0 t1 t2 t3 [] b2 t0 ht197 O200 Yc4) 0 (by decide) (by decide) et261 (hsz rfl) [(.ref b2), (.int (4 : Int32)), (.int t0)] [] pd_3 rfl rfl rfl (Nat.le_of_eq rfl) (hb hby at_360) (by decide) (by decide) (fun Tt264 vt264 Lt264 Xt264 qt264 => ?_)
      obtain ⟨rfl, N265, et264⟩ := qt264
      have N266 := Fr.app N263 N265
      show Goes p e below _ (Tt264.setTop (mkF m 363 #[.val (.int p0), .val (.int p1), .val (.int p2), .val (.int p3), .val (.int p4), .val (.ref b2), .val (.int (4 : Int32)), .val (.ref b183), .val (.int (3 : Int32)), .val (.int (1 : Int32)), .val (.int (1 : Int32)), .unset] [(.int (own_has4 t0 t1 t2 t3 t0))]))
      refine gIfN Xt264 hx (hb hby at_363) (XT.i0_eq_f (by simp [own_has4, e1, e2, e3])) ?_
      show Goes p e below _ (Tt264.setTop (mkF m 366 #[.val (.int p0), .val (.int p1), .val (.int p2), .val (.int p3), .val (.int p4), .val (.ref b2), .val (.int (4 : Int32)), .val (.ref b183), .val (.int (3 : Int32)), .val (.int (1 : Int32)), .val (.int (1 : Int32)), .unset] []))
      refine gIload Xt264 hx (hb hby at_366) rfl ?_
      refine gIconst Xt264 hx (hb hby at_368) (v := (2 : Int32)) rfl ?_
      refine gIcmpN Xt264 hx (hb hby at_369) (XT.ii_lt_f (by decide)) ?_
      show Goes p e below _ (Tt264.setTop (mkF m 372 #[.val (.int p0), .val (.int p1), .val (.int p2), .val (.int p3), .val (.int p4), .val (.ref b2), .val (.int (4 : Int32)), .val (.ref b183), .val (.int (3 : Int32)), .val (.int (1 : Int32)), .val (.int (1 : Int32)), .unset] []))
      refine gAload Xt264 hx (hb hby at_372) rfl rfl ?_
      refine gIload Xt264 hx (hb hby at_374) rfl ?_
      refine gAload Xt264 hx (hb hby at_376) rfl rfl ?_
      refine gIconst Xt264 hx (hb hby at_378) (v := (1 : Int32)) rfl ?_
      refine goIaload Xt264 hx hZ et264 Yd (x := t2) (hb hby at_379) (by decide) rfl ?_
      refine goCallS Xt264 hx hZ hown (hw _ (List.mem_of_getElem? (i := 12) rfl)) (hw _ (List.mem_of_getElem? (i := 13) rfl)) (hw _ (List.mem_of_getElem? (i := 3) rfl)) (hw _ (List.mem_of_getElem? (i := 14) rfl)) (by decide) (rmH4 l Z a0 hw t0 t1 t2 t3 [] b2 t2 ht197 O200 Yc4) 0 (by decide) (by decide) et264 (hsz rfl) [(.ref b2), (.int (4 : Int32)), (.int t2)] [] pd_3 rfl rfl rfl (Nat.le_of_eq rfl) (hb hby at_380) (by decide) (by decide) (fun Tt267 vt267 Lt267 Xt267 qt267 => ?_)
      obtain ⟨rfl, N268, et267⟩ := qt267
      have N269 := Fr.app N266 N268
      show Goes p e below _ (Tt267.setTop (mkF m 383 #[.val (.int p0), .val (.int p1), .val (.int p2), .val (.int p3), .val (.int p4), .val (.ref b2), .val (.int (4 : Int32)), .val (.ref b183), .val (.int (3 : Int32)), .val (.int (1 : Int32)), .val (.int (1 : Int32)), .unset] [(.int (own_has4 t0 t1 t2 t3 t2))]))
      refine gIfN Xt267 hx (hb hby at_383) (XT.i0_eq_f (by simp [own_has4, e1, e2, e3])) ?_
      show Goes p e below _ (Tt267.setTop (mkF m 386 #[.val (.int p0), .val (.int p1), .val (.int p2), .val (.int p3), .val (.int p4), .val (.ref b2), .val (.int (4 : Int32)), .val (.ref b183), .val (.int (3 : Int32)), .val (.int (1 : Int32)), .val (.int (1 : Int32)), .unset] []))
      refine gIload Xt267 hx (hb hby at_386) rfl ?_
      refine gIconst Xt267 hx (hb hby at_388) (v := (3 : Int32)) rfl ?_
      refine gIcmpN Xt267 hx (hb hby at_389) (XT.ii_lt_f (by decide)) ?_
      show Goes p e below _ (Tt267.setTop (mkF m 392 #[.val (.int p0), .val (.int p1), .val (.int p2), .val (.int p3), .val (.int p4), .val (.ref b2), .val (.int (4 : Int32)), .val (.ref b183), .val (.int (3 : Int32)), .val (.int (1 : Int32)), .val (.int (1 : Int32)), .unset] []))
      refine gAload Xt267 hx (hb hby at_392) rfl rfl ?_
      refine gIload Xt267 hx (hb hby at_394) rfl ?_
      refine gAload Xt267 hx (hb hby at_396) rfl rfl ?_
      refine gIconst Xt267 hx (hb hby at_398) (v := (2 : Int32)) rfl ?_
      refine goIaload Xt267 hx hZ et267 Yd (x := t3) (hb hby at_399) (by decide) rfl ?_
      refine goCallS Xt267 hx hZ hown (hw _ (List.mem_of_getElem? (i := 12) rfl)) (hw _ (List.mem_of_getElem? (i := 13) rfl)) (hw _ (List.mem_of_getElem? (i := 3) rfl)) (hw _ (List.mem_of_getElem? (i := 14) rfl)) (by decide) (rmH4 l Z a0 hw t0 t1 t2 t3 [] b2 t3 ht197 O200 Yc4) 0 (by decide) (by decide) et267 (hsz rfl) [(.ref b2), (.int (4 : Int32)), (.int t3)] [] pd_3 rfl rfl rfl (Nat.le_of_eq rfl) (hb hby at_400) (by decide) (by decide) (fun Tt270 vt270 Lt270 Xt270 qt270 => ?_)
      obtain ⟨rfl, N271, et270⟩ := qt270
      have N272 := Fr.app N269 N271
      show Goes p e below _ (Tt270.setTop (mkF m 403 #[.val (.int p0), .val (.int p1), .val (.int p2), .val (.int p3), .val (.int p4), .val (.ref b2), .val (.int (4 : Int32)), .val (.ref b183), .val (.int (3 : Int32)), .val (.int (1 : Int32)), .val (.int (1 : Int32)), .unset] [(.int (own_has4 t0 t1 t2 t3 t3))]))
      refine gIfN Xt270 hx (hb hby at_403) (XT.i0_eq_f (by simp [own_has4, e1, e2, e3])) ?_
      show Goes p e below _ (Tt270.setTop (mkF m 406 #[.val (.int p0), .val (.int p1), .val (.int p2), .val (.int p3), .val (.int p4), .val (.ref b2), .val (.int (4 : Int32)), .val (.ref b183), .val (.int (3 : Int32)), .val (.int (1 : Int32)), .val (.int (1 : Int32)), .unset] []))
      refine gIload Xt270 hx (hb hby at_406) rfl ?_
      refine gIconst Xt270 hx (hb hby at_408) (v := (4 : Int32)) rfl ?_
      refine gIcmpY Xt270 hx (hb hby at_409) (pc' := 426) (XT.ii_lt_t (by decide)) (by decide) (by decide) ?_
      show Goes p e below _ (Tt270.setTop (mkF m 426 #[.val (.int p0), .val (.int p1), .val (.int p2), .val (.int p3), .val (.int p4), .val (.ref b2), .val (.int (4 : Int32)), .val (.ref b183), .val (.int (3 : Int32)), .val (.int (1 : Int32)), .val (.int (1 : Int32)), .unset] []))
      refine gIconst Xt270 hx (hb hby at_426) (v := (1 : Int32)) rfl ?_
      refine gGoto Xt270 hx (hb hby at_427) (pc' := 431) (by decide) (by decide) ?_
      show Goes p e below _ (Tt270.setTop (mkF m 431 #[.val (.int p0), .val (.int p1), .val (.int p2), .val (.int p3), .val (.int p4), .val (.ref b2), .val (.int (4 : Int32)), .val (.ref b183), .val (.int (3 : Int32)), .val (.int (1 : Int32)), .val (.int (1 : Int32)), .unset] [(.int (1 : Int32))]))
      refine gIstore Xt270 hx (hb hby at_431) (l' := #[.val (.int p0), .val (.int p1), .val (.int p2), .val (.int p3), .val (.int p4), .val (.ref b2), .val (.int (4 : Int32)), .val (.ref b183), .val (.int (3 : Int32)), .val (.int (1 : Int32)), .val (.int (1 : Int32)), .val (.int (1 : Int32))]) rfl ?_
      refine gIload Xt270 hx (hb hby at_433) rfl ?_
      refine gIfN Xt270 hx (hb hby at_435) (XT.i0_eq_f (by decide)) ?_
      show Goes p e below _ (Tt270.setTop (mkF m 438 #[.val (.int p0), .val (.int p1), .val (.int p2), .val (.int p3), .val (.int p4), .val (.ref b2), .val (.int (4 : Int32)), .val (.ref b183), .val (.int (3 : Int32)), .val (.int (1 : Int32)), .val (.int (1 : Int32)), .val (.int (1 : Int32))] []))
      refine gIload Xt270 hx (hb hby at_438) rfl ?_
      refine gIfN Xt270 hx (hb hby at_440) (XT.i0_eq_f (by decide)) ?_
      show Goes p e below _ (Tt270.setTop (mkF m 443 #[.val (.int p0), .val (.int p1), .val (.int p2), .val (.int p3), .val (.int p4), .val (.ref b2), .val (.int (4 : Int32)), .val (.ref b183), .val (.int (3 : Int32)), .val (.int (1 : Int32)), .val (.int (1 : Int32)), .val (.int (1 : Int32))] []))
      refine gIload Xt270 hx (hb hby at_443) rfl ?_
      refine gIfN Xt270 hx (hb hby at_445) (XT.i0_eq_f (by decide)) ?_
      show Goes p e below _ (Tt270.setTop (mkF m 448 #[.val (.int p0), .val (.int p1), .val (.int p2), .val (.int p3), .val (.int p4), .val (.ref b2), .val (.int (4 : Int32)), .val (.ref b183), .val (.int (3 : Int32)), .val (.int (1 : Int32)), .val (.int (1 : Int32)), .val (.int (1 : Int32))] []))
      refine gIconst Xt270 hx (hb hby at_448) (v := (1 : Int32)) rfl ?_
      refine gGoto Xt270 hx (hb hby at_449) (pc' := 453) (by decide) (by decide) ?_
      show Goes p e below _ (Tt270.setTop (mkF m 453 #[.val (.int p0), .val (.int p1), .val (.int p2), .val (.int p3), .val (.int p4), .val (.ref b2), .val (.int (4 : Int32)), .val (.ref b183), .val (.int (3 : Int32)), .val (.int (1 : Int32)), .val (.int (1 : Int32)), .val (.int (1 : Int32))] [(.int (1 : Int32))]))
      exact goRetN Xt270 hx (t := .boolean) hret hlocks (by simp) (hb hby at_453) (z' := (1 : Int32)) rfl (by decide) (by decide) et270 (⟨rfl, N272⟩)
    · show Goes p e below _ (Tt197.setTop (mkF m 185 #[.val (.int p0), .val (.int p1), .val (.int p2), .val (.int p3), .val (.int p4), .val (.ref b2), .val (.int (4 : Int32)), .val (.ref b183), .unset, .unset, .unset, .unset] [(.int (2 : Int32))]))
      have f1 : ¬ t1.toInt = t0.toInt := fun z => e1 (Int32.toInt_inj.mp z)
      have f2 : t2.toInt = t1.toInt := by rw [e2]
      have f3 : t3.toInt = t2.toInt := by rw [e3]
      refine gIstore Xt197 hx (hb hby at_185) (l' := #[.val (.int p0), .val (.int p1), .val (.int p2), .val (.int p3), .val (.int p4), .val (.ref b2), .val (.int (4 : Int32)), .val (.ref b183), .val (.int (2 : Int32)), .unset, .unset, .unset]) rfl ?_
      refine gIload Xt197 hx (hb hby at_187) rfl ?_
      refine gIfN Xt197 hx (hb hby at_189) (XT.i0_lt_f (by decide)) ?_
      show Goes p e below _ (Tt197.setTop (mkF m 192 #[.val (.int p0), .val (.int p1), .val (.int p2), .val (.int p3), .val (.int p4), .val (.ref b2), .val (.int (4 : Int32)), .val (.ref b183), .val (.int (2 : Int32)), .unset, .unset, .unset] []))
      refine gIload Xt197 hx (hb hby at_192) rfl ?_
      refine gIload Xt197 hx (hb hby at_194) rfl ?_
      refine gIcmpY Xt197 hx (hb hby at_196) (pc' := 201) (XT.ii_le_t (by decide)) (by decide) (by decide) ?_
      show Goes p e below _ (Tt197.setTop (mkF m 201 #[.val (.int p0), .val (.int p1), .val (.int p2), .val (.int p3), .val (.int p4), .val (.ref b2), .val (.int (4 : Int32)), .val (.ref b183), .val (.int (2 : Int32)), .unset, .unset, .unset] []))
      refine gIload Xt197 hx (hb hby at_201) rfl ?_
      refine gIconst Xt197 hx (hb hby at_203) (v := (2 : Int32)) rfl ?_
      refine gIcmpN Xt197 hx (hb hby at_204) (XT.ii_lt_f (by decide)) ?_
      show Goes p e below _ (Tt197.setTop (mkF m 207 #[.val (.int p0), .val (.int p1), .val (.int p2), .val (.int p3), .val (.int p4), .val (.ref b2), .val (.int (4 : Int32)), .val (.ref b183), .val (.int (2 : Int32)), .unset, .unset, .unset] []))
      refine gAload Xt197 hx (hb hby at_207) rfl rfl ?_
      refine gIconst Xt197 hx (hb hby at_209) (v := (0 : Int32)) rfl ?_
      refine goIaload Xt197 hx hZ et197 Yd (x := t0) (hb hby at_210) (by decide) rfl ?_
      refine gAload Xt197 hx (hb hby at_211) rfl rfl ?_
      refine gIconst Xt197 hx (hb hby at_213) (v := (1 : Int32)) rfl ?_
      refine goIaload Xt197 hx hZ et197 Yd (x := t1) (hb hby at_214) (by decide) rfl ?_
      refine gIcmpN Xt197 hx (hb hby at_215) (XT.ii_ge_f (Int32.lt_iff_toInt_lt.mpr (by omega))) ?_
      show Goes p e below _ (Tt197.setTop (mkF m 218 #[.val (.int p0), .val (.int p1), .val (.int p2), .val (.int p3), .val (.int p4), .val (.ref b2), .val (.int (4 : Int32)), .val (.ref b183), .val (.int (2 : Int32)), .unset, .unset, .unset] []))
      refine gIload Xt197 hx (hb hby at_218) rfl ?_
      refine gIconst Xt197 hx (hb hby at_220) (v := (3 : Int32)) rfl ?_
      refine gIcmpY Xt197 hx (hb hby at_221) (pc' := 235) (XT.ii_lt_t (by decide)) (by decide) (by decide) ?_
      show Goes p e below _ (Tt197.setTop (mkF m 235 #[.val (.int p0), .val (.int p1), .val (.int p2), .val (.int p3), .val (.int p4), .val (.ref b2), .val (.int (4 : Int32)), .val (.ref b183), .val (.int (2 : Int32)), .unset, .unset, .unset] []))
      refine gIload Xt197 hx (hb hby at_235) rfl ?_
      refine gIconst Xt197 hx (hb hby at_237) (v := (4 : Int32)) rfl ?_
      refine gIcmpY Xt197 hx (hb hby at_238) (pc' := 252) (XT.ii_lt_t (by decide)) (by decide) (by decide) ?_
      show Goes p e below _ (Tt197.setTop (mkF m 252 #[.val (.int p0), .val (.int p1), .val (.int p2), .val (.int p3), .val (.int p4), .val (.ref b2), .val (.int (4 : Int32)), .val (.ref b183), .val (.int (2 : Int32)), .unset, .unset, .unset] []))
      refine gIconst Xt197 hx (hb hby at_252) (v := (1 : Int32)) rfl ?_
      refine gGoto Xt197 hx (hb hby at_253) (pc' := 257) (by decide) (by decide) ?_
      show Goes p e below _ (Tt197.setTop (mkF m 257 #[.val (.int p0), .val (.int p1), .val (.int p2), .val (.int p3), .val (.int p4), .val (.ref b2), .val (.int (4 : Int32)), .val (.ref b183), .val (.int (2 : Int32)), .unset, .unset, .unset] [(.int (1 : Int32))]))
      refine gIstore Xt197 hx (hb hby at_257) (l' := #[.val (.int p0), .val (.int p1), .val (.int p2), .val (.int p3), .val (.int p4), .val (.ref b2), .val (.int (4 : Int32)), .val (.ref b183), .val (.int (2 : Int32)), .val (.int (1 : Int32)), .unset, .unset]) rfl ?_
      refine gIload Xt197 hx (hb hby at_259) rfl ?_
      refine gIconst Xt197 hx (hb hby at_261) (v := (1 : Int32)) rfl ?_
      refine gIcmpN Xt197 hx (hb hby at_262) (XT.ii_lt_f (by decide)) ?_
      show Goes p e below _ (Tt197.setTop (mkF m 265 #[.val (.int p0), .val (.int p1), .val (.int p2), .val (.int p3), .val (.int p4), .val (.ref b2), .val (.int (4 : Int32)), .val (.ref b183), .val (.int (2 : Int32)), .val (.int (1 : Int32)), .unset, .unset] []))
      refine gAload Xt197 hx (hb hby at_265) rfl rfl ?_
      refine gIload Xt197 hx (hb hby at_267) rfl ?_
      refine gAload Xt197 hx (hb hby at_269) rfl rfl ?_
      refine gIconst Xt197 hx (hb hby at_271) (v := (0 : Int32)) rfl ?_
      refine goIaload Xt197 hx hZ et197 Yc4 (x := t0) (hb hby at_272) (by decide) rfl ?_
      refine goCallS Xt197 hx hZ hown (hw _ (List.mem_of_getElem? (i := 12) rfl)) (hw _ (List.mem_of_getElem? (i := 13) rfl)) (hw _ (List.mem_of_getElem? (i := 3) rfl)) (hw _ (List.mem_of_getElem? (i := 14) rfl)) (by decide) (rmH2 l Z a0 hw t0 t1 [.int t2, .int t3] b183 t0 ht197 O200 Yd) 0 (by decide) (by decide) et197 (hsz rfl) [(.ref b183), (.int (2 : Int32)), (.int t0)] [] pd_3 rfl rfl rfl (Nat.le_of_eq rfl) (hb hby at_273) (by decide) (by decide) (fun Tt273 vt273 Lt273 Xt273 qt273 => ?_)
      obtain ⟨rfl, N274, et273⟩ := qt273
      have N275 := Fr.app N199 N274
      show Goes p e below _ (Tt273.setTop (mkF m 276 #[.val (.int p0), .val (.int p1), .val (.int p2), .val (.int p3), .val (.int p4), .val (.ref b2), .val (.int (4 : Int32)), .val (.ref b183), .val (.int (2 : Int32)), .val (.int (1 : Int32)), .unset, .unset] [(.int (own_has2 t0 t1 t0))]))
      refine gIfN Xt273 hx (hb hby at_276) (XT.i0_eq_f (by simp [own_has2, e1, e2, e3])) ?_
      show Goes p e below _ (Tt273.setTop (mkF m 279 #[.val (.int p0), .val (.int p1), .val (.int p2), .val (.int p3), .val (.int p4), .val (.ref b2), .val (.int (4 : Int32)), .val (.ref b183), .val (.int (2 : Int32)), .val (.int (1 : Int32)), .unset, .unset] []))
      refine gIload Xt273 hx (hb hby at_279) rfl ?_
      refine gIconst Xt273 hx (hb hby at_281) (v := (2 : Int32)) rfl ?_
      refine gIcmpN Xt273 hx (hb hby at_282) (XT.ii_lt_f (by decide)) ?_
      show Goes p e below _ (Tt273.setTop (mkF m 285 #[.val (.int p0), .val (.int p1), .val (.int p2), .val (.int p3), .val (.int p4), .val (.ref b2), .val (.int (4 : Int32)), .val (.ref b183), .val (.int (2 : Int32)), .val (.int (1 : Int32)), .unset, .unset] []))
      refine gAload Xt273 hx (hb hby at_285) rfl rfl ?_
      refine gIload Xt273 hx (hb hby at_287) rfl ?_
      refine gAload Xt273 hx (hb hby at_289) rfl rfl ?_
      refine gIconst Xt273 hx (hb hby at_291) (v := (1 : Int32)) rfl ?_
      refine goIaload Xt273 hx hZ et273 Yc4 (x := t1) (hb hby at_292) (by decide) rfl ?_
      refine goCallS Xt273 hx hZ hown (hw _ (List.mem_of_getElem? (i := 12) rfl)) (hw _ (List.mem_of_getElem? (i := 13) rfl)) (hw _ (List.mem_of_getElem? (i := 3) rfl)) (hw _ (List.mem_of_getElem? (i := 14) rfl)) (by decide) (rmH2 l Z a0 hw t0 t1 [.int t2, .int t3] b183 t1 ht197 O200 Yd) 0 (by decide) (by decide) et273 (hsz rfl) [(.ref b183), (.int (2 : Int32)), (.int t1)] [] pd_3 rfl rfl rfl (Nat.le_of_eq rfl) (hb hby at_293) (by decide) (by decide) (fun Tt276 vt276 Lt276 Xt276 qt276 => ?_)
      obtain ⟨rfl, N277, et276⟩ := qt276
      have N278 := Fr.app N275 N277
      show Goes p e below _ (Tt276.setTop (mkF m 296 #[.val (.int p0), .val (.int p1), .val (.int p2), .val (.int p3), .val (.int p4), .val (.ref b2), .val (.int (4 : Int32)), .val (.ref b183), .val (.int (2 : Int32)), .val (.int (1 : Int32)), .unset, .unset] [(.int (own_has2 t0 t1 t1))]))
      refine gIfN Xt276 hx (hb hby at_296) (XT.i0_eq_f (by simp [own_has2, e1, e2, e3])) ?_
      show Goes p e below _ (Tt276.setTop (mkF m 299 #[.val (.int p0), .val (.int p1), .val (.int p2), .val (.int p3), .val (.int p4), .val (.ref b2), .val (.int (4 : Int32)), .val (.ref b183), .val (.int (2 : Int32)), .val (.int (1 : Int32)), .unset, .unset] []))
      refine gIload Xt276 hx (hb hby at_299) rfl ?_
      refine gIconst Xt276 hx (hb hby at_301) (v := (3 : Int32)) rfl ?_
      refine gIcmpN Xt276 hx (hb hby at_302) (XT.ii_lt_f (by decide)) ?_
      show Goes p e below _ (Tt276.setTop (mkF m 305 #[.val (.int p0), .val (.int p1), .val (.int p2), .val (.int p3), .val (.int p4), .val (.ref b2), .val (.int (4 : Int32)), .val (.ref b183), .val (.int (2 : Int32)), .val (.int (1 : Int32)), .unset, .unset] []))
      refine gAload Xt276 hx (hb hby at_305) rfl rfl ?_
      refine gIload Xt276 hx (hb hby at_307) rfl ?_
      refine gAload Xt276 hx (hb hby at_309) rfl rfl ?_
      refine gIconst Xt276 hx (hb hby at_311) (v := (2 : Int32)) rfl ?_
      refine goIaload Xt276 hx hZ et276 Yc4 (x := t2) (hb hby at_312) (by decide) rfl ?_
      refine goCallS Xt276 hx hZ hown (hw _ (List.mem_of_getElem? (i := 12) rfl)) (hw _ (List.mem_of_getElem? (i := 13) rfl)) (hw _ (List.mem_of_getElem? (i := 3) rfl)) (hw _ (List.mem_of_getElem? (i := 14) rfl)) (by decide) (rmH2 l Z a0 hw t0 t1 [.int t2, .int t3] b183 t2 ht197 O200 Yd) 0 (by decide) (by decide) et276 (hsz rfl) [(.ref b183), (.int (2 : Int32)), (.int t2)] [] pd_3 rfl rfl rfl (Nat.le_of_eq rfl) (hb hby at_313) (by decide) (by decide) (fun Tt279 vt279 Lt279 Xt279 qt279 => ?_)
      obtain ⟨rfl, N280, et279⟩ := qt279
      have N281 := Fr.app N278 N280
      show Goes p e below _ (Tt279.setTop (mkF m 316 #[.val (.int p0), .val (.int p1), .val (.int p2), .val (.int p3), .val (.int p4), .val (.ref b2), .val (.int (4 : Int32)), .val (.ref b183), .val (.int (2 : Int32)), .val (.int (1 : Int32)), .unset, .unset] [(.int (own_has2 t0 t1 t2))]))
      refine gIfN Xt279 hx (hb hby at_316) (XT.i0_eq_f (by simp [own_has2, e1, e2, e3])) ?_
      show Goes p e below _ (Tt279.setTop (mkF m 319 #[.val (.int p0), .val (.int p1), .val (.int p2), .val (.int p3), .val (.int p4), .val (.ref b2), .val (.int (4 : Int32)), .val (.ref b183), .val (.int (2 : Int32)), .val (.int (1 : Int32)), .unset, .unset] []))
      refine gIload Xt279 hx (hb hby at_319) rfl ?_
      refine gIconst Xt279 hx (hb hby at_321) (v := (4 : Int32)) rfl ?_
      refine gIcmpN Xt279 hx (hb hby at_322) (XT.ii_lt_f (by decide)) ?_
      show Goes p e below _ (Tt279.setTop (mkF m 325 #[.val (.int p0), .val (.int p1), .val (.int p2), .val (.int p3), .val (.int p4), .val (.ref b2), .val (.int (4 : Int32)), .val (.ref b183), .val (.int (2 : Int32)), .val (.int (1 : Int32)), .unset, .unset] []))
      refine gAload Xt279 hx (hb hby at_325) rfl rfl ?_
      refine gIload Xt279 hx (hb hby at_327) rfl ?_
      refine gAload Xt279 hx (hb hby at_329) rfl rfl ?_
      refine gIconst Xt279 hx (hb hby at_331) (v := (3 : Int32)) rfl ?_
      refine goIaload Xt279 hx hZ et279 Yc4 (x := t3) (hb hby at_332) (by decide) rfl ?_
      refine goCallS Xt279 hx hZ hown (hw _ (List.mem_of_getElem? (i := 12) rfl)) (hw _ (List.mem_of_getElem? (i := 13) rfl)) (hw _ (List.mem_of_getElem? (i := 3) rfl)) (hw _ (List.mem_of_getElem? (i := 14) rfl)) (by decide) (rmH2 l Z a0 hw t0 t1 [.int t2, .int t3] b183 t3 ht197 O200 Yd) 0 (by decide) (by decide) et279 (hsz rfl) [(.ref b183), (.int (2 : Int32)), (.int t3)] [] pd_3 rfl rfl rfl (Nat.le_of_eq rfl) (hb hby at_333) (by decide) (by decide) (fun Tt282 vt282 Lt282 Xt282 qt282 => ?_)
      obtain ⟨rfl, N283, et282⟩ := qt282
      have N284 := Fr.app N281 N283
      show Goes p e below _ (Tt282.setTop (mkF m 336 #[.val (.int p0), .val (.int p1), .val (.int p2), .val (.int p3), .val (.int p4), .val (.ref b2), .val (.int (4 : Int32)), .val (.ref b183), .val (.int (2 : Int32)), .val (.int (1 : Int32)), .unset, .unset] [(.int (own_has2 t0 t1 t3))]))
      refine gIfN Xt282 hx (hb hby at_336) (XT.i0_eq_f (by simp [own_has2, e1, e2, e3])) ?_
      show Goes p e below _ (Tt282.setTop (mkF m 339 #[.val (.int p0), .val (.int p1), .val (.int p2), .val (.int p3), .val (.int p4), .val (.ref b2), .val (.int (4 : Int32)), .val (.ref b183), .val (.int (2 : Int32)), .val (.int (1 : Int32)), .unset, .unset] []))
      refine gIconst Xt282 hx (hb hby at_339) (v := (1 : Int32)) rfl ?_
      refine gGoto Xt282 hx (hb hby at_340) (pc' := 344) (by decide) (by decide) ?_
      show Goes p e below _ (Tt282.setTop (mkF m 344 #[.val (.int p0), .val (.int p1), .val (.int p2), .val (.int p3), .val (.int p4), .val (.ref b2), .val (.int (4 : Int32)), .val (.ref b183), .val (.int (2 : Int32)), .val (.int (1 : Int32)), .unset, .unset] [(.int (1 : Int32))]))
      refine gIstore Xt282 hx (hb hby at_344) (l' := #[.val (.int p0), .val (.int p1), .val (.int p2), .val (.int p3), .val (.int p4), .val (.ref b2), .val (.int (4 : Int32)), .val (.ref b183), .val (.int (2 : Int32)), .val (.int (1 : Int32)), .val (.int (1 : Int32)), .unset]) rfl ?_
      refine gIload Xt282 hx (hb hby at_346) rfl ?_
      refine gIconst Xt282 hx (hb hby at_348) (v := (1 : Int32)) rfl ?_
      refine gIcmpN Xt282 hx (hb hby at_349) (XT.ii_lt_f (by decide)) ?_
      show Goes p e below _ (Tt282.setTop (mkF m 352 #[.val (.int p0), .val (.int p1), .val (.int p2), .val (.int p3), .val (.int p4), .val (.ref b2), .val (.int (4 : Int32)), .val (.ref b183), .val (.int (2 : Int32)), .val (.int (1 : Int32)), .val (.int (1 : Int32)), .unset] []))
      refine gAload Xt282 hx (hb hby at_352) rfl rfl ?_
      refine gIload Xt282 hx (hb hby at_354) rfl ?_
      refine gAload Xt282 hx (hb hby at_356) rfl rfl ?_
      refine gIconst Xt282 hx (hb hby at_358) (v := (0 : Int32)) rfl ?_
      refine goIaload Xt282 hx hZ et282 Yd (x := t0) (hb hby at_359) (by decide) rfl ?_
      refine goCallS Xt282 hx hZ hown (hw _ (List.mem_of_getElem? (i := 12) rfl)) (hw _ (List.mem_of_getElem? (i := 13) rfl)) (hw _ (List.mem_of_getElem? (i := 3) rfl)) (hw _ (List.mem_of_getElem? (i := 14) rfl)) (by decide) (rmH4 l Z a0 hw t0 t1 t2 t3 [] b2 t0 ht197 O200 Yc4) 0 (by decide) (by decide) et282 (hsz rfl) [(.ref b2), (.int (4 : Int32)), (.int t0)] [] pd_3 rfl rfl rfl (Nat.le_of_eq rfl) (hb hby at_360) (by decide) (by decide) (fun Tt285 vt285 Lt285 Xt285 qt285 => ?_)
      obtain ⟨rfl, N286, et285⟩ := qt285
      have N287 := Fr.app N284 N286
      show Goes p e below _ (Tt285.setTop (mkF m 363 #[.val (.int p0), .val (.int p1), .val (.int p2), .val (.int p3), .val (.int p4), .val (.ref b2), .val (.int (4 : Int32)), .val (.ref b183), .val (.int (2 : Int32)), .val (.int (1 : Int32)), .val (.int (1 : Int32)), .unset] [(.int (own_has4 t0 t1 t2 t3 t0))]))
      refine gIfN Xt285 hx (hb hby at_363) (XT.i0_eq_f (by simp [own_has4, e1, e2, e3])) ?_
      show Goes p e below _ (Tt285.setTop (mkF m 366 #[.val (.int p0), .val (.int p1), .val (.int p2), .val (.int p3), .val (.int p4), .val (.ref b2), .val (.int (4 : Int32)), .val (.ref b183), .val (.int (2 : Int32)), .val (.int (1 : Int32)), .val (.int (1 : Int32)), .unset] []))
      refine gIload Xt285 hx (hb hby at_366) rfl ?_
      refine gIconst Xt285 hx (hb hby at_368) (v := (2 : Int32)) rfl ?_
      refine gIcmpN Xt285 hx (hb hby at_369) (XT.ii_lt_f (by decide)) ?_
      show Goes p e below _ (Tt285.setTop (mkF m 372 #[.val (.int p0), .val (.int p1), .val (.int p2), .val (.int p3), .val (.int p4), .val (.ref b2), .val (.int (4 : Int32)), .val (.ref b183), .val (.int (2 : Int32)), .val (.int (1 : Int32)), .val (.int (1 : Int32)), .unset] []))
      refine gAload Xt285 hx (hb hby at_372) rfl rfl ?_
      refine gIload Xt285 hx (hb hby at_374) rfl ?_
      refine gAload Xt285 hx (hb hby at_376) rfl rfl ?_
      refine gIconst Xt285 hx (hb hby at_378) (v := (1 : Int32)) rfl ?_
      refine goIaload Xt285 hx hZ et285 Yd (x := t1) (hb hby at_379) (by decide) rfl ?_
      refine goCallS Xt285 hx hZ hown (hw _ (List.mem_of_getElem? (i := 12) rfl)) (hw _ (List.mem_of_getElem? (i := 13) rfl)) (hw _ (List.mem_of_getElem? (i := 3) rfl)) (hw _ (List.mem_of_getElem? (i := 14) rfl)) (by decide) (rmH4 l Z a0 hw t0 t1 t2 t3 [] b2 t1 ht197 O200 Yc4) 0 (by decide) (by decide) et285 (hsz rfl) [(.ref b2), (.int (4 : Int32)), (.int t1)] [] pd_3 rfl rfl rfl (Nat.le_of_eq rfl) (hb hby at_380) (by decide) (by decide) (fun Tt288 vt288 Lt288 Xt288 qt288 => ?_)
      obtain ⟨rfl, N289, et288⟩ := qt288
      have N290 := Fr.app N287 N289
      show Goes p e below _ (Tt288.setTop (mkF m 383 #[.val (.int p0), .val (.int p1), .val (.int p2), .val (.int p3), .val (.int p4), .val (.ref b2), .val (.int (4 : Int32)), .val (.ref b183), .val (.int (2 : Int32)), .val (.int (1 : Int32)), .val (.int (1 : Int32)), .unset] [(.int (own_has4 t0 t1 t2 t3 t1))]))
      refine gIfN Xt288 hx (hb hby at_383) (XT.i0_eq_f (by simp [own_has4, e1, e2, e3])) ?_
      show Goes p e below _ (Tt288.setTop (mkF m 386 #[.val (.int p0), .val (.int p1), .val (.int p2), .val (.int p3), .val (.int p4), .val (.ref b2), .val (.int (4 : Int32)), .val (.ref b183), .val (.int (2 : Int32)), .val (.int (1 : Int32)), .val (.int (1 : Int32)), .unset] []))
      refine gIload Xt288 hx (hb hby at_386) rfl ?_
      refine gIconst Xt288 hx (hb hby at_388) (v := (3 : Int32)) rfl ?_
      refine gIcmpY Xt288 hx (hb hby at_389) (pc' := 406) (XT.ii_lt_t (by decide)) (by decide) (by decide) ?_
      show Goes p e below _ (Tt288.setTop (mkF m 406 #[.val (.int p0), .val (.int p1), .val (.int p2), .val (.int p3), .val (.int p4), .val (.ref b2), .val (.int (4 : Int32)), .val (.ref b183), .val (.int (2 : Int32)), .val (.int (1 : Int32)), .val (.int (1 : Int32)), .unset] []))
      refine gIload Xt288 hx (hb hby at_406) rfl ?_
      refine gIconst Xt288 hx (hb hby at_408) (v := (4 : Int32)) rfl ?_
      refine gIcmpY Xt288 hx (hb hby at_409) (pc' := 426) (XT.ii_lt_t (by decide)) (by decide) (by decide) ?_
      show Goes p e below _ (Tt288.setTop (mkF m 426 #[.val (.int p0), .val (.int p1), .val (.int p2), .val (.int p3), .val (.int p4), .val (.ref b2), .val (.int (4 : Int32)), .val (.ref b183), .val (.int (2 : Int32)), .val (.int (1 : Int32)), .val (.int (1 : Int32)), .unset] []))
      refine gIconst Xt288 hx (hb hby at_426) (v := (1 : Int32)) rfl ?_
      refine gGoto Xt288 hx (hb hby at_427) (pc' := 431) (by decide) (by decide) ?_
      show Goes p e below _ (Tt288.setTop (mkF m 431 #[.val (.int p0), .val (.int p1), .val (.int p2), .val (.int p3), .val (.int p4), .val (.ref b2), .val (.int (4 : Int32)), .val (.ref b183), .val (.int (2 : Int32)), .val (.int (1 : Int32)), .val (.int (1 : Int32)), .unset] [(.int (1 : Int32))]))
      refine gIstore Xt288 hx (hb hby at_431) (l' := #[.val (.int p0), .val (.int p1), .val (.int p2), .val (.int p3), .val (.int p4), .val (.ref b2), .val (.int (4 : Int32)), .val (.ref b183), .val (.int (2 : Int32)), .val (.int (1 : Int32)), .val (.int (1 : Int32)), .val (.int (1 : Int32))]) rfl ?_
      refine gIload Xt288 hx (hb hby at_433) rfl ?_
      refine gIfN Xt288 hx (hb hby at_435) (XT.i0_eq_f (by decide)) ?_
      show Goes p e below _ (Tt288.setTop (mkF m 438 #[.val (.int p0), .val (.int p1), .val (.int p2), .val (.int p3), .val (.int p4), .val (.ref b2), .val (.int (4 : Int32)), .val (.ref b183), .val (.int (2 : Int32)), .val (.int (1 : Int32)), .val (.int (1 : Int32)), .val (.int (1 : Int32))] []))
      refine gIload Xt288 hx (hb hby at_438) rfl ?_
      refine gIfN Xt288 hx (hb hby at_440) (XT.i0_eq_f (by decide)) ?_
      show Goes p e below _ (Tt288.setTop (mkF m 443 #[.val (.int p0), .val (.int p1), .val (.int p2), .val (.int p3), .val (.int p4), .val (.ref b2), .val (.int (4 : Int32)), .val (.ref b183), .val (.int (2 : Int32)), .val (.int (1 : Int32)), .val (.int (1 : Int32)), .val (.int (1 : Int32))] []))
      refine gIload Xt288 hx (hb hby at_443) rfl ?_
      refine gIfN Xt288 hx (hb hby at_445) (XT.i0_eq_f (by decide)) ?_
      show Goes p e below _ (Tt288.setTop (mkF m 448 #[.val (.int p0), .val (.int p1), .val (.int p2), .val (.int p3), .val (.int p4), .val (.ref b2), .val (.int (4 : Int32)), .val (.ref b183), .val (.int (2 : Int32)), .val (.int (1 : Int32)), .val (.int (1 : Int32)), .val (.int (1 : Int32))] []))
      refine gIconst Xt288 hx (hb hby at_448) (v := (1 : Int32)) rfl ?_
      refine gGoto Xt288 hx (hb hby at_449) (pc' := 453) (by decide) (by decide) ?_
      show Goes p e below _ (Tt288.setTop (mkF m 453 #[.val (.int p0), .val (.int p1), .val (.int p2), .val (.int p3), .val (.int p4), .val (.ref b2), .val (.int (4 : Int32)), .val (.ref b183), .val (.int (2 : Int32)), .val (.int (1 : Int32)), .val (.int (1 : Int32)), .val (.int (1 : Int32))] [(.int (1 : Int32))]))
      exact goRetN Xt288 hx (t := .boolean) hret hlocks (by simp) (hb hby at_453) (z' := (1 : Int32)) rfl (by decide) (by decide) et288 (⟨rfl, N290⟩)
    · show Goes p e below _ (Tt197.setTop (mkF m 185 #[.val (.int p0), .val (.int p1), .val (.int p2), .val (.int p3), .val (.int p4), .val (.ref b2), .val (.int (4 : Int32)), .val (.ref b183), .unset, .unset, .unset, .unset] [(.int (3 : Int32))]))
      have f1 : ¬ t1.toInt = t0.toInt := fun z => e1 (Int32.toInt_inj.mp z)
      have f2 : t2.toInt = t1.toInt := by rw [e2]
      have f3 : ¬ t3.toInt = t2.toInt := fun z => e3 (Int32.toInt_inj.mp z)
      refine gIstore Xt197 hx (hb hby at_185) (l' := #[.val (.int p0), .val (.int p1), .val (.int p2), .val (.int p3), .val (.int p4), .val (.ref b2), .val (.int (4 : Int32)), .val (.ref b183), .val (.int (3 : Int32)), .unset, .unset, .unset]) rfl ?_
      refine gIload Xt197 hx (hb hby at_187) rfl ?_
      refine gIfN Xt197 hx (hb hby at_189) (XT.i0_lt_f (by decide)) ?_
      show Goes p e below _ (Tt197.setTop (mkF m 192 #[.val (.int p0), .val (.int p1), .val (.int p2), .val (.int p3), .val (.int p4), .val (.ref b2), .val (.int (4 : Int32)), .val (.ref b183), .val (.int (3 : Int32)), .unset, .unset, .unset] []))
      refine gIload Xt197 hx (hb hby at_192) rfl ?_
      refine gIload Xt197 hx (hb hby at_194) rfl ?_
      refine gIcmpY Xt197 hx (hb hby at_196) (pc' := 201) (XT.ii_le_t (by decide)) (by decide) (by decide) ?_
      show Goes p e below _ (Tt197.setTop (mkF m 201 #[.val (.int p0), .val (.int p1), .val (.int p2), .val (.int p3), .val (.int p4), .val (.ref b2), .val (.int (4 : Int32)), .val (.ref b183), .val (.int (3 : Int32)), .unset, .unset, .unset] []))
      refine gIload Xt197 hx (hb hby at_201) rfl ?_
      refine gIconst Xt197 hx (hb hby at_203) (v := (2 : Int32)) rfl ?_
      refine gIcmpN Xt197 hx (hb hby at_204) (XT.ii_lt_f (by decide)) ?_
      show Goes p e below _ (Tt197.setTop (mkF m 207 #[.val (.int p0), .val (.int p1), .val (.int p2), .val (.int p3), .val (.int p4), .val (.ref b2), .val (.int (4 : Int32)), .val (.ref b183), .val (.int (3 : Int32)), .unset, .unset, .unset] []))
      refine gAload Xt197 hx (hb hby at_207) rfl rfl ?_
      refine gIconst Xt197 hx (hb hby at_209) (v := (0 : Int32)) rfl ?_
      refine goIaload Xt197 hx hZ et197 Yd (x := t0) (hb hby at_210) (by decide) rfl ?_
      refine gAload Xt197 hx (hb hby at_211) rfl rfl ?_
      refine gIconst Xt197 hx (hb hby at_213) (v := (1 : Int32)) rfl ?_
      refine goIaload Xt197 hx hZ et197 Yd (x := t1) (hb hby at_214) (by decide) rfl ?_
      refine gIcmpN Xt197 hx (hb hby at_215) (XT.ii_ge_f (Int32.lt_iff_toInt_lt.mpr (by omega))) ?_
      show Goes p e below _ (Tt197.setTop (mkF m 218 #[.val (.int p0), .val (.int p1), .val (.int p2), .val (.int p3), .val (.int p4), .val (.ref b2), .val (.int (4 : Int32)), .val (.ref b183), .val (.int (3 : Int32)), .unset, .unset, .unset] []))
      refine gIload Xt197 hx (hb hby at_218) rfl ?_
      refine gIconst Xt197 hx (hb hby at_220) (v := (3 : Int32)) rfl ?_
      refine gIcmpN Xt197 hx (hb hby at_221) (XT.ii_lt_f (by decide)) ?_
      show Goes p e below _ (Tt197.setTop (mkF m 224 #[.val (.int p0), .val (.int p1), .val (.int p2), .val (.int p3), .val (.int p4), .val (.ref b2), .val (.int (4 : Int32)), .val (.ref b183), .val (.int (3 : Int32)), .unset, .unset, .unset] []))
      refine gAload Xt197 hx (hb hby at_224) rfl rfl ?_
      refine gIconst Xt197 hx (hb hby at_226) (v := (1 : Int32)) rfl ?_
      refine goIaload Xt197 hx hZ et197 Yd (x := t1) (hb hby at_227) (by decide) rfl ?_
      refine gAload Xt197 hx (hb hby at_228) rfl rfl ?_
      refine gIconst Xt197 hx (hb hby at_230) (v := (2 : Int32)) rfl ?_
      refine goIaload Xt197 hx hZ et197 Yd (x := t3) (hb hby at_231) (by decide) rfl ?_
      refine gIcmpN Xt197 hx (hb hby at_232) (XT.ii_ge_f (Int32.lt_iff_toInt_lt.mpr (by omega))) ?_
      show Goes p e below _ (Tt197.setTop (mkF m 235 #[.val (.int p0), .val (.int p1), .val (.int p2), .val (.int p3), .val (.int p4), .val (.ref b2), .val (.int (4 : Int32)), .val (.ref b183), .val (.int (3 : Int32)), .unset, .unset, .unset] []))
      refine gIload Xt197 hx (hb hby at_235) rfl ?_
      refine gIconst Xt197 hx (hb hby at_237) (v := (4 : Int32)) rfl ?_
      refine gIcmpY Xt197 hx (hb hby at_238) (pc' := 252) (XT.ii_lt_t (by decide)) (by decide) (by decide) ?_
      show Goes p e below _ (Tt197.setTop (mkF m 252 #[.val (.int p0), .val (.int p1), .val (.int p2), .val (.int p3), .val (.int p4), .val (.ref b2), .val (.int (4 : Int32)), .val (.ref b183), .val (.int (3 : Int32)), .unset, .unset, .unset] []))
      refine gIconst Xt197 hx (hb hby at_252) (v := (1 : Int32)) rfl ?_
      refine gGoto Xt197 hx (hb hby at_253) (pc' := 257) (by decide) (by decide) ?_
      show Goes p e below _ (Tt197.setTop (mkF m 257 #[.val (.int p0), .val (.int p1), .val (.int p2), .val (.int p3), .val (.int p4), .val (.ref b2), .val (.int (4 : Int32)), .val (.ref b183), .val (.int (3 : Int32)), .unset, .unset, .unset] [(.int (1 : Int32))]))
      refine gIstore Xt197 hx (hb hby at_257) (l' := #[.val (.int p0), .val (.int p1), .val (.int p2), .val (.int p3), .val (.int p4), .val (.ref b2), .val (.int (4 : Int32)), .val (.ref b183), .val (.int (3 : Int32)), .val (.int (1 : Int32)), .unset, .unset]) rfl ?_
      refine gIload Xt197 hx (hb hby at_259) rfl ?_
      refine gIconst Xt197 hx (hb hby at_261) (v := (1 : Int32)) rfl ?_
      refine gIcmpN Xt197 hx (hb hby at_262) (XT.ii_lt_f (by decide)) ?_
      show Goes p e below _ (Tt197.setTop (mkF m 265 #[.val (.int p0), .val (.int p1), .val (.int p2), .val (.int p3), .val (.int p4), .val (.ref b2), .val (.int (4 : Int32)), .val (.ref b183), .val (.int (3 : Int32)), .val (.int (1 : Int32)), .unset, .unset] []))
      refine gAload Xt197 hx (hb hby at_265) rfl rfl ?_
      refine gIload Xt197 hx (hb hby at_267) rfl ?_
      refine gAload Xt197 hx (hb hby at_269) rfl rfl ?_
      refine gIconst Xt197 hx (hb hby at_271) (v := (0 : Int32)) rfl ?_
      refine goIaload Xt197 hx hZ et197 Yc4 (x := t0) (hb hby at_272) (by decide) rfl ?_
      refine goCallS Xt197 hx hZ hown (hw _ (List.mem_of_getElem? (i := 12) rfl)) (hw _ (List.mem_of_getElem? (i := 13) rfl)) (hw _ (List.mem_of_getElem? (i := 3) rfl)) (hw _ (List.mem_of_getElem? (i := 14) rfl)) (by decide) (rmH3 l Z a0 hw t0 t1 t3 [.int t3] b183 t0 ht197 O200 Yd) 0 (by decide) (by decide) et197 (hsz rfl) [(.ref b183), (.int (3 : Int32)), (.int t0)] [] pd_3 rfl rfl rfl (Nat.le_of_eq rfl) (hb hby at_273) (by decide) (by decide) (fun Tt291 vt291 Lt291 Xt291 qt291 => ?_)
      obtain ⟨rfl, N292, et291⟩ := qt291
      have N293 := Fr.app N199 N292
      show Goes p e below _ (Tt291.setTop (mkF m 276 #[.val (.int p0), .val (.int p1), .val (.int p2), .val (.int p3), .val (.int p4), .val (.ref b2), .val (.int (4 : Int32)), .val (.ref b183), .val (.int (3 : Int32)), .val (.int (1 : Int32)), .unset, .unset] [(.int (own_has3 t0 t1 t3 t0))]))
      refine gIfN Xt291 hx (hb hby at_276) (XT.i0_eq_f (by simp [own_has3, e1, e2, e3])) ?_
      show Goes p e below _ (Tt291.setTop (mkF m 279 #[.val (.int p0), .val (.int p1), .val (.int p2), .val (.int p3), .val (.int p4), .val (.ref b2), .val (.int (4 : Int32)), .val (.ref b183), .val (.int (3 : Int32)), .val (.int (1 : Int32)), .unset, .unset] []))
      refine gIload Xt291 hx (hb hby at_279) rfl ?_
      refine gIconst Xt291 hx (hb hby at_281) (v := (2 : Int32)) rfl ?_
      refine gIcmpN Xt291 hx (hb hby at_282) (XT.ii_lt_f (by decide)) ?_
      show Goes p e below _ (Tt291.setTop (mkF m 285 #[.val (.int p0), .val (.int p1), .val (.int p2), .val (.int p3), .val (.int p4), .val (.ref b2), .val (.int (4 : Int32)), .val (.ref b183), .val (.int (3 : Int32)), .val (.int (1 : Int32)), .unset, .unset] []))
      refine gAload Xt291 hx (hb hby at_285) rfl rfl ?_
      refine gIload Xt291 hx (hb hby at_287) rfl ?_
      refine gAload Xt291 hx (hb hby at_289) rfl rfl ?_
      refine gIconst Xt291 hx (hb hby at_291) (v := (1 : Int32)) rfl ?_
      refine goIaload Xt291 hx hZ et291 Yc4 (x := t1) (hb hby at_292) (by decide) rfl ?_
      refine goCallS Xt291 hx hZ hown (hw _ (List.mem_of_getElem? (i := 12) rfl)) (hw _ (List.mem_of_getElem? (i := 13) rfl)) (hw _ (List.mem_of_getElem? (i := 3) rfl)) (hw _ (List.mem_of_getElem? (i := 14) rfl)) (by decide) (rmH3 l Z a0 hw t0 t1 t3 [.int t3] b183 t1 ht197 O200 Yd) 0 (by decide) (by decide) et291 (hsz rfl) [(.ref b183), (.int (3 : Int32)), (.int t1)] [] pd_3 rfl rfl rfl (Nat.le_of_eq rfl) (hb hby at_293) (by decide) (by decide) (fun Tt294 vt294 Lt294 Xt294 qt294 => ?_)
      obtain ⟨rfl, N295, et294⟩ := qt294
      have N296 := Fr.app N293 N295
      show Goes p e below _ (Tt294.setTop (mkF m 296 #[.val (.int p0), .val (.int p1), .val (.int p2), .val (.int p3), .val (.int p4), .val (.ref b2), .val (.int (4 : Int32)), .val (.ref b183), .val (.int (3 : Int32)), .val (.int (1 : Int32)), .unset, .unset] [(.int (own_has3 t0 t1 t3 t1))]))
      refine gIfN Xt294 hx (hb hby at_296) (XT.i0_eq_f (by simp [own_has3, e1, e2, e3])) ?_
      show Goes p e below _ (Tt294.setTop (mkF m 299 #[.val (.int p0), .val (.int p1), .val (.int p2), .val (.int p3), .val (.int p4), .val (.ref b2), .val (.int (4 : Int32)), .val (.ref b183), .val (.int (3 : Int32)), .val (.int (1 : Int32)), .unset, .unset] []))
      refine gIload Xt294 hx (hb hby at_299) rfl ?_
      refine gIconst Xt294 hx (hb hby at_301) (v := (3 : Int32)) rfl ?_
      refine gIcmpN Xt294 hx (hb hby at_302) (XT.ii_lt_f (by decide)) ?_
      show Goes p e below _ (Tt294.setTop (mkF m 305 #[.val (.int p0), .val (.int p1), .val (.int p2), .val (.int p3), .val (.int p4), .val (.ref b2), .val (.int (4 : Int32)), .val (.ref b183), .val (.int (3 : Int32)), .val (.int (1 : Int32)), .unset, .unset] []))
      refine gAload Xt294 hx (hb hby at_305) rfl rfl ?_
      refine gIload Xt294 hx (hb hby at_307) rfl ?_
      refine gAload Xt294 hx (hb hby at_309) rfl rfl ?_
      refine gIconst Xt294 hx (hb hby at_311) (v := (2 : Int32)) rfl ?_
      refine goIaload Xt294 hx hZ et294 Yc4 (x := t2) (hb hby at_312) (by decide) rfl ?_
      refine goCallS Xt294 hx hZ hown (hw _ (List.mem_of_getElem? (i := 12) rfl)) (hw _ (List.mem_of_getElem? (i := 13) rfl)) (hw _ (List.mem_of_getElem? (i := 3) rfl)) (hw _ (List.mem_of_getElem? (i := 14) rfl)) (by decide) (rmH3 l Z a0 hw t0 t1 t3 [.int t3] b183 t2 ht197 O200 Yd) 0 (by decide) (by decide) et294 (hsz rfl) [(.ref b183), (.int (3 : Int32)), (.int t2)] [] pd_3 rfl rfl rfl (Nat.le_of_eq rfl) (hb hby at_313) (by decide) (by decide) (fun Tt297 vt297 Lt297 Xt297 qt297 => ?_)
      obtain ⟨rfl, N298, et297⟩ := qt297
      have N299 := Fr.app N296 N298
      show Goes p e below _ (Tt297.setTop (mkF m 316 #[.val (.int p0), .val (.int p1), .val (.int p2), .val (.int p3), .val (.int p4), .val (.ref b2), .val (.int (4 : Int32)), .val (.ref b183), .val (.int (3 : Int32)), .val (.int (1 : Int32)), .unset, .unset] [(.int (own_has3 t0 t1 t3 t2))]))
      refine gIfN Xt297 hx (hb hby at_316) (XT.i0_eq_f (by simp [own_has3, e1, e2, e3])) ?_
      show Goes p e below _ (Tt297.setTop (mkF m 319 #[.val (.int p0), .val (.int p1), .val (.int p2), .val (.int p3), .val (.int p4), .val (.ref b2), .val (.int (4 : Int32)), .val (.ref b183), .val (.int (3 : Int32)), .val (.int (1 : Int32)), .unset, .unset] []))
      refine gIload Xt297 hx (hb hby at_319) rfl ?_
      refine gIconst Xt297 hx (hb hby at_321) (v := (4 : Int32)) rfl ?_
      refine gIcmpN Xt297 hx (hb hby at_322) (XT.ii_lt_f (by decide)) ?_
      show Goes p e below _ (Tt297.setTop (mkF m 325 #[.val (.int p0), .val (.int p1), .val (.int p2), .val (.int p3), .val (.int p4), .val (.ref b2), .val (.int (4 : Int32)), .val (.ref b183), .val (.int (3 : Int32)), .val (.int (1 : Int32)), .unset, .unset] []))
      refine gAload Xt297 hx (hb hby at_325) rfl rfl ?_
      refine gIload Xt297 hx (hb hby at_327) rfl ?_
      refine gAload Xt297 hx (hb hby at_329) rfl rfl ?_
      refine gIconst Xt297 hx (hb hby at_331) (v := (3 : Int32)) rfl ?_
      refine goIaload Xt297 hx hZ et297 Yc4 (x := t3) (hb hby at_332) (by decide) rfl ?_
      refine goCallS Xt297 hx hZ hown (hw _ (List.mem_of_getElem? (i := 12) rfl)) (hw _ (List.mem_of_getElem? (i := 13) rfl)) (hw _ (List.mem_of_getElem? (i := 3) rfl)) (hw _ (List.mem_of_getElem? (i := 14) rfl)) (by decide) (rmH3 l Z a0 hw t0 t1 t3 [.int t3] b183 t3 ht197 O200 Yd) 0 (by decide) (by decide) et297 (hsz rfl) [(.ref b183), (.int (3 : Int32)), (.int t3)] [] pd_3 rfl rfl rfl (Nat.le_of_eq rfl) (hb hby at_333) (by decide) (by decide) (fun Tt300 vt300 Lt300 Xt300 qt300 => ?_)
      obtain ⟨rfl, N301, et300⟩ := qt300
      have N302 := Fr.app N299 N301
      show Goes p e below _ (Tt300.setTop (mkF m 336 #[.val (.int p0), .val (.int p1), .val (.int p2), .val (.int p3), .val (.int p4), .val (.ref b2), .val (.int (4 : Int32)), .val (.ref b183), .val (.int (3 : Int32)), .val (.int (1 : Int32)), .unset, .unset] [(.int (own_has3 t0 t1 t3 t3))]))
      refine gIfN Xt300 hx (hb hby at_336) (XT.i0_eq_f (by simp [own_has3, e1, e2, e3])) ?_
      show Goes p e below _ (Tt300.setTop (mkF m 339 #[.val (.int p0), .val (.int p1), .val (.int p2), .val (.int p3), .val (.int p4), .val (.ref b2), .val (.int (4 : Int32)), .val (.ref b183), .val (.int (3 : Int32)), .val (.int (1 : Int32)), .unset, .unset] []))
      refine gIconst Xt300 hx (hb hby at_339) (v := (1 : Int32)) rfl ?_
      refine gGoto Xt300 hx (hb hby at_340) (pc' := 344) (by decide) (by decide) ?_
      show Goes p e below _ (Tt300.setTop (mkF m 344 #[.val (.int p0), .val (.int p1), .val (.int p2), .val (.int p3), .val (.int p4), .val (.ref b2), .val (.int (4 : Int32)), .val (.ref b183), .val (.int (3 : Int32)), .val (.int (1 : Int32)), .unset, .unset] [(.int (1 : Int32))]))
      refine gIstore Xt300 hx (hb hby at_344) (l' := #[.val (.int p0), .val (.int p1), .val (.int p2), .val (.int p3), .val (.int p4), .val (.ref b2), .val (.int (4 : Int32)), .val (.ref b183), .val (.int (3 : Int32)), .val (.int (1 : Int32)), .val (.int (1 : Int32)), .unset]) rfl ?_
      refine gIload Xt300 hx (hb hby at_346) rfl ?_
      refine gIconst Xt300 hx (hb hby at_348) (v := (1 : Int32)) rfl ?_
      refine gIcmpN Xt300 hx (hb hby at_349) (XT.ii_lt_f (by decide)) ?_
      show Goes p e below _ (Tt300.setTop (mkF m 352 #[.val (.int p0), .val (.int p1), .val (.int p2), .val (.int p3), .val (.int p4), .val (.ref b2), .val (.int (4 : Int32)), .val (.ref b183), .val (.int (3 : Int32)), .val (.int (1 : Int32)), .val (.int (1 : Int32)), .unset] []))
      refine gAload Xt300 hx (hb hby at_352) rfl rfl ?_
      refine gIload Xt300 hx (hb hby at_354) rfl ?_
      refine gAload Xt300 hx (hb hby at_356) rfl rfl ?_
      refine gIconst Xt300 hx (hb hby at_358) (v := (0 : Int32)) rfl ?_
      refine goIaload Xt300 hx hZ et300 Yd (x := t0) (hb hby at_359) (by decide) rfl ?_
      refine goCallS Xt300 hx hZ hown (hw _ (List.mem_of_getElem? (i := 12) rfl)) (hw _ (List.mem_of_getElem? (i := 13) rfl)) (hw _ (List.mem_of_getElem? (i := 3) rfl)) (hw _ (List.mem_of_getElem? (i := 14) rfl)) (by decide) (rmH4 l Z a0 hw t0 t1 t2 t3 [] b2 t0 ht197 O200 Yc4) 0 (by decide) (by decide) et300 (hsz rfl) [(.ref b2), (.int (4 : Int32)), (.int t0)] [] pd_3 rfl rfl rfl (Nat.le_of_eq rfl) (hb hby at_360) (by decide) (by decide) (fun Tt303 vt303 Lt303 Xt303 qt303 => ?_)
      obtain ⟨rfl, N304, et303⟩ := qt303
      have N305 := Fr.app N302 N304
      show Goes p e below _ (Tt303.setTop (mkF m 363 #[.val (.int p0), .val (.int p1), .val (.int p2), .val (.int p3), .val (.int p4), .val (.ref b2), .val (.int (4 : Int32)), .val (.ref b183), .val (.int (3 : Int32)), .val (.int (1 : Int32)), .val (.int (1 : Int32)), .unset] [(.int (own_has4 t0 t1 t2 t3 t0))]))
      refine gIfN Xt303 hx (hb hby at_363) (XT.i0_eq_f (by simp [own_has4, e1, e2, e3])) ?_
      show Goes p e below _ (Tt303.setTop (mkF m 366 #[.val (.int p0), .val (.int p1), .val (.int p2), .val (.int p3), .val (.int p4), .val (.ref b2), .val (.int (4 : Int32)), .val (.ref b183), .val (.int (3 : Int32)), .val (.int (1 : Int32)), .val (.int (1 : Int32)), .unset] []))
      refine gIload Xt303 hx (hb hby at_366) rfl ?_
      refine gIconst Xt303 hx (hb hby at_368) (v := (2 : Int32)) rfl ?_
      refine gIcmpN Xt303 hx (hb hby at_369) (XT.ii_lt_f (by decide)) ?_
      show Goes p e below _ (Tt303.setTop (mkF m 372 #[.val (.int p0), .val (.int p1), .val (.int p2), .val (.int p3), .val (.int p4), .val (.ref b2), .val (.int (4 : Int32)), .val (.ref b183), .val (.int (3 : Int32)), .val (.int (1 : Int32)), .val (.int (1 : Int32)), .unset] []))
      refine gAload Xt303 hx (hb hby at_372) rfl rfl ?_
      refine gIload Xt303 hx (hb hby at_374) rfl ?_
      refine gAload Xt303 hx (hb hby at_376) rfl rfl ?_
      refine gIconst Xt303 hx (hb hby at_378) (v := (1 : Int32)) rfl ?_
      refine goIaload Xt303 hx hZ et303 Yd (x := t1) (hb hby at_379) (by decide) rfl ?_
      refine goCallS Xt303 hx hZ hown (hw _ (List.mem_of_getElem? (i := 12) rfl)) (hw _ (List.mem_of_getElem? (i := 13) rfl)) (hw _ (List.mem_of_getElem? (i := 3) rfl)) (hw _ (List.mem_of_getElem? (i := 14) rfl)) (by decide) (rmH4 l Z a0 hw t0 t1 t2 t3 [] b2 t1 ht197 O200 Yc4) 0 (by decide) (by decide) et303 (hsz rfl) [(.ref b2), (.int (4 : Int32)), (.int t1)] [] pd_3 rfl rfl rfl (Nat.le_of_eq rfl) (hb hby at_380) (by decide) (by decide) (fun Tt306 vt306 Lt306 Xt306 qt306 => ?_)
      obtain ⟨rfl, N307, et306⟩ := qt306
      have N308 := Fr.app N305 N307
      show Goes p e below _ (Tt306.setTop (mkF m 383 #[.val (.int p0), .val (.int p1), .val (.int p2), .val (.int p3), .val (.int p4), .val (.ref b2), .val (.int (4 : Int32)), .val (.ref b183), .val (.int (3 : Int32)), .val (.int (1 : Int32)), .val (.int (1 : Int32)), .unset] [(.int (own_has4 t0 t1 t2 t3 t1))]))
      refine gIfN Xt306 hx (hb hby at_383) (XT.i0_eq_f (by simp [own_has4, e1, e2, e3])) ?_
      show Goes p e below _ (Tt306.setTop (mkF m 386 #[.val (.int p0), .val (.int p1), .val (.int p2), .val (.int p3), .val (.int p4), .val (.ref b2), .val (.int (4 : Int32)), .val (.ref b183), .val (.int (3 : Int32)), .val (.int (1 : Int32)), .val (.int (1 : Int32)), .unset] []))
      refine gIload Xt306 hx (hb hby at_386) rfl ?_
      refine gIconst Xt306 hx (hb hby at_388) (v := (3 : Int32)) rfl ?_
      refine gIcmpN Xt306 hx (hb hby at_389) (XT.ii_lt_f (by decide)) ?_
      show Goes p e below _ (Tt306.setTop (mkF m 392 #[.val (.int p0), .val (.int p1), .val (.int p2), .val (.int p3), .val (.int p4), .val (.ref b2), .val (.int (4 : Int32)), .val (.ref b183), .val (.int (3 : Int32)), .val (.int (1 : Int32)), .val (.int (1 : Int32)), .unset] []))
      refine gAload Xt306 hx (hb hby at_392) rfl rfl ?_
      refine gIload Xt306 hx (hb hby at_394) rfl ?_
      refine gAload Xt306 hx (hb hby at_396) rfl rfl ?_
      refine gIconst Xt306 hx (hb hby at_398) (v := (2 : Int32)) rfl ?_
      refine goIaload Xt306 hx hZ et306 Yd (x := t3) (hb hby at_399) (by decide) rfl ?_
      refine goCallS Xt306 hx hZ hown (hw _ (List.mem_of_getElem? (i := 12) rfl)) (hw _ (List.mem_of_getElem? (i := 13) rfl)) (hw _ (List.mem_of_getElem? (i := 3) rfl)) (hw _ (List.mem_of_getElem? (i := 14) rfl)) (by decide) (rmH4 l Z a0 hw t0 t1 t2 t3 [] b2 t3 ht197 O200 Yc4) 0 (by decide) (by decide) et306 (hsz rfl) [(.ref b2), (.int (4 : Int32)), (.int t3)] [] pd_3 rfl rfl rfl (Nat.le_of_eq rfl) (hb hby at_400) (by decide) (by decide) (fun Tt309 vt309 Lt309 Xt309 qt309 => ?_)
      obtain ⟨rfl, N310, et309⟩ := qt309
      have N311 := Fr.app N308 N310
      show Goes p e below _ (Tt309.setTop (mkF m 403 #[.val (.int p0), .val (.int p1), .val (.int p2), .val (.int p3), .val (.int p4), .val (.ref b2), .val (.int (4 : Int32)), .val (.ref b183), .val (.int (3 : Int32)), .val (.int (1 : Int32)), .val (.int (1 : Int32)), .unset] [(.int (own_has4 t0 t1 t2 t3 t3))]))
      refine gIfN Xt309 hx (hb hby at_403) (XT.i0_eq_f (by simp [own_has4, e1, e2, e3])) ?_
      show Goes p e below _ (Tt309.setTop (mkF m 406 #[.val (.int p0), .val (.int p1), .val (.int p2), .val (.int p3), .val (.int p4), .val (.ref b2), .val (.int (4 : Int32)), .val (.ref b183), .val (.int (3 : Int32)), .val (.int (1 : Int32)), .val (.int (1 : Int32)), .unset] []))
      refine gIload Xt309 hx (hb hby at_406) rfl ?_
      refine gIconst Xt309 hx (hb hby at_408) (v := (4 : Int32)) rfl ?_
      refine gIcmpY Xt309 hx (hb hby at_409) (pc' := 426) (XT.ii_lt_t (by decide)) (by decide) (by decide) ?_
      show Goes p e below _ (Tt309.setTop (mkF m 426 #[.val (.int p0), .val (.int p1), .val (.int p2), .val (.int p3), .val (.int p4), .val (.ref b2), .val (.int (4 : Int32)), .val (.ref b183), .val (.int (3 : Int32)), .val (.int (1 : Int32)), .val (.int (1 : Int32)), .unset] []))
      refine gIconst Xt309 hx (hb hby at_426) (v := (1 : Int32)) rfl ?_
      refine gGoto Xt309 hx (hb hby at_427) (pc' := 431) (by decide) (by decide) ?_
      show Goes p e below _ (Tt309.setTop (mkF m 431 #[.val (.int p0), .val (.int p1), .val (.int p2), .val (.int p3), .val (.int p4), .val (.ref b2), .val (.int (4 : Int32)), .val (.ref b183), .val (.int (3 : Int32)), .val (.int (1 : Int32)), .val (.int (1 : Int32)), .unset] [(.int (1 : Int32))]))
      refine gIstore Xt309 hx (hb hby at_431) (l' := #[.val (.int p0), .val (.int p1), .val (.int p2), .val (.int p3), .val (.int p4), .val (.ref b2), .val (.int (4 : Int32)), .val (.ref b183), .val (.int (3 : Int32)), .val (.int (1 : Int32)), .val (.int (1 : Int32)), .val (.int (1 : Int32))]) rfl ?_
      refine gIload Xt309 hx (hb hby at_433) rfl ?_
      refine gIfN Xt309 hx (hb hby at_435) (XT.i0_eq_f (by decide)) ?_
      show Goes p e below _ (Tt309.setTop (mkF m 438 #[.val (.int p0), .val (.int p1), .val (.int p2), .val (.int p3), .val (.int p4), .val (.ref b2), .val (.int (4 : Int32)), .val (.ref b183), .val (.int (3 : Int32)), .val (.int (1 : Int32)), .val (.int (1 : Int32)), .val (.int (1 : Int32))] []))
      refine gIload Xt309 hx (hb hby at_438) rfl ?_
      refine gIfN Xt309 hx (hb hby at_440) (XT.i0_eq_f (by decide)) ?_
      show Goes p e below _ (Tt309.setTop (mkF m 443 #[.val (.int p0), .val (.int p1), .val (.int p2), .val (.int p3), .val (.int p4), .val (.ref b2), .val (.int (4 : Int32)), .val (.ref b183), .val (.int (3 : Int32)), .val (.int (1 : Int32)), .val (.int (1 : Int32)), .val (.int (1 : Int32))] []))
      refine gIload Xt309 hx (hb hby at_443) rfl ?_
      refine gIfN Xt309 hx (hb hby at_445) (XT.i0_eq_f (by decide)) ?_
      show Goes p e below _ (Tt309.setTop (mkF m 448 #[.val (.int p0), .val (.int p1), .val (.int p2), .val (.int p3), .val (.int p4), .val (.ref b2), .val (.int (4 : Int32)), .val (.ref b183), .val (.int (3 : Int32)), .val (.int (1 : Int32)), .val (.int (1 : Int32)), .val (.int (1 : Int32))] []))
      refine gIconst Xt309 hx (hb hby at_448) (v := (1 : Int32)) rfl ?_
      refine gGoto Xt309 hx (hb hby at_449) (pc' := 453) (by decide) (by decide) ?_
      show Goes p e below _ (Tt309.setTop (mkF m 453 #[.val (.int p0), .val (.int p1), .val (.int p2), .val (.int p3), .val (.int p4), .val (.ref b2), .val (.int (4 : Int32)), .val (.ref b183), .val (.int (3 : Int32)), .val (.int (1 : Int32)), .val (.int (1 : Int32)), .val (.int (1 : Int32))] [(.int (1 : Int32))]))
      exact goRetN Xt309 hx (t := .boolean) hret hlocks (by simp) (hb hby at_453) (z' := (1 : Int32)) rfl (by decide) (by decide) et309 (⟨rfl, N311⟩)
    · show Goes p e below _ (Tt197.setTop (mkF m 185 #[.val (.int p0), .val (.int p1), .val (.int p2), .val (.int p3), .val (.int p4), .val (.ref b2), .val (.int (4 : Int32)), .val (.ref b183), .unset, .unset, .unset, .unset] [(.int (3 : Int32))]))
      have f1 : ¬ t1.toInt = t0.toInt := fun z => e1 (Int32.toInt_inj.mp z)
      have f2 : ¬ t2.toInt = t1.toInt := fun z => e2 (Int32.toInt_inj.mp z)
      have f3 : t3.toInt = t2.toInt := by rw [e3]
      refine gIstore Xt197 hx (hb hby at_185) (l' := #[.val (.int p0), .val (.int p1), .val (.int p2), .val (.int p3), .val (.int p4), .val (.ref b2), .val (.int (4 : Int32)), .val (.ref b183), .val (.int (3 : Int32)), .unset, .unset, .unset]) rfl ?_
      refine gIload Xt197 hx (hb hby at_187) rfl ?_
      refine gIfN Xt197 hx (hb hby at_189) (XT.i0_lt_f (by decide)) ?_
      show Goes p e below _ (Tt197.setTop (mkF m 192 #[.val (.int p0), .val (.int p1), .val (.int p2), .val (.int p3), .val (.int p4), .val (.ref b2), .val (.int (4 : Int32)), .val (.ref b183), .val (.int (3 : Int32)), .unset, .unset, .unset] []))
      refine gIload Xt197 hx (hb hby at_192) rfl ?_
      refine gIload Xt197 hx (hb hby at_194) rfl ?_
      refine gIcmpY Xt197 hx (hb hby at_196) (pc' := 201) (XT.ii_le_t (by decide)) (by decide) (by decide) ?_
      show Goes p e below _ (Tt197.setTop (mkF m 201 #[.val (.int p0), .val (.int p1), .val (.int p2), .val (.int p3), .val (.int p4), .val (.ref b2), .val (.int (4 : Int32)), .val (.ref b183), .val (.int (3 : Int32)), .unset, .unset, .unset] []))
      refine gIload Xt197 hx (hb hby at_201) rfl ?_
      refine gIconst Xt197 hx (hb hby at_203) (v := (2 : Int32)) rfl ?_
      refine gIcmpN Xt197 hx (hb hby at_204) (XT.ii_lt_f (by decide)) ?_
      show Goes p e below _ (Tt197.setTop (mkF m 207 #[.val (.int p0), .val (.int p1), .val (.int p2), .val (.int p3), .val (.int p4), .val (.ref b2), .val (.int (4 : Int32)), .val (.ref b183), .val (.int (3 : Int32)), .unset, .unset, .unset] []))
      refine gAload Xt197 hx (hb hby at_207) rfl rfl ?_
      refine gIconst Xt197 hx (hb hby at_209) (v := (0 : Int32)) rfl ?_
      refine goIaload Xt197 hx hZ et197 Yd (x := t0) (hb hby at_210) (by decide) rfl ?_
      refine gAload Xt197 hx (hb hby at_211) rfl rfl ?_
      refine gIconst Xt197 hx (hb hby at_213) (v := (1 : Int32)) rfl ?_
      refine goIaload Xt197 hx hZ et197 Yd (x := t1) (hb hby at_214) (by decide) rfl ?_
      refine gIcmpN Xt197 hx (hb hby at_215) (XT.ii_ge_f (Int32.lt_iff_toInt_lt.mpr (by omega))) ?_
      show Goes p e below _ (Tt197.setTop (mkF m 218 #[.val (.int p0), .val (.int p1), .val (.int p2), .val (.int p3), .val (.int p4), .val (.ref b2), .val (.int (4 : Int32)), .val (.ref b183), .val (.int (3 : Int32)), .unset, .unset, .unset] []))
      refine gIload Xt197 hx (hb hby at_218) rfl ?_
      refine gIconst Xt197 hx (hb hby at_220) (v := (3 : Int32)) rfl ?_
      refine gIcmpN Xt197 hx (hb hby at_221) (XT.ii_lt_f (by decide)) ?_
      show Goes p e below _ (Tt197.setTop (mkF m 224 #[.val (.int p0), .val (.int p1), .val (.int p2), .val (.int p3), .val (.int p4), .val (.ref b2), .val (.int (4 : Int32)), .val (.ref b183), .val (.int (3 : Int32)), .unset, .unset, .unset] []))
      refine gAload Xt197 hx (hb hby at_224) rfl rfl ?_
      refine gIconst Xt197 hx (hb hby at_226) (v := (1 : Int32)) rfl ?_
      refine goIaload Xt197 hx hZ et197 Yd (x := t1) (hb hby at_227) (by decide) rfl ?_
      refine gAload Xt197 hx (hb hby at_228) rfl rfl ?_
      refine gIconst Xt197 hx (hb hby at_230) (v := (2 : Int32)) rfl ?_
      refine goIaload Xt197 hx hZ et197 Yd (x := t2) (hb hby at_231) (by decide) rfl ?_
      refine gIcmpN Xt197 hx (hb hby at_232) (XT.ii_ge_f (Int32.lt_iff_toInt_lt.mpr (by omega))) ?_
      show Goes p e below _ (Tt197.setTop (mkF m 235 #[.val (.int p0), .val (.int p1), .val (.int p2), .val (.int p3), .val (.int p4), .val (.ref b2), .val (.int (4 : Int32)), .val (.ref b183), .val (.int (3 : Int32)), .unset, .unset, .unset] []))
      refine gIload Xt197 hx (hb hby at_235) rfl ?_
      refine gIconst Xt197 hx (hb hby at_237) (v := (4 : Int32)) rfl ?_
      refine gIcmpY Xt197 hx (hb hby at_238) (pc' := 252) (XT.ii_lt_t (by decide)) (by decide) (by decide) ?_
      show Goes p e below _ (Tt197.setTop (mkF m 252 #[.val (.int p0), .val (.int p1), .val (.int p2), .val (.int p3), .val (.int p4), .val (.ref b2), .val (.int (4 : Int32)), .val (.ref b183), .val (.int (3 : Int32)), .unset, .unset, .unset] []))
      refine gIconst Xt197 hx (hb hby at_252) (v := (1 : Int32)) rfl ?_
      refine gGoto Xt197 hx (hb hby at_253) (pc' := 257) (by decide) (by decide) ?_
      show Goes p e below _ (Tt197.setTop (mkF m 257 #[.val (.int p0), .val (.int p1), .val (.int p2), .val (.int p3), .val (.int p4), .val (.ref b2), .val (.int (4 : Int32)), .val (.ref b183), .val (.int (3 : Int32)), .unset, .unset, .unset] [(.int (1 : Int32))]))
      refine gIstore Xt197 hx (hb hby at_257) (l' := #[.val (.int p0), .val (.int p1), .val (.int p2), .val (.int p3), .val (.int p4), .val (.ref b2), .val (.int (4 : Int32)), .val (.ref b183), .val (.int (3 : Int32)), .val (.int (1 : Int32)), .unset, .unset]) rfl ?_
      refine gIload Xt197 hx (hb hby at_259) rfl ?_
      refine gIconst Xt197 hx (hb hby at_261) (v := (1 : Int32)) rfl ?_
      refine gIcmpN Xt197 hx (hb hby at_262) (XT.ii_lt_f (by decide)) ?_
      show Goes p e below _ (Tt197.setTop (mkF m 265 #[.val (.int p0), .val (.int p1), .val (.int p2), .val (.int p3), .val (.int p4), .val (.ref b2), .val (.int (4 : Int32)), .val (.ref b183), .val (.int (3 : Int32)), .val (.int (1 : Int32)), .unset, .unset] []))
      refine gAload Xt197 hx (hb hby at_265) rfl rfl ?_
      refine gIload Xt197 hx (hb hby at_267) rfl ?_
      refine gAload Xt197 hx (hb hby at_269) rfl rfl ?_
      refine gIconst Xt197 hx (hb hby at_271) (v := (0 : Int32)) rfl ?_
      refine goIaload Xt197 hx hZ et197 Yc4 (x := t0) (hb hby at_272) (by decide) rfl ?_
      refine goCallS Xt197 hx hZ hown (hw _ (List.mem_of_getElem? (i := 12) rfl)) (hw _ (List.mem_of_getElem? (i := 13) rfl)) (hw _ (List.mem_of_getElem? (i := 3) rfl)) (hw _ (List.mem_of_getElem? (i := 14) rfl)) (by decide) (rmH3 l Z a0 hw t0 t1 t2 [.int t3] b183 t0 ht197 O200 Yd) 0 (by decide) (by decide) et197 (hsz rfl) [(.ref b183), (.int (3 : Int32)), (.int t0)] [] pd_3 rfl rfl rfl (Nat.le_of_eq rfl) (hb hby at_273) (by decide) (by decide) (fun Tt312 vt312 Lt312 Xt312 qt312 => ?_)
      obtain ⟨rfl, N313, et312⟩ := qt312
      have N314 := Fr.app N199 N313
      show Goes p e below _ (Tt312.setTop (mkF m 276 #[.val (.int p0), .val (.int p1), .val (.int p2), .val (.int p3), .val (.int p4), .val (.ref b2), .val (.int (4 : Int32)), .val (.ref b183), .val (.int (3 : Int32)), .val (.int (1 : Int32)), .unset, .unset] [(.int (own_has3 t0 t1 t2 t0))]))
      refine gIfN Xt312 hx (hb hby at_276) (XT.i0_eq_f (by simp [own_has3, e1, e2, e3])) ?_
      show Goes p e below _ (Tt312.setTop (mkF m 279 #[.val (.int p0), .val (.int p1), .val (.int p2), .val (.int p3), .val (.int p4), .val (.ref b2), .val (.int (4 : Int32)), .val (.ref b183), .val (.int (3 : Int32)), .val (.int (1 : Int32)), .unset, .unset] []))
      refine gIload Xt312 hx (hb hby at_279) rfl ?_
      refine gIconst Xt312 hx (hb hby at_281) (v := (2 : Int32)) rfl ?_
      refine gIcmpN Xt312 hx (hb hby at_282) (XT.ii_lt_f (by decide)) ?_
      show Goes p e below _ (Tt312.setTop (mkF m 285 #[.val (.int p0), .val (.int p1), .val (.int p2), .val (.int p3), .val (.int p4), .val (.ref b2), .val (.int (4 : Int32)), .val (.ref b183), .val (.int (3 : Int32)), .val (.int (1 : Int32)), .unset, .unset] []))
      refine gAload Xt312 hx (hb hby at_285) rfl rfl ?_
      refine gIload Xt312 hx (hb hby at_287) rfl ?_
      refine gAload Xt312 hx (hb hby at_289) rfl rfl ?_
      refine gIconst Xt312 hx (hb hby at_291) (v := (1 : Int32)) rfl ?_
      refine goIaload Xt312 hx hZ et312 Yc4 (x := t1) (hb hby at_292) (by decide) rfl ?_
      refine goCallS Xt312 hx hZ hown (hw _ (List.mem_of_getElem? (i := 12) rfl)) (hw _ (List.mem_of_getElem? (i := 13) rfl)) (hw _ (List.mem_of_getElem? (i := 3) rfl)) (hw _ (List.mem_of_getElem? (i := 14) rfl)) (by decide) (rmH3 l Z a0 hw t0 t1 t2 [.int t3] b183 t1 ht197 O200 Yd) 0 (by decide) (by decide) et312 (hsz rfl) [(.ref b183), (.int (3 : Int32)), (.int t1)] [] pd_3 rfl rfl rfl (Nat.le_of_eq rfl) (hb hby at_293) (by decide) (by decide) (fun Tt315 vt315 Lt315 Xt315 qt315 => ?_)
      obtain ⟨rfl, N316, et315⟩ := qt315
      have N317 := Fr.app N314 N316
      show Goes p e below _ (Tt315.setTop (mkF m 296 #[.val (.int p0), .val (.int p1), .val (.int p2), .val (.int p3), .val (.int p4), .val (.ref b2), .val (.int (4 : Int32)), .val (.ref b183), .val (.int (3 : Int32)), .val (.int (1 : Int32)), .unset, .unset] [(.int (own_has3 t0 t1 t2 t1))]))
      refine gIfN Xt315 hx (hb hby at_296) (XT.i0_eq_f (by simp [own_has3, e1, e2, e3])) ?_
      show Goes p e below _ (Tt315.setTop (mkF m 299 #[.val (.int p0), .val (.int p1), .val (.int p2), .val (.int p3), .val (.int p4), .val (.ref b2), .val (.int (4 : Int32)), .val (.ref b183), .val (.int (3 : Int32)), .val (.int (1 : Int32)), .unset, .unset] []))
      refine gIload Xt315 hx (hb hby at_299) rfl ?_
      refine gIconst Xt315 hx (hb hby at_301) (v := (3 : Int32)) rfl ?_
      refine gIcmpN Xt315 hx (hb hby at_302) (XT.ii_lt_f (by decide)) ?_
      show Goes p e below _ (Tt315.setTop (mkF m 305 #[.val (.int p0), .val (.int p1), .val (.int p2), .val (.int p3), .val (.int p4), .val (.ref b2), .val (.int (4 : Int32)), .val (.ref b183), .val (.int (3 : Int32)), .val (.int (1 : Int32)), .unset, .unset] []))
      refine gAload Xt315 hx (hb hby at_305) rfl rfl ?_
      refine gIload Xt315 hx (hb hby at_307) rfl ?_
      refine gAload Xt315 hx (hb hby at_309) rfl rfl ?_
      refine gIconst Xt315 hx (hb hby at_311) (v := (2 : Int32)) rfl ?_
      refine goIaload Xt315 hx hZ et315 Yc4 (x := t2) (hb hby at_312) (by decide) rfl ?_
      refine goCallS Xt315 hx hZ hown (hw _ (List.mem_of_getElem? (i := 12) rfl)) (hw _ (List.mem_of_getElem? (i := 13) rfl)) (hw _ (List.mem_of_getElem? (i := 3) rfl)) (hw _ (List.mem_of_getElem? (i := 14) rfl)) (by decide) (rmH3 l Z a0 hw t0 t1 t2 [.int t3] b183 t2 ht197 O200 Yd) 0 (by decide) (by decide) et315 (hsz rfl) [(.ref b183), (.int (3 : Int32)), (.int t2)] [] pd_3 rfl rfl rfl (Nat.le_of_eq rfl) (hb hby at_313) (by decide) (by decide) (fun Tt318 vt318 Lt318 Xt318 qt318 => ?_)
      obtain ⟨rfl, N319, et318⟩ := qt318
      have N320 := Fr.app N317 N319
      show Goes p e below _ (Tt318.setTop (mkF m 316 #[.val (.int p0), .val (.int p1), .val (.int p2), .val (.int p3), .val (.int p4), .val (.ref b2), .val (.int (4 : Int32)), .val (.ref b183), .val (.int (3 : Int32)), .val (.int (1 : Int32)), .unset, .unset] [(.int (own_has3 t0 t1 t2 t2))]))
      refine gIfN Xt318 hx (hb hby at_316) (XT.i0_eq_f (by simp [own_has3, e1, e2, e3])) ?_
      show Goes p e below _ (Tt318.setTop (mkF m 319 #[.val (.int p0), .val (.int p1), .val (.int p2), .val (.int p3), .val (.int p4), .val (.ref b2), .val (.int (4 : Int32)), .val (.ref b183), .val (.int (3 : Int32)), .val (.int (1 : Int32)), .unset, .unset] []))
      refine gIload Xt318 hx (hb hby at_319) rfl ?_
      refine gIconst Xt318 hx (hb hby at_321) (v := (4 : Int32)) rfl ?_
      refine gIcmpN Xt318 hx (hb hby at_322) (XT.ii_lt_f (by decide)) ?_
      show Goes p e below _ (Tt318.setTop (mkF m 325 #[.val (.int p0), .val (.int p1), .val (.int p2), .val (.int p3), .val (.int p4), .val (.ref b2), .val (.int (4 : Int32)), .val (.ref b183), .val (.int (3 : Int32)), .val (.int (1 : Int32)), .unset, .unset] []))
      refine gAload Xt318 hx (hb hby at_325) rfl rfl ?_
      refine gIload Xt318 hx (hb hby at_327) rfl ?_
      refine gAload Xt318 hx (hb hby at_329) rfl rfl ?_
      refine gIconst Xt318 hx (hb hby at_331) (v := (3 : Int32)) rfl ?_
      refine goIaload Xt318 hx hZ et318 Yc4 (x := t3) (hb hby at_332) (by decide) rfl ?_
      refine goCallS Xt318 hx hZ hown (hw _ (List.mem_of_getElem? (i := 12) rfl)) (hw _ (List.mem_of_getElem? (i := 13) rfl)) (hw _ (List.mem_of_getElem? (i := 3) rfl)) (hw _ (List.mem_of_getElem? (i := 14) rfl)) (by decide) (rmH3 l Z a0 hw t0 t1 t2 [.int t3] b183 t3 ht197 O200 Yd) 0 (by decide) (by decide) et318 (hsz rfl) [(.ref b183), (.int (3 : Int32)), (.int t3)] [] pd_3 rfl rfl rfl (Nat.le_of_eq rfl) (hb hby at_333) (by decide) (by decide) (fun Tt321 vt321 Lt321 Xt321 qt321 => ?_)
      obtain ⟨rfl, N322, et321⟩ := qt321
      have N323 := Fr.app N320 N322
      show Goes p e below _ (Tt321.setTop (mkF m 336 #[.val (.int p0), .val (.int p1), .val (.int p2), .val (.int p3), .val (.int p4), .val (.ref b2), .val (.int (4 : Int32)), .val (.ref b183), .val (.int (3 : Int32)), .val (.int (1 : Int32)), .unset, .unset] [(.int (own_has3 t0 t1 t2 t3))]))
      refine gIfN Xt321 hx (hb hby at_336) (XT.i0_eq_f (by simp [own_has3, e1, e2, e3])) ?_
      show Goes p e below _ (Tt321.setTop (mkF m 339 #[.val (.int p0), .val (.int p1), .val (.int p2), .val (.int p3), .val (.int p4), .val (.ref b2), .val (.int (4 : Int32)), .val (.ref b183), .val (.int (3 : Int32)), .val (.int (1 : Int32)), .unset, .unset] []))
      refine gIconst Xt321 hx (hb hby at_339) (v := (1 : Int32)) rfl ?_
      refine gGoto Xt321 hx (hb hby at_340) (pc' := 344) (by decide) (by decide) ?_
      show Goes p e below _ (Tt321.setTop (mkF m 344 #[.val (.int p0), .val (.int p1), .val (.int p2), .val (.int p3), .val (.int p4), .val (.ref b2), .val (.int (4 : Int32)), .val (.ref b183), .val (.int (3 : Int32)), .val (.int (1 : Int32)), .unset, .unset] [(.int (1 : Int32))]))
      refine gIstore Xt321 hx (hb hby at_344) (l' := #[.val (.int p0), .val (.int p1), .val (.int p2), .val (.int p3), .val (.int p4), .val (.ref b2), .val (.int (4 : Int32)), .val (.ref b183), .val (.int (3 : Int32)), .val (.int (1 : Int32)), .val (.int (1 : Int32)), .unset]) rfl ?_
      refine gIload Xt321 hx (hb hby at_346) rfl ?_
      refine gIconst Xt321 hx (hb hby at_348) (v := (1 : Int32)) rfl ?_
      refine gIcmpN Xt321 hx (hb hby at_349) (XT.ii_lt_f (by decide)) ?_
      show Goes p e below _ (Tt321.setTop (mkF m 352 #[.val (.int p0), .val (.int p1), .val (.int p2), .val (.int p3), .val (.int p4), .val (.ref b2), .val (.int (4 : Int32)), .val (.ref b183), .val (.int (3 : Int32)), .val (.int (1 : Int32)), .val (.int (1 : Int32)), .unset] []))
      refine gAload Xt321 hx (hb hby at_352) rfl rfl ?_
      refine gIload Xt321 hx (hb hby at_354) rfl ?_
      refine gAload Xt321 hx (hb hby at_356) rfl rfl ?_
      refine gIconst Xt321 hx (hb hby at_358) (v := (0 : Int32)) rfl ?_
      refine goIaload Xt321 hx hZ et321 Yd (x := t0) (hb hby at_359) (by decide) rfl ?_
      refine goCallS Xt321 hx hZ hown (hw _ (List.mem_of_getElem? (i := 12) rfl)) (hw _ (List.mem_of_getElem? (i := 13) rfl)) (hw _ (List.mem_of_getElem? (i := 3) rfl)) (hw _ (List.mem_of_getElem? (i := 14) rfl)) (by decide) (rmH4 l Z a0 hw t0 t1 t2 t3 [] b2 t0 ht197 O200 Yc4) 0 (by decide) (by decide) et321 (hsz rfl) [(.ref b2), (.int (4 : Int32)), (.int t0)] [] pd_3 rfl rfl rfl (Nat.le_of_eq rfl) (hb hby at_360) (by decide) (by decide) (fun Tt324 vt324 Lt324 Xt324 qt324 => ?_)
      obtain ⟨rfl, N325, et324⟩ := qt324
      have N326 := Fr.app N323 N325
      show Goes p e below _ (Tt324.setTop (mkF m 363 #[.val (.int p0), .val (.int p1), .val (.int p2), .val (.int p3), .val (.int p4), .val (.ref b2), .val (.int (4 : Int32)), .val (.ref b183), .val (.int (3 : Int32)), .val (.int (1 : Int32)), .val (.int (1 : Int32)), .unset] [(.int (own_has4 t0 t1 t2 t3 t0))]))
      refine gIfN Xt324 hx (hb hby at_363) (XT.i0_eq_f (by simp [own_has4, e1, e2, e3])) ?_
      show Goes p e below _ (Tt324.setTop (mkF m 366 #[.val (.int p0), .val (.int p1), .val (.int p2), .val (.int p3), .val (.int p4), .val (.ref b2), .val (.int (4 : Int32)), .val (.ref b183), .val (.int (3 : Int32)), .val (.int (1 : Int32)), .val (.int (1 : Int32)), .unset] []))
      refine gIload Xt324 hx (hb hby at_366) rfl ?_
      refine gIconst Xt324 hx (hb hby at_368) (v := (2 : Int32)) rfl ?_
      refine gIcmpN Xt324 hx (hb hby at_369) (XT.ii_lt_f (by decide)) ?_
      show Goes p e below _ (Tt324.setTop (mkF m 372 #[.val (.int p0), .val (.int p1), .val (.int p2), .val (.int p3), .val (.int p4), .val (.ref b2), .val (.int (4 : Int32)), .val (.ref b183), .val (.int (3 : Int32)), .val (.int (1 : Int32)), .val (.int (1 : Int32)), .unset] []))
      refine gAload Xt324 hx (hb hby at_372) rfl rfl ?_
      refine gIload Xt324 hx (hb hby at_374) rfl ?_
      refine gAload Xt324 hx (hb hby at_376) rfl rfl ?_
      refine gIconst Xt324 hx (hb hby at_378) (v := (1 : Int32)) rfl ?_
      refine goIaload Xt324 hx hZ et324 Yd (x := t1) (hb hby at_379) (by decide) rfl ?_
      refine goCallS Xt324 hx hZ hown (hw _ (List.mem_of_getElem? (i := 12) rfl)) (hw _ (List.mem_of_getElem? (i := 13) rfl)) (hw _ (List.mem_of_getElem? (i := 3) rfl)) (hw _ (List.mem_of_getElem? (i := 14) rfl)) (by decide) (rmH4 l Z a0 hw t0 t1 t2 t3 [] b2 t1 ht197 O200 Yc4) 0 (by decide) (by decide) et324 (hsz rfl) [(.ref b2), (.int (4 : Int32)), (.int t1)] [] pd_3 rfl rfl rfl (Nat.le_of_eq rfl) (hb hby at_380) (by decide) (by decide) (fun Tt327 vt327 Lt327 Xt327 qt327 => ?_)
      obtain ⟨rfl, N328, et327⟩ := qt327
      have N329 := Fr.app N326 N328
      show Goes p e below _ (Tt327.setTop (mkF m 383 #[.val (.int p0), .val (.int p1), .val (.int p2), .val (.int p3), .val (.int p4), .val (.ref b2), .val (.int (4 : Int32)), .val (.ref b183), .val (.int (3 : Int32)), .val (.int (1 : Int32)), .val (.int (1 : Int32)), .unset] [(.int (own_has4 t0 t1 t2 t3 t1))]))
      refine gIfN Xt327 hx (hb hby at_383) (XT.i0_eq_f (by simp [own_has4, e1, e2, e3])) ?_
      show Goes p e below _ (Tt327.setTop (mkF m 386 #[.val (.int p0), .val (.int p1), .val (.int p2), .val (.int p3), .val (.int p4), .val (.ref b2), .val (.int (4 : Int32)), .val (.ref b183), .val (.int (3 : Int32)), .val (.int (1 : Int32)), .val (.int (1 : Int32)), .unset] []))
      refine gIload Xt327 hx (hb hby at_386) rfl ?_
      refine gIconst Xt327 hx (hb hby at_388) (v := (3 : Int32)) rfl ?_
      refine gIcmpN Xt327 hx (hb hby at_389) (XT.ii_lt_f (by decide)) ?_
      show Goes p e below _ (Tt327.setTop (mkF m 392 #[.val (.int p0), .val (.int p1), .val (.int p2), .val (.int p3), .val (.int p4), .val (.ref b2), .val (.int (4 : Int32)), .val (.ref b183), .val (.int (3 : Int32)), .val (.int (1 : Int32)), .val (.int (1 : Int32)), .unset] []))
      refine gAload Xt327 hx (hb hby at_392) rfl rfl ?_
      refine gIload Xt327 hx (hb hby at_394) rfl ?_
      refine gAload Xt327 hx (hb hby at_396) rfl rfl ?_
      refine gIconst Xt327 hx (hb hby at_398) (v := (2 : Int32)) rfl ?_
      refine goIaload Xt327 hx hZ et327 Yd (x := t2) (hb hby at_399) (by decide) rfl ?_
      refine goCallS Xt327 hx hZ hown (hw _ (List.mem_of_getElem? (i := 12) rfl)) (hw _ (List.mem_of_getElem? (i := 13) rfl)) (hw _ (List.mem_of_getElem? (i := 3) rfl)) (hw _ (List.mem_of_getElem? (i := 14) rfl)) (by decide) (rmH4 l Z a0 hw t0 t1 t2 t3 [] b2 t2 ht197 O200 Yc4) 0 (by decide) (by decide) et327 (hsz rfl) [(.ref b2), (.int (4 : Int32)), (.int t2)] [] pd_3 rfl rfl rfl (Nat.le_of_eq rfl) (hb hby at_400) (by decide) (by decide) (fun Tt330 vt330 Lt330 Xt330 qt330 => ?_)
      obtain ⟨rfl, N331, et330⟩ := qt330
      have N332 := Fr.app N329 N331
      show Goes p e below _ (Tt330.setTop (mkF m 403 #[.val (.int p0), .val (.int p1), .val (.int p2), .val (.int p3), .val (.int p4), .val (.ref b2), .val (.int (4 : Int32)), .val (.ref b183), .val (.int (3 : Int32)), .val (.int (1 : Int32)), .val (.int (1 : Int32)), .unset] [(.int (own_has4 t0 t1 t2 t3 t2))]))
      refine gIfN Xt330 hx (hb hby at_403) (XT.i0_eq_f (by simp [own_has4, e1, e2, e3])) ?_
      show Goes p e below _ (Tt330.setTop (mkF m 406 #[.val (.int p0), .val (.int p1), .val (.int p2), .val (.int p3), .val (.int p4), .val (.ref b2), .val (.int (4 : Int32)), .val (.ref b183), .val (.int (3 : Int32)), .val (.int (1 : Int32)), .val (.int (1 : Int32)), .unset] []))
      refine gIload Xt330 hx (hb hby at_406) rfl ?_
      refine gIconst Xt330 hx (hb hby at_408) (v := (4 : Int32)) rfl ?_
      refine gIcmpY Xt330 hx (hb hby at_409) (pc' := 426) (XT.ii_lt_t (by decide)) (by decide) (by decide) ?_
      show Goes p e below _ (Tt330.setTop (mkF m 426 #[.val (.int p0), .val (.int p1), .val (.int p2), .val (.int p3), .val (.int p4), .val (.ref b2), .val (.int (4 : Int32)), .val (.ref b183), .val (.int (3 : Int32)), .val (.int (1 : Int32)), .val (.int (1 : Int32)), .unset] []))
      refine gIconst Xt330 hx (hb hby at_426) (v := (1 : Int32)) rfl ?_
      refine gGoto Xt330 hx (hb hby at_427) (pc' := 431) (by decide) (by decide) ?_
      show Goes p e below _ (Tt330.setTop (mkF m 431 #[.val (.int p0), .val (.int p1), .val (.int p2), .val (.int p3), .val (.int p4), .val (.ref b2), .val (.int (4 : Int32)), .val (.ref b183), .val (.int (3 : Int32)), .val (.int (1 : Int32)), .val (.int (1 : Int32)), .unset] [(.int (1 : Int32))]))
      refine gIstore Xt330 hx (hb hby at_431) (l' := #[.val (.int p0), .val (.int p1), .val (.int p2), .val (.int p3), .val (.int p4), .val (.ref b2), .val (.int (4 : Int32)), .val (.ref b183), .val (.int (3 : Int32)), .val (.int (1 : Int32)), .val (.int (1 : Int32)), .val (.int (1 : Int32))]) rfl ?_
      refine gIload Xt330 hx (hb hby at_433) rfl ?_
      refine gIfN Xt330 hx (hb hby at_435) (XT.i0_eq_f (by decide)) ?_
      show Goes p e below _ (Tt330.setTop (mkF m 438 #[.val (.int p0), .val (.int p1), .val (.int p2), .val (.int p3), .val (.int p4), .val (.ref b2), .val (.int (4 : Int32)), .val (.ref b183), .val (.int (3 : Int32)), .val (.int (1 : Int32)), .val (.int (1 : Int32)), .val (.int (1 : Int32))] []))
      refine gIload Xt330 hx (hb hby at_438) rfl ?_
      refine gIfN Xt330 hx (hb hby at_440) (XT.i0_eq_f (by decide)) ?_
      show Goes p e below _ (Tt330.setTop (mkF m 443 #[.val (.int p0), .val (.int p1), .val (.int p2), .val (.int p3), .val (.int p4), .val (.ref b2), .val (.int (4 : Int32)), .val (.ref b183), .val (.int (3 : Int32)), .val (.int (1 : Int32)), .val (.int (1 : Int32)), .val (.int (1 : Int32))] []))
      refine gIload Xt330 hx (hb hby at_443) rfl ?_
      refine gIfN Xt330 hx (hb hby at_445) (XT.i0_eq_f (by decide)) ?_
      show Goes p e below _ (Tt330.setTop (mkF m 448 #[.val (.int p0), .val (.int p1), .val (.int p2), .val (.int p3), .val (.int p4), .val (.ref b2), .val (.int (4 : Int32)), .val (.ref b183), .val (.int (3 : Int32)), .val (.int (1 : Int32)), .val (.int (1 : Int32)), .val (.int (1 : Int32))] []))
      refine gIconst Xt330 hx (hb hby at_448) (v := (1 : Int32)) rfl ?_
      refine gGoto Xt330 hx (hb hby at_449) (pc' := 453) (by decide) (by decide) ?_
      show Goes p e below _ (Tt330.setTop (mkF m 453 #[.val (.int p0), .val (.int p1), .val (.int p2), .val (.int p3), .val (.int p4), .val (.ref b2), .val (.int (4 : Int32)), .val (.ref b183), .val (.int (3 : Int32)), .val (.int (1 : Int32)), .val (.int (1 : Int32)), .val (.int (1 : Int32))] [(.int (1 : Int32))]))
      exact goRetN Xt330 hx (t := .boolean) hret hlocks (by simp) (hb hby at_453) (z' := (1 : Int32)) rfl (by decide) (by decide) et330 (⟨rfl, N332⟩)
    · show Goes p e below _ (Tt197.setTop (mkF m 185 #[.val (.int p0), .val (.int p1), .val (.int p2), .val (.int p3), .val (.int p4), .val (.ref b2), .val (.int (4 : Int32)), .val (.ref b183), .unset, .unset, .unset, .unset] [(.int (4 : Int32))]))
      have f1 : ¬ t1.toInt = t0.toInt := fun z => e1 (Int32.toInt_inj.mp z)
      have f2 : ¬ t2.toInt = t1.toInt := fun z => e2 (Int32.toInt_inj.mp z)
      have f3 : ¬ t3.toInt = t2.toInt := fun z => e3 (Int32.toInt_inj.mp z)
      refine gIstore Xt197 hx (hb hby at_185) (l' := #[.val (.int p0), .val (.int p1), .val (.int p2), .val (.int p3), .val (.int p4), .val (.ref b2), .val (.int (4 : Int32)), .val (.ref b183), .val (.int (4 : Int32)), .unset, .unset, .unset]) rfl ?_
      refine gIload Xt197 hx (hb hby at_187) rfl ?_
      refine gIfN Xt197 hx (hb hby at_189) (XT.i0_lt_f (by decide)) ?_
      show Goes p e below _ (Tt197.setTop (mkF m 192 #[.val (.int p0), .val (.int p1), .val (.int p2), .val (.int p3), .val (.int p4), .val (.ref b2), .val (.int (4 : Int32)), .val (.ref b183), .val (.int (4 : Int32)), .unset, .unset, .unset] []))
      refine gIload Xt197 hx (hb hby at_192) rfl ?_
      refine gIload Xt197 hx (hb hby at_194) rfl ?_
      refine gIcmpY Xt197 hx (hb hby at_196) (pc' := 201) (XT.ii_le_t (by decide)) (by decide) (by decide) ?_
      show Goes p e below _ (Tt197.setTop (mkF m 201 #[.val (.int p0), .val (.int p1), .val (.int p2), .val (.int p3), .val (.int p4), .val (.ref b2), .val (.int (4 : Int32)), .val (.ref b183), .val (.int (4 : Int32)), .unset, .unset, .unset] []))
      refine gIload Xt197 hx (hb hby at_201) rfl ?_
      refine gIconst Xt197 hx (hb hby at_203) (v := (2 : Int32)) rfl ?_
      refine gIcmpN Xt197 hx (hb hby at_204) (XT.ii_lt_f (by decide)) ?_
      show Goes p e below _ (Tt197.setTop (mkF m 207 #[.val (.int p0), .val (.int p1), .val (.int p2), .val (.int p3), .val (.int p4), .val (.ref b2), .val (.int (4 : Int32)), .val (.ref b183), .val (.int (4 : Int32)), .unset, .unset, .unset] []))
      refine gAload Xt197 hx (hb hby at_207) rfl rfl ?_
      refine gIconst Xt197 hx (hb hby at_209) (v := (0 : Int32)) rfl ?_
      refine goIaload Xt197 hx hZ et197 Yd (x := t0) (hb hby at_210) (by decide) rfl ?_
      refine gAload Xt197 hx (hb hby at_211) rfl rfl ?_
      refine gIconst Xt197 hx (hb hby at_213) (v := (1 : Int32)) rfl ?_
      refine goIaload Xt197 hx hZ et197 Yd (x := t1) (hb hby at_214) (by decide) rfl ?_
      refine gIcmpN Xt197 hx (hb hby at_215) (XT.ii_ge_f (Int32.lt_iff_toInt_lt.mpr (by omega))) ?_
      show Goes p e below _ (Tt197.setTop (mkF m 218 #[.val (.int p0), .val (.int p1), .val (.int p2), .val (.int p3), .val (.int p4), .val (.ref b2), .val (.int (4 : Int32)), .val (.ref b183), .val (.int (4 : Int32)), .unset, .unset, .unset] []))
      refine gIload Xt197 hx (hb hby at_218) rfl ?_
      refine gIconst Xt197 hx (hb hby at_220) (v := (3 : Int32)) rfl ?_
      refine gIcmpN Xt197 hx (hb hby at_221) (XT.ii_lt_f (by decide)) ?_
      show Goes p e below _ (Tt197.setTop (mkF m 224 #[.val (.int p0), .val (.int p1), .val (.int p2), .val (.int p3), .val (.int p4), .val (.ref b2), .val (.int (4 : Int32)), .val (.ref b183), .val (.int (4 : Int32)), .unset, .unset, .unset] []))
      refine gAload Xt197 hx (hb hby at_224) rfl rfl ?_
      refine gIconst Xt197 hx (hb hby at_226) (v := (1 : Int32)) rfl ?_
      refine goIaload Xt197 hx hZ et197 Yd (x := t1) (hb hby at_227) (by decide) rfl ?_
      refine gAload Xt197 hx (hb hby at_228) rfl rfl ?_
      refine gIconst Xt197 hx (hb hby at_230) (v := (2 : Int32)) rfl ?_
      refine goIaload Xt197 hx hZ et197 Yd (x := t2) (hb hby at_231) (by decide) rfl ?_
      refine gIcmpN Xt197 hx (hb hby at_232) (XT.ii_ge_f (Int32.lt_iff_toInt_lt.mpr (by omega))) ?_
      show Goes p e below _ (Tt197.setTop (mkF m 235 #[.val (.int p0), .val (.int p1), .val (.int p2), .val (.int p3), .val (.int p4), .val (.ref b2), .val (.int (4 : Int32)), .val (.ref b183), .val (.int (4 : Int32)), .unset, .unset, .unset] []))
      refine gIload Xt197 hx (hb hby at_235) rfl ?_
      refine gIconst Xt197 hx (hb hby at_237) (v := (4 : Int32)) rfl ?_
      refine gIcmpN Xt197 hx (hb hby at_238) (XT.ii_lt_f (by decide)) ?_
      show Goes p e below _ (Tt197.setTop (mkF m 241 #[.val (.int p0), .val (.int p1), .val (.int p2), .val (.int p3), .val (.int p4), .val (.ref b2), .val (.int (4 : Int32)), .val (.ref b183), .val (.int (4 : Int32)), .unset, .unset, .unset] []))
      refine gAload Xt197 hx (hb hby at_241) rfl rfl ?_
      refine gIconst Xt197 hx (hb hby at_243) (v := (2 : Int32)) rfl ?_
      refine goIaload Xt197 hx hZ et197 Yd (x := t2) (hb hby at_244) (by decide) rfl ?_
      refine gAload Xt197 hx (hb hby at_245) rfl rfl ?_
      refine gIconst Xt197 hx (hb hby at_247) (v := (3 : Int32)) rfl ?_
      refine goIaload Xt197 hx hZ et197 Yd (x := t3) (hb hby at_248) (by decide) rfl ?_
      refine gIcmpN Xt197 hx (hb hby at_249) (XT.ii_ge_f (Int32.lt_iff_toInt_lt.mpr (by omega))) ?_
      show Goes p e below _ (Tt197.setTop (mkF m 252 #[.val (.int p0), .val (.int p1), .val (.int p2), .val (.int p3), .val (.int p4), .val (.ref b2), .val (.int (4 : Int32)), .val (.ref b183), .val (.int (4 : Int32)), .unset, .unset, .unset] []))
      refine gIconst Xt197 hx (hb hby at_252) (v := (1 : Int32)) rfl ?_
      refine gGoto Xt197 hx (hb hby at_253) (pc' := 257) (by decide) (by decide) ?_
      show Goes p e below _ (Tt197.setTop (mkF m 257 #[.val (.int p0), .val (.int p1), .val (.int p2), .val (.int p3), .val (.int p4), .val (.ref b2), .val (.int (4 : Int32)), .val (.ref b183), .val (.int (4 : Int32)), .unset, .unset, .unset] [(.int (1 : Int32))]))
      refine gIstore Xt197 hx (hb hby at_257) (l' := #[.val (.int p0), .val (.int p1), .val (.int p2), .val (.int p3), .val (.int p4), .val (.ref b2), .val (.int (4 : Int32)), .val (.ref b183), .val (.int (4 : Int32)), .val (.int (1 : Int32)), .unset, .unset]) rfl ?_
      refine gIload Xt197 hx (hb hby at_259) rfl ?_
      refine gIconst Xt197 hx (hb hby at_261) (v := (1 : Int32)) rfl ?_
      refine gIcmpN Xt197 hx (hb hby at_262) (XT.ii_lt_f (by decide)) ?_
      show Goes p e below _ (Tt197.setTop (mkF m 265 #[.val (.int p0), .val (.int p1), .val (.int p2), .val (.int p3), .val (.int p4), .val (.ref b2), .val (.int (4 : Int32)), .val (.ref b183), .val (.int (4 : Int32)), .val (.int (1 : Int32)), .unset, .unset] []))
      refine gAload Xt197 hx (hb hby at_265) rfl rfl ?_
      refine gIload Xt197 hx (hb hby at_267) rfl ?_
      refine gAload Xt197 hx (hb hby at_269) rfl rfl ?_
      refine gIconst Xt197 hx (hb hby at_271) (v := (0 : Int32)) rfl ?_
      refine goIaload Xt197 hx hZ et197 Yc4 (x := t0) (hb hby at_272) (by decide) rfl ?_
      refine goCallS Xt197 hx hZ hown (hw _ (List.mem_of_getElem? (i := 12) rfl)) (hw _ (List.mem_of_getElem? (i := 13) rfl)) (hw _ (List.mem_of_getElem? (i := 3) rfl)) (hw _ (List.mem_of_getElem? (i := 14) rfl)) (by decide) (rmH4 l Z a0 hw t0 t1 t2 t3 [] b183 t0 ht197 O200 Yd) 0 (by decide) (by decide) et197 (hsz rfl) [(.ref b183), (.int (4 : Int32)), (.int t0)] [] pd_3 rfl rfl rfl (Nat.le_of_eq rfl) (hb hby at_273) (by decide) (by decide) (fun Tt333 vt333 Lt333 Xt333 qt333 => ?_)
      obtain ⟨rfl, N334, et333⟩ := qt333
      have N335 := Fr.app N199 N334
      show Goes p e below _ (Tt333.setTop (mkF m 276 #[.val (.int p0), .val (.int p1), .val (.int p2), .val (.int p3), .val (.int p4), .val (.ref b2), .val (.int (4 : Int32)), .val (.ref b183), .val (.int (4 : Int32)), .val (.int (1 : Int32)), .unset, .unset] [(.int (own_has4 t0 t1 t2 t3 t0))]))
      refine gIfN Xt333 hx (hb hby at_276) (XT.i0_eq_f (by simp [own_has4, e1, e2, e3])) ?_
      show Goes p e below _ (Tt333.setTop (mkF m 279 #[.val (.int p0), .val (.int p1), .val (.int p2), .val (.int p3), .val (.int p4), .val (.ref b2), .val (.int (4 : Int32)), .val (.ref b183), .val (.int (4 : Int32)), .val (.int (1 : Int32)), .unset, .unset] []))
      refine gIload Xt333 hx (hb hby at_279) rfl ?_
      refine gIconst Xt333 hx (hb hby at_281) (v := (2 : Int32)) rfl ?_
      refine gIcmpN Xt333 hx (hb hby at_282) (XT.ii_lt_f (by decide)) ?_
      show Goes p e below _ (Tt333.setTop (mkF m 285 #[.val (.int p0), .val (.int p1), .val (.int p2), .val (.int p3), .val (.int p4), .val (.ref b2), .val (.int (4 : Int32)), .val (.ref b183), .val (.int (4 : Int32)), .val (.int (1 : Int32)), .unset, .unset] []))
      refine gAload Xt333 hx (hb hby at_285) rfl rfl ?_
      refine gIload Xt333 hx (hb hby at_287) rfl ?_
      refine gAload Xt333 hx (hb hby at_289) rfl rfl ?_
      refine gIconst Xt333 hx (hb hby at_291) (v := (1 : Int32)) rfl ?_
      refine goIaload Xt333 hx hZ et333 Yc4 (x := t1) (hb hby at_292) (by decide) rfl ?_
      refine goCallS Xt333 hx hZ hown (hw _ (List.mem_of_getElem? (i := 12) rfl)) (hw _ (List.mem_of_getElem? (i := 13) rfl)) (hw _ (List.mem_of_getElem? (i := 3) rfl)) (hw _ (List.mem_of_getElem? (i := 14) rfl)) (by decide) (rmH4 l Z a0 hw t0 t1 t2 t3 [] b183 t1 ht197 O200 Yd) 0 (by decide) (by decide) et333 (hsz rfl) [(.ref b183), (.int (4 : Int32)), (.int t1)] [] pd_3 rfl rfl rfl (Nat.le_of_eq rfl) (hb hby at_293) (by decide) (by decide) (fun Tt336 vt336 Lt336 Xt336 qt336 => ?_)
      obtain ⟨rfl, N337, et336⟩ := qt336
      have N338 := Fr.app N335 N337
      show Goes p e below _ (Tt336.setTop (mkF m 296 #[.val (.int p0), .val (.int p1), .val (.int p2), .val (.int p3), .val (.int p4), .val (.ref b2), .val (.int (4 : Int32)), .val (.ref b183), .val (.int (4 : Int32)), .val (.int (1 : Int32)), .unset, .unset] [(.int (own_has4 t0 t1 t2 t3 t1))]))
      refine gIfN Xt336 hx (hb hby at_296) (XT.i0_eq_f (by simp [own_has4, e1, e2, e3])) ?_
      show Goes p e below _ (Tt336.setTop (mkF m 299 #[.val (.int p0), .val (.int p1), .val (.int p2), .val (.int p3), .val (.int p4), .val (.ref b2), .val (.int (4 : Int32)), .val (.ref b183), .val (.int (4 : Int32)), .val (.int (1 : Int32)), .unset, .unset] []))
      refine gIload Xt336 hx (hb hby at_299) rfl ?_
      refine gIconst Xt336 hx (hb hby at_301) (v := (3 : Int32)) rfl ?_
      refine gIcmpN Xt336 hx (hb hby at_302) (XT.ii_lt_f (by decide)) ?_
      show Goes p e below _ (Tt336.setTop (mkF m 305 #[.val (.int p0), .val (.int p1), .val (.int p2), .val (.int p3), .val (.int p4), .val (.ref b2), .val (.int (4 : Int32)), .val (.ref b183), .val (.int (4 : Int32)), .val (.int (1 : Int32)), .unset, .unset] []))
      refine gAload Xt336 hx (hb hby at_305) rfl rfl ?_
      refine gIload Xt336 hx (hb hby at_307) rfl ?_
      refine gAload Xt336 hx (hb hby at_309) rfl rfl ?_
      refine gIconst Xt336 hx (hb hby at_311) (v := (2 : Int32)) rfl ?_
      refine goIaload Xt336 hx hZ et336 Yc4 (x := t2) (hb hby at_312) (by decide) rfl ?_
      refine goCallS Xt336 hx hZ hown (hw _ (List.mem_of_getElem? (i := 12) rfl)) (hw _ (List.mem_of_getElem? (i := 13) rfl)) (hw _ (List.mem_of_getElem? (i := 3) rfl)) (hw _ (List.mem_of_getElem? (i := 14) rfl)) (by decide) (rmH4 l Z a0 hw t0 t1 t2 t3 [] b183 t2 ht197 O200 Yd) 0 (by decide) (by decide) et336 (hsz rfl) [(.ref b183), (.int (4 : Int32)), (.int t2)] [] pd_3 rfl rfl rfl (Nat.le_of_eq rfl) (hb hby at_313) (by decide) (by decide) (fun Tt339 vt339 Lt339 Xt339 qt339 => ?_)
      obtain ⟨rfl, N340, et339⟩ := qt339
      have N341 := Fr.app N338 N340
      show Goes p e below _ (Tt339.setTop (mkF m 316 #[.val (.int p0), .val (.int p1), .val (.int p2), .val (.int p3), .val (.int p4), .val (.ref b2), .val (.int (4 : Int32)), .val (.ref b183), .val (.int (4 : Int32)), .val (.int (1 : Int32)), .unset, .unset] [(.int (own_has4 t0 t1 t2 t3 t2))]))
      refine gIfN Xt339 hx (hb hby at_316) (XT.i0_eq_f (by simp [own_has4, e1, e2, e3])) ?_
      show Goes p e below _ (Tt339.setTop (mkF m 319 #[.val (.int p0), .val (.int p1), .val (.int p2), .val (.int p3), .val (.int p4), .val (.ref b2), .val (.int (4 : Int32)), .val (.ref b183), .val (.int (4 : Int32)), .val (.int (1 : Int32)), .unset, .unset] []))
      refine gIload Xt339 hx (hb hby at_319) rfl ?_
      refine gIconst Xt339 hx (hb hby at_321) (v := (4 : Int32)) rfl ?_
      refine gIcmpN Xt339 hx (hb hby at_322) (XT.ii_lt_f (by decide)) ?_
      show Goes p e below _ (Tt339.setTop (mkF m 325 #[.val (.int p0), .val (.int p1), .val (.int p2), .val (.int p3), .val (.int p4), .val (.ref b2), .val (.int (4 : Int32)), .val (.ref b183), .val (.int (4 : Int32)), .val (.int (1 : Int32)), .unset, .unset] []))
      refine gAload Xt339 hx (hb hby at_325) rfl rfl ?_
      refine gIload Xt339 hx (hb hby at_327) rfl ?_
      refine gAload Xt339 hx (hb hby at_329) rfl rfl ?_
      refine gIconst Xt339 hx (hb hby at_331) (v := (3 : Int32)) rfl ?_
      refine goIaload Xt339 hx hZ et339 Yc4 (x := t3) (hb hby at_332) (by decide) rfl ?_
      refine goCallS Xt339 hx hZ hown (hw _ (List.mem_of_getElem? (i := 12) rfl)) (hw _ (List.mem_of_getElem? (i := 13) rfl)) (hw _ (List.mem_of_getElem? (i := 3) rfl)) (hw _ (List.mem_of_getElem? (i := 14) rfl)) (by decide) (rmH4 l Z a0 hw t0 t1 t2 t3 [] b183 t3 ht197 O200 Yd) 0 (by decide) (by decide) et339 (hsz rfl) [(.ref b183), (.int (4 : Int32)), (.int t3)] [] pd_3 rfl rfl rfl (Nat.le_of_eq rfl) (hb hby at_333) (by decide) (by decide) (fun Tt342 vt342 Lt342 Xt342 qt342 => ?_)
      obtain ⟨rfl, N343, et342⟩ := qt342
      have N344 := Fr.app N341 N343
      show Goes p e below _ (Tt342.setTop (mkF m 336 #[.val (.int p0), .val (.int p1), .val (.int p2), .val (.int p3), .val (.int p4), .val (.ref b2), .val (.int (4 : Int32)), .val (.ref b183), .val (.int (4 : Int32)), .val (.int (1 : Int32)), .unset, .unset] [(.int (own_has4 t0 t1 t2 t3 t3))]))
      refine gIfN Xt342 hx (hb hby at_336) (XT.i0_eq_f (by simp [own_has4, e1, e2, e3])) ?_
      show Goes p e below _ (Tt342.setTop (mkF m 339 #[.val (.int p0), .val (.int p1), .val (.int p2), .val (.int p3), .val (.int p4), .val (.ref b2), .val (.int (4 : Int32)), .val (.ref b183), .val (.int (4 : Int32)), .val (.int (1 : Int32)), .unset, .unset] []))
      refine gIconst Xt342 hx (hb hby at_339) (v := (1 : Int32)) rfl ?_
      refine gGoto Xt342 hx (hb hby at_340) (pc' := 344) (by decide) (by decide) ?_
      show Goes p e below _ (Tt342.setTop (mkF m 344 #[.val (.int p0), .val (.int p1), .val (.int p2), .val (.int p3), .val (.int p4), .val (.ref b2), .val (.int (4 : Int32)), .val (.ref b183), .val (.int (4 : Int32)), .val (.int (1 : Int32)), .unset, .unset] [(.int (1 : Int32))]))
      refine gIstore Xt342 hx (hb hby at_344) (l' := #[.val (.int p0), .val (.int p1), .val (.int p2), .val (.int p3), .val (.int p4), .val (.ref b2), .val (.int (4 : Int32)), .val (.ref b183), .val (.int (4 : Int32)), .val (.int (1 : Int32)), .val (.int (1 : Int32)), .unset]) rfl ?_
      refine gIload Xt342 hx (hb hby at_346) rfl ?_
      refine gIconst Xt342 hx (hb hby at_348) (v := (1 : Int32)) rfl ?_
      refine gIcmpN Xt342 hx (hb hby at_349) (XT.ii_lt_f (by decide)) ?_
      show Goes p e below _ (Tt342.setTop (mkF m 352 #[.val (.int p0), .val (.int p1), .val (.int p2), .val (.int p3), .val (.int p4), .val (.ref b2), .val (.int (4 : Int32)), .val (.ref b183), .val (.int (4 : Int32)), .val (.int (1 : Int32)), .val (.int (1 : Int32)), .unset] []))
      refine gAload Xt342 hx (hb hby at_352) rfl rfl ?_
      refine gIload Xt342 hx (hb hby at_354) rfl ?_
      refine gAload Xt342 hx (hb hby at_356) rfl rfl ?_
      refine gIconst Xt342 hx (hb hby at_358) (v := (0 : Int32)) rfl ?_
      refine goIaload Xt342 hx hZ et342 Yd (x := t0) (hb hby at_359) (by decide) rfl ?_
      refine goCallS Xt342 hx hZ hown (hw _ (List.mem_of_getElem? (i := 12) rfl)) (hw _ (List.mem_of_getElem? (i := 13) rfl)) (hw _ (List.mem_of_getElem? (i := 3) rfl)) (hw _ (List.mem_of_getElem? (i := 14) rfl)) (by decide) (rmH4 l Z a0 hw t0 t1 t2 t3 [] b2 t0 ht197 O200 Yc4) 0 (by decide) (by decide) et342 (hsz rfl) [(.ref b2), (.int (4 : Int32)), (.int t0)] [] pd_3 rfl rfl rfl (Nat.le_of_eq rfl) (hb hby at_360) (by decide) (by decide) (fun Tt345 vt345 Lt345 Xt345 qt345 => ?_)
      obtain ⟨rfl, N346, et345⟩ := qt345
      have N347 := Fr.app N344 N346
      show Goes p e below _ (Tt345.setTop (mkF m 363 #[.val (.int p0), .val (.int p1), .val (.int p2), .val (.int p3), .val (.int p4), .val (.ref b2), .val (.int (4 : Int32)), .val (.ref b183), .val (.int (4 : Int32)), .val (.int (1 : Int32)), .val (.int (1 : Int32)), .unset] [(.int (own_has4 t0 t1 t2 t3 t0))]))
      refine gIfN Xt345 hx (hb hby at_363) (XT.i0_eq_f (by simp [own_has4, e1, e2, e3])) ?_
      show Goes p e below _ (Tt345.setTop (mkF m 366 #[.val (.int p0), .val (.int p1), .val (.int p2), .val (.int p3), .val (.int p4), .val (.ref b2), .val (.int (4 : Int32)), .val (.ref b183), .val (.int (4 : Int32)), .val (.int (1 : Int32)), .val (.int (1 : Int32)), .unset] []))
      refine gIload Xt345 hx (hb hby at_366) rfl ?_
      refine gIconst Xt345 hx (hb hby at_368) (v := (2 : Int32)) rfl ?_
      refine gIcmpN Xt345 hx (hb hby at_369) (XT.ii_lt_f (by decide)) ?_
      show Goes p e below _ (Tt345.setTop (mkF m 372 #[.val (.int p0), .val (.int p1), .val (.int p2), .val (.int p3), .val (.int p4), .val (.ref b2), .val (.int (4 : Int32)), .val (.ref b183), .val (.int (4 : Int32)), .val (.int (1 : Int32)), .val (.int (1 : Int32)), .unset] []))
      refine gAload Xt345 hx (hb hby at_372) rfl rfl ?_
      refine gIload Xt345 hx (hb hby at_374) rfl ?_
      refine gAload Xt345 hx (hb hby at_376) rfl rfl ?_
      refine gIconst Xt345 hx (hb hby at_378) (v := (1 : Int32)) rfl ?_
      refine goIaload Xt345 hx hZ et345 Yd (x := t1) (hb hby at_379) (by decide) rfl ?_
      refine goCallS Xt345 hx hZ hown (hw _ (List.mem_of_getElem? (i := 12) rfl)) (hw _ (List.mem_of_getElem? (i := 13) rfl)) (hw _ (List.mem_of_getElem? (i := 3) rfl)) (hw _ (List.mem_of_getElem? (i := 14) rfl)) (by decide) (rmH4 l Z a0 hw t0 t1 t2 t3 [] b2 t1 ht197 O200 Yc4) 0 (by decide) (by decide) et345 (hsz rfl) [(.ref b2), (.int (4 : Int32)), (.int t1)] [] pd_3 rfl rfl rfl (Nat.le_of_eq rfl) (hb hby at_380) (by decide) (by decide) (fun Tt348 vt348 Lt348 Xt348 qt348 => ?_)
      obtain ⟨rfl, N349, et348⟩ := qt348
      have N350 := Fr.app N347 N349
      show Goes p e below _ (Tt348.setTop (mkF m 383 #[.val (.int p0), .val (.int p1), .val (.int p2), .val (.int p3), .val (.int p4), .val (.ref b2), .val (.int (4 : Int32)), .val (.ref b183), .val (.int (4 : Int32)), .val (.int (1 : Int32)), .val (.int (1 : Int32)), .unset] [(.int (own_has4 t0 t1 t2 t3 t1))]))
      refine gIfN Xt348 hx (hb hby at_383) (XT.i0_eq_f (by simp [own_has4, e1, e2, e3])) ?_
      show Goes p e below _ (Tt348.setTop (mkF m 386 #[.val (.int p0), .val (.int p1), .val (.int p2), .val (.int p3), .val (.int p4), .val (.ref b2), .val (.int (4 : Int32)), .val (.ref b183), .val (.int (4 : Int32)), .val (.int (1 : Int32)), .val (.int (1 : Int32)), .unset] []))
      refine gIload Xt348 hx (hb hby at_386) rfl ?_
      refine gIconst Xt348 hx (hb hby at_388) (v := (3 : Int32)) rfl ?_
      refine gIcmpN Xt348 hx (hb hby at_389) (XT.ii_lt_f (by decide)) ?_
      show Goes p e below _ (Tt348.setTop (mkF m 392 #[.val (.int p0), .val (.int p1), .val (.int p2), .val (.int p3), .val (.int p4), .val (.ref b2), .val (.int (4 : Int32)), .val (.ref b183), .val (.int (4 : Int32)), .val (.int (1 : Int32)), .val (.int (1 : Int32)), .unset] []))
      refine gAload Xt348 hx (hb hby at_392) rfl rfl ?_
      refine gIload Xt348 hx (hb hby at_394) rfl ?_
      refine gAload Xt348 hx (hb hby at_396) rfl rfl ?_
      refine gIconst Xt348 hx (hb hby at_398) (v := (2 : Int32)) rfl ?_
      refine goIaload Xt348 hx hZ et348 Yd (x := t2) (hb hby at_399) (by decide) rfl ?_
      refine goCallS Xt348 hx hZ hown (hw _ (List.mem_of_getElem? (i := 12) rfl)) (hw _ (List.mem_of_getElem? (i := 13) rfl)) (hw _ (List.mem_of_getElem? (i := 3) rfl)) (hw _ (List.mem_of_getElem? (i := 14) rfl)) (by decide) (rmH4 l Z a0 hw t0 t1 t2 t3 [] b2 t2 ht197 O200 Yc4) 0 (by decide) (by decide) et348 (hsz rfl) [(.ref b2), (.int (4 : Int32)), (.int t2)] [] pd_3 rfl rfl rfl (Nat.le_of_eq rfl) (hb hby at_400) (by decide) (by decide) (fun Tt351 vt351 Lt351 Xt351 qt351 => ?_)
      obtain ⟨rfl, N352, et351⟩ := qt351
      have N353 := Fr.app N350 N352
      show Goes p e below _ (Tt351.setTop (mkF m 403 #[.val (.int p0), .val (.int p1), .val (.int p2), .val (.int p3), .val (.int p4), .val (.ref b2), .val (.int (4 : Int32)), .val (.ref b183), .val (.int (4 : Int32)), .val (.int (1 : Int32)), .val (.int (1 : Int32)), .unset] [(.int (own_has4 t0 t1 t2 t3 t2))]))
      refine gIfN Xt351 hx (hb hby at_403) (XT.i0_eq_f (by simp [own_has4, e1, e2, e3])) ?_
      show Goes p e below _ (Tt351.setTop (mkF m 406 #[.val (.int p0), .val (.int p1), .val (.int p2), .val (.int p3), .val (.int p4), .val (.ref b2), .val (.int (4 : Int32)), .val (.ref b183), .val (.int (4 : Int32)), .val (.int (1 : Int32)), .val (.int (1 : Int32)), .unset] []))
      refine gIload Xt351 hx (hb hby at_406) rfl ?_
      refine gIconst Xt351 hx (hb hby at_408) (v := (4 : Int32)) rfl ?_
      refine gIcmpN Xt351 hx (hb hby at_409) (XT.ii_lt_f (by decide)) ?_
      show Goes p e below _ (Tt351.setTop (mkF m 412 #[.val (.int p0), .val (.int p1), .val (.int p2), .val (.int p3), .val (.int p4), .val (.ref b2), .val (.int (4 : Int32)), .val (.ref b183), .val (.int (4 : Int32)), .val (.int (1 : Int32)), .val (.int (1 : Int32)), .unset] []))
      refine gAload Xt351 hx (hb hby at_412) rfl rfl ?_
      refine gIload Xt351 hx (hb hby at_414) rfl ?_
      refine gAload Xt351 hx (hb hby at_416) rfl rfl ?_
      refine gIconst Xt351 hx (hb hby at_418) (v := (3 : Int32)) rfl ?_
      refine goIaload Xt351 hx hZ et351 Yd (x := t3) (hb hby at_419) (by decide) rfl ?_
      refine goCallS Xt351 hx hZ hown (hw _ (List.mem_of_getElem? (i := 12) rfl)) (hw _ (List.mem_of_getElem? (i := 13) rfl)) (hw _ (List.mem_of_getElem? (i := 3) rfl)) (hw _ (List.mem_of_getElem? (i := 14) rfl)) (by decide) (rmH4 l Z a0 hw t0 t1 t2 t3 [] b2 t3 ht197 O200 Yc4) 0 (by decide) (by decide) et351 (hsz rfl) [(.ref b2), (.int (4 : Int32)), (.int t3)] [] pd_3 rfl rfl rfl (Nat.le_of_eq rfl) (hb hby at_420) (by decide) (by decide) (fun Tt354 vt354 Lt354 Xt354 qt354 => ?_)
      obtain ⟨rfl, N355, et354⟩ := qt354
      have N356 := Fr.app N353 N355
      show Goes p e below _ (Tt354.setTop (mkF m 423 #[.val (.int p0), .val (.int p1), .val (.int p2), .val (.int p3), .val (.int p4), .val (.ref b2), .val (.int (4 : Int32)), .val (.ref b183), .val (.int (4 : Int32)), .val (.int (1 : Int32)), .val (.int (1 : Int32)), .unset] [(.int (own_has4 t0 t1 t2 t3 t3))]))
      refine gIfN Xt354 hx (hb hby at_423) (XT.i0_eq_f (by simp [own_has4, e1, e2, e3])) ?_
      show Goes p e below _ (Tt354.setTop (mkF m 426 #[.val (.int p0), .val (.int p1), .val (.int p2), .val (.int p3), .val (.int p4), .val (.ref b2), .val (.int (4 : Int32)), .val (.ref b183), .val (.int (4 : Int32)), .val (.int (1 : Int32)), .val (.int (1 : Int32)), .unset] []))
      refine gIconst Xt354 hx (hb hby at_426) (v := (1 : Int32)) rfl ?_
      refine gGoto Xt354 hx (hb hby at_427) (pc' := 431) (by decide) (by decide) ?_
      show Goes p e below _ (Tt354.setTop (mkF m 431 #[.val (.int p0), .val (.int p1), .val (.int p2), .val (.int p3), .val (.int p4), .val (.ref b2), .val (.int (4 : Int32)), .val (.ref b183), .val (.int (4 : Int32)), .val (.int (1 : Int32)), .val (.int (1 : Int32)), .unset] [(.int (1 : Int32))]))
      refine gIstore Xt354 hx (hb hby at_431) (l' := #[.val (.int p0), .val (.int p1), .val (.int p2), .val (.int p3), .val (.int p4), .val (.ref b2), .val (.int (4 : Int32)), .val (.ref b183), .val (.int (4 : Int32)), .val (.int (1 : Int32)), .val (.int (1 : Int32)), .val (.int (1 : Int32))]) rfl ?_
      refine gIload Xt354 hx (hb hby at_433) rfl ?_
      refine gIfN Xt354 hx (hb hby at_435) (XT.i0_eq_f (by decide)) ?_
      show Goes p e below _ (Tt354.setTop (mkF m 438 #[.val (.int p0), .val (.int p1), .val (.int p2), .val (.int p3), .val (.int p4), .val (.ref b2), .val (.int (4 : Int32)), .val (.ref b183), .val (.int (4 : Int32)), .val (.int (1 : Int32)), .val (.int (1 : Int32)), .val (.int (1 : Int32))] []))
      refine gIload Xt354 hx (hb hby at_438) rfl ?_
      refine gIfN Xt354 hx (hb hby at_440) (XT.i0_eq_f (by decide)) ?_
      show Goes p e below _ (Tt354.setTop (mkF m 443 #[.val (.int p0), .val (.int p1), .val (.int p2), .val (.int p3), .val (.int p4), .val (.ref b2), .val (.int (4 : Int32)), .val (.ref b183), .val (.int (4 : Int32)), .val (.int (1 : Int32)), .val (.int (1 : Int32)), .val (.int (1 : Int32))] []))
      refine gIload Xt354 hx (hb hby at_443) rfl ?_
      refine gIfN Xt354 hx (hb hby at_445) (XT.i0_eq_f (by decide)) ?_
      show Goes p e below _ (Tt354.setTop (mkF m 448 #[.val (.int p0), .val (.int p1), .val (.int p2), .val (.int p3), .val (.int p4), .val (.ref b2), .val (.int (4 : Int32)), .val (.ref b183), .val (.int (4 : Int32)), .val (.int (1 : Int32)), .val (.int (1 : Int32)), .val (.int (1 : Int32))] []))
      refine gIconst Xt354 hx (hb hby at_448) (v := (1 : Int32)) rfl ?_
      refine gGoto Xt354 hx (hb hby at_449) (pc' := 453) (by decide) (by decide) ?_
      show Goes p e below _ (Tt354.setTop (mkF m 453 #[.val (.int p0), .val (.int p1), .val (.int p2), .val (.int p3), .val (.int p4), .val (.ref b2), .val (.int (4 : Int32)), .val (.ref b183), .val (.int (4 : Int32)), .val (.int (1 : Int32)), .val (.int (1 : Int32)), .val (.int (1 : Int32))] [(.int (1 : Int32))]))
      exact goRetN Xt354 hx (t := .boolean) hret hlocks (by simp) (hb hby at_453) (z' := (1 : Int32)) rfl (by decide) (by decide) et354 (⟨rfl, N356⟩)
set_option maxRecDepth 65536 in
set_option maxHeartbeats 40000000 in
theorem comes_1 {Post : Tables → Env → Array Value → State → Outcome → State → Prop} (hpost : ∀ tb e args s v u, (limb_1_1.after args s (.returned v) u = true ∧ limb_1_2.after args s (.returned v) u = true ∧ True) → FrameEnd s (.returned v) u (Jvm.fieldLocs frame_1_writes args s ++ Jvm.arrayLocs frame_1_arrays args s ++ Jvm.staticLocs frame_1_statics s) 16 128 → Post tb e args s (.returned v) u) :
    ArmFor flags0 classFile x code maxLocals ret World_1 tables_1 room_1 Calls_1 rest_1 Pre_1 Post := by
  intro l hfl _ _ p e ha hc hk s m args below hf hA hF happ hP
  obtain ⟨hcalls, hrest, hpre⟩ := hP
  obtain ⟨-, -, -, hnamed, -, -, -, hat⟩ := (Spec.applies_iff hf).mp happ
  obtain ⟨hg, hn⟩ := and_e (Cond.before_iff.mp (show (Jvm.Cond.and given_1 narrow_1).before args s = true from hpre))
  obtain ⟨hc0, r0⟩ := and_e hg
  obtain ⟨c0, r1⟩ := and_e r0
  obtain ⟨c1, r2⟩ := and_e r1
  obtain ⟨c2, r3⟩ := and_e r2
  obtain ⟨c3, r4⟩ := and_e r3
  have c4 := r4
  obtain ⟨w0, w1, w2, w3, w4, rfl⟩ : ∃ w0 w1 w2 w3 w4 : Value, args = #[w0, w1, w2, w3, w4] := by
    have hs : args.size = 5 := by simpa [Cond.value, given_1] using hc0
    obtain ⟨L⟩ := args
    match L, hs with
    | [w0, w1, w2, w3, w4], _ => exact ⟨w0, w1, w2, w3, w4, rfl⟩
  have hw := fun d (hd : d ∈ tables_1) => atoms_spec (ws := Jvm.Cond.code x code maxLocals ret :: tables_1) hat d (List.mem_cons_of_mem _ hd)
  have hfit : Fit s := fun {y c} hc i hi => by
    obtain ⟨ha, rfl⟩ := Array.getElem?_eq_some_iff.mp hc
    have q := List.all_eq_true.mp ((Array.all_eq_true_iff_forall_mem.mp hF) _ (Array.getElem_mem ha)) i (List.mem_range.mpr hi)
    simpa [Array.getElem?_eq_getElem hi] using q
  obtain ⟨x0, y0⟩ := is_v c0
  obtain rfl : w0 = (.int x0) := Option.some.inj y0
  obtain ⟨x1, y1⟩ := is_v c1
  obtain rfl : w1 = (.int x1) := Option.some.inj y1
  obtain ⟨x2, y2⟩ := is_v c2
  obtain rfl : w2 = (.int x2) := Option.some.inj y2
  obtain ⟨x3, y3⟩ := is_v c3
  obtain rfl : w3 = (.int x3) := Option.some.inj y3
  obtain ⟨x4, y4⟩ := is_v c4
  obtain rfl : w4 = (.int x4) := Option.some.inj y4
  obtain ⟨n, o, h1, h2, h3, _, L, rfl, ⟨rfl, N⟩, hq⟩ := rm0 l s _ hw x0 x1 x2 x3 x4 s.heap ⟨Nat.le_refl _, fun _ _ q => q⟩  p e ha hc hk s m _ below hf ((Spec.applies_iff_loose hf).mp happ).1 ⟨rfl, State.Warmed39.refl s, rfl⟩ trivial
  refine ⟨n, _, h1, h2, h3, hpost _ _ _ _ _ _ ⟨Cond.after_iff.mpr rfl, Cond.after_iff.mpr (eq_i res_at (Term.int_eval (1)) rfl), trivial⟩ ⟨hq.1, hq.2.1, (hq.2.2.sift fun y hy => Or.inr (N y hy)).mono (by decide) (by decide)⟩⟩
theorem main_1_1 : Claimed_1_1 := comes_1 fun _ _ _ _ _ _ h hF => ⟨h.1, hF⟩
theorem main_1_2 : Claimed_1_2 := comes_1 fun _ _ _ _ _ _ h hF => ⟨h.2.1, hF⟩
end Jvm.Pilot.@@N@@
namespace Jvm.Pilot.@@N@@
open Jvm Jvm.ClassFile Sem Op Lib Jvm.Free Jvm.Stand Jvm.Pilot.@@N@@.Jvm.D
/-! MADE BY PROGRAM (witnessworld.py) out of the Statement's table words and the real class files: 9 classes; the members and pool entries that the words name. The judged class is class 1, her method 1. -/
namespace start1
open Jvm.ClassFile
def u (s : String) : CpInfo := .utf8 (stringToUtf16 s)
/-- a pool by its gaps: so many unusable entries, then the entry; so many at the end -/
def gap : Nat → List CpInfo → List CpInfo
  | 0, r => r
  | n + 1, r => .unusable :: gap n r
def poolList (es : List (Nat × CpInfo)) (last : Nat) : List CpInfo := es.foldr (fun e r => gap e.1 (e.2 :: r)) (gap last [])
def pool (es : List (Nat × CpInfo)) (last : Nat) : Array CpInfo := ⟨poolList es last⟩
def fileOf (pool : Array CpInfo) (this : Nat) (attrs : Array Attribute := #[]) (ms : Array MethodInfo := #[]) (fl : Nat := 33) (sup : Nat := 0) (ifs : Array Nat := #[]) (fds : Array FieldInfo := #[]) : ClassFile where
  minorVersion := 0
  majorVersion := 65
  constantPool := pool
  accessFlags := fl
  thisClass := this
  superClass := sup
  interfaces := ifs
  fields := fds
  methods := ms
  attributes := attrs
def plain (name : String) (sup : Option ClassId) : Class where
  name := name
  kind := .ordinary
  loader := none
  accessFlags := 33
  super := sup
  interfaces := #[]
  cf := none
  fields := #[]
  methods := #[]
  instanceTypes := #[]
  staticTypes := #[]
  resolved := #[]
  callSites := []
  init := .initialized
  statics := none
  mirror := none

def pool0 : Array CpInfo := pool [(5, u "<init>"), (0, u "()V"), (1, .class_ 10), (1, u "java/lang/Object")] 113

def k0m0 : Method := { name := "<init>", desc := "()V", sig := { parameters := [], returnType := none }, accessFlags := 1, code := none }
/-- java/lang/Object -/
def k0 : Class := { plain "java/lang/Object" none with
  accessFlags := 33
  interfaces := #[]
  cf := some (fileOf pool0 8 #[] #[{ accessFlags := 1, nameIndex := 5, descriptorIndex := 6, attributes := #[] }] 33 0 #[] #[])
  fields := #[]
  methods := #[k0m0]
  instanceTypes := #[]
  staticTypes := #[]
  resolved := Array.replicate 124 none
  statics := none }

def pool1 : Array CpInfo := pool [(2, .class_ 4), (1, u "java/lang/Object"), (0, u "<init>"), (0, u "()V"), (0, .methodref 8 9), (0, .class_ 10), (0, .nameAndType 11 12), (0, u "com/example/querent/querent/LookupDistinctPinLaw"), (0, u "pick"), (0, u "(IIIII)I"), (0, .methodref 8 14), (0, .nameAndType 15 16), (0, u "cs"), (0, u "([III)V"), (0, .methodref 18 19), (0, .class_ 20), (0, .nameAndType 21 22), (0, u "com/example/querent/querent/Lookup"), (0, u "distinct"), (0, u "([I)I"), (0, .methodref 8 24), (0, .nameAndType 25 26), (0, u "has"), (0, u "([III)Z"), (2, u "law"), (0, u "(IIIII)Z")] 5

def k1m0 : Method := { name := "<init>", desc := "()V", sig := { parameters := [], returnType := none }, accessFlags := 1, code := none }
def k1c1 : Code := { maxStack := 8, maxLocals := 12, code := code, exceptionTable := #[], attributes := #[] }
def k1m1 : Method := { name := "law", desc := "(IIIII)Z", sig := { parameters := [.int, .int, .int, .int, .int], returnType := some .boolean }, accessFlags := 9, code := some k1c1 }
def k1c2 : Code := { maxStack := 2, maxLocals := 5, code := method_3_code, exceptionTable := #[], attributes := #[] }
def k1m2 : Method := { name := "pick", desc := "(IIIII)I", sig := { parameters := [.int, .int, .int, .int, .int], returnType := some .int }, accessFlags := 10, code := some k1c2 }
def k1c3 : Code := { maxStack := 4, maxLocals := 4, code := method_4_code, exceptionTable := #[], attributes := #[] }
def k1m3 : Method := { name := "cs", desc := "([III)V", sig := { parameters := [(.array .int), .int, .int], returnType := none }, accessFlags := 10, code := some k1c3 }
def k1c4 : Code := { maxStack := 2, maxLocals := 3, code := method_5_code, exceptionTable := #[], attributes := #[] }
def k1m4 : Method := { name := "has", desc := "([III)Z", sig := { parameters := [(.array .int), .int, .int], returnType := some .boolean }, accessFlags := 10, code := some k1c4 }
/-- com/example/querent/querent/LookupDistinctPinLaw -/
def k1 : Class := { plain "com/example/querent/querent/LookupDistinctPinLaw" (some 0) with
  accessFlags := 49
  interfaces := #[]
  cf := some (fileOf pool1 8 #[] #[{ accessFlags := 1, nameIndex := 5, descriptorIndex := 6, attributes := #[] }, { accessFlags := 9, nameIndex := 29, descriptorIndex := 30, attributes := #[] }, { accessFlags := 10, nameIndex := 11, descriptorIndex := 12, attributes := #[] }, { accessFlags := 10, nameIndex := 15, descriptorIndex := 16, attributes := #[] }, { accessFlags := 10, nameIndex := 25, descriptorIndex := 26, attributes := #[] }] 49 2 #[] #[])
  fields := #[]
  methods := #[k1m0, k1m1, k1m2, k1m3, k1m4]
  instanceTypes := #[]
  staticTypes := #[]
  resolved := Array.replicate 36 none
  statics := none }

def pool2 : Array CpInfo := pool [(2, .class_ 4), (1, u "java/lang/Object"), (9, .class_ 16), (1, u "com/example/querent/querent/Lookup"), (0, u "parts"), (0, u "Ljava/util/List;"), (14, .class_ 34), (0, u "com/example/querent/querent/Lookup$Part"), (23, u "size"), (9, u "I"), (22, u "distinct"), (0, u "([I)I"), (58, .class_ 152), (0, u "com/example/querent/querent/Lookup$AnyOf"), (0, .class_ 154), (0, u "com/example/querent/querent/Lookup$AnyOf$Ranges"), (0, .class_ 156), (0, u "com/example/querent/querent/Lookup$AllOf")] 5

def k2c0 : Code := { maxStack := 4, maxLocals := 3, code := prog_28_method_8_code, exceptionTable := #[], attributes := #[] }
def k2m0 : Method := { name := "distinct", desc := "([I)I", sig := { parameters := [(.array .int)], returnType := some .int }, accessFlags := 8, code := some k2c0 }
/-- com/example/querent/querent/Lookup -/
def k2 : Class := { plain "com/example/querent/querent/Lookup" (some 0) with
  accessFlags := 49
  interfaces := #[]
  cf := some (fileOf pool2 14 #[.nestMembers #[151, 153, 155, 33]] #[{ accessFlags := 8, nameIndex := 91, descriptorIndex := 92, attributes := #[] }] 49 2 #[] #[{ accessFlags := 18, nameIndex := 17, descriptorIndex := 18, attributes := #[] }, { accessFlags := 18, nameIndex := 58, descriptorIndex := 68, attributes := #[] }])
  fields := #[{ name := "parts", type := (.object "java/util/List"), accessFlags := 18, slot := 0, constantValue := 0 }, { name := "size", type := .int, accessFlags := 18, slot := 1, constantValue := 0 }]
  methods := #[k2m0]
  instanceTypes := #[(.object "java/util/List"), .int]
  staticTypes := #[]
  resolved := Array.replicate 162 none
  statics := none }

def pool3 : Array CpInfo := pool [(1, u "java/lang/Cloneable"), (0, .class_ 1), (0, u "java/lang/Object"), (0, .class_ 3)] 3

/-- java/lang/Cloneable -/
def k3 : Class := { plain "java/lang/Cloneable" (some 0) with
  accessFlags := 1537
  interfaces := #[]
  cf := some (fileOf pool3 2 #[] #[] 1537 4 #[] #[])
  fields := #[]
  methods := #[]
  instanceTypes := #[]
  staticTypes := #[]
  resolved := Array.replicate 8 none
  statics := none }

def pool4 : Array CpInfo := pool [(1, u "java/io/Serializable"), (0, .class_ 1), (0, u "java/lang/Object"), (0, .class_ 3)] 3

/-- java/io/Serializable -/
def k4 : Class := { plain "java/io/Serializable" (some 0) with
  accessFlags := 1537
  interfaces := #[]
  cf := some (fileOf pool4 2 #[] #[] 1537 4 #[] #[])
  fields := #[]
  methods := #[]
  instanceTypes := #[]
  staticTypes := #[]
  resolved := Array.replicate 8 none
  statics := none }

/-- the primitive byte -/
def k5 : Class := { plain "byte" none with kind := .primitive 'B', accessFlags := 0x411 }
/-- [B -/
def k6 : Class := { plain "[B" (some 0) with kind := .array 5 .byte, interfaces := #[3, 4], accessFlags := 1041 }

/-- the primitive int -/
def k7 : Class := { plain "int" none with kind := .primitive 'I', accessFlags := 0x411 }
/-- [I -/
def k8 : Class := { plain "[I" (some 0) with kind := .array 7 .int, interfaces := #[3, 4], accessFlags := 1041 }

def heap : Heap := #[]
def classes : Array Class := #[k0, k1, k2, k3, k4, k5, k6, k7, k8]
def interned : List (Array UInt16 × Addr) := []
def slotsUsed : Nat := 0
def theMethod : MethodId := ⟨1, 1⟩
def args0 : Array Value := #[.int 5, .int 80, .int 3, .int 9, .int 1]
def aboutOver (below : List Frame) : State where
  vm := { classes := classes, interned := interned.toArray }
  heap := heap
  slotsUsed := slotsUsed
  threads := #[{ frames := .invoking theMethod args0 :: below }]
def below0 : List Frame := [.native { method := ⟨0, 0⟩, args := #[] }]
def about1 : State := aboutOver below0
def p0 : Program := .bare "" "" ""
def e0 : Env := launch0.env 0 0 0
theorem w_frames : about1.frames = Frame.invoking theMethod args0 :: below0 := rfl
set_option maxRecDepth 65536 in
theorem w_args : argsFit about1.vm theMethod args0 = true := by decide +kernel
set_option maxRecDepth 65536 in
theorem w_heap : heapFits about1 = true := by decide +kernel
set_option maxRecDepth 65536 in
theorem w_runnable : about1.curStatus? = some .runnable := by decide +kernel
set_option maxRecDepth 65536 in
theorem w_alone : about1.alone = true := by decide +kernel
set_option maxRecDepth 65536 in
theorem w_named : about1.methodNamed? x = some theMethod := by decide +kernel
set_option maxRecDepth 65536 in
theorem w_hears : about1.hears theMethod below0 = true := by decide +kernel
set_option maxRecDepth 65536 in
theorem w_ripe : about1.ripe theMethod args0 below0 = true := by decide +kernel
theorem w_running : about1.status = .running := rfl
set_option maxRecDepth 65536 in
theorem w_room : about1.hasRoom e0.platform room_1 = true :=
  launch0.hasRoom_least _ room_1 (by decide +kernel) (by decide +kernel) (by decide +kernel) (by decide +kernel) (by decide +kernel) (by decide +kernel)
theorem allAtoms_all (ts : List Jvm.Cond) (a : Array Jvm.Value) (st : Jvm.State) : (allAtoms ts).before a st = ts.all (fun c => c.before a st) := by
  induction ts with
  | nil => rfl
  | cons c t ih =>
    show (Jvm.Cond.and c (allAtoms t)).before a st = _
    rw [Jvm.Cond.before_and, ih, List.all_cons]
def words1 : List Jvm.Cond := Jvm.Cond.code x code maxLocals ret :: tables_1
/-- a 'code' word, met by the world's own term for the bytes: nothing is compared byte by byte -/
theorem code_word {y : MethodName} {bytes : ByteArray} {mx : Nat} {rt : Option FieldType} {a : Array Value} {s : State} {m : MethodId} {meth : Method} {c : Code} (h1 : s.methodNamed? y = some m) (h2 : s.vm.method? m = some meth) (h3 : meth.code = some c) (h4 : c.code = bytes)
    (h5 : (c.maxLocals == mx && c.exceptionTable.isEmpty && decide (c.maxStack ≤ mostOperands) && decide (meth.sig.returnType = rt) && !meth.locks && decide (parseMethodDescriptor y.desc = some meth.sig)) = true) : (Jvm.Cond.code y bytes mx rt).before a s = true := by
  simp only [Bool.and_eq_true, beq_iff_eq, Bool.not_eq_true', decide_eq_true_eq] at h5
  obtain ⟨⟨⟨⟨⟨g1, g2⟩, g3⟩, g4⟩, g5⟩, g6⟩ := h5
  simp [Cond.before, Cond.holds, Cond.value, h1, h2, h3, h4, g1, g2, g3, g4, g5, g6]
def isCode : Jvm.Cond → Bool
  | .code _ _ _ _ => true
  | _ => false
theorem all_split {L : List Jvm.Cond} {P : Jvm.Cond → Bool} (h1 : L.all (fun c => isCode c || P c) = true) (h2 : ∀ c ∈ L.filter isCode, P c = true) : L.all P = true := by
  refine List.all_eq_true.mpr fun c hc => ?_
  have h := List.all_eq_true.mp h1 c hc
  rcases Bool.eq_false_or_eq_true (isCode c) with hi | hi
  · exact h2 c (List.mem_filter.mpr ⟨hc, hi⟩)
  · simpa [hi] using h
set_option maxRecDepth 65536 in
theorem w_c0 : (Jvm.Cond.code x code maxLocals ret).before args0 about1 = true := code_word (m := ⟨1, 1⟩) (meth := k1m1) (c := k1c1) (by decide +kernel) rfl rfl rfl (by decide +kernel)
set_option maxRecDepth 65536 in
theorem w_c1 : (Jvm.Cond.code ({ cls := "com/example/querent/querent/LookupDistinctPinLaw", name := "pick", desc := "(IIIII)I" } : Jvm.MethodName) method_3_code (5 : Nat) (Option.some Jvm.ClassFile.FieldType.int)).before args0 about1 = true := code_word (m := ⟨1, 2⟩) (meth := k1m2) (c := k1c2) (by decide +kernel) rfl rfl rfl (by decide +kernel)
set_option maxRecDepth 65536 in
theorem w_c2 : (Jvm.Cond.code ({ cls := "com/example/querent/querent/LookupDistinctPinLaw", name := "cs", desc := "([III)V" } : Jvm.MethodName) method_4_code (4 : Nat) (Option.none : Option Jvm.ClassFile.FieldType)).before args0 about1 = true := code_word (m := ⟨1, 3⟩) (meth := k1m3) (c := k1c3) (by decide +kernel) rfl rfl rfl (by decide +kernel)
set_option maxRecDepth 65536 in
theorem w_c3 : (Jvm.Cond.code ({ cls := "com/example/querent/querent/Lookup", name := "distinct", desc := "([I)I" } : Jvm.MethodName) prog_28_method_8_code (3 : Nat) (Option.some Jvm.ClassFile.FieldType.int)).before args0 about1 = true := code_word (m := ⟨2, 0⟩) (meth := k2m0) (c := k2c0) (by decide +kernel) rfl rfl rfl (by decide +kernel)
set_option maxRecDepth 65536 in
theorem w_c4 : (Jvm.Cond.code ({ cls := "com/example/querent/querent/LookupDistinctPinLaw", name := "has", desc := "([III)Z" } : Jvm.MethodName) method_5_code (3 : Nat) (Option.some Jvm.ClassFile.FieldType.boolean)).before args0 about1 = true := code_word (m := ⟨1, 4⟩) (meth := k1m4) (c := k1c4) (by decide +kernel) rfl rfl rfl (by decide +kernel)
def codes1 : List Jvm.Cond := [Jvm.Cond.code x code maxLocals ret, Jvm.Cond.code ({ cls := "com/example/querent/querent/LookupDistinctPinLaw", name := "pick", desc := "(IIIII)I" } : Jvm.MethodName) method_3_code (5 : Nat) (Option.some Jvm.ClassFile.FieldType.int), Jvm.Cond.code ({ cls := "com/example/querent/querent/LookupDistinctPinLaw", name := "cs", desc := "([III)V" } : Jvm.MethodName) method_4_code (4 : Nat) (Option.none : Option Jvm.ClassFile.FieldType), Jvm.Cond.code ({ cls := "com/example/querent/querent/Lookup", name := "distinct", desc := "([I)I" } : Jvm.MethodName) prog_28_method_8_code (3 : Nat) (Option.some Jvm.ClassFile.FieldType.int), Jvm.Cond.code ({ cls := "com/example/querent/querent/LookupDistinctPinLaw", name := "has", desc := "([III)Z" } : Jvm.MethodName) method_5_code (3 : Nat) (Option.some Jvm.ClassFile.FieldType.boolean)]
set_option maxRecDepth 65536 in
theorem codes_eq : words1.filter isCode = codes1 := rfl
theorem w_codes : ∀ c ∈ words1.filter isCode, c.before args0 about1 = true := by
  rw [codes_eq]
  intro c hc
  simp only [codes1, List.mem_cons, List.not_mem_nil, or_false] at hc
  rcases hc with rfl | rfl | rfl | rfl | rfl
  · exact w_c0
  · exact w_c1
  · exact w_c2
  · exact w_c3
  · exact w_c4
set_option maxRecDepth 65536 in
theorem w_t1 : words1.all (fun c => isCode c || c.before args0 about1) = true := by decide +kernel
theorem w_tables : (allAtoms (Jvm.Cond.code x code maxLocals ret :: tables_1)).before args0 about1 = true := by
  rw [allAtoms_all]
  show words1.all (fun c => c.before args0 about1) = true
  refine all_split ?_ w_codes
  rw [w_t1]
set_option maxRecDepth 65536 in
theorem w_case : (Jvm.Cond.and given_1 narrow_1).before args0 about1 = true := by decide +kernel
theorem w_applies : (headSpec (Jvm.Cond.code x code maxLocals ret :: tables_1) room_1).applies x e0.platform about1 = true :=
  (Spec.applies_iff w_frames).mpr ⟨w_running, w_runnable, w_alone, w_named, w_hears, w_ripe, w_room, w_tables⟩
theorem atStart : AtStart classFile x code maxLocals ret World_1 tables_1 room_1 Calls_1 rest_1 Pre_1 launch0 p0 e0 about1 theMethod args0 below0 :=
  ⟨lists_1, trivial, launch0.admits_env _ _ _, launch0.least_env, fairChoices_fair.cas, fairChoices_fair.clock, w_frames, w_args, w_heap, w_applies, trivial, trivial, w_case⟩
end start1
theorem witness_1 : WitnessClaimed_1 := ⟨start1.p0, start1.e0, start1.about1, start1.theMethod, start1.args0, start1.below0, start1.atStart⟩
end Jvm.Pilot.@@N@@
