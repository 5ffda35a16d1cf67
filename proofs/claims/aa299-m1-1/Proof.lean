import JvmDerived
import JvmDerived.Pilot.@@N@@Statement
import JvmDerived.Pilot.@@N@@Code
set_option linter.unusedVariables false
set_option linter.unusedSimpArgs false
namespace Jvm.OwnWalk
open Sem ClassFile Op Lib Jvm.Stand Jvm.Free Jvm.LawKit Jvm.RoadKit
section Own
variable {p : Program} {l : Launch} {e : Env} {R : Room} {s : State} {m : MethodId} {args : Array Value} {below : List Frame} {meth : Method} {c : Code} {T : State} {locs : List Loc} {cells slots : Nat} {Z : State} {a0 : Array Value} {h h' : Heap} {Q : Option Value → Heap → List Loc → Prop} {kc ks : Nat} {G : Outcome → State → Prop} {A B : State}
/-- from A the invocation comes to its end, and Q holds of what it returns, of the heap and of the places written -/
def Goes (p : Program) (e : Env) (below : List Frame) (G : Outcome → State → Prop) (A : State) : Prop :=
  ∃ s₂ o, Steps p.tables e below A s₂ ∧ s₂.status = .running ∧ Ended s₂ below o ∧ G o s₂
def EndN (s : State) (Q : Option Value → Heap → List Loc → Prop) (kc ks : Nat) (o : Outcome) (t : State) : Prop := ∃ v L, o = .returned v ∧ Q v t.heap L ∧ FrameEnd s o t L kc ks
theorem go (k : ∀ t, Steps p.tables e below B t → Steps p.tables e below A t) (g : Goes p e below G B) : Goes p e below G A := by
  obtain ⟨s₂, o, st, r⟩ := g
  exact ⟨s₂, o, k _ st, r⟩
theorem goE {g g' : JFrame} (q : g = g') (k : Goes p e below G (T.setTop g')) : Goes p e below G (T.setTop g) := q ▸ k
theorem goEnd (X : Stand p l e R s m args below meth c T locs cells slots) {v : Option Value} (hv : meth.sig.returnType = none → v = none) (hlocks : meth.locks = false) (hc : cells ≤ kc) (hs : slots ≤ ks) (eT : T.heap = h) (hq : Q v h locs)
    (k : ∀ fs, (∀ (f : JFrame) (acts : List Action), f.method = m → f.locked = none → f.entered = [] → (doReturn e (T.setTop f) acts v).1 = T.setFrames fs) → Steps p.tables e below A (T.setFrames fs)) : Goes p e below (EndN s Q kc ks) A := by
  obtain ⟨fs, hr, hrun, hended, hW, hsame⟩ := X.leave hv hlocks
  exact ⟨_, _, k fs hr, hrun, hended, _, _, rfl, (by show Q v T.heap locs; rw [eT]; exact hq), ⟨_, rfl⟩, hW, hsame.mono hc hs⟩
theorem goRetV (X : Stand p l e R s m args below meth c T locs cells slots) (hx : p.tables.exec = Jvm.exec) {pc : Nat} {Ls : Array Slot} {w : Value} {t : FieldType} {i : Instr} {rest : List Value} (hret : meth.sig.returnType = some t) (hlocks : meth.locks = false) (hd : decode c.code pc = .ok (i, 1)) (hn : narrow t w = w)
    (hi : (i = .ireturn ∧ (t = .int ∨ t = .boolean ∨ t = .byte ∨ t = .char ∨ t = .short) ∧ ∃ z, w = .int z) ∨ (i = .lreturn ∧ t = .long ∧ ∃ z, w = .long z) ∨ (i = .dreturn ∧ t = .double ∧ ∃ z, w = .double z) ∨ (i = .freturn ∧ t = .float ∧ ∃ z, w = .float z) ∨ (i = .areturn ∧ t.isReference = true ∧ w.isRef = true))
    (hc : cells ≤ kc) (hs : slots ≤ ks) (eT : T.heap = h) (hq : Q (some w) h locs) : Goes p e below (EndN s Q kc ks) (T.setTop (mkF m pc Ls (w :: rest))) :=
  goEnd X (v := some w) (fun q => by rw [hret] at q; cases q) hlocks hc hs eT hq fun fs hr => retOut X hx hret hn hi hd hr
theorem goRetI (X : Stand p l e R s m args below meth c T locs cells slots) (hx : p.tables.exec = Jvm.exec) {pc : Nat} {Ls : Array Slot} {z : Int32} {rest : List Value} (hret : meth.sig.returnType = some .int) (hlocks : meth.locks = false) (hd : decode c.code pc = .ok (.ireturn, 1))
    (hc : cells ≤ kc) (hs : slots ≤ ks) (eT : T.heap = h) (hq : Q (some (.int z)) h locs) : Goes p e below (EndN s Q kc ks) (T.setTop (mkF m pc Ls (.int z :: rest))) :=
  goRetV X hx hret hlocks hd rfl (Or.inl ⟨rfl, Or.inl rfl, _, rfl⟩) hc hs eT hq
theorem goRetJ (X : Stand p l e R s m args below meth c T locs cells slots) (hx : p.tables.exec = Jvm.exec) {pc : Nat} {Ls : Array Slot} {z : Int64} {rest : List Value} (hret : meth.sig.returnType = some .long) (hlocks : meth.locks = false) (hd : decode c.code pc = .ok (.lreturn, 1))
    (hc : cells ≤ kc) (hs : slots ≤ ks) (eT : T.heap = h) (hq : Q (some (.long z)) h locs) : Goes p e below (EndN s Q kc ks) (T.setTop (mkF m pc Ls (.long z :: rest))) :=
  goRetV X hx hret hlocks hd rfl (Or.inr (Or.inl ⟨rfl, rfl, _, rfl⟩)) hc hs eT hq
theorem goRetD (X : Stand p l e R s m args below meth c T locs cells slots) (hx : p.tables.exec = Jvm.exec) {pc : Nat} {Ls : Array Slot} {z : UInt64} {rest : List Value} (hret : meth.sig.returnType = some .double) (hlocks : meth.locks = false) (hd : decode c.code pc = .ok (.dreturn, 1))
    (hc : cells ≤ kc) (hs : slots ≤ ks) (eT : T.heap = h) (hq : Q (some (.double z)) h locs) : Goes p e below (EndN s Q kc ks) (T.setTop (mkF m pc Ls (.double z :: rest))) :=
  goRetV X hx hret hlocks hd rfl (Or.inr (Or.inr (Or.inl ⟨rfl, rfl, _, rfl⟩))) hc hs eT hq
theorem goRetA (X : Stand p l e R s m args below meth c T locs cells slots) (hx : p.tables.exec = Jvm.exec) {pc : Nat} {Ls : Array Slot} {w : Value} {t : FieldType} {rest : List Value} (hret : meth.sig.returnType = some t) (hlocks : meth.locks = false) (ht : t.isReference = true) (hw : w.isRef = true) (hd : decode c.code pc = .ok (.areturn, 1))
    (hc : cells ≤ kc) (hs : slots ≤ ks) (eT : T.heap = h) (hq : Q (some w) h locs) : Goes p e below (EndN s Q kc ks) (T.setTop (mkF m pc Ls (w :: rest))) :=
  goRetV X hx hret hlocks hd (by cases t <;> first | (cases ht; done) | rfl) (Or.inr (Or.inr (Or.inr (Or.inr ⟨rfl, ht, hw⟩)))) hc hs eT hq
theorem goRetN (X : Stand p l e R s m args below meth c T locs cells slots) (hx : p.tables.exec = Jvm.exec) {pc : Nat} {Ls : Array Slot} {z z' : Int32} {t : FieldType} {rest : List Value} (hret : meth.sig.returnType = some t) (hlocks : meth.locks = false) (ht : t = .boolean ∨ t = .byte ∨ t = .char ∨ t = .short) (hd : decode c.code pc = .ok (.ireturn, 1)) (hz : nar t z = z')
    (hc : cells ≤ kc) (hs : slots ≤ ks) (eT : T.heap = h) (hq : Q (some (.int z')) h locs) : Goes p e below (EndN s Q kc ks) (T.setTop (mkF m pc Ls (.int z :: rest))) := by
  subst hz
  exact goEnd X (v := some (.int (nar t z))) (fun q => by rw [hret] at q; cases q) hlocks hc hs eT hq fun fs hr => retN X hx hret ht hd hr
theorem goRet0 (X : Stand p l e R s m args below meth c T locs cells slots) (hx : p.tables.exec = Jvm.exec) {pc : Nat} {Ls : Array Slot} (hret : meth.sig.returnType = none) (hlocks : meth.locks = false) (hd : decode c.code pc = .ok (.return_, 1))
    (hc : cells ≤ kc) (hs : slots ≤ ks) (eT : T.heap = h) (hq : Q none h locs) : Goes p e below (EndN s Q kc ks) (T.setTop (mkF m pc Ls [])) :=
  goEnd X (v := none) (fun _ => rfl) hlocks hc hs eT hq fun fs hr => X.returnOut hx hret hd hr
/-- a body's contract: called with these arguments at this heap it returns, and Q holds -/
def Ctr (l : Launch) (Z : State) (y : MethodName) (bytes : ByteArray) (maxL : Nat) (ret : Option FieldType) (ws : List Cond) (rm : Room) (as : Array Value) (h0 : Heap) (Q : Option Value → Heap → List Loc → Prop) : Prop :=
  MetFree l y (head1 (Cond.code y bytes maxL ret :: ws) rm) (fun a U => a = as ∧ Z.Warmed39 U.vm ∧ U.heap = h0) (fun _ _ _ _ _ => True) (fun _ U o U' => ∃ v L, o = .returned v ∧ Q v U'.heap L ∧ FrameEnd U o U' L rm.cells rm.slots)
theorem ctr {y : MethodName} {bytes : ByteArray} {maxL : Nat} {ret : Option FieldType} {ws : List Cond} {rm : Room} {as : Array Value} {h0 : Heap} (hpn : plainFor y = true)
    (body : ∀ (p : Program) (e : Env) (s : State) (m : MethodId) (below : List Frame) (meth : Method) (c : Code) (s₁ : State), p.tables.exec = Jvm.exec → c.code = bytes → c.maxLocals = maxL → s.vm.findClass y.cls = some m.cls → meth.name = y.name → meth.sig.returnType = ret → meth.locks = false → Z.Warmed39 s.vm →
      Stand p l e rm s m as below meth c s₁ [] 0 0 → s₁.heap = h0 → Goes p e below (EndN s Q rm.cells rm.slots) (s₁.setTop (entryFrame m as maxL))) : Ctr l Z y bytes maxL ret ws rm as h0 Q := by
  refine MetFree.of_bodySF hpn hisR ?_
  intro p e s m args below meth c s₁ Bd hml0 hP hK
  obtain ⟨rfl, hZ, hh⟩ := hP
  exact body p e s m below meth c s₁ Bd.exec Bd.bytes hml0 (findClass_of_methodNamed Bd.named) (name_of_methodNamed Bd.named Bd.method).1 Bd.returns Bd.notSynchronized hZ (Stand.of_body Bd) (by rw [← hh, Bd.state]; rfl)
theorem goCallS (X : Stand p l e R s m args below meth c T locs cells slots) (hx : p.tables.exec = Jvm.exec) (hZ : Z.Warmed39 s.vm) {own : String} {index : Nat} {y : MethodName} {bytes : ByteArray} {maxL : Nat} {ret : Option FieldType} (hown : s.vm.findClass own = some m.cls)
    (w1 : (Cond.methodLink own index y).before a0 Z = true) (w2 : (Cond.static y).before a0 Z = true) (w3 : (Cond.initialized y.cls).before a0 Z = true) (w4 : (Cond.code y bytes maxL ret).before a0 Z = true) (hy : y.cls ≠ "java/lang/invoke/MethodHandle" ∧ y.cls ≠ "java/lang/invoke/VarHandle")
    {rm : Room} {as : Array Value} {Q' : Option Value → Heap → List Loc → Prop} (hM : Ctr l Z y bytes maxL ret [] rm as h Q') (W : Nat) (hf : rm.frames + 1 ≤ R.frames) (hl : W + (maxL + 11) + rm.locals ≤ R.locals) (eT : T.heap = h)
    {pc : Nat} {Ls : Array Slot} {st : List Value} (hsize : Ls.size = c.maxLocals) (argsL rest : List Value) {ps : List FieldType} {rt : Option FieldType} (hpd : parseMethodDescriptor y.desc = some ⟨ps, rt⟩) (hlen : argsL.length = ps.length) (hst : st = argsL.reverse ++ rest) (has : argsL.toArray = as) (hW : (rest.map fun v => v.category).sum ≤ W)
    (hd : decode c.code pc = .ok (.invokestatic index, 3)) (hc : cells + rm.cells ≤ R.cells) (hs : slots + rm.slots ≤ R.slots)
    (k : ∀ T' v L, Stand p l e R s m args below meth c T' (locs ++ L) (cells + rm.cells) (slots + rm.slots) → Q' v T'.heap L → Goes p e below G (T'.setTop (mkF m (pc + 3) Ls (v.toList ++ rest)))) : Goes p e below G (T.setTop (mkF m pc Ls st)) := by
  subst hst
  obtain ⟨v, _, ⟨T', L', k', n'⟩, -, X', ⟨L, hQ, l1, y1, z1⟩, st⟩ := Jvm.LawKit.callS X hx (y := y) hown (mvT hZ w1) (mvT hZ w2) (mvT hZ w3) (mvT hZ w4) hy (backOf (W := W) hM hZ w4 w3 hf hl) (g := mkF m pc Ls (argsL.reverse ++ rest)) rfl hsize (argsL := argsL) (rest := rest) (lenOf hpd hlen) rfl (by show 2 * 0 + _ ≤ _; omega) hd (fun _ _ => ⟨has, eT, hc, hs⟩)
  dsimp only [Pt.U, Pt.locs, Pt.cells, Pt.slots] at X' l1 y1 z1 st hQ
  subst l1 y1 z1
  exact go st (k T' v L X' hQ)
theorem goCallI (X : Stand p l e R s m args below meth c T locs cells slots) (hx : p.tables.exec = Jvm.exec) (hZ : Z.Warmed39 s.vm) {own : String} {index : Nat} {y : MethodName} {bytes : ByteArray} {maxL : Nat} (hy1 : y.name = "<init>") (hown : s.vm.findClass own = some m.cls)
    (w1 : (Cond.methodLink own index y).before a0 Z = true) (w2 : (Cond.instanceMethod y).before a0 Z = true) (w3 : (Cond.initialized y.cls).before a0 Z = true) (w4 : (Cond.code y bytes maxL none).before a0 Z = true) (hy : y.cls ≠ "java/lang/invoke/MethodHandle" ∧ y.cls ≠ "java/lang/invoke/VarHandle")
    {rm : Room} {as : Array Value} {Q' : Option Value → Heap → List Loc → Prop} (hM : Ctr l Z y bytes maxL none [] rm as h Q') (W : Nat) (hf : rm.frames + 1 ≤ R.frames) (hl : W + (maxL + 11) + rm.locals ≤ R.locals) (eT : T.heap = h)
    {pc : Nat} {Ls : Array Slot} {st : List Value} (hsize : Ls.size = c.maxLocals) (a : Addr) (argsL rest : List Value) {ps : List FieldType} {rt : Option FieldType} (hpd : parseMethodDescriptor y.desc = some ⟨ps, rt⟩) (hlen : argsL.length = ps.length) (hst : st = argsL.reverse ++ .ref a :: rest) (has : (.ref a :: argsL).toArray = as) (hW : (rest.map fun v => v.category).sum ≤ W)
    (hd : decode c.code pc = .ok (.invokespecial index, 3)) (hc : cells + rm.cells ≤ R.cells) (hs : slots + rm.slots ≤ R.slots)
    (k : ∀ T' v L, Stand p l e R s m args below meth c T' (locs ++ L) (cells + rm.cells) (slots + rm.slots) → Q' v T'.heap L → Goes p e below G (T'.setTop (mkF m (pc + 3) Ls (v.toList ++ rest)))) : Goes p e below G (T.setTop (mkF m pc Ls st)) := by
  subst hst
  obtain ⟨v, _, ⟨T', L', k', n'⟩, -, X', ⟨L, hQ, l1, y1, z1⟩, st⟩ := X.specialBack hx (y := y) hy1 hown (mvT hZ w1) (mvT hZ w2) (mvT hZ w4) hy (backOf (W := W) hM hZ w4 w3 hf hl) (g := mkF m pc Ls (argsL.reverse ++ .ref a :: rest)) rfl hsize (Steps.refl _) (a := a) (argsL := argsL) (rest := rest) (lenOf hpd hlen) rfl (by show 2 * 0 + _ ≤ _; omega) hd (fun _ _ => ⟨has, eT, hc, hs⟩)
  dsimp only [Pt.U, Pt.locs, Pt.cells, Pt.slots] at X' l1 y1 z1 st hQ
  subst l1 y1 z1
  exact go (fun _ => st.trans) (k T' v L X' hQ)
theorem goCallV (X : Stand p l e R s m args below meth c T locs cells slots) (hx : p.tables.exec = Jvm.exec) (hZ : Z.Warmed39 s.vm) {own C : String} {index : Nat} {y : MethodName} {bytes : ByteArray} {maxL : Nat} {ret : Option FieldType} (hown : s.vm.findClass own = some m.cls)
    (w1 : (Cond.methodLink own index y).before a0 Z = true) (w2 : (Cond.declares y).before a0 Z = true) (w5 : (Cond.selects C y y).before a0 Z = true) (w6 : (Cond.instanceMethod y).before a0 Z = true) (w3 : (Cond.initialized y.cls).before a0 Z = true) (w4 : (Cond.code y bytes maxL ret).before a0 Z = true) (hy : y.cls ≠ "java/lang/invoke/MethodHandle" ∧ y.cls ≠ "java/lang/invoke/VarHandle")
    {rm : Room} {as : Array Value} {Q' : Option Value → Heap → List Loc → Prop} (hM : Ctr l Z y bytes maxL ret [] rm as h Q') (W : Nat) (hf : rm.frames + 1 ≤ R.frames) (hl : W + (maxL + 11) + rm.locals ≤ R.locals) (eT : T.heap = h) {a : Addr} (E : Exa Z h a C)
    {pc : Nat} {Ls : Array Slot} {st : List Value} (hsize : Ls.size = c.maxLocals) (argsL rest : List Value) {ps : List FieldType} {rt : Option FieldType} (hpd : parseMethodDescriptor y.desc = some ⟨ps, rt⟩) (hlen : argsL.length = ps.length) (hst : st = argsL.reverse ++ .ref a :: rest) (has : (.ref a :: argsL).toArray = as) (hW : (rest.map fun v => v.category).sum ≤ W)
    (hd : decode c.code pc = .ok (.invokevirtual index, 3)) (hc : cells + rm.cells ≤ R.cells) (hs : slots + rm.slots ≤ R.slots)
    (k : ∀ T' v L, Stand p l e R s m args below meth c T' (locs ++ L) (cells + rm.cells) (slots + rm.slots) → Q' v T'.heap L → Goes p e below G (T'.setTop (mkF m (pc + 3) Ls (v.toList ++ rest)))) : Goes p e below G (T.setTop (mkF m pc Ls st)) := by
  subst hst
  obtain ⟨cq, kq, qa, qb, qc⟩ := isOf hZ eT E
  obtain ⟨v, _, ⟨T', L', k', n'⟩, -, X', ⟨L, hQ, l1, y1, z1⟩, st⟩ := X.virtualBack hx (y := y) (z := y) hown (mvT hZ w1) (mvT hZ w2) (notFace_of_selects (args := #[]) (mvT hZ w5)) (mvT hZ w5) (mvT hZ w6) hy (backOf (W := W) hM hZ w4 w3 hf hl) qa qc (g := mkF m pc Ls (argsL.reverse ++ .ref a :: rest)) rfl hsize (Steps.refl _) (argsL := argsL) (rest := rest) (lenOf hpd hlen) rfl (by show 2 * 0 + _ ≤ _; omega) hd (fun _ _ => ⟨has, eT, hc, hs⟩)
  dsimp only [Pt.U, Pt.locs, Pt.cells, Pt.slots] at X' l1 y1 z1 st hQ
  subst l1 y1 z1
  exact go (fun _ => st.trans) (k T' v L X' hQ)
theorem extT {h0 : Heap} (O : Ext h0 h) (E : Ext h h') : Ext h0 h' := ⟨Nat.le_trans O.1 E.1, fun x c q => E.2 x c (O.2 x c q)⟩
theorem extK {h0 : Heap} {ws : List Addr} (O : Ext h0 h) (K : Keep h h' ws) (q : ∀ x ∈ ws, h0.size ≤ x) : Ext h0 h' := ⟨Nat.le_trans O.1 K.1, fun x c r => K.2.1 x c (O.2 x c r) fun z => absurd (Array.getElem?_eq_some_iff.mp r).1 (Nat.not_lt.mpr (q x z))⟩
theorem extW {h0 : Heap} {a : Addr} {sl : Nat} {v : Value} (O : Ext h0 h) (W : Wr h h' a sl v) (q : h0.size ≤ a) : Ext h0 h' := extK O (Keep.of_wr W) (allS q all0)
theorem eqI_v {t : Term} {k : Int32} {first s : State} {o : Option Outcome} {idx : List Nat} {args : Array Value} (h : (Cond.eq t (.int k)).value args first o s idx = some true) : t.eval args first o idx s = some (.int k) := by
  simp only [Cond.value, Term.eval] at h
  cases ht : t.eval args first o idx s with
  | none => simp [ht] at h
  | some x => cases x <;> simp [ht] at h ⊢; exact h
/-- an array with these values -/
def Ary (Z : State) (h : Heap) (a : Addr) (ty : FieldType) (vs : List Value) : Prop := ∃ cl : Cell, Arr Z h a cl ty ∧ cl.slots.toList = vs ∧ vs.length < 2 ^ 31
variable {a b : Addr} {ty : FieldType} {vs : List Value}
theorem Ary.lt (F : Ary Z h a ty vs) : a < h.size := by obtain ⟨c, A, -⟩ := F; exact A.lt
theorem Ary.ext (F : Ary Z h a ty vs) (E : Ext h h') : Ary Z h' a ty vs := by obtain ⟨c, A, r⟩ := F; exact ⟨c, A.ext E, r⟩
theorem Ary.other (F : Ary Z h b ty vs) {sl : Nat} {v : Value} (W : Wr h h' a sl v) (q : b ≠ a) : Ary Z h' b ty vs := by obtain ⟨c, A, r⟩ := F; exact ⟨c, A.other W q, r⟩
theorem Ary.keep (F : Ary Z h a ty vs) {ws : List Addr} (K : Keep h h' ws) (q : a ∉ ws) : Ary Z h' a ty vs := by obtain ⟨c, A, r⟩ := F; exact ⟨c, ⟨K.2.1 a c A.1 q, A.2⟩, r⟩
theorem Ary.set (F : Ary Z h a ty vs) {j : Int32} {v : Value} (W : Wr h h' a j.toNatClampNeg v) {ws : List Value} (e : vs.set j.toNatClampNeg v = ws) : Ary Z h' a ty ws := by
  obtain ⟨c, A, r, q⟩ := F
  refine ⟨_, A.same W, ?_, ?_⟩
  · rw [← e, ← r]; simp [Cell.setSlot]
  · rw [← e, List.length_set]; exact q
theorem Ary.new {cA : ClassId} {n : Int32} (A : Arr Z h a (newA cA ty n) ty) (e : List.replicate n.toNatClampNeg (defaultValue ty) = vs) (q : vs.length < 2 ^ 31) : Ary Z h a ty vs := ⟨_, A, by rw [← e]; simp [newA], q⟩
theorem Ary.inb {cl : Cell} (r : cl.slots.toList = vs) {j : Int32} {v : Value} (hj : ¬ j < 0) (hv : vs[j.toNatClampNeg]? = some v) : ¬ (j < 0 ∨ cl.slots.size ≤ j.toNatClampNeg) := fun q => by
  rcases q with q | q
  · exact hj q
  · subst r
    have := (List.getElem?_eq_some_iff.mp hv).1
    rw [Array.length_toList] at this
    omega
theorem Ary.at {cl : Cell} (r : cl.slots.toList = vs) {j : Int32} {v : Value} (hv : vs[j.toNatClampNeg]? = some v) : cl.slots[j.toNatClampNeg]? = some v := by subst r; simpa using hv
theorem goIaload (X : Stand p l e R s m args below meth c T locs cells slots) (hx : p.tables.exec = Jvm.exec) (hZ : Z.Warmed39 s.vm) (eT : T.heap = h) {vs : List Value} (F : Ary Z h a .int vs) {j x : Int32} {pc : Nat} {Ls : Array Slot} {rest : List Value} (hd : decode c.code pc = .ok (.iaload, 1)) (hj : ¬ j < 0) (hv : vs[j.toNatClampNeg]? = some (.int x))
    (k : Goes p e below G (T.setTop (mkF m (pc + 1) Ls (.int x :: rest)))) : Goes p e below G (T.setTop (mkF m pc Ls (.int j :: .ref a :: rest))) := by
  obtain ⟨cl, A, r, q⟩ := F
  exact go (X.iaload hx (j := j) (v := .int x) (by rw [eT]; exact A.1) (State.isArrayOf_alike hZ.alike A.2.1) A.2.2 (Ary.inb r hj hv) (Ary.at r hv) (g := mkF m pc Ls (.int j :: .ref a :: rest)) rfl rfl hd) k
theorem goBaload (X : Stand p l e R s m args below meth c T locs cells slots) (hx : p.tables.exec = Jvm.exec) (hZ : Z.Warmed39 s.vm) (eT : T.heap = h) {vs : List Value} (F : Ary Z h a .byte vs) {j x : Int32} {pc : Nat} {Ls : Array Slot} {rest : List Value} (hd : decode c.code pc = .ok (.baload, 1)) (hj : ¬ j < 0) (hv : vs[j.toNatClampNeg]? = some (.int x))
    (k : Goes p e below G (T.setTop (mkF m (pc + 1) Ls (.int x :: rest)))) : Goes p e below G (T.setTop (mkF m pc Ls (.int j :: .ref a :: rest))) := by
  obtain ⟨cl, A, r, q⟩ := F
  exact go (X.baloadBytes hx (j := j) (v := .int x) (by rw [eT]; exact A.1) (State.isArrayOf_alike hZ.alike A.2.1) A.2.2 (Ary.inb r hj hv) (Ary.at r hv) (g := mkF m pc Ls (.int j :: .ref a :: rest)) rfl rfl hd) k
theorem goZaload (X : Stand p l e R s m args below meth c T locs cells slots) (hx : p.tables.exec = Jvm.exec) (hZ : Z.Warmed39 s.vm) (eT : T.heap = h) {vs : List Value} (F : Ary Z h a .boolean vs) {j x : Int32} {pc : Nat} {Ls : Array Slot} {rest : List Value} (hd : decode c.code pc = .ok (.baload, 1)) (hj : ¬ j < 0) (hv : vs[j.toNatClampNeg]? = some (.int x))
    (k : Goes p e below G (T.setTop (mkF m (pc + 1) Ls (.int x :: rest)))) : Goes p e below G (T.setTop (mkF m pc Ls (.int j :: .ref a :: rest))) := by
  obtain ⟨cl, A, r, q⟩ := F
  exact go (X.baloadBooleans hx (j := j) (v := .int x) (by rw [eT]; exact A.1) (State.isArrayOf_alike hZ.alike A.2.1) A.2.2 (Ary.inb r hj hv) (Ary.at r hv) (g := mkF m pc Ls (.int j :: .ref a :: rest)) rfl rfl hd) k
theorem goCaload (X : Stand p l e R s m args below meth c T locs cells slots) (hx : p.tables.exec = Jvm.exec) (hZ : Z.Warmed39 s.vm) (eT : T.heap = h) {vs : List Value} (F : Ary Z h a .char vs) {j x : Int32} {pc : Nat} {Ls : Array Slot} {rest : List Value} (hd : decode c.code pc = .ok (.caload, 1)) (hj : ¬ j < 0) (hv : vs[j.toNatClampNeg]? = some (.int x))
    (k : Goes p e below G (T.setTop (mkF m (pc + 1) Ls (.int x :: rest)))) : Goes p e below G (T.setTop (mkF m pc Ls (.int j :: .ref a :: rest))) := by
  obtain ⟨cl, A, r, q⟩ := F
  exact go (X.caload hx (j := j) (v := .int x) (by rw [eT]; exact A.1) (State.isArrayOf_alike hZ.alike A.2.1) A.2.2 (Ary.inb r hj hv) (Ary.at r hv) (g := mkF m pc Ls (.int j :: .ref a :: rest)) rfl rfl hd) k
theorem goAlen (X : Stand p l e R s m args below meth c T locs cells slots) (hx : p.tables.exec = Jvm.exec) (hZ : Z.Warmed39 s.vm) (eT : T.heap = h) {vs : List Value} (F : Ary Z h a ty vs) {n : Int32} {pc : Nat} {Ls : Array Slot} {rest : List Value} (hd : decode c.code pc = .ok (.arraylength, 1)) (hn : vs.length.toInt32 = n)
    (k : Goes p e below G (T.setTop (mkF m (pc + 1) Ls (.int n :: rest)))) : Goes p e below G (T.setTop (mkF m pc Ls (.ref a :: rest))) := by
  obtain ⟨cl, A, r, q⟩ := F
  have e1 : cl.slots.size.toInt32 = n := by rw [← hn, ← r, Array.length_toList]
  refine go (X.arraylength hx (cell := cl) (by rw [eT]; exact A.1) (State.isArrayOf_alike hZ.alike A.2.1) (g := mkF m pc Ls (.ref a :: rest)) rfl (rest := rest) rfl hd) ?_
  rw [e1]
  exact k
theorem goIastore (X : Stand p l e R s m args below meth c T locs cells slots) (hx : p.tables.exec = Jvm.exec) (hZ : Z.Warmed39 s.vm) (eT : T.heap = h) {vs : List Value} (F : Ary Z h a .int vs) {j x : Int32} {v : Value} {pc : Nat} {Ls : Array Slot} {rest : List Value} (hd : decode c.code pc = .ok (.iastore, 1)) (hj : ¬ j < 0) (hv : vs[j.toNatClampNeg]? = some v)
    (k : ∀ T' h', Stand p l e R s m args below meth c T' (locs ++ [⟨a, j.toNatClampNeg⟩]) cells slots → T'.heap = h' → Wr h h' a j.toNatClampNeg (.int x) → Goes p e below G (T'.setTop (mkF m (pc + 1) Ls rest))) : Goes p e below G (T.setTop (mkF m pc Ls (.int x :: .int j :: .ref a :: rest))) := by
  obtain ⟨cl, A, r, q⟩ := F
  obtain ⟨T', h', X', e', W', st⟩ := stI X hx hZ eT A (j := j) (x := x) (Ary.inb r hj hv) (g := mkF m pc Ls (.int x :: .int j :: .ref a :: rest)) rfl rfl hd
  exact go st (k T' h' X' e' W')
theorem goBastore (X : Stand p l e R s m args below meth c T locs cells slots) (hx : p.tables.exec = Jvm.exec) (hZ : Z.Warmed39 s.vm) (eT : T.heap = h) {vs : List Value} (F : Ary Z h a .byte vs) {j x : Int32} {v : Value} {pc : Nat} {Ls : Array Slot} {rest : List Value} (hd : decode c.code pc = .ok (.bastore, 1)) (hj : ¬ j < 0) (hv : vs[j.toNatClampNeg]? = some v)
    (k : ∀ T' h', Stand p l e R s m args below meth c T' (locs ++ [⟨a, j.toNatClampNeg⟩]) cells slots → T'.heap = h' → Wr h h' a j.toNatClampNeg (.int (nar .byte x)) → Goes p e below G (T'.setTop (mkF m (pc + 1) Ls rest))) : Goes p e below G (T.setTop (mkF m pc Ls (.int x :: .int j :: .ref a :: rest))) := by
  obtain ⟨cl, A, r, q⟩ := F
  obtain ⟨T', h', X', e', W', st⟩ := stB X hx hZ eT A (j := j) (x := x) (Ary.inb r hj hv) (g := mkF m pc Ls (.int x :: .int j :: .ref a :: rest)) rfl rfl hd
  exact go st (k T' h' X' e' W')
theorem goZastore (X : Stand p l e R s m args below meth c T locs cells slots) (hx : p.tables.exec = Jvm.exec) (hZ : Z.Warmed39 s.vm) (eT : T.heap = h) {vs : List Value} (F : Ary Z h a .boolean vs) {j x : Int32} {v : Value} {pc : Nat} {Ls : Array Slot} {rest : List Value} (hd : decode c.code pc = .ok (.bastore, 1)) (hj : ¬ j < 0) (hv : vs[j.toNatClampNeg]? = some v)
    (k : ∀ T' h', Stand p l e R s m args below meth c T' (locs ++ [⟨a, j.toNatClampNeg⟩]) cells slots → T'.heap = h' → Wr h h' a j.toNatClampNeg (.int (nar .boolean x)) → Goes p e below G (T'.setTop (mkF m (pc + 1) Ls rest))) : Goes p e below G (T.setTop (mkF m pc Ls (.int x :: .int j :: .ref a :: rest))) := by
  obtain ⟨cl, A, r, q⟩ := F
  obtain ⟨T', h', X', e', W', st⟩ := stZ X hx hZ eT A (j := j) (x := x) (Ary.inb r hj hv) (g := mkF m pc Ls (.int x :: .int j :: .ref a :: rest)) rfl rfl hd
  exact go st (k T' h' X' e' W')
theorem goCastore (X : Stand p l e R s m args below meth c T locs cells slots) (hx : p.tables.exec = Jvm.exec) (hZ : Z.Warmed39 s.vm) (eT : T.heap = h) {vs : List Value} (F : Ary Z h a .char vs) {j x : Int32} {v : Value} {pc : Nat} {Ls : Array Slot} {rest : List Value} (hd : decode c.code pc = .ok (.castore, 1)) (hj : ¬ j < 0) (hv : vs[j.toNatClampNeg]? = some v)
    (k : ∀ T' h', Stand p l e R s m args below meth c T' (locs ++ [⟨a, j.toNatClampNeg⟩]) cells slots → T'.heap = h' → Wr h h' a j.toNatClampNeg (.int (nar .char x)) → Goes p e below G (T'.setTop (mkF m (pc + 1) Ls rest))) : Goes p e below G (T.setTop (mkF m pc Ls (.int x :: .int j :: .ref a :: rest))) := by
  obtain ⟨cl, A, r, q⟩ := F
  obtain ⟨T', h', X', e', W', st⟩ := stC X hx hZ eT A (j := j) (x := x) (Ary.inb r hj hv) (g := mkF m pc Ls (.int x :: .int j :: .ref a :: rest)) rfl rfl hd
  exact go st (k T' h' X' e' W')
theorem narb (x : Int32) : nar .byte x.toInt8.toInt32 = x.toInt8.toInt32 := by simp [nar]
theorem narc (x : Int32) : nar .char x.toUInt32.toUInt16.toUInt32.toInt32 = x.toUInt32.toUInt16.toUInt32.toInt32 := by simp only [nar, UInt32.toUInt32_toInt32, UInt16.toUInt16_toUInt32]
theorem gIload (X : Stand p l e R s m args below meth c T locs cells slots) (hx : p.tables.exec = Jvm.exec) {pc : Nat} {Ls : Array Slot} {st : List Value} {k : Nat} {v : Int32} (hd : decode c.code pc = .ok (.iload k, 2)) (hl : Ls[k]? = some (.val (.int v))) (K : Goes p e below G (T.setTop (mkF m (pc + 2) Ls (.int v :: st)))) : Goes p e below G (T.setTop (mkF m pc Ls (st))) :=
  go (fun _ q => XS.iload (g := mkF m pc Ls (st)) X.here hx rfl hd hl q) K
theorem gIloadN (X : Stand p l e R s m args below meth c T locs cells slots) (hx : p.tables.exec = Jvm.exec) {pc : Nat} {Ls : Array Slot} {st : List Value} {k : Fin 4} {v : Int32} (hd : decode c.code pc = .ok (.iload_n k, 1)) (hl : Ls[k.val]? = some (.val (.int v))) (K : Goes p e below G (T.setTop (mkF m (pc + 1) Ls (.int v :: st)))) : Goes p e below G (T.setTop (mkF m pc Ls (st))) :=
  go (fun _ q => XS.iloadN (g := mkF m pc Ls (st)) X.here hx rfl hd hl q) K
theorem gIstore (X : Stand p l e R s m args below meth c T locs cells slots) (hx : p.tables.exec = Jvm.exec) {pc : Nat} {Ls : Array Slot} {st : List Value} {k : Nat} {v : Int32} {l' : Array Slot} (hd : decode c.code pc = .ok (.istore k, 2)) (hl : storeLocals Ls k (.int v) = some l') (K : Goes p e below G (T.setTop (mkF m (pc + 2) l' (st)))) : Goes p e below G (T.setTop (mkF m pc Ls (.int v :: st))) :=
  go (fun _ q => XS.istore (g := mkF m pc Ls (.int v :: st)) X.here hx rfl hd rfl hl q) K
theorem gIstoreN (X : Stand p l e R s m args below meth c T locs cells slots) (hx : p.tables.exec = Jvm.exec) {pc : Nat} {Ls : Array Slot} {st : List Value} {k : Fin 4} {v : Int32} {l' : Array Slot} (hd : decode c.code pc = .ok (.istore_n k, 1)) (hl : storeLocals Ls k.val (.int v) = some l') (K : Goes p e below G (T.setTop (mkF m (pc + 1) l' (st)))) : Goes p e below G (T.setTop (mkF m pc Ls (.int v :: st))) :=
  go (fun _ q => XS.istoreN (g := mkF m pc Ls (.int v :: st)) X.here hx rfl hd rfl hl q) K
theorem gLload (X : Stand p l e R s m args below meth c T locs cells slots) (hx : p.tables.exec = Jvm.exec) {pc : Nat} {Ls : Array Slot} {st : List Value} {k : Nat} {v : Int64} (hd : decode c.code pc = .ok (.lload k, 2)) (hl : Ls[k]? = some (.val (.long v))) (K : Goes p e below G (T.setTop (mkF m (pc + 2) Ls (.long v :: st)))) : Goes p e below G (T.setTop (mkF m pc Ls (st))) :=
  go (fun _ q => XT.lload (g := mkF m pc Ls (st)) X.here hx rfl hd hl q) K
theorem gLloadN (X : Stand p l e R s m args below meth c T locs cells slots) (hx : p.tables.exec = Jvm.exec) {pc : Nat} {Ls : Array Slot} {st : List Value} {k : Fin 4} {v : Int64} (hd : decode c.code pc = .ok (.lload_n k, 1)) (hl : Ls[k.val]? = some (.val (.long v))) (K : Goes p e below G (T.setTop (mkF m (pc + 1) Ls (.long v :: st)))) : Goes p e below G (T.setTop (mkF m pc Ls (st))) :=
  go (fun _ q => XT.lloadN (g := mkF m pc Ls (st)) X.here hx rfl hd hl q) K
theorem gLstore (X : Stand p l e R s m args below meth c T locs cells slots) (hx : p.tables.exec = Jvm.exec) {pc : Nat} {Ls : Array Slot} {st : List Value} {k : Nat} {v : Int64} {l' : Array Slot} (hd : decode c.code pc = .ok (.lstore k, 2)) (hl : storeLocals Ls k (.long v) = some l') (K : Goes p e below G (T.setTop (mkF m (pc + 2) l' (st)))) : Goes p e below G (T.setTop (mkF m pc Ls (.long v :: st))) :=
  go (fun _ q => XT.lstore (g := mkF m pc Ls (.long v :: st)) X.here hx rfl hd rfl hl q) K
theorem gLstoreN (X : Stand p l e R s m args below meth c T locs cells slots) (hx : p.tables.exec = Jvm.exec) {pc : Nat} {Ls : Array Slot} {st : List Value} {k : Fin 4} {v : Int64} {l' : Array Slot} (hd : decode c.code pc = .ok (.lstore_n k, 1)) (hl : storeLocals Ls k.val (.long v) = some l') (K : Goes p e below G (T.setTop (mkF m (pc + 1) l' (st)))) : Goes p e below G (T.setTop (mkF m pc Ls (.long v :: st))) :=
  go (fun _ q => XT.lstoreN (g := mkF m pc Ls (.long v :: st)) X.here hx rfl hd rfl hl q) K
theorem gDload (X : Stand p l e R s m args below meth c T locs cells slots) (hx : p.tables.exec = Jvm.exec) {pc : Nat} {Ls : Array Slot} {st : List Value} {k : Nat} {v : UInt64} (hd : decode c.code pc = .ok (.dload k, 2)) (hl : Ls[k]? = some (.val (.double v))) (K : Goes p e below G (T.setTop (mkF m (pc + 2) Ls (.double v :: st)))) : Goes p e below G (T.setTop (mkF m pc Ls (st))) :=
  go (fun _ q => XS.dload (g := mkF m pc Ls (st)) X.here hx rfl hd hl q) K
theorem gDloadN (X : Stand p l e R s m args below meth c T locs cells slots) (hx : p.tables.exec = Jvm.exec) {pc : Nat} {Ls : Array Slot} {st : List Value} {k : Fin 4} {v : UInt64} (hd : decode c.code pc = .ok (.dload_n k, 1)) (hl : Ls[k.val]? = some (.val (.double v))) (K : Goes p e below G (T.setTop (mkF m (pc + 1) Ls (.double v :: st)))) : Goes p e below G (T.setTop (mkF m pc Ls (st))) :=
  go (fun _ q => XS.dloadN (g := mkF m pc Ls (st)) X.here hx rfl hd hl q) K
theorem gDstore (X : Stand p l e R s m args below meth c T locs cells slots) (hx : p.tables.exec = Jvm.exec) {pc : Nat} {Ls : Array Slot} {st : List Value} {k : Nat} {v : UInt64} {l' : Array Slot} (hd : decode c.code pc = .ok (.dstore k, 2)) (hl : storeLocals Ls k (.double v) = some l') (K : Goes p e below G (T.setTop (mkF m (pc + 2) l' (st)))) : Goes p e below G (T.setTop (mkF m pc Ls (.double v :: st))) :=
  go (fun _ q => XS.dstore (g := mkF m pc Ls (.double v :: st)) X.here hx rfl hd rfl hl q) K
theorem gDstoreN (X : Stand p l e R s m args below meth c T locs cells slots) (hx : p.tables.exec = Jvm.exec) {pc : Nat} {Ls : Array Slot} {st : List Value} {k : Fin 4} {v : UInt64} {l' : Array Slot} (hd : decode c.code pc = .ok (.dstore_n k, 1)) (hl : storeLocals Ls k.val (.double v) = some l') (K : Goes p e below G (T.setTop (mkF m (pc + 1) l' (st)))) : Goes p e below G (T.setTop (mkF m pc Ls (.double v :: st))) :=
  go (fun _ q => XS.dstoreN (g := mkF m pc Ls (.double v :: st)) X.here hx rfl hd rfl hl q) K
theorem gAload (X : Stand p l e R s m args below meth c T locs cells slots) (hx : p.tables.exec = Jvm.exec) {pc : Nat} {Ls : Array Slot} {st : List Value} {k : Nat} {v : Value} (hd : decode c.code pc = .ok (.aload k, 2)) (hl : Ls[k]? = some (.val v)) (hv : v.isRef = true) (K : Goes p e below G (T.setTop (mkF m (pc + 2) Ls (v :: st)))) : Goes p e below G (T.setTop (mkF m pc Ls (st))) :=
  go (fun _ q => XS.aload (g := mkF m pc Ls (st)) X.here hx rfl hd hl hv q) K
theorem gAloadN (X : Stand p l e R s m args below meth c T locs cells slots) (hx : p.tables.exec = Jvm.exec) {pc : Nat} {Ls : Array Slot} {st : List Value} {k : Fin 4} {v : Value} (hd : decode c.code pc = .ok (.aload_n k, 1)) (hl : Ls[k.val]? = some (.val v)) (hv : v.isRef = true) (K : Goes p e below G (T.setTop (mkF m (pc + 1) Ls (v :: st)))) : Goes p e below G (T.setTop (mkF m pc Ls (st))) :=
  go (fun _ q => XS.aloadN (g := mkF m pc Ls (st)) X.here hx rfl hd hl hv q) K
theorem gAstore (X : Stand p l e R s m args below meth c T locs cells slots) (hx : p.tables.exec = Jvm.exec) {pc : Nat} {Ls : Array Slot} {st : List Value} {k : Nat} {v : Value} {l' : Array Slot} (hd : decode c.code pc = .ok (.astore k, 2)) (hv : v.isRef = true) (hl : storeLocals Ls k v = some l') (K : Goes p e below G (T.setTop (mkF m (pc + 2) l' (st)))) : Goes p e below G (T.setTop (mkF m pc Ls (v :: st))) :=
  go (fun _ q => XS.astore (g := mkF m pc Ls (v :: st)) X.here hx rfl hd rfl hv hl q) K
theorem gAstoreN (X : Stand p l e R s m args below meth c T locs cells slots) (hx : p.tables.exec = Jvm.exec) {pc : Nat} {Ls : Array Slot} {st : List Value} {k : Fin 4} {v : Value} {l' : Array Slot} (hd : decode c.code pc = .ok (.astore_n k, 1)) (hv : v.isRef = true) (hl : storeLocals Ls k.val v = some l') (K : Goes p e below G (T.setTop (mkF m (pc + 1) l' (st)))) : Goes p e below G (T.setTop (mkF m pc Ls (v :: st))) :=
  go (fun _ q => XS.astoreN (g := mkF m pc Ls (v :: st)) X.here hx rfl hd rfl hv hl q) K
theorem gIstoreS (X : Stand p l e R s m args below meth c T locs cells slots) (hx : p.tables.exec = Jvm.exec) {pc : Nat} {Ls : Array Slot} {st : List Value} {k : Nat} {v : Int32} {o : Slot} (hd : decode c.code pc = .ok (.istore k, 2)) (hold : Ls[k]? = some o) (ho : o = .unset ∨ ∃ w, o = .val w ∧ w.category = 1) (K : Goes p e below G (T.setTop (mkF m (pc + 2) (Ls.setIfInBounds k (.val (.int v))) (st)))) : Goes p e below G (T.setTop (mkF m pc Ls (.int v :: st))) :=
  go (fun _ q => XS.istoreS (g := mkF m pc Ls (.int v :: st)) X.here hx rfl hd rfl hold ho q) K
theorem gIconst (X : Stand p l e R s m args below meth c T locs cells slots) (hx : p.tables.exec = Jvm.exec) {pc : Nat} {Ls : Array Slot} {st : List Value} {i : Int} {v : Int32} (hd : decode c.code pc = .ok (.iconst i, 1)) (hv : Int32.ofInt i = v) (K : Goes p e below G (T.setTop (mkF m (pc + 1) Ls (.int v :: st)))) : Goes p e below G (T.setTop (mkF m pc Ls st)) := by
  subst hv
  exact go (fun _ q => XS.iconst (g := mkF m pc Ls st) X.here hx rfl hd q) K
theorem gBipush (X : Stand p l e R s m args below meth c T locs cells slots) (hx : p.tables.exec = Jvm.exec) {pc : Nat} {Ls : Array Slot} {st : List Value} {i : Int} {v : Int32} (hd : decode c.code pc = .ok (.bipush i, 2)) (hv : (Int8.ofInt i).toInt32 = v) (K : Goes p e below G (T.setTop (mkF m (pc + 2) Ls (.int v :: st)))) : Goes p e below G (T.setTop (mkF m pc Ls st)) := by
  subst hv
  exact go (fun _ q => XS.bipush (g := mkF m pc Ls st) X.here hx rfl hd q) K
theorem gSipush (X : Stand p l e R s m args below meth c T locs cells slots) (hx : p.tables.exec = Jvm.exec) {pc : Nat} {Ls : Array Slot} {st : List Value} {i : Int} {v : Int32} (hd : decode c.code pc = .ok (.sipush i, 3)) (hv : (Int16.ofInt i).toInt32 = v) (K : Goes p e below G (T.setTop (mkF m (pc + 3) Ls (.int v :: st)))) : Goes p e below G (T.setTop (mkF m pc Ls st)) := by
  subst hv
  exact go (fun _ q => XS.sipush (g := mkF m pc Ls st) X.here hx rfl hd q) K
theorem gLconst (X : Stand p l e R s m args below meth c T locs cells slots) (hx : p.tables.exec = Jvm.exec) {pc : Nat} {Ls : Array Slot} {st : List Value} {i : Fin 2} {v : Int64} (hd : decode c.code pc = .ok (.lconst i, 1)) (hv : Int64.ofNat i = v) (K : Goes p e below G (T.setTop (mkF m (pc + 1) Ls (.long v :: st)))) : Goes p e below G (T.setTop (mkF m pc Ls st)) := by
  subst hv
  exact go (fun _ q => XT.lconst (g := mkF m pc Ls st) X.here hx rfl hd q) K
theorem gAnull (X : Stand p l e R s m args below meth c T locs cells slots) (hx : p.tables.exec = Jvm.exec) {pc : Nat} {Ls : Array Slot} {st : List Value}  (hd : decode c.code pc = .ok (.aconst_null, 1))  (K : Goes p e below G (T.setTop (mkF m (pc + 1) Ls (.null :: st)))) : Goes p e below G (T.setTop (mkF m pc Ls (st))) :=
  go (fun _ q => XS.aconstNull (g := mkF m pc Ls (st)) X.here hx rfl hd  q) K
theorem gDconst0 (X : Stand p l e R s m args below meth c T locs cells slots) (hx : p.tables.exec = Jvm.exec) {pc : Nat} {Ls : Array Slot} {st : List Value}  (hd : decode c.code pc = .ok (.dconst 0, 1))  (K : Goes p e below G (T.setTop (mkF m (pc + 1) Ls (.double FP.dconst0 :: st)))) : Goes p e below G (T.setTop (mkF m pc Ls (st))) :=
  go (fun _ q => XS.dconst0 (g := mkF m pc Ls (st)) X.here hx rfl hd rfl q) K
theorem gDconst1 (X : Stand p l e R s m args below meth c T locs cells slots) (hx : p.tables.exec = Jvm.exec) {pc : Nat} {Ls : Array Slot} {st : List Value}  (hd : decode c.code pc = .ok (.dconst 1, 1))  (K : Goes p e below G (T.setTop (mkF m (pc + 1) Ls (.double FP.dconst1 :: st)))) : Goes p e below G (T.setTop (mkF m pc Ls (st))) :=
  go (fun _ q => XS.dconst1 (g := mkF m pc Ls (st)) X.here hx rfl hd rfl q) K
theorem gIadd (X : Stand p l e R s m args below meth c T locs cells slots) (hx : p.tables.exec = Jvm.exec) {pc : Nat} {Ls : Array Slot} {st : List Value} {x y : Int32} (hd : decode c.code pc = .ok (.iadd, 1))  (K : Goes p e below G (T.setTop (mkF m (pc + 1) Ls (.int (x + y) :: st)))) : Goes p e below G (T.setTop (mkF m pc Ls (.int y :: .int x :: st))) :=
  go (fun _ q => XS.iadd (g := mkF m pc Ls (.int y :: .int x :: st)) X.here hx rfl hd rfl q) K
theorem gIsub (X : Stand p l e R s m args below meth c T locs cells slots) (hx : p.tables.exec = Jvm.exec) {pc : Nat} {Ls : Array Slot} {st : List Value} {x y : Int32} (hd : decode c.code pc = .ok (.isub, 1))  (K : Goes p e below G (T.setTop (mkF m (pc + 1) Ls (.int (x - y) :: st)))) : Goes p e below G (T.setTop (mkF m pc Ls (.int y :: .int x :: st))) :=
  go (fun _ q => XS.isub (g := mkF m pc Ls (.int y :: .int x :: st)) X.here hx rfl hd rfl q) K
theorem gImul (X : Stand p l e R s m args below meth c T locs cells slots) (hx : p.tables.exec = Jvm.exec) {pc : Nat} {Ls : Array Slot} {st : List Value} {x y : Int32} (hd : decode c.code pc = .ok (.imul, 1))  (K : Goes p e below G (T.setTop (mkF m (pc + 1) Ls (.int (x * y) :: st)))) : Goes p e below G (T.setTop (mkF m pc Ls (.int y :: .int x :: st))) :=
  go (fun _ q => XS.imul (g := mkF m pc Ls (.int y :: .int x :: st)) X.here hx rfl hd rfl q) K
theorem gIand (X : Stand p l e R s m args below meth c T locs cells slots) (hx : p.tables.exec = Jvm.exec) {pc : Nat} {Ls : Array Slot} {st : List Value} {x y : Int32} (hd : decode c.code pc = .ok (.iand, 1))  (K : Goes p e below G (T.setTop (mkF m (pc + 1) Ls (.int (x &&& y) :: st)))) : Goes p e below G (T.setTop (mkF m pc Ls (.int y :: .int x :: st))) :=
  go (fun _ q => XS.iand (g := mkF m pc Ls (.int y :: .int x :: st)) X.here hx rfl hd rfl q) K
theorem gIor (X : Stand p l e R s m args below meth c T locs cells slots) (hx : p.tables.exec = Jvm.exec) {pc : Nat} {Ls : Array Slot} {st : List Value} {x y : Int32} (hd : decode c.code pc = .ok (.ior, 1))  (K : Goes p e below G (T.setTop (mkF m (pc + 1) Ls (.int (x ||| y) :: st)))) : Goes p e below G (T.setTop (mkF m pc Ls (.int y :: .int x :: st))) :=
  go (fun _ q => XT.ior (g := mkF m pc Ls (.int y :: .int x :: st)) X.here hx rfl hd rfl q) K
theorem gIxor (X : Stand p l e R s m args below meth c T locs cells slots) (hx : p.tables.exec = Jvm.exec) {pc : Nat} {Ls : Array Slot} {st : List Value} {x y : Int32} (hd : decode c.code pc = .ok (.ixor, 1))  (K : Goes p e below G (T.setTop (mkF m (pc + 1) Ls (.int (x ^^^ y) :: st)))) : Goes p e below G (T.setTop (mkF m pc Ls (.int y :: .int x :: st))) :=
  go (fun _ q => XT.ixor (g := mkF m pc Ls (.int y :: .int x :: st)) X.here hx rfl hd rfl q) K
theorem gIshl (X : Stand p l e R s m args below meth c T locs cells slots) (hx : p.tables.exec = Jvm.exec) {pc : Nat} {Ls : Array Slot} {st : List Value} {x y : Int32} (hd : decode c.code pc = .ok (.ishl, 1))  (K : Goes p e below G (T.setTop (mkF m (pc + 1) Ls (.int (x <<< (y &&& 31)) :: st)))) : Goes p e below G (T.setTop (mkF m pc Ls (.int y :: .int x :: st))) :=
  go (fun _ q => XT.ishl (g := mkF m pc Ls (.int y :: .int x :: st)) X.here hx rfl hd rfl q) K
theorem gIshr (X : Stand p l e R s m args below meth c T locs cells slots) (hx : p.tables.exec = Jvm.exec) {pc : Nat} {Ls : Array Slot} {st : List Value} {x y : Int32} (hd : decode c.code pc = .ok (.ishr, 1))  (K : Goes p e below G (T.setTop (mkF m (pc + 1) Ls (.int (x >>> (y &&& 31)) :: st)))) : Goes p e below G (T.setTop (mkF m pc Ls (.int y :: .int x :: st))) :=
  go (fun _ q => XT.ishr (g := mkF m pc Ls (.int y :: .int x :: st)) X.here hx rfl hd rfl q) K
theorem gIushr (X : Stand p l e R s m args below meth c T locs cells slots) (hx : p.tables.exec = Jvm.exec) {pc : Nat} {Ls : Array Slot} {st : List Value} {x y : Int32} (hd : decode c.code pc = .ok (.iushr, 1))  (K : Goes p e below G (T.setTop (mkF m (pc + 1) Ls (.int (XT.ushr x y) :: st)))) : Goes p e below G (T.setTop (mkF m pc Ls (.int y :: .int x :: st))) :=
  go (fun _ q => XT.iushr (g := mkF m pc Ls (.int y :: .int x :: st)) X.here hx rfl hd rfl q) K
theorem gLadd (X : Stand p l e R s m args below meth c T locs cells slots) (hx : p.tables.exec = Jvm.exec) {pc : Nat} {Ls : Array Slot} {st : List Value} {x y : Int64} (hd : decode c.code pc = .ok (.ladd, 1))  (K : Goes p e below G (T.setTop (mkF m (pc + 1) Ls (.long (x + y) :: st)))) : Goes p e below G (T.setTop (mkF m pc Ls (.long y :: .long x :: st))) :=
  go (fun _ q => XT.ladd (g := mkF m pc Ls (.long y :: .long x :: st)) X.here hx rfl hd rfl q) K
theorem gLsub (X : Stand p l e R s m args below meth c T locs cells slots) (hx : p.tables.exec = Jvm.exec) {pc : Nat} {Ls : Array Slot} {st : List Value} {x y : Int64} (hd : decode c.code pc = .ok (.lsub, 1))  (K : Goes p e below G (T.setTop (mkF m (pc + 1) Ls (.long (x - y) :: st)))) : Goes p e below G (T.setTop (mkF m pc Ls (.long y :: .long x :: st))) :=
  go (fun _ q => XT.lsub (g := mkF m pc Ls (.long y :: .long x :: st)) X.here hx rfl hd rfl q) K
theorem gLmul (X : Stand p l e R s m args below meth c T locs cells slots) (hx : p.tables.exec = Jvm.exec) {pc : Nat} {Ls : Array Slot} {st : List Value} {x y : Int64} (hd : decode c.code pc = .ok (.lmul, 1))  (K : Goes p e below G (T.setTop (mkF m (pc + 1) Ls (.long (x * y) :: st)))) : Goes p e below G (T.setTop (mkF m pc Ls (.long y :: .long x :: st))) :=
  go (fun _ q => XT.lmul (g := mkF m pc Ls (.long y :: .long x :: st)) X.here hx rfl hd rfl q) K
theorem gLand (X : Stand p l e R s m args below meth c T locs cells slots) (hx : p.tables.exec = Jvm.exec) {pc : Nat} {Ls : Array Slot} {st : List Value} {x y : Int64} (hd : decode c.code pc = .ok (.land, 1))  (K : Goes p e below G (T.setTop (mkF m (pc + 1) Ls (.long (x &&& y) :: st)))) : Goes p e below G (T.setTop (mkF m pc Ls (.long y :: .long x :: st))) :=
  go (fun _ q => XT.land (g := mkF m pc Ls (.long y :: .long x :: st)) X.here hx rfl hd rfl q) K
theorem gLor (X : Stand p l e R s m args below meth c T locs cells slots) (hx : p.tables.exec = Jvm.exec) {pc : Nat} {Ls : Array Slot} {st : List Value} {x y : Int64} (hd : decode c.code pc = .ok (.lor, 1))  (K : Goes p e below G (T.setTop (mkF m (pc + 1) Ls (.long (x ||| y) :: st)))) : Goes p e below G (T.setTop (mkF m pc Ls (.long y :: .long x :: st))) :=
  go (fun _ q => XT.lor (g := mkF m pc Ls (.long y :: .long x :: st)) X.here hx rfl hd rfl q) K
theorem gLxor (X : Stand p l e R s m args below meth c T locs cells slots) (hx : p.tables.exec = Jvm.exec) {pc : Nat} {Ls : Array Slot} {st : List Value} {x y : Int64} (hd : decode c.code pc = .ok (.lxor, 1))  (K : Goes p e below G (T.setTop (mkF m (pc + 1) Ls (.long (x ^^^ y) :: st)))) : Goes p e below G (T.setTop (mkF m pc Ls (.long y :: .long x :: st))) :=
  go (fun _ q => XT.lxor (g := mkF m pc Ls (.long y :: .long x :: st)) X.here hx rfl hd rfl q) K
theorem gLshl (X : Stand p l e R s m args below meth c T locs cells slots) (hx : p.tables.exec = Jvm.exec) {pc : Nat} {Ls : Array Slot} {st : List Value} {x : Int64} {y : Int32} (hd : decode c.code pc = .ok (.lshl, 1))  (K : Goes p e below G (T.setTop (mkF m (pc + 1) Ls (.long (x <<< (y.toInt64 &&& 63)) :: st)))) : Goes p e below G (T.setTop (mkF m pc Ls (.int y :: .long x :: st))) :=
  go (fun _ q => XT.lshl (g := mkF m pc Ls (.int y :: .long x :: st)) X.here hx rfl hd rfl q) K
theorem gLshr (X : Stand p l e R s m args below meth c T locs cells slots) (hx : p.tables.exec = Jvm.exec) {pc : Nat} {Ls : Array Slot} {st : List Value} {x : Int64} {y : Int32} (hd : decode c.code pc = .ok (.lshr, 1))  (K : Goes p e below G (T.setTop (mkF m (pc + 1) Ls (.long (x >>> (y.toInt64 &&& 63)) :: st)))) : Goes p e below G (T.setTop (mkF m pc Ls (.int y :: .long x :: st))) :=
  go (fun _ q => XT.lshr (g := mkF m pc Ls (.int y :: .long x :: st)) X.here hx rfl hd rfl q) K
theorem gLushr (X : Stand p l e R s m args below meth c T locs cells slots) (hx : p.tables.exec = Jvm.exec) {pc : Nat} {Ls : Array Slot} {st : List Value} {x : Int64} {y : Int32} (hd : decode c.code pc = .ok (.lushr, 1))  (K : Goes p e below G (T.setTop (mkF m (pc + 1) Ls (.long (XT.ushrL x y) :: st)))) : Goes p e below G (T.setTop (mkF m pc Ls (.int y :: .long x :: st))) :=
  go (fun _ q => XT.lushr (g := mkF m pc Ls (.int y :: .long x :: st)) X.here hx rfl hd rfl q) K
theorem gIneg (X : Stand p l e R s m args below meth c T locs cells slots) (hx : p.tables.exec = Jvm.exec) {pc : Nat} {Ls : Array Slot} {st : List Value} {x : Int32} (hd : decode c.code pc = .ok (.ineg, 1))  (K : Goes p e below G (T.setTop (mkF m (pc + 1) Ls (.int (-x) :: st)))) : Goes p e below G (T.setTop (mkF m pc Ls (.int x :: st))) :=
  go (fun _ q => XS.ineg (g := mkF m pc Ls (.int x :: st)) X.here hx rfl hd rfl q) K
theorem gI2l (X : Stand p l e R s m args below meth c T locs cells slots) (hx : p.tables.exec = Jvm.exec) {pc : Nat} {Ls : Array Slot} {st : List Value} {x : Int32} (hd : decode c.code pc = .ok (.i2l, 1))  (K : Goes p e below G (T.setTop (mkF m (pc + 1) Ls (.long (x.toInt64) :: st)))) : Goes p e below G (T.setTop (mkF m pc Ls (.int x :: st))) :=
  go (fun _ q => XT.i2l (g := mkF m pc Ls (.int x :: st)) X.here hx rfl hd rfl q) K
theorem gL2i (X : Stand p l e R s m args below meth c T locs cells slots) (hx : p.tables.exec = Jvm.exec) {pc : Nat} {Ls : Array Slot} {st : List Value} {x : Int64} (hd : decode c.code pc = .ok (.l2i, 1))  (K : Goes p e below G (T.setTop (mkF m (pc + 1) Ls (.int (x.toInt32) :: st)))) : Goes p e below G (T.setTop (mkF m pc Ls (.long x :: st))) :=
  go (fun _ q => XT.l2i (g := mkF m pc Ls (.long x :: st)) X.here hx rfl hd rfl q) K
theorem gI2b (X : Stand p l e R s m args below meth c T locs cells slots) (hx : p.tables.exec = Jvm.exec) {pc : Nat} {Ls : Array Slot} {st : List Value} {x : Int32} (hd : decode c.code pc = .ok (.i2b, 1))  (K : Goes p e below G (T.setTop (mkF m (pc + 1) Ls (.int (x.toInt8.toInt32) :: st)))) : Goes p e below G (T.setTop (mkF m pc Ls (.int x :: st))) :=
  go (fun _ q => XT.i2b (g := mkF m pc Ls (.int x :: st)) X.here hx rfl hd rfl q) K
theorem gI2c (X : Stand p l e R s m args below meth c T locs cells slots) (hx : p.tables.exec = Jvm.exec) {pc : Nat} {Ls : Array Slot} {st : List Value} {x : Int32} (hd : decode c.code pc = .ok (.i2c, 1))  (K : Goes p e below G (T.setTop (mkF m (pc + 1) Ls (.int (x.toUInt32.toUInt16.toUInt32.toInt32) :: st)))) : Goes p e below G (T.setTop (mkF m pc Ls (.int x :: st))) :=
  go (fun _ q => XT.i2c (g := mkF m pc Ls (.int x :: st)) X.here hx rfl hd rfl q) K
theorem gI2d (X : Stand p l e R s m args below meth c T locs cells slots) (hx : p.tables.exec = Jvm.exec) {pc : Nat} {Ls : Array Slot} {st : List Value} {x : Int32} (hd : decode c.code pc = .ok (.i2d, 1))  (K : Goes p e below G (T.setTop (mkF m (pc + 1) Ls (.double (FP.i2d x) :: st)))) : Goes p e below G (T.setTop (mkF m pc Ls (.int x :: st))) :=
  go (fun _ q => XS.i2dS (g := mkF m pc Ls (.int x :: st)) X.here hx rfl hd rfl rfl q) K
theorem gL2d (X : Stand p l e R s m args below meth c T locs cells slots) (hx : p.tables.exec = Jvm.exec) {pc : Nat} {Ls : Array Slot} {st : List Value} {x : Int64} (hd : decode c.code pc = .ok (.l2d, 1))  (K : Goes p e below G (T.setTop (mkF m (pc + 1) Ls (.double (FP.l2d x) :: st)))) : Goes p e below G (T.setTop (mkF m pc Ls (.long x :: st))) :=
  go (fun _ q => XS.l2dS (g := mkF m pc Ls (.long x :: st)) X.here hx rfl hd rfl rfl q) K
theorem gDadd (X : Stand p l e R s m args below meth c T locs cells slots) (hx : p.tables.exec = Jvm.exec) {pc : Nat} {Ls : Array Slot} {st : List Value} {x y : UInt64} (hd : decode c.code pc = .ok (.dadd, 1)) (hn : Jvm.Free.Fl.NoNaN64 (FP.dadd x y)) (K : Goes p e below G (T.setTop (mkF m (pc + 1) Ls (.double (FP.dadd x y) :: st)))) : Goes p e below G (T.setTop (mkF m pc Ls (.double y :: .double x :: st))) :=
  go (fun _ q => XS.daddS (g := mkF m pc Ls (.double y :: .double x :: st)) X.here hx rfl hd rfl hn rfl q) K
theorem gDsub (X : Stand p l e R s m args below meth c T locs cells slots) (hx : p.tables.exec = Jvm.exec) {pc : Nat} {Ls : Array Slot} {st : List Value} {x y : UInt64} (hd : decode c.code pc = .ok (.dsub, 1)) (hn : Jvm.Free.Fl.NoNaN64 (FP.dsub x y)) (K : Goes p e below G (T.setTop (mkF m (pc + 1) Ls (.double (FP.dsub x y) :: st)))) : Goes p e below G (T.setTop (mkF m pc Ls (.double y :: .double x :: st))) :=
  go (fun _ q => XS.dsubS (g := mkF m pc Ls (.double y :: .double x :: st)) X.here hx rfl hd rfl hn rfl q) K
theorem gDmul (X : Stand p l e R s m args below meth c T locs cells slots) (hx : p.tables.exec = Jvm.exec) {pc : Nat} {Ls : Array Slot} {st : List Value} {x y : UInt64} (hd : decode c.code pc = .ok (.dmul, 1)) (hn : Jvm.Free.Fl.NoNaN64 (FP.dmul x y)) (K : Goes p e below G (T.setTop (mkF m (pc + 1) Ls (.double (FP.dmul x y) :: st)))) : Goes p e below G (T.setTop (mkF m pc Ls (.double y :: .double x :: st))) :=
  go (fun _ q => XS.dmulS (g := mkF m pc Ls (.double y :: .double x :: st)) X.here hx rfl hd rfl hn rfl q) K
theorem gDdiv (X : Stand p l e R s m args below meth c T locs cells slots) (hx : p.tables.exec = Jvm.exec) {pc : Nat} {Ls : Array Slot} {st : List Value} {x y : UInt64} (hd : decode c.code pc = .ok (.ddiv, 1)) (hn : Jvm.Free.Fl.NoNaN64 (FP.ddiv x y)) (K : Goes p e below G (T.setTop (mkF m (pc + 1) Ls (.double (FP.ddiv x y) :: st)))) : Goes p e below G (T.setTop (mkF m pc Ls (.double y :: .double x :: st))) :=
  go (fun _ q => XS.ddivS (g := mkF m pc Ls (.double y :: .double x :: st)) X.here hx rfl hd rfl hn rfl q) K
theorem gDcmp (X : Stand p l e R s m args below meth c T locs cells slots) (hx : p.tables.exec = Jvm.exec) {pc : Nat} {Ls : Array Slot} {st : List Value} {o : CmpOp} {x y : UInt64} (hd : decode c.code pc = .ok (.dcmp o, 1))  (K : Goes p e below G (T.setTop (mkF m (pc + 1) Ls (.int (cmpValue (FP.dcmp x y) o) :: st)))) : Goes p e below G (T.setTop (mkF m pc Ls (.double y :: .double x :: st))) :=
  go (fun _ q => XS.dcmpS (g := mkF m pc Ls (.double y :: .double x :: st)) X.here hx rfl hd rfl rfl q) K
theorem gLcmp (X : Stand p l e R s m args below meth c T locs cells slots) (hx : p.tables.exec = Jvm.exec) {pc : Nat} {Ls : Array Slot} {st : List Value} {x y : Int64} (hd : decode c.code pc = .ok (.lcmp, 1))  (K : Goes p e below G (T.setTop (mkF m (pc + 1) Ls (.int (XT.cmpL x y) :: st)))) : Goes p e below G (T.setTop (mkF m pc Ls (.long y :: .long x :: st))) :=
  go (fun _ q => XT.lcmp (g := mkF m pc Ls (.long y :: .long x :: st)) X.here hx rfl hd rfl q) K
theorem gDup (X : Stand p l e R s m args below meth c T locs cells slots) (hx : p.tables.exec = Jvm.exec) {pc : Nat} {Ls : Array Slot} {st : List Value} {x : Value} (hd : decode c.code pc = .ok (.dup, 1)) (hc : x.category = 1) (K : Goes p e below G (T.setTop (mkF m (pc + 1) Ls (x :: x :: st)))) : Goes p e below G (T.setTop (mkF m pc Ls (x :: st))) :=
  go (fun _ q => XS.dup (g := mkF m pc Ls (x :: st)) X.here hx rfl hd rfl hc q) K
theorem gPop (X : Stand p l e R s m args below meth c T locs cells slots) (hx : p.tables.exec = Jvm.exec) {pc : Nat} {Ls : Array Slot} {st : List Value} {x : Value} (hd : decode c.code pc = .ok (.pop, 1)) (hc : x.category = 1) (K : Goes p e below G (T.setTop (mkF m (pc + 1) Ls (st)))) : Goes p e below G (T.setTop (mkF m pc Ls (x :: st))) :=
  go (fun _ q => XT.pop (g := mkF m pc Ls (x :: st)) X.here hx rfl hd rfl hc q) K
theorem gDupX1 (X : Stand p l e R s m args below meth c T locs cells slots) (hx : p.tables.exec = Jvm.exec) {pc : Nat} {Ls : Array Slot} {st : List Value} {x y : Value} (hd : decode c.code pc = .ok (.dup_x1, 1)) (hc : x.category = 1) (hc' : y.category = 1) (K : Goes p e below G (T.setTop (mkF m (pc + 1) Ls (x :: y :: x :: st)))) : Goes p e below G (T.setTop (mkF m pc Ls (x :: y :: st))) :=
  go (fun _ q => XT.dupX1 (g := mkF m pc Ls (x :: y :: st)) X.here hx rfl hd rfl hc hc' q) K
theorem gDup2 (X : Stand p l e R s m args below meth c T locs cells slots) (hx : p.tables.exec = Jvm.exec) {pc : Nat} {Ls : Array Slot} {st : List Value} {x y : Value} (hd : decode c.code pc = .ok (.dup2, 1)) (hc : x.category = 1) (hc' : y.category = 1) (K : Goes p e below G (T.setTop (mkF m (pc + 1) Ls (x :: y :: x :: y :: st)))) : Goes p e below G (T.setTop (mkF m pc Ls (x :: y :: st))) :=
  go (fun _ q => XT.dup2 (g := mkF m pc Ls (x :: y :: st)) X.here hx rfl hd rfl hc hc' q) K
theorem gIinc (X : Stand p l e R s m args below meth c T locs cells slots) (hx : p.tables.exec = Jvm.exec) {pc : Nat} {Ls : Array Slot} {st : List Value} {k : Nat} {i : Int} {x v : Int32} {l' : Array Slot} (hd : decode c.code pc = .ok (.iinc k i, 3)) (hv : x + Int32.ofInt i = v) (hl : Ls[k]? = some (.val (.int x))) (hl' : storeLocals Ls k (.int v) = some l') (K : Goes p e below G (T.setTop (mkF m (pc + 3) l' st))) : Goes p e below G (T.setTop (mkF m pc Ls st)) := by
  subst hv
  exact go (fun _ q => XS.iinc (g := mkF m pc Ls st) X.here hx rfl hd hl hl' q) K
theorem gIrem (X : Stand p l e R s m args below meth c T locs cells slots) (hx : p.tables.exec = Jvm.exec) {pc : Nat} {Ls : Array Slot} {st : List Value} {x y : Int32} (hd : decode c.code pc = .ok (.irem, 1)) (hy : y ≠ 0) (K : Goes p e below G (T.setTop (mkF m (pc + 1) Ls (.int (x % y) :: st)))) : Goes p e below G (T.setTop (mkF m pc Ls (.int y :: .int x :: st))) :=
  go (fun _ q => iremM X hx (g := mkF m pc Ls (.int y :: .int x :: st)) rfl hd rfl hy q) K
theorem gIdiv (X : Stand p l e R s m args below meth c T locs cells slots) (hx : p.tables.exec = Jvm.exec) {pc : Nat} {Ls : Array Slot} {st : List Value} {x y : Int32} (hd : decode c.code pc = .ok (.idiv, 1)) (hy : y ≠ 0) (K : Goes p e below G (T.setTop (mkF m (pc + 1) Ls (.int (x / y) :: st)))) : Goes p e below G (T.setTop (mkF m pc Ls (.int y :: .int x :: st))) :=
  go (fun _ q => XS.idiv (g := mkF m pc Ls (.int y :: .int x :: st)) X.here hx rfl hd rfl hy q) K
theorem gGoto (X : Stand p l e R s m args below meth c T locs cells slots) (hx : p.tables.exec = Jvm.exec) {pc : Nat} {Ls : Array Slot} {st : List Value} {o : Int} {pc' : Nat} (hd : decode c.code pc = .ok (.goto o, 3)) (ho : 0 ≤ (pc : Int) + o) (hp : ((pc : Int) + o).toNat = pc') (K : Goes p e below G (T.setTop (mkF m pc' Ls (st)))) : Goes p e below G (T.setTop (mkF m pc Ls (st))) :=
  go (fun _ q => XS.goto (g := mkF m pc Ls (st)) X.here hx rfl rfl hd ho hp q) K
theorem gIfY (X : Stand p l e R s m args below meth c T locs cells slots) (hx : p.tables.exec = Jvm.exec) {pc : Nat} {Ls : Array Slot} {st : List Value} {cd : ClassFile.Cond} {x : Int32} {o : Int} {pc' : Nat} (hd : decode c.code pc = .ok (.ifCond cd o, 3)) (hc : ifCond.holds cd x = true) (ho : 0 ≤ (pc : Int) + o) (hp : ((pc : Int) + o).toNat = pc') (K : Goes p e below G (T.setTop (mkF m pc' Ls (st)))) : Goes p e below G (T.setTop (mkF m pc Ls (.int x :: st))) :=
  go (fun _ q => XS.ifYes (g := mkF m pc Ls (.int x :: st)) X.here hx rfl rfl hd rfl hc ho hp q) K
theorem gIfN (X : Stand p l e R s m args below meth c T locs cells slots) (hx : p.tables.exec = Jvm.exec) {pc : Nat} {Ls : Array Slot} {st : List Value} {cd : ClassFile.Cond} {x : Int32} {o : Int} (hd : decode c.code pc = .ok (.ifCond cd o, 3)) (hc : ifCond.holds cd x = false) (K : Goes p e below G (T.setTop (mkF m (pc + 3) Ls (st)))) : Goes p e below G (T.setTop (mkF m pc Ls (.int x :: st))) :=
  go (fun _ q => XS.ifNo (g := mkF m pc Ls (.int x :: st)) X.here hx rfl hd rfl hc q) K
theorem gIcmpY (X : Stand p l e R s m args below meth c T locs cells slots) (hx : p.tables.exec = Jvm.exec) {pc : Nat} {Ls : Array Slot} {st : List Value} {cd : ClassFile.Cond} {x y : Int32} {o : Int} {pc' : Nat} (hd : decode c.code pc = .ok (.if_icmp cd o, 3)) (hc : if_icmp.holds cd x y = true) (ho : 0 ≤ (pc : Int) + o) (hp : ((pc : Int) + o).toNat = pc') (K : Goes p e below G (T.setTop (mkF m pc' Ls (st)))) : Goes p e below G (T.setTop (mkF m pc Ls (.int y :: .int x :: st))) :=
  go (fun _ q => XS.icmpYes (g := mkF m pc Ls (.int y :: .int x :: st)) X.here hx rfl rfl hd rfl hc ho hp q) K
theorem gIcmpN (X : Stand p l e R s m args below meth c T locs cells slots) (hx : p.tables.exec = Jvm.exec) {pc : Nat} {Ls : Array Slot} {st : List Value} {cd : ClassFile.Cond} {x y : Int32} {o : Int} (hd : decode c.code pc = .ok (.if_icmp cd o, 3)) (hc : if_icmp.holds cd x y = false) (K : Goes p e below G (T.setTop (mkF m (pc + 3) Ls (st)))) : Goes p e below G (T.setTop (mkF m pc Ls (.int y :: .int x :: st))) :=
  go (fun _ q => XS.icmpNo (g := mkF m pc Ls (.int y :: .int x :: st)) X.here hx rfl hd rfl hc q) K
theorem gAcmpY (X : Stand p l e R s m args below meth c T locs cells slots) (hx : p.tables.exec = Jvm.exec) {pc : Nat} {Ls : Array Slot} {st : List Value} {cd : ClassFile.ACond} {x y : Value} {o : Int} {pc' : Nat} (hd : decode c.code pc = .ok (.if_acmp cd o, 3)) (hx' : x.isRef = true) (hy' : y.isRef = true) (hc : XT.acmp cd x y = true) (ho : 0 ≤ (pc : Int) + o) (hp : ((pc : Int) + o).toNat = pc') (K : Goes p e below G (T.setTop (mkF m pc' Ls (st)))) : Goes p e below G (T.setTop (mkF m pc Ls (y :: x :: st))) :=
  go (fun _ q => XT.acmpYes (g := mkF m pc Ls (y :: x :: st)) X.here hx rfl rfl hd rfl hx' hy' hc ho hp q) K
theorem gAcmpN (X : Stand p l e R s m args below meth c T locs cells slots) (hx : p.tables.exec = Jvm.exec) {pc : Nat} {Ls : Array Slot} {st : List Value} {cd : ClassFile.ACond} {x y : Value} {o : Int} (hd : decode c.code pc = .ok (.if_acmp cd o, 3)) (hx' : x.isRef = true) (hy' : y.isRef = true) (hc : XT.acmp cd x y = false) (K : Goes p e below G (T.setTop (mkF m (pc + 3) Ls (st)))) : Goes p e below G (T.setTop (mkF m pc Ls (y :: x :: st))) :=
  go (fun _ q => XT.acmpNo (g := mkF m pc Ls (y :: x :: st)) X.here hx rfl hd rfl hx' hy' hc q) K
theorem gNullY (X : Stand p l e R s m args below meth c T locs cells slots) (hx : p.tables.exec = Jvm.exec) {pc : Nat} {Ls : Array Slot} {st : List Value} {o : Int} {pc' : Nat} (hd : decode c.code pc = .ok (.ifnull o, 3)) (ho : 0 ≤ (pc : Int) + o) (hp : ((pc : Int) + o).toNat = pc') (K : Goes p e below G (T.setTop (mkF m pc' Ls (st)))) : Goes p e below G (T.setTop (mkF m pc Ls (.null :: st))) :=
  go (fun _ q => XS.ifnullYes (g := mkF m pc Ls (.null :: st)) X.here hx rfl rfl hd rfl ho hp q) K
theorem gNullN (X : Stand p l e R s m args below meth c T locs cells slots) (hx : p.tables.exec = Jvm.exec) {pc : Nat} {Ls : Array Slot} {st : List Value} {b : Addr} {o : Int} (hd : decode c.code pc = .ok (.ifnull o, 3))  (K : Goes p e below G (T.setTop (mkF m (pc + 3) Ls (st)))) : Goes p e below G (T.setTop (mkF m pc Ls (.ref b :: st))) :=
  go (fun _ q => XS.ifnullNo (g := mkF m pc Ls (.ref b :: st)) X.here hx rfl hd rfl q) K
theorem gNonnullY (X : Stand p l e R s m args below meth c T locs cells slots) (hx : p.tables.exec = Jvm.exec) {pc : Nat} {Ls : Array Slot} {st : List Value} {b : Addr} {o : Int} {pc' : Nat} (hd : decode c.code pc = .ok (.ifnonnull o, 3)) (ho : 0 ≤ (pc : Int) + o) (hp : ((pc : Int) + o).toNat = pc') (K : Goes p e below G (T.setTop (mkF m pc' Ls (st)))) : Goes p e below G (T.setTop (mkF m pc Ls (.ref b :: st))) :=
  go (fun _ q => XT.ifnonnullYes (g := mkF m pc Ls (.ref b :: st)) X.here hx rfl rfl hd rfl ho hp q) K
theorem gNonnullN (X : Stand p l e R s m args below meth c T locs cells slots) (hx : p.tables.exec = Jvm.exec) {pc : Nat} {Ls : Array Slot} {st : List Value} {o : Int} (hd : decode c.code pc = .ok (.ifnonnull o, 3))  (K : Goes p e below G (T.setTop (mkF m (pc + 3) Ls (st)))) : Goes p e below G (T.setTop (mkF m pc Ls (.null :: st))) :=
  go (fun _ q => XT.ifnonnullNo (g := mkF m pc Ls (.null :: st)) X.here hx rfl hd rfl q) K
theorem gLdcI (X : Stand p l e R s m args below meth c T locs cells slots) (hx : p.tables.exec = Jvm.exec) {pc : Nat} {Ls : Array Slot} {st : List Value} (hZ : Z.Warmed39 s.vm) {own : String} (hown : s.vm.findClass own = some m.cls) {i : Nat} {v : Int32} (w : (Cond.constant own i v).before a0 Z = true) (hd : decode c.code pc = .ok (.ldc i, 2)) (K : Goes p e below G (T.setTop (mkF m (pc + 2) Ls (.int v :: st)))) : Goes p e below G (T.setTop (mkF m pc Ls st)) :=
  go (fun _ q => X.ldcI hx hown (mvT hZ w) (g := mkF m pc Ls st) rfl hd q) K
theorem gLdcWI (X : Stand p l e R s m args below meth c T locs cells slots) (hx : p.tables.exec = Jvm.exec) {pc : Nat} {Ls : Array Slot} {st : List Value} (hZ : Z.Warmed39 s.vm) {own : String} (hown : s.vm.findClass own = some m.cls) {i : Nat} {v : Int32} (w : (Cond.constant own i v).before a0 Z = true) (hd : decode c.code pc = .ok (.ldc_w i, 3)) (K : Goes p e below G (T.setTop (mkF m (pc + 3) Ls (.int v :: st)))) : Goes p e below G (T.setTop (mkF m pc Ls st)) :=
  go (fun _ q => X.ldcWI hx hown (mvT hZ w) (g := mkF m pc Ls st) rfl hd q) K
theorem gLdc2J (X : Stand p l e R s m args below meth c T locs cells slots) (hx : p.tables.exec = Jvm.exec) {pc : Nat} {Ls : Array Slot} {st : List Value} (hZ : Z.Warmed39 s.vm) {own : String} (hown : s.vm.findClass own = some m.cls) {i : Nat} {v : Int64} (w : (Cond.constantLong own i v).before a0 Z = true) (hd : decode c.code pc = .ok (.ldc2_w i, 3)) (K : Goes p e below G (T.setTop (mkF m (pc + 3) Ls (.long v :: st)))) : Goes p e below G (T.setTop (mkF m pc Ls st)) :=
  go (fun _ q => X.ldc2J hx hown (mvT hZ w) (g := mkF m pc Ls st) rfl hd q) K
theorem gLdc2D (X : Stand p l e R s m args below meth c T locs cells slots) (hx : p.tables.exec = Jvm.exec) {pc : Nat} {Ls : Array Slot} {st : List Value} (hZ : Z.Warmed39 s.vm) {own : String} (hown : s.vm.findClass own = some m.cls) {i : Nat} {v : UInt64} (w : (Cond.constantDouble own i v).before a0 Z = true) (hd : decode c.code pc = .ok (.ldc2_w i, 3)) (K : Goes p e below G (T.setTop (mkF m (pc + 3) Ls (.double v :: st)))) : Goes p e below G (T.setTop (mkF m pc Ls st)) :=
  go (fun _ q => X.ldc2DoubleC hx hown (mvT hZ w) (g := mkF m pc Ls st) rfl hd _ q) K
end Own
end Jvm.OwnWalk
namespace Jvm.Pilot.@@N@@
open Jvm Jvm.ClassFile Sem Op Lib Jvm.Free Jvm.Stand Jvm.LawKit Jvm.RoadKit Jvm.OwnWalk Bundle Jvm.Pilot.@@N@@.Jvm.D
def own_w (b : Int32) : Int64 := if b = 10 then 512 else if b = 47 then 64 else 0
def own_mem (bs : List Int32) : Int64 := bs.foldl (fun x b => x + own_w b) (3 * bs.length.toInt32.toInt64 + 512)
theorem own_nar (x : Int32) : nar .byte x.toInt8.toInt32 = x.toInt8.toInt32 := by simp [nar]
theorem own_nat {n : Nat} (h : n < 2 ^ 31) : n.toInt32.toNatClampNeg = n := by simp only [Int32.toNatClampNeg, len_toInt h]; rfl
theorem own_nn {n : Nat} (h : n < 2 ^ 31) : ¬ n.toInt32 < 0 := by
  rw [Int32.lt_iff_toInt_lt, len_toInt h]
  show ¬ ((n : Int) < 0)
  omega
theorem own_lt {i n : Nat} (hi : i < 2 ^ 31) (hn : n < 2 ^ 31) : i.toInt32 < n.toInt32 ↔ i < n := by rw [Int32.lt_iff_toInt_lt, len_toInt hi, len_toInt hn]; omega
theorem own_s {i : Nat} (hi : i + 1 < 2 ^ 31) : i.toInt32 + 1 = (i + 1).toInt32 := by
  apply Int32.toInt_inj.mp
  have c := c_iadd i.toInt32 1
  have r := rng32 (i.toInt32 + 1)
  have o : (1 : Int32).toInt = 1 := by decide
  rw [len_toInt (by omega), o] at c
  rw [len_toInt hi]
  omega
theorem own_k5 (p : Int32) : (p &&& 2147483647) % 5 = 0 ∨ (p &&& 2147483647) % 5 = 1 ∨ (p &&& 2147483647) % 5 = 2 ∨ (p &&& 2147483647) % 5 = 3 ∨ (p &&& 2147483647) % 5 = 4 := by
  have a := c_mask p 2147483647 31 (by decide) (by decide)
  have b := (c_irem (p &&& 2147483647) 5 5 (by decide)).1 (by rw [a]; exact Int.emod_nonneg _ (by decide))
  simp only [← Int32.toInt_inj, b]
  show _ = 0 ∨ _ = 1 ∨ _ = 2 ∨ _ = 3 ∨ _ = 4
  omega
theorem d_method_2_0 : decode method_2_code 0 = .ok (.iload_n 0, 1) := by decide +kernel
theorem d_method_2_1 : decode method_2_code 1 = .ok (.iconst 3, 1) := by decide +kernel
theorem d_method_2_2 : decode method_2_code 2 = .ok (.iand, 1) := by decide +kernel
theorem d_method_2_3 : decode method_2_code 3 = .ok (.istore_n 1, 1) := by decide +kernel
theorem d_method_2_4 : decode method_2_code 4 = .ok (.iload_n 1, 1) := by decide +kernel
theorem d_method_2_5 : decode method_2_code 5 = .ok (.ifCond .ne 6, 3) := by decide +kernel
theorem d_method_2_8 : decode method_2_code 8 = .ok (.bipush 10, 2) := by decide +kernel
theorem d_method_2_10 : decode method_2_code 10 = .ok (.ireturn, 1) := by decide +kernel
theorem d_method_2_11 : decode method_2_code 11 = .ok (.iload_n 1, 1) := by decide +kernel
theorem d_method_2_12 : decode method_2_code 12 = .ok (.iconst 1, 1) := by decide +kernel
theorem d_method_2_13 : decode method_2_code 13 = .ok (.if_icmp .ne 6, 3) := by decide +kernel
theorem d_method_2_16 : decode method_2_code 16 = .ok (.bipush 47, 2) := by decide +kernel
theorem d_method_2_18 : decode method_2_code 18 = .ok (.ireturn, 1) := by decide +kernel
theorem d_method_2_19 : decode method_2_code 19 = .ok (.iload_n 0, 1) := by decide +kernel
theorem d_method_2_20 : decode method_2_code 20 = .ok (.iconst 2, 1) := by decide +kernel
theorem d_method_2_21 : decode method_2_code 21 = .ok (.ishr, 1) := by decide +kernel
theorem d_method_2_22 : decode method_2_code 22 = .ok (.i2b, 1) := by decide +kernel
theorem d_method_2_23 : decode method_2_code 23 = .ok (.ireturn, 1) := by decide +kernel
theorem pn_0 : plainName "com/example/ambit/ambit/server/CsvMemoryForPinLaw" = true := by first | (simp [plainName, overriddenIn]; done) | decide +kernel
theorem ef_rm1 (m : MethodId) (x0 : Int32) : entryFrame m #[(.int x0)] 2 = mkF m 0 #[.val (.int x0), .unset] [] := by first | (simp [entryFrame, mkF, argsToLocals, Value.category]; done) | rfl
set_option maxRecDepth 65536 in
set_option maxHeartbeats 40000000 in
theorem rm1 (l : Launch) (Z : State) (a0 : Array Value) (hw : ∀ d ∈ tables_1, d.before a0 Z = true)  (p1 : Int32) (h0 : Heap) (O0 : Ext Z.heap h0)  :
    Ctr l Z (⟨"com/example/ambit/ambit/server/CsvMemoryForPinLaw", "pick", "(I)B"⟩ : MethodName) method_2_code 2 (some .byte) [] ({ frames := 0, cells := 0, slots := 0, locals := 0 } : Room) #[(.int p1)] h0 (fun v h L => ∃ b : Int32, v = some (.int b) ∧ Fr Z.heap.size L ∧ h = h0 ∧ nar .byte b = b) := by
  refine ctr (plainFor_of_name pn_0) ?_
  intro p e s m below meth c s₁ hx hby hml hown hnm hret hlocks hZ X0 e0
  have N0 := Fr.nil Z.heap.size
  have hsz : ∀ {Ls : Array Slot}, Ls.size = 2 → Ls.size = c.maxLocals := fun q => q.trans hml.symm
  refine goE (ef_rm1 m (p1)) ?_
  show Goes p e below _ (s₁.setTop (mkF m 0 #[.val (.int p1), .unset] []))
  refine gIloadN X0 hx (hb hby d_method_2_0) rfl ?_
  refine gIconst X0 hx (hb hby d_method_2_1) (v := (3 : Int32)) rfl ?_
  refine gIand X0 hx (hb hby d_method_2_2) ?_
  refine gIstoreN X0 hx (hb hby d_method_2_3) (l' := #[.val (.int p1), .val (.int (p1 &&& (3 : Int32)))]) rfl ?_
  refine gIloadN X0 hx (hb hby d_method_2_4) rfl ?_
  by_cases g1 : (p1 &&& (3 : Int32)) = 0
  · refine gIfN X0 hx (hb hby d_method_2_5) (XT.i0_ne_f g1) ?_
    show Goes p e below _ (s₁.setTop (mkF m 8 #[.val (.int p1), .val (.int (p1 &&& (3 : Int32)))] []))
    refine gBipush X0 hx (hb hby d_method_2_8) (v := (10 : Int32)) rfl ?_
    exact goRetN X0 hx (t := .byte) hret hlocks (by simp) (hb hby d_method_2_10) (z' := (10 : Int32)) rfl (by decide) (by decide) e0 (⟨_, rfl, N0, rfl, by decide⟩)
  · refine gIfY X0 hx (hb hby d_method_2_5) (pc' := 11) (XT.i0_ne_t g1) (by decide) (by decide) ?_
    show Goes p e below _ (s₁.setTop (mkF m 11 #[.val (.int p1), .val (.int (p1 &&& (3 : Int32)))] []))
    refine gIloadN X0 hx (hb hby d_method_2_11) rfl ?_
    refine gIconst X0 hx (hb hby d_method_2_12) (v := (1 : Int32)) rfl ?_
    by_cases g2 : (p1 &&& (3 : Int32)) = (1 : Int32)
    · refine gIcmpN X0 hx (hb hby d_method_2_13) (XT.ii_ne_f g2) ?_
      show Goes p e below _ (s₁.setTop (mkF m 16 #[.val (.int p1), .val (.int (p1 &&& (3 : Int32)))] []))
      refine gBipush X0 hx (hb hby d_method_2_16) (v := (47 : Int32)) rfl ?_
      exact goRetN X0 hx (t := .byte) hret hlocks (by simp) (hb hby d_method_2_18) (z' := (47 : Int32)) rfl (by decide) (by decide) e0 (⟨_, rfl, N0, rfl, by decide⟩)
    · refine gIcmpY X0 hx (hb hby d_method_2_13) (pc' := 19) (XT.ii_ne_t g2) (by decide) (by decide) ?_
      show Goes p e below _ (s₁.setTop (mkF m 19 #[.val (.int p1), .val (.int (p1 &&& (3 : Int32)))] []))
      refine gIloadN X0 hx (hb hby d_method_2_19) rfl ?_
      refine gIconst X0 hx (hb hby d_method_2_20) (v := (2 : Int32)) rfl ?_
      refine gIshr X0 hx (hb hby d_method_2_21) ?_
      refine gI2b X0 hx (hb hby d_method_2_22) ?_
      exact goRetN X0 hx (t := .byte) hret hlocks (by simp) (hb hby d_method_2_23) (z' := ((p1 >>> ((2 : Int32) &&& 31)).toInt8.toInt32)) (own_nar _) (by decide) (by decide) e0 (⟨_, rfl, N0, rfl, own_nar _⟩)
theorem d_method_3_0 : decode method_3_code 0 = .ok (.iload_n 0, 1) := by decide +kernel
theorem d_method_3_1 : decode method_3_code 1 = .ok (.bipush 10, 2) := by decide +kernel
theorem d_method_3_3 : decode method_3_code 3 = .ok (.if_icmp .ne 7, 3) := by decide +kernel
theorem d_method_3_6 : decode method_3_code 6 = .ok (.ldc2_w 7, 3) := by decide +kernel
theorem d_method_3_9 : decode method_3_code 9 = .ok (.lreturn, 1) := by decide +kernel
theorem d_method_3_10 : decode method_3_code 10 = .ok (.iload_n 0, 1) := by decide +kernel
theorem d_method_3_11 : decode method_3_code 11 = .ok (.bipush 47, 2) := by decide +kernel
theorem d_method_3_13 : decode method_3_code 13 = .ok (.if_icmp .ne 7, 3) := by decide +kernel
theorem d_method_3_16 : decode method_3_code 16 = .ok (.ldc2_w 9, 3) := by decide +kernel
theorem d_method_3_19 : decode method_3_code 19 = .ok (.lreturn, 1) := by decide +kernel
theorem d_method_3_20 : decode method_3_code 20 = .ok (.lconst 0, 1) := by decide +kernel
theorem d_method_3_21 : decode method_3_code 21 = .ok (.lreturn, 1) := by decide +kernel
theorem ef_rm3 (m : MethodId) (x0 : Int32) : entryFrame m #[(.int x0)] 1 = mkF m 0 #[.val (.int x0)] [] := by first | (simp [entryFrame, mkF, argsToLocals, Value.category]; done) | rfl
set_option maxRecDepth 65536 in
set_option maxHeartbeats 40000000 in
theorem rm3 (l : Launch) (Z : State) (a0 : Array Value) (hw : ∀ d ∈ tables_1, d.before a0 Z = true)  (p1 : Int32) (h0 : Heap) (O0 : Ext Z.heap h0)  :
    Ctr l Z (⟨"com/example/ambit/ambit/server/CsvMemoryForPinLaw", "weight", "(B)J"⟩ : MethodName) method_3_code 1 (some .long) [] ({ frames := 0, cells := 0, slots := 0, locals := 0 } : Room) #[(.int p1)] h0 (fun v h L => v = some (.long (own_w p1)) ∧ Fr Z.heap.size L ∧ h = h0) := by
  refine ctr (plainFor_of_name pn_0) ?_
  intro p e s m below meth c s₁ hx hby hml hown hnm hret hlocks hZ X0 e0
  have N0 := Fr.nil Z.heap.size
  have hsz : ∀ {Ls : Array Slot}, Ls.size = 1 → Ls.size = c.maxLocals := fun q => q.trans hml.symm
  refine goE (ef_rm3 m (p1)) ?_
  show Goes p e below _ (s₁.setTop (mkF m 0 #[.val (.int p1)] []))
  refine gIloadN X0 hx (hb hby d_method_3_0) rfl ?_
  refine gBipush X0 hx (hb hby d_method_3_1) (v := (10 : Int32)) rfl ?_
  by_cases h1 : p1 = (10 : Int32)
  · refine gIcmpN X0 hx (hb hby d_method_3_3) (XT.ii_ne_f h1) ?_
    show Goes p e below _ (s₁.setTop (mkF m 6 #[.val (.int p1)] []))
    refine gLdc2J X0 hx hZ hown (hw _ (List.mem_of_getElem? (i := 7) rfl)) (hb hby d_method_3_6) ?_
    exact goRetJ X0 hx hret hlocks (hb hby d_method_3_9) (by decide) (by decide) e0 (⟨by simp [own_w, *], N0, rfl⟩)
  · refine gIcmpY X0 hx (hb hby d_method_3_3) (pc' := 10) (XT.ii_ne_t h1) (by decide) (by decide) ?_
    show Goes p e below _ (s₁.setTop (mkF m 10 #[.val (.int p1)] []))
    refine gIloadN X0 hx (hb hby d_method_3_10) rfl ?_
    refine gBipush X0 hx (hb hby d_method_3_11) (v := (47 : Int32)) rfl ?_
    by_cases h2 : p1 = (47 : Int32)
    · refine gIcmpN X0 hx (hb hby d_method_3_13) (XT.ii_ne_f h2) ?_
      show Goes p e below _ (s₁.setTop (mkF m 16 #[.val (.int p1)] []))
      refine gLdc2J X0 hx hZ hown (hw _ (List.mem_of_getElem? (i := 17) rfl)) (hb hby d_method_3_16) ?_
      exact goRetJ X0 hx hret hlocks (hb hby d_method_3_19) (by decide) (by decide) e0 (⟨by simp [own_w, *], N0, rfl⟩)
    · refine gIcmpY X0 hx (hb hby d_method_3_13) (pc' := 20) (XT.ii_ne_t h2) (by decide) (by decide) ?_
      show Goes p e below _ (s₁.setTop (mkF m 20 #[.val (.int p1)] []))
      refine gLconst X0 hx (hb hby d_method_3_20) (v := (0 : Int64)) rfl ?_
      exact goRetJ X0 hx hret hlocks (hb hby d_method_3_21) (by decide) (by decide) e0 (⟨by simp [own_w, *], N0, rfl⟩)
theorem d_prog_29_method_3_0 : decode prog_29_method_3_code 0 = .ok (.ldc2_w 162, 3) := by decide +kernel
theorem d_prog_29_method_3_3 : decode prog_29_method_3_code 3 = .ok (.aload_n 0, 1) := by decide +kernel
theorem d_prog_29_method_3_4 : decode prog_29_method_3_code 4 = .ok (.arraylength, 1) := by decide +kernel
theorem d_prog_29_method_3_5 : decode prog_29_method_3_code 5 = .ok (.i2l, 1) := by decide +kernel
theorem d_prog_29_method_3_6 : decode prog_29_method_3_code 6 = .ok (.lmul, 1) := by decide +kernel
theorem d_prog_29_method_3_7 : decode prog_29_method_3_code 7 = .ok (.ldc2_w 164, 3) := by decide +kernel
theorem d_prog_29_method_3_10 : decode prog_29_method_3_code 10 = .ok (.ladd, 1) := by decide +kernel
theorem d_prog_29_method_3_11 : decode prog_29_method_3_code 11 = .ok (.lstore_n 1, 1) := by decide +kernel
theorem d_prog_29_method_3_12 : decode prog_29_method_3_code 12 = .ok (.aload_n 0, 1) := by decide +kernel
theorem d_prog_29_method_3_13 : decode prog_29_method_3_code 13 = .ok (.astore_n 3, 1) := by decide +kernel
theorem d_prog_29_method_3_14 : decode prog_29_method_3_code 14 = .ok (.aload_n 3, 1) := by decide +kernel
theorem d_prog_29_method_3_15 : decode prog_29_method_3_code 15 = .ok (.arraylength, 1) := by decide +kernel
theorem d_prog_29_method_3_16 : decode prog_29_method_3_code 16 = .ok (.istore 4, 2) := by decide +kernel
theorem d_prog_29_method_3_18 : decode prog_29_method_3_code 18 = .ok (.iconst 0, 1) := by decide +kernel
theorem d_prog_29_method_3_19 : decode prog_29_method_3_code 19 = .ok (.istore 5, 2) := by decide +kernel
theorem d_prog_29_method_3_21 : decode prog_29_method_3_code 21 = .ok (.iload 5, 2) := by decide +kernel
theorem d_prog_29_method_3_23 : decode prog_29_method_3_code 23 = .ok (.iload 4, 2) := by decide +kernel
theorem d_prog_29_method_3_25 : decode prog_29_method_3_code 25 = .ok (.if_icmp .ge 44, 3) := by decide +kernel
theorem d_prog_29_method_3_69 : decode prog_29_method_3_code 69 = .ok (.lload_n 1, 1) := by decide +kernel
theorem d_prog_29_method_3_70 : decode prog_29_method_3_code 70 = .ok (.lreturn, 1) := by decide +kernel
theorem d_prog_29_method_3_28 : decode prog_29_method_3_code 28 = .ok (.aload_n 3, 1) := by decide +kernel
theorem d_prog_29_method_3_29 : decode prog_29_method_3_code 29 = .ok (.iload 5, 2) := by decide +kernel
theorem d_prog_29_method_3_31 : decode prog_29_method_3_code 31 = .ok (.baload, 1) := by decide +kernel
theorem d_prog_29_method_3_32 : decode prog_29_method_3_code 32 = .ok (.istore 6, 2) := by decide +kernel
theorem d_prog_29_method_3_34 : decode prog_29_method_3_code 34 = .ok (.iload 6, 2) := by decide +kernel
theorem d_prog_29_method_3_36 : decode prog_29_method_3_code 36 = .ok (.bipush 10, 2) := by decide +kernel
theorem d_prog_29_method_3_38 : decode prog_29_method_3_code 38 = .ok (.if_icmp .ne 12, 3) := by decide +kernel
theorem d_prog_29_method_3_41 : decode prog_29_method_3_code 41 = .ok (.lload_n 1, 1) := by decide +kernel
theorem d_prog_29_method_3_42 : decode prog_29_method_3_code 42 = .ok (.ldc2_w 164, 3) := by decide +kernel
theorem d_prog_29_method_3_45 : decode prog_29_method_3_code 45 = .ok (.ladd, 1) := by decide +kernel
theorem d_prog_29_method_3_46 : decode prog_29_method_3_code 46 = .ok (.lstore_n 1, 1) := by decide +kernel
theorem d_prog_29_method_3_47 : decode prog_29_method_3_code 47 = .ok (.goto 16, 3) := by decide +kernel
theorem d_prog_29_method_3_63 : decode prog_29_method_3_code 63 = .ok (.iinc 5 1, 3) := by decide +kernel
theorem d_prog_29_method_3_66 : decode prog_29_method_3_code 66 = .ok (.goto (-45), 3) := by decide +kernel
theorem d_prog_29_method_3_50 : decode prog_29_method_3_code 50 = .ok (.iload 6, 2) := by decide +kernel
theorem d_prog_29_method_3_52 : decode prog_29_method_3_code 52 = .ok (.bipush 47, 2) := by decide +kernel
theorem d_prog_29_method_3_54 : decode prog_29_method_3_code 54 = .ok (.if_icmp .ne 9, 3) := by decide +kernel
theorem d_prog_29_method_3_57 : decode prog_29_method_3_code 57 = .ok (.lload_n 1, 1) := by decide +kernel
theorem d_prog_29_method_3_58 : decode prog_29_method_3_code 58 = .ok (.ldc2_w 166, 3) := by decide +kernel
theorem d_prog_29_method_3_61 : decode prog_29_method_3_code 61 = .ok (.ladd, 1) := by decide +kernel
theorem d_prog_29_method_3_62 : decode prog_29_method_3_code 62 = .ok (.lstore_n 1, 1) := by decide +kernel
theorem pn_1 : plainName "com/example/ambit/ambit/server/Csv" = true := by first | (simp [plainName, overriddenIn]; done) | decide +kernel
theorem ef_rm2 (m : MethodId) (x0 : Addr) : entryFrame m #[(.ref x0)] 7 = mkF m 0 #[.val (.ref x0), .unset, .unset, .unset, .unset, .unset, .unset] [] := by first | (simp [entryFrame, mkF, argsToLocals, Value.category]; done) | rfl
set_option maxRecDepth 65536 in
set_option maxHeartbeats 40000000 in
theorem rm2 (l : Launch) (Z : State) (a0 : Array Value) (hw : ∀ d ∈ tables_1, d.before a0 Z = true) (bs : List Int32) (a1 : Addr) (h0 : Heap) (O0 : Ext Z.heap h0) (Y1 : Ary Z h0 a1 .byte (bs.map Value.int)) (hbl : bs.length < 100) :
    Ctr l Z (⟨"com/example/ambit/ambit/server/Csv", "memoryFor", "([B)J"⟩ : MethodName) prog_29_method_3_code 7 (some .long) [] ({ frames := 0, cells := 0, slots := 0, locals := 0 } : Room) #[(.ref a1)] h0 (fun v h L => v = some (.long (own_mem bs)) ∧ Fr Z.heap.size L ∧ h = h0) := by
  refine ctr (plainFor_of_name pn_1) ?_
  intro p e s m below meth c s₁ hx hby hml hown hnm hret hlocks hZ X0 e0
  have N0 := Fr.nil Z.heap.size
  have hsz : ∀ {Ls : Array Slot}, Ls.size = 7 → Ls.size = c.maxLocals := fun q => q.trans hml.symm
  refine goE (ef_rm2 m (a1)) ?_
  show Goes p e below _ (s₁.setTop (mkF m 0 #[.val (.ref a1), .unset, .unset, .unset, .unset, .unset, .unset] []))
  refine gLdc2J X0 hx hZ hown (hw _ (List.mem_of_getElem? (i := 12) rfl)) (hb hby d_prog_29_method_3_0) ?_
  refine gAloadN X0 hx (hb hby d_prog_29_method_3_3) rfl rfl ?_
  refine goAlen X0 hx hZ e0 Y1 (n := bs.length.toInt32) (hb hby d_prog_29_method_3_4) (by rw [List.length_map]) ?_
  refine gI2l X0 hx (hb hby d_prog_29_method_3_5) ?_
  refine gLmul X0 hx (hb hby d_prog_29_method_3_6) ?_
  refine gLdc2J X0 hx hZ hown (hw _ (List.mem_of_getElem? (i := 13) rfl)) (hb hby d_prog_29_method_3_7) ?_
  refine gLadd X0 hx (hb hby d_prog_29_method_3_10) ?_
  show Goes p e below _ (s₁.setTop (mkF m 11 #[.val (.ref a1), .unset, .unset, .unset, .unset, .unset, .unset] [(.long (((3 : Int64) * (bs.length.toInt32.toInt64)) + (512 : Int64)))]))
  refine gLstoreN X0 hx (hb hby d_prog_29_method_3_11) (l' := #[.val (.ref a1), .val (.long (((3 : Int64) * (bs.length.toInt32.toInt64)) + (512 : Int64))), .second, .unset, .unset, .unset, .unset]) rfl ?_
  refine gAloadN X0 hx (hb hby d_prog_29_method_3_12) rfl rfl ?_
  refine gAstoreN X0 hx (hb hby d_prog_29_method_3_13) rfl (l' := #[.val (.ref a1), .val (.long (((3 : Int64) * (bs.length.toInt32.toInt64)) + (512 : Int64))), .second, .val (.ref a1), .unset, .unset, .unset]) rfl ?_
  refine gAloadN X0 hx (hb hby d_prog_29_method_3_14) rfl rfl ?_
  refine goAlen X0 hx hZ e0 Y1 (n := bs.length.toInt32) (hb hby d_prog_29_method_3_15) (by rw [List.length_map]) ?_
  refine gIstore X0 hx (hb hby d_prog_29_method_3_16) (l' := #[.val (.ref a1), .val (.long (((3 : Int64) * (bs.length.toInt32.toInt64)) + (512 : Int64))), .second, .val (.ref a1), .val (.int bs.length.toInt32), .unset, .unset]) rfl ?_
  refine gIconst X0 hx (hb hby d_prog_29_method_3_18) (v := (0 : Int32)) rfl ?_
  show Goes p e below _ (s₁.setTop (mkF m 19 #[.val (.ref a1), .val (.long (((3 : Int64) * (bs.length.toInt32.toInt64)) + (512 : Int64))), .second, .val (.ref a1), .val (.int bs.length.toInt32), .unset, .unset] [(.int (0 : Int32))]))
  refine gIstore X0 hx (hb hby d_prog_29_method_3_19) (l' := #[.val (.ref a1), .val (.long (((3 : Int64) * (bs.length.toInt32.toInt64)) + (512 : Int64))), .second, .val (.ref a1), .val (.int bs.length.toInt32), .val (.int (0 : Int32)), .unset]) rfl ?_
  have loop : ∀ (post pre : List Int32) (A : Int64) (o6 : Slot), One o6 → pre ++ post = bs → post.foldl (fun x b => x + own_w b) A = own_mem bs → Goes p e below (EndN s (fun v h L => v = some (.long (own_mem bs)) ∧ Fr Z.heap.size L ∧ h = h0) ({ frames := 0, cells := 0, slots := 0, locals := 0 } : Room).cells ({ frames := 0, cells := 0, slots := 0, locals := 0 } : Room).slots) (s₁.setTop (mkF m 21 #[.val (.ref a1), .val (.long A), .second, .val (.ref a1), .val (.int bs.length.toInt32), .val (.int pre.length.toInt32), o6] [])) := by
    intro post
    induction post with
    | nil =>
      intro pre A o6 ho hp hA
      have hl : pre.length + 0 = bs.length := by rw [← hp]; simp
      refine gIload X0 hx (hb hby d_prog_29_method_3_21) rfl ?_
      refine gIload X0 hx (hb hby d_prog_29_method_3_23) rfl ?_
      refine gIcmpY X0 hx (hb hby d_prog_29_method_3_25) (pc' := 69) (XT.ii_ge_t (by rw [own_lt (by omega) (by omega)]; omega)) (by decide) (by decide) ?_
      show Goes p e below _ (s₁.setTop (mkF m 69 #[.val (.ref a1), .val (.long A), .second, .val (.ref a1), .val (.int bs.length.toInt32), .val (.int pre.length.toInt32), o6] []))
      refine gLloadN X0 hx (hb hby d_prog_29_method_3_69) rfl ?_
      exact goRetJ X0 hx hret hlocks (hb hby d_prog_29_method_3_70) (by decide) (by decide) e0 (⟨congrArg (fun z => some (Value.long z)) hA, N0, rfl⟩)
    | cons b post ih =>
      intro pre A o6 ho hp hA
      have hl : pre.length + (post.length + 1) = bs.length := by rw [← hp]; simp
      refine gIload X0 hx (hb hby d_prog_29_method_3_21) rfl ?_
      refine gIload X0 hx (hb hby d_prog_29_method_3_23) rfl ?_
      refine gIcmpN X0 hx (hb hby d_prog_29_method_3_25) (XT.ii_ge_f (by rw [own_lt (by omega) (by omega)]; omega)) ?_
      show Goes p e below _ (s₁.setTop (mkF m 28 #[.val (.ref a1), .val (.long A), .second, .val (.ref a1), .val (.int bs.length.toInt32), .val (.int pre.length.toInt32), o6] []))
      refine gAloadN X0 hx (hb hby d_prog_29_method_3_28) rfl rfl ?_
      refine gIload X0 hx (hb hby d_prog_29_method_3_29) rfl ?_
      refine goBaload X0 hx hZ e0 Y1 (x := b) (hb hby d_prog_29_method_3_31) (own_nn (by omega)) (by rw [own_nat (by omega), ← hp]; simp) ?_
      show Goes p e below _ (s₁.setTop (mkF m 32 #[.val (.ref a1), .val (.long A), .second, .val (.ref a1), .val (.int bs.length.toInt32), .val (.int pre.length.toInt32), o6] [(.int b)]))
      refine gIstoreS X0 hx (hb hby d_prog_29_method_3_32) rfl ho ?_
      show Goes p e below _ (s₁.setTop (mkF m 34 #[.val (.ref a1), .val (.long A), .second, .val (.ref a1), .val (.int bs.length.toInt32), .val (.int pre.length.toInt32), .val (.int b)] []))
      refine gIload X0 hx (hb hby d_prog_29_method_3_34) rfl ?_
      refine gBipush X0 hx (hb hby d_prog_29_method_3_36) (v := (10 : Int32)) rfl ?_
      by_cases g1 : b = (10 : Int32)
      · refine gIcmpN X0 hx (hb hby d_prog_29_method_3_38) (XT.ii_ne_f g1) ?_
        show Goes p e below _ (s₁.setTop (mkF m 41 #[.val (.ref a1), .val (.long A), .second, .val (.ref a1), .val (.int bs.length.toInt32), .val (.int pre.length.toInt32), .val (.int b)] []))
        refine gLloadN X0 hx (hb hby d_prog_29_method_3_41) rfl ?_
        refine gLdc2J X0 hx hZ hown (hw _ (List.mem_of_getElem? (i := 13) rfl)) (hb hby d_prog_29_method_3_42) ?_
        refine gLadd X0 hx (hb hby d_prog_29_method_3_45) ?_
        refine gLstoreN X0 hx (hb hby d_prog_29_method_3_46) (l' := #[.val (.ref a1), .val (.long (A + (512 : Int64))), .second, .val (.ref a1), .val (.int bs.length.toInt32), .val (.int pre.length.toInt32), .val (.int b)]) rfl ?_
        refine gGoto X0 hx (hb hby d_prog_29_method_3_47) (pc' := 63) (by decide) (by decide) ?_
        show Goes p e below _ (s₁.setTop (mkF m 63 #[.val (.ref a1), .val (.long (A + (512 : Int64))), .second, .val (.ref a1), .val (.int bs.length.toInt32), .val (.int pre.length.toInt32), .val (.int b)] []))
        refine gIinc X0 hx (hb hby d_prog_29_method_3_63) (v := (pre.length.toInt32 + (1 : Int32))) rfl rfl (l' := #[.val (.ref a1), .val (.long (A + (512 : Int64))), .second, .val (.ref a1), .val (.int bs.length.toInt32), .val (.int (pre.length.toInt32 + (1 : Int32))), .val (.int b)]) rfl ?_
        refine gGoto X0 hx (hb hby d_prog_29_method_3_66) (pc' := 21) (by decide) (by decide) ?_
        show Goes p e below _ (s₁.setTop (mkF m 21 #[.val (.ref a1), .val (.long (A + (512 : Int64))), .second, .val (.ref a1), .val (.int bs.length.toInt32), .val (.int (pre.length.toInt32 + (1 : Int32))), .val (.int b)] []))
        rw [own_s (by omega), show pre.length + 1 = (pre ++ [b]).length by simp]
        exact ih (pre ++ [b]) _ _ (One.val rfl) (by rw [← hp]; simp) (by rw [← hA]; simp [own_w, g1])
      · refine gIcmpY X0 hx (hb hby d_prog_29_method_3_38) (pc' := 50) (XT.ii_ne_t g1) (by decide) (by decide) ?_
        show Goes p e below _ (s₁.setTop (mkF m 50 #[.val (.ref a1), .val (.long A), .second, .val (.ref a1), .val (.int bs.length.toInt32), .val (.int pre.length.toInt32), .val (.int b)] []))
        refine gIload X0 hx (hb hby d_prog_29_method_3_50) rfl ?_
        refine gBipush X0 hx (hb hby d_prog_29_method_3_52) (v := (47 : Int32)) rfl ?_
        by_cases g2 : b = (47 : Int32)
        · refine gIcmpN X0 hx (hb hby d_prog_29_method_3_54) (XT.ii_ne_f g2) ?_
          show Goes p e below _ (s₁.setTop (mkF m 57 #[.val (.ref a1), .val (.long A), .second, .val (.ref a1), .val (.int bs.length.toInt32), .val (.int pre.length.toInt32), .val (.int b)] []))
          refine gLloadN X0 hx (hb hby d_prog_29_method_3_57) rfl ?_
          refine gLdc2J X0 hx hZ hown (hw _ (List.mem_of_getElem? (i := 18) rfl)) (hb hby d_prog_29_method_3_58) ?_
          refine gLadd X0 hx (hb hby d_prog_29_method_3_61) ?_
          refine gLstoreN X0 hx (hb hby d_prog_29_method_3_62) (l' := #[.val (.ref a1), .val (.long (A + (64 : Int64))), .second, .val (.ref a1), .val (.int bs.length.toInt32), .val (.int pre.length.toInt32), .val (.int b)]) rfl ?_
          refine gIinc X0 hx (hb hby d_prog_29_method_3_63) (v := (pre.length.toInt32 + (1 : Int32))) rfl rfl (l' := #[.val (.ref a1), .val (.long (A + (64 : Int64))), .second, .val (.ref a1), .val (.int bs.length.toInt32), .val (.int (pre.length.toInt32 + (1 : Int32))), .val (.int b)]) rfl ?_
          refine gGoto X0 hx (hb hby d_prog_29_method_3_66) (pc' := 21) (by decide) (by decide) ?_
          show Goes p e below _ (s₁.setTop (mkF m 21 #[.val (.ref a1), .val (.long (A + (64 : Int64))), .second, .val (.ref a1), .val (.int bs.length.toInt32), .val (.int (pre.length.toInt32 + (1 : Int32))), .val (.int b)] []))
          rw [own_s (by omega), show pre.length + 1 = (pre ++ [b]).length by simp]
          exact ih (pre ++ [b]) _ _ (One.val rfl) (by rw [← hp]; simp) (by rw [← hA]; simp [own_w, g1, g2])
        · refine gIcmpY X0 hx (hb hby d_prog_29_method_3_54) (pc' := 63) (XT.ii_ne_t g2) (by decide) (by decide) ?_
          show Goes p e below _ (s₁.setTop (mkF m 63 #[.val (.ref a1), .val (.long A), .second, .val (.ref a1), .val (.int bs.length.toInt32), .val (.int pre.length.toInt32), .val (.int b)] []))
          refine gIinc X0 hx (hb hby d_prog_29_method_3_63) (v := (pre.length.toInt32 + (1 : Int32))) rfl rfl (l' := #[.val (.ref a1), .val (.long A), .second, .val (.ref a1), .val (.int bs.length.toInt32), .val (.int (pre.length.toInt32 + (1 : Int32))), .val (.int b)]) rfl ?_
          refine gGoto X0 hx (hb hby d_prog_29_method_3_66) (pc' := 21) (by decide) (by decide) ?_
          show Goes p e below _ (s₁.setTop (mkF m 21 #[.val (.ref a1), .val (.long A), .second, .val (.ref a1), .val (.int bs.length.toInt32), .val (.int (pre.length.toInt32 + (1 : Int32))), .val (.int b)] []))
          rw [own_s (by omega), show pre.length + 1 = (pre ++ [b]).length by simp]
          exact ih (pre ++ [b]) _ _ (One.val rfl) (by rw [← hp]; simp) (by rw [← hA]; simp [own_w, g1, g2])
  exact loop bs [] _ _ One.u rfl rfl
theorem pd_0 : parseMethodDescriptor "(I)B" = some ⟨[.int], some .byte⟩ := by decide +kernel
theorem pd_1 : parseMethodDescriptor "([B)J" = some ⟨[(.array .byte)], some .long⟩ := by decide +kernel
theorem pd_2 : parseMethodDescriptor "(B)J" = some ⟨[.byte], some .long⟩ := by decide +kernel
theorem ef_rm0 (m : MethodId) (x0 : Int32) (x1 : Int32) (x2 : Int32) (x3 : Int32) (x4 : Int32) : entryFrame m #[(.int x0), (.int x1), (.int x2), (.int x3), (.int x4)] maxLocals = mkF m 0 #[.val (.int x0), .val (.int x1), .val (.int x2), .val (.int x3), .val (.int x4), .unset, .unset, .unset, .unset, .unset, .unset, .unset, .unset] [] := by first | (simp [entryFrame, mkF, argsToLocals, Value.category, maxLocals]; done) | rfl
set_option maxRecDepth 65536 in
set_option maxHeartbeats 40000000 in
theorem rm0 (l : Launch) (Z : State) (a0 : Array Value) (hw : ∀ d ∈ tables_1, d.before a0 Z = true)  (p0 : Int32) (p1 : Int32) (p2 : Int32) (p3 : Int32) (p4 : Int32) (h0 : Heap) (O0 : Ext Z.heap h0)  :
    Ctr l Z x code maxLocals ret tables_1 room_1 #[(.int p0), (.int p1), (.int p2), (.int p3), (.int p4)] h0 (fun v h L => v = some (.int 1) ∧ Fr Z.heap.size L) := by
  refine ctr (plainFor_of_name pn_0) ?_
  intro p e s m below meth c s₁ hx hby hml hown hnm hret hlocks hZ X0 e0
  have N0 := Fr.nil Z.heap.size
  have hsz : ∀ {Ls : Array Slot}, Ls.size = 13 → Ls.size = c.maxLocals := fun q => q.trans hml.symm
  refine goE (ef_rm0 m (p0) (p1) (p2) (p3) (p4)) ?_
  show Goes p e below _ (s₁.setTop (mkF m 0 #[.val (.int p0), .val (.int p1), .val (.int p2), .val (.int p3), .val (.int p4), .unset, .unset, .unset, .unset, .unset, .unset, .unset, .unset] []))
  refine gIloadN X0 hx (hb hby at_0) rfl ?_
  refine gLdcI X0 hx hZ hown (hw _ (List.mem_of_getElem? (i := 0) rfl)) (hb hby at_1) ?_
  refine gIand X0 hx (hb hby at_3) ?_
  refine gIconst X0 hx (hb hby at_4) (v := (5 : Int32)) rfl ?_
  refine gIrem X0 hx (hb hby at_5) (by decide) ?_
  refine gIstore X0 hx (hb hby at_6) (l' := #[.val (.int p0), .val (.int p1), .val (.int p2), .val (.int p3), .val (.int p4), .val (.int ((p0 &&& (2147483647 : Int32)) % (5 : Int32))), .unset, .unset, .unset, .unset, .unset, .unset, .unset]) rfl ?_
  refine gIloadN X0 hx (hb hby at_8) rfl ?_
  show Goes p e below _ (s₁.setTop (mkF m 9 #[.val (.int p0), .val (.int p1), .val (.int p2), .val (.int p3), .val (.int p4), .val (.int ((p0 &&& (2147483647 : Int32)) % (5 : Int32))), .unset, .unset, .unset, .unset, .unset, .unset, .unset] [(.int p1)]))
  refine goCallS X0 hx hZ hown (hw _ (List.mem_of_getElem? (i := 1) rfl)) (hw _ (List.mem_of_getElem? (i := 2) rfl)) (hw _ (List.mem_of_getElem? (i := 3) rfl)) (hw _ (List.mem_of_getElem? (i := 4) rfl)) (by decide) (rm1 l Z a0 hw p1 h0 O0) 0 (by decide) (by decide) e0 (hsz rfl) [(.int p1)] [] pd_0 rfl rfl rfl (Nat.le_of_eq rfl) (hb hby at_9) (by decide) (by decide) (fun Tt1 vt1 Lt1 Xt1 qt1 => ?_)
  obtain ⟨b0, rfl, N2, et1, hb0⟩ := qt1
  have N3 := Fr.app N0 N2
  show Goes p e below _ (Tt1.setTop (mkF m 12 #[.val (.int p0), .val (.int p1), .val (.int p2), .val (.int p3), .val (.int p4), .val (.int ((p0 &&& (2147483647 : Int32)) % (5 : Int32))), .unset, .unset, .unset, .unset, .unset, .unset, .unset] [(.int b0)]))
  refine gIstore Xt1 hx (hb hby at_12) (l' := #[.val (.int p0), .val (.int p1), .val (.int p2), .val (.int p3), .val (.int p4), .val (.int ((p0 &&& (2147483647 : Int32)) % (5 : Int32))), .val (.int b0), .unset, .unset, .unset, .unset, .unset, .unset]) rfl ?_
  refine gIloadN Xt1 hx (hb hby at_14) rfl ?_
  refine goCallS Xt1 hx hZ hown (hw _ (List.mem_of_getElem? (i := 1) rfl)) (hw _ (List.mem_of_getElem? (i := 2) rfl)) (hw _ (List.mem_of_getElem? (i := 3) rfl)) (hw _ (List.mem_of_getElem? (i := 4) rfl)) (by decide) (rm1 l Z a0 hw p2 h0 O0) 0 (by decide) (by decide) et1 (hsz rfl) [(.int p2)] [] pd_0 rfl rfl rfl (Nat.le_of_eq rfl) (hb hby at_15) (by decide) (by decide) (fun Tt4 vt4 Lt4 Xt4 qt4 => ?_)
  obtain ⟨b1, rfl, N5, et4, hb1⟩ := qt4
  have N6 := Fr.app N3 N5
  show Goes p e below _ (Tt4.setTop (mkF m 18 #[.val (.int p0), .val (.int p1), .val (.int p2), .val (.int p3), .val (.int p4), .val (.int ((p0 &&& (2147483647 : Int32)) % (5 : Int32))), .val (.int b0), .unset, .unset, .unset, .unset, .unset, .unset] [(.int b1)]))
  refine gIstore Xt4 hx (hb hby at_18) (l' := #[.val (.int p0), .val (.int p1), .val (.int p2), .val (.int p3), .val (.int p4), .val (.int ((p0 &&& (2147483647 : Int32)) % (5 : Int32))), .val (.int b0), .val (.int b1), .unset, .unset, .unset, .unset, .unset]) rfl ?_
  refine gIloadN Xt4 hx (hb hby at_20) rfl ?_
  refine goCallS Xt4 hx hZ hown (hw _ (List.mem_of_getElem? (i := 1) rfl)) (hw _ (List.mem_of_getElem? (i := 2) rfl)) (hw _ (List.mem_of_getElem? (i := 3) rfl)) (hw _ (List.mem_of_getElem? (i := 4) rfl)) (by decide) (rm1 l Z a0 hw p3 h0 O0) 0 (by decide) (by decide) et4 (hsz rfl) [(.int p3)] [] pd_0 rfl rfl rfl (Nat.le_of_eq rfl) (hb hby at_21) (by decide) (by decide) (fun Tt7 vt7 Lt7 Xt7 qt7 => ?_)
  obtain ⟨b2, rfl, N8, et7, hb2⟩ := qt7
  have N9 := Fr.app N6 N8
  show Goes p e below _ (Tt7.setTop (mkF m 24 #[.val (.int p0), .val (.int p1), .val (.int p2), .val (.int p3), .val (.int p4), .val (.int ((p0 &&& (2147483647 : Int32)) % (5 : Int32))), .val (.int b0), .val (.int b1), .unset, .unset, .unset, .unset, .unset] [(.int b2)]))
  refine gIstore Xt7 hx (hb hby at_24) (l' := #[.val (.int p0), .val (.int p1), .val (.int p2), .val (.int p3), .val (.int p4), .val (.int ((p0 &&& (2147483647 : Int32)) % (5 : Int32))), .val (.int b0), .val (.int b1), .val (.int b2), .unset, .unset, .unset, .unset]) rfl ?_
  refine gIload Xt7 hx (hb hby at_26) rfl ?_
  refine goCallS Xt7 hx hZ hown (hw _ (List.mem_of_getElem? (i := 1) rfl)) (hw _ (List.mem_of_getElem? (i := 2) rfl)) (hw _ (List.mem_of_getElem? (i := 3) rfl)) (hw _ (List.mem_of_getElem? (i := 4) rfl)) (by decide) (rm1 l Z a0 hw p4 h0 O0) 0 (by decide) (by decide) et7 (hsz rfl) [(.int p4)] [] pd_0 rfl rfl rfl (Nat.le_of_eq rfl) (hb hby at_28) (by decide) (by decide) (fun Tt10 vt10 Lt10 Xt10 qt10 => ?_)
  obtain ⟨b3, rfl, N11, et10, hb3⟩ := qt10
  have N12 := Fr.app N9 N11
  show Goes p e below _ (Tt10.setTop (mkF m 31 #[.val (.int p0), .val (.int p1), .val (.int p2), .val (.int p3), .val (.int p4), .val (.int ((p0 &&& (2147483647 : Int32)) % (5 : Int32))), .val (.int b0), .val (.int b1), .val (.int b2), .unset, .unset, .unset, .unset] [(.int b3)]))
  refine gIstore Xt10 hx (hb hby at_31) (l' := #[.val (.int p0), .val (.int p1), .val (.int p2), .val (.int p3), .val (.int p4), .val (.int ((p0 &&& (2147483647 : Int32)) % (5 : Int32))), .val (.int b0), .val (.int b1), .val (.int b2), .val (.int b3), .unset, .unset, .unset]) rfl ?_
  refine gIload Xt10 hx (hb hby at_33) rfl ?_
  obtain ⟨k, hk⟩ : ∃ z, z = ((p0 &&& (2147483647 : Int32)) % (5 : Int32)) := ⟨_, rfl⟩
  rw [← hk]
  show Goes p e below _ (Tt10.setTop (mkF m 35 #[.val (.int p0), .val (.int p1), .val (.int p2), .val (.int p3), .val (.int p4), .val (.int k), .val (.int b0), .val (.int b1), .val (.int b2), .val (.int b3), .unset, .unset, .unset] [(.int k)]))
  have h5 := own_k5 p0
  rw [← hk] at h5
  by_cases g0 : k = 0
  · refine gIfN Xt10 hx (hb hby at_35) (XT.i0_ne_f g0) ?_
    show Goes p e below _ (Tt10.setTop (mkF m 38 #[.val (.int p0), .val (.int p1), .val (.int p2), .val (.int p3), .val (.int p4), .val (.int k), .val (.int b0), .val (.int b1), .val (.int b2), .val (.int b3), .unset, .unset, .unset] []))
    subst g0
    show Goes p e below _ (Tt10.setTop (mkF m 38 #[.val (.int p0), .val (.int p1), .val (.int p2), .val (.int p3), .val (.int p4), .val (.int (0 : Int32)), .val (.int b0), .val (.int b1), .val (.int b2), .val (.int b3), .unset, .unset, .unset] []))
    refine gIconst Xt10 hx (hb hby at_38) (v := (0 : Int32)) rfl ?_
    obtain ⟨Tt13, ht13, kt13, Xt13, et13, Et13, At13, stt13⟩ := newP Xt10 hx hZ (hw _ (List.mem_of_getElem? (i := 5) rfl)) et10 (g := (mkF m 39 #[.val (.int p0), .val (.int p1), .val (.int p2), .val (.int p3), .val (.int p4), .val (.int (0 : Int32)), .val (.int b0), .val (.int b1), .val (.int b2), .val (.int b3), .unset, .unset, .unset] [(.int (0 : Int32))])) rfl (hb hby at_39) rfl (by decide) (cap := 0) (by decide) (by decide) (by decide) (by decide)
    obtain ⟨b14, gb14⟩ : ∃ z, z = h0.size := ⟨_, rfl⟩
    rw [← gb14] at At13 stt13
    refine go stt13 ?_
    have fr_b14 : Z.heap.size ≤ b14 := gb14 ▸ O0.1
    have O15 : Ext Z.heap ht13 := extT O0 Et13
    have Y_b14 : Ary Z ht13 b14 .byte [] := Ary.new At13 rfl (by decide)
    show Goes p e below _ (Tt13.setTop (mkF m 41 #[.val (.int p0), .val (.int p1), .val (.int p2), .val (.int p3), .val (.int p4), .val (.int (0 : Int32)), .val (.int b0), .val (.int b1), .val (.int b2), .val (.int b3), .unset, .unset, .unset] [(.ref b14)]))
    refine gAstore Xt13 hx (hb hby at_41) rfl (l' := #[.val (.int p0), .val (.int p1), .val (.int p2), .val (.int p3), .val (.int p4), .val (.int (0 : Int32)), .val (.int b0), .val (.int b1), .val (.int b2), .val (.int b3), .val (.ref b14), .unset, .unset]) rfl ?_
    refine gGoto Xt13 hx (hb hby at_43) (pc' := 143) (by decide) (by decide) ?_
    show Goes p e below _ (Tt13.setTop (mkF m 143 #[.val (.int p0), .val (.int p1), .val (.int p2), .val (.int p3), .val (.int p4), .val (.int (0 : Int32)), .val (.int b0), .val (.int b1), .val (.int b2), .val (.int b3), .val (.ref b14), .unset, .unset] []))
    refine gLdc2J Xt13 hx hZ hown (hw _ (List.mem_of_getElem? (i := 6) rfl)) (hb hby at_143) ?_
    refine gIload Xt13 hx (hb hby at_146) rfl ?_
    refine gI2l Xt13 hx (hb hby at_148) ?_
    refine gLmul Xt13 hx (hb hby at_149) ?_
    refine gLdc2J Xt13 hx hZ hown (hw _ (List.mem_of_getElem? (i := 7) rfl)) (hb hby at_150) ?_
    refine gLadd Xt13 hx (hb hby at_153) ?_
    refine gLstore Xt13 hx (hb hby at_154) (l' := #[.val (.int p0), .val (.int p1), .val (.int p2), .val (.int p3), .val (.int p4), .val (.int (0 : Int32)), .val (.int b0), .val (.int b1), .val (.int b2), .val (.int b3), .val (.ref b14), .val (.long (((3 : Int64) * ((0 : Int32).toInt64)) + (512 : Int64))), .second]) rfl ?_
    show Goes p e below _ (Tt13.setTop (mkF m 156 #[.val (.int p0), .val (.int p1), .val (.int p2), .val (.int p3), .val (.int p4), .val (.int (0 : Int32)), .val (.int b0), .val (.int b1), .val (.int b2), .val (.int b3), .val (.ref b14), .val (.long (((3 : Int64) * ((0 : Int32).toInt64)) + (512 : Int64))), .second] []))
    refine gIload Xt13 hx (hb hby at_156) rfl ?_
    refine gIfY Xt13 hx (hb hby at_158) (pc' := 171) (XT.i0_le_t (by decide)) (by decide) (by decide) ?_
    show Goes p e below _ (Tt13.setTop (mkF m 171 #[.val (.int p0), .val (.int p1), .val (.int p2), .val (.int p3), .val (.int p4), .val (.int (0 : Int32)), .val (.int b0), .val (.int b1), .val (.int b2), .val (.int b3), .val (.ref b14), .val (.long (((3 : Int64) * ((0 : Int32).toInt64)) + (512 : Int64))), .second] []))
    refine gIload Xt13 hx (hb hby at_171) rfl ?_
    refine gIconst Xt13 hx (hb hby at_173) (v := (1 : Int32)) rfl ?_
    refine gIcmpY Xt13 hx (hb hby at_174) (pc' := 187) (XT.ii_le_t (by decide)) (by decide) (by decide) ?_
    show Goes p e below _ (Tt13.setTop (mkF m 187 #[.val (.int p0), .val (.int p1), .val (.int p2), .val (.int p3), .val (.int p4), .val (.int (0 : Int32)), .val (.int b0), .val (.int b1), .val (.int b2), .val (.int b3), .val (.ref b14), .val (.long (((3 : Int64) * ((0 : Int32).toInt64)) + (512 : Int64))), .second] []))
    refine gIload Xt13 hx (hb hby at_187) rfl ?_
    refine gIconst Xt13 hx (hb hby at_189) (v := (2 : Int32)) rfl ?_
    refine gIcmpY Xt13 hx (hb hby at_190) (pc' := 203) (XT.ii_le_t (by decide)) (by decide) (by decide) ?_
    show Goes p e below _ (Tt13.setTop (mkF m 203 #[.val (.int p0), .val (.int p1), .val (.int p2), .val (.int p3), .val (.int p4), .val (.int (0 : Int32)), .val (.int b0), .val (.int b1), .val (.int b2), .val (.int b3), .val (.ref b14), .val (.long (((3 : Int64) * ((0 : Int32).toInt64)) + (512 : Int64))), .second] []))
    refine gIload Xt13 hx (hb hby at_203) rfl ?_
    refine gIconst Xt13 hx (hb hby at_205) (v := (3 : Int32)) rfl ?_
    refine gIcmpY Xt13 hx (hb hby at_206) (pc' := 219) (XT.ii_le_t (by decide)) (by decide) (by decide) ?_
    show Goes p e below _ (Tt13.setTop (mkF m 219 #[.val (.int p0), .val (.int p1), .val (.int p2), .val (.int p3), .val (.int p4), .val (.int (0 : Int32)), .val (.int b0), .val (.int b1), .val (.int b2), .val (.int b3), .val (.ref b14), .val (.long (((3 : Int64) * ((0 : Int32).toInt64)) + (512 : Int64))), .second] []))
    refine gAload Xt13 hx (hb hby at_219) rfl rfl ?_
    refine goCallS Xt13 hx hZ hown (hw _ (List.mem_of_getElem? (i := 8) rfl)) (hw _ (List.mem_of_getElem? (i := 9) rfl)) (hw _ (List.mem_of_getElem? (i := 10) rfl)) (hw _ (List.mem_of_getElem? (i := 11) rfl)) (by decide) (rm2 l Z a0 hw [] b14 ht13 O15 Y_b14 (by simp)) 0 (by decide) (by decide) et13 (hsz rfl) [(.ref b14)] [] pd_1 rfl rfl rfl (Nat.le_of_eq rfl) (hb hby at_221) (by decide) (by decide) (fun Tt16 vt16 Lt16 Xt16 qt16 => ?_)
    obtain ⟨rfl, N17, et16⟩ := qt16
    have N18 := Fr.app N12 N17
    show Goes p e below _ (Tt16.setTop (mkF m 224 #[.val (.int p0), .val (.int p1), .val (.int p2), .val (.int p3), .val (.int p4), .val (.int (0 : Int32)), .val (.int b0), .val (.int b1), .val (.int b2), .val (.int b3), .val (.ref b14), .val (.long (((3 : Int64) * ((0 : Int32).toInt64)) + (512 : Int64))), .second] [(.long (own_mem []))]))
    refine gLload Xt16 hx (hb hby at_224) rfl ?_
    refine gLcmp Xt16 hx (hb hby at_226) ?_
    refine gIfN Xt16 hx (hb hby at_227) (XT.ll_ne_f rfl) ?_
    show Goes p e below _ (Tt16.setTop (mkF m 230 #[.val (.int p0), .val (.int p1), .val (.int p2), .val (.int p3), .val (.int p4), .val (.int (0 : Int32)), .val (.int b0), .val (.int b1), .val (.int b2), .val (.int b3), .val (.ref b14), .val (.long (((3 : Int64) * ((0 : Int32).toInt64)) + (512 : Int64))), .second] []))
    refine gIconst Xt16 hx (hb hby at_230) (v := (1 : Int32)) rfl ?_
    refine gGoto Xt16 hx (hb hby at_231) (pc' := 235) (by decide) (by decide) ?_
    show Goes p e below _ (Tt16.setTop (mkF m 235 #[.val (.int p0), .val (.int p1), .val (.int p2), .val (.int p3), .val (.int p4), .val (.int (0 : Int32)), .val (.int b0), .val (.int b1), .val (.int b2), .val (.int b3), .val (.ref b14), .val (.long (((3 : Int64) * ((0 : Int32).toInt64)) + (512 : Int64))), .second] [(.int (1 : Int32))]))
    exact goRetN Xt16 hx (t := .boolean) hret hlocks (by simp) (hb hby at_235) (z' := (1 : Int32)) rfl (by decide) (by decide) et16 (⟨rfl, N18⟩)
  · refine gIfY Xt10 hx (hb hby at_35) (pc' := 46) (XT.i0_ne_t g0) (by decide) (by decide) ?_
    show Goes p e below _ (Tt10.setTop (mkF m 46 #[.val (.int p0), .val (.int p1), .val (.int p2), .val (.int p3), .val (.int p4), .val (.int k), .val (.int b0), .val (.int b1), .val (.int b2), .val (.int b3), .unset, .unset, .unset] []))
    refine gIload Xt10 hx (hb hby at_46) rfl ?_
    refine gIconst Xt10 hx (hb hby at_48) (v := (1 : Int32)) rfl ?_
    by_cases g1 : k = (1 : Int32)
    · refine gIcmpN Xt10 hx (hb hby at_49) (XT.ii_ne_f g1) ?_
      show Goes p e below _ (Tt10.setTop (mkF m 52 #[.val (.int p0), .val (.int p1), .val (.int p2), .val (.int p3), .val (.int p4), .val (.int k), .val (.int b0), .val (.int b1), .val (.int b2), .val (.int b3), .unset, .unset, .unset] []))
      subst g1
      show Goes p e below _ (Tt10.setTop (mkF m 52 #[.val (.int p0), .val (.int p1), .val (.int p2), .val (.int p3), .val (.int p4), .val (.int (1 : Int32)), .val (.int b0), .val (.int b1), .val (.int b2), .val (.int b3), .unset, .unset, .unset] []))
      refine gIconst Xt10 hx (hb hby at_52) (v := (1 : Int32)) rfl ?_
      obtain ⟨Tt19, ht19, kt19, Xt19, et19, Et19, At19, stt19⟩ := newP Xt10 hx hZ (hw _ (List.mem_of_getElem? (i := 5) rfl)) et10 (g := (mkF m 53 #[.val (.int p0), .val (.int p1), .val (.int p2), .val (.int p3), .val (.int p4), .val (.int (1 : Int32)), .val (.int b0), .val (.int b1), .val (.int b2), .val (.int b3), .unset, .unset, .unset] [(.int (1 : Int32))])) rfl (hb hby at_53) rfl (by decide) (cap := 1) (by decide) (by decide) (by decide) (by decide)
      obtain ⟨b20, gb20⟩ : ∃ z, z = h0.size := ⟨_, rfl⟩
      rw [← gb20] at At19 stt19
      refine go stt19 ?_
      have fr_b20 : Z.heap.size ≤ b20 := gb20 ▸ O0.1
      have O21 : Ext Z.heap ht19 := extT O0 Et19
      have Y_b20 : Ary Z ht19 b20 .byte [(.int (0 : Int32))] := Ary.new At19 rfl (by decide)
      show Goes p e below _ (Tt19.setTop (mkF m 55 #[.val (.int p0), .val (.int p1), .val (.int p2), .val (.int p3), .val (.int p4), .val (.int (1 : Int32)), .val (.int b0), .val (.int b1), .val (.int b2), .val (.int b3), .unset, .unset, .unset] [(.ref b20)]))
      refine gDup Xt19 hx (hb hby at_55) rfl ?_
      refine gIconst Xt19 hx (hb hby at_56) (v := (0 : Int32)) rfl ?_
      refine gIload Xt19 hx (hb hby at_57) rfl ?_
      refine goBastore Xt19 hx hZ et19 Y_b20 (hb hby at_59) (by decide) rfl (fun Tt22 ht22 Xt22 et22 Wt22 => ?_)
      have N23 := Fr.snoc Xt22 N12 fr_b20
      replace Y_b20 : Ary Z ht22 b20 .byte [(.int b0)] := Y_b20.set Wt22 (by rw [hb0]; rfl)
      have O24 : Ext Z.heap ht22 := extW O21 Wt22 fr_b20
      show Goes p e below _ (Tt22.setTop (mkF m 60 #[.val (.int p0), .val (.int p1), .val (.int p2), .val (.int p3), .val (.int p4), .val (.int (1 : Int32)), .val (.int b0), .val (.int b1), .val (.int b2), .val (.int b3), .unset, .unset, .unset] [(.ref b20)]))
      refine gAstore Xt22 hx (hb hby at_60) rfl (l' := #[.val (.int p0), .val (.int p1), .val (.int p2), .val (.int p3), .val (.int p4), .val (.int (1 : Int32)), .val (.int b0), .val (.int b1), .val (.int b2), .val (.int b3), .val (.ref b20), .unset, .unset]) rfl ?_
      refine gGoto Xt22 hx (hb hby at_62) (pc' := 143) (by decide) (by decide) ?_
      show Goes p e below _ (Tt22.setTop (mkF m 143 #[.val (.int p0), .val (.int p1), .val (.int p2), .val (.int p3), .val (.int p4), .val (.int (1 : Int32)), .val (.int b0), .val (.int b1), .val (.int b2), .val (.int b3), .val (.ref b20), .unset, .unset] []))
      refine gLdc2J Xt22 hx hZ hown (hw _ (List.mem_of_getElem? (i := 6) rfl)) (hb hby at_143) ?_
      refine gIload Xt22 hx (hb hby at_146) rfl ?_
      refine gI2l Xt22 hx (hb hby at_148) ?_
      refine gLmul Xt22 hx (hb hby at_149) ?_
      refine gLdc2J Xt22 hx hZ hown (hw _ (List.mem_of_getElem? (i := 7) rfl)) (hb hby at_150) ?_
      refine gLadd Xt22 hx (hb hby at_153) ?_
      refine gLstore Xt22 hx (hb hby at_154) (l' := #[.val (.int p0), .val (.int p1), .val (.int p2), .val (.int p3), .val (.int p4), .val (.int (1 : Int32)), .val (.int b0), .val (.int b1), .val (.int b2), .val (.int b3), .val (.ref b20), .val (.long (((3 : Int64) * ((1 : Int32).toInt64)) + (512 : Int64))), .second]) rfl ?_
      show Goes p e below _ (Tt22.setTop (mkF m 156 #[.val (.int p0), .val (.int p1), .val (.int p2), .val (.int p3), .val (.int p4), .val (.int (1 : Int32)), .val (.int b0), .val (.int b1), .val (.int b2), .val (.int b3), .val (.ref b20), .val (.long (((3 : Int64) * ((1 : Int32).toInt64)) + (512 : Int64))), .second] []))
      refine gIload Xt22 hx (hb hby at_156) rfl ?_
      refine gIfN Xt22 hx (hb hby at_158) (XT.i0_le_f (by decide)) ?_
      show Goes p e below _ (Tt22.setTop (mkF m 161 #[.val (.int p0), .val (.int p1), .val (.int p2), .val (.int p3), .val (.int p4), .val (.int (1 : Int32)), .val (.int b0), .val (.int b1), .val (.int b2), .val (.int b3), .val (.ref b20), .val (.long (((3 : Int64) * ((1 : Int32).toInt64)) + (512 : Int64))), .second] []))
      refine gLload Xt22 hx (hb hby at_161) rfl ?_
      refine gIload Xt22 hx (hb hby at_163) rfl ?_
      refine goCallS Xt22 hx hZ hown (hw _ (List.mem_of_getElem? (i := 14) rfl)) (hw _ (List.mem_of_getElem? (i := 15) rfl)) (hw _ (List.mem_of_getElem? (i := 3) rfl)) (hw _ (List.mem_of_getElem? (i := 16) rfl)) (by decide) (rm3 l Z a0 hw b0 ht22 O24) 2 (by decide) (by decide) et22 (hsz rfl) [(.int b0)] [(.long (((3 : Int64) * ((1 : Int32).toInt64)) + (512 : Int64)))] pd_2 rfl rfl rfl (Nat.le_of_eq rfl) (hb hby at_165) (by decide) (by decide) (fun Tt25 vt25 Lt25 Xt25 qt25 => ?_)
      obtain ⟨rfl, N26, et25⟩ := qt25
      have N27 := Fr.app N23 N26
      show Goes p e below _ (Tt25.setTop (mkF m 168 #[.val (.int p0), .val (.int p1), .val (.int p2), .val (.int p3), .val (.int p4), .val (.int (1 : Int32)), .val (.int b0), .val (.int b1), .val (.int b2), .val (.int b3), .val (.ref b20), .val (.long (((3 : Int64) * ((1 : Int32).toInt64)) + (512 : Int64))), .second] [(.long (own_w b0)), (.long (((3 : Int64) * ((1 : Int32).toInt64)) + (512 : Int64)))]))
      refine gLadd Xt25 hx (hb hby at_168) ?_
      refine gLstore Xt25 hx (hb hby at_169) (l' := #[.val (.int p0), .val (.int p1), .val (.int p2), .val (.int p3), .val (.int p4), .val (.int (1 : Int32)), .val (.int b0), .val (.int b1), .val (.int b2), .val (.int b3), .val (.ref b20), .val (.long ((((3 : Int64) * ((1 : Int32).toInt64)) + (512 : Int64)) + (own_w b0))), .second]) rfl ?_
      refine gIload Xt25 hx (hb hby at_171) rfl ?_
      refine gIconst Xt25 hx (hb hby at_173) (v := (1 : Int32)) rfl ?_
      refine gIcmpY Xt25 hx (hb hby at_174) (pc' := 187) (XT.ii_le_t (by decide)) (by decide) (by decide) ?_
      show Goes p e below _ (Tt25.setTop (mkF m 187 #[.val (.int p0), .val (.int p1), .val (.int p2), .val (.int p3), .val (.int p4), .val (.int (1 : Int32)), .val (.int b0), .val (.int b1), .val (.int b2), .val (.int b3), .val (.ref b20), .val (.long ((((3 : Int64) * ((1 : Int32).toInt64)) + (512 : Int64)) + (own_w b0))), .second] []))
      refine gIload Xt25 hx (hb hby at_187) rfl ?_
      refine gIconst Xt25 hx (hb hby at_189) (v := (2 : Int32)) rfl ?_
      refine gIcmpY Xt25 hx (hb hby at_190) (pc' := 203) (XT.ii_le_t (by decide)) (by decide) (by decide) ?_
      show Goes p e below _ (Tt25.setTop (mkF m 203 #[.val (.int p0), .val (.int p1), .val (.int p2), .val (.int p3), .val (.int p4), .val (.int (1 : Int32)), .val (.int b0), .val (.int b1), .val (.int b2), .val (.int b3), .val (.ref b20), .val (.long ((((3 : Int64) * ((1 : Int32).toInt64)) + (512 : Int64)) + (own_w b0))), .second] []))
      refine gIload Xt25 hx (hb hby at_203) rfl ?_
      refine gIconst Xt25 hx (hb hby at_205) (v := (3 : Int32)) rfl ?_
      refine gIcmpY Xt25 hx (hb hby at_206) (pc' := 219) (XT.ii_le_t (by decide)) (by decide) (by decide) ?_
      show Goes p e below _ (Tt25.setTop (mkF m 219 #[.val (.int p0), .val (.int p1), .val (.int p2), .val (.int p3), .val (.int p4), .val (.int (1 : Int32)), .val (.int b0), .val (.int b1), .val (.int b2), .val (.int b3), .val (.ref b20), .val (.long ((((3 : Int64) * ((1 : Int32).toInt64)) + (512 : Int64)) + (own_w b0))), .second] []))
      refine gAload Xt25 hx (hb hby at_219) rfl rfl ?_
      refine goCallS Xt25 hx hZ hown (hw _ (List.mem_of_getElem? (i := 8) rfl)) (hw _ (List.mem_of_getElem? (i := 9) rfl)) (hw _ (List.mem_of_getElem? (i := 10) rfl)) (hw _ (List.mem_of_getElem? (i := 11) rfl)) (by decide) (rm2 l Z a0 hw [b0] b20 ht22 O24 Y_b20 (by simp)) 0 (by decide) (by decide) et25 (hsz rfl) [(.ref b20)] [] pd_1 rfl rfl rfl (Nat.le_of_eq rfl) (hb hby at_221) (by decide) (by decide) (fun Tt28 vt28 Lt28 Xt28 qt28 => ?_)
      obtain ⟨rfl, N29, et28⟩ := qt28
      have N30 := Fr.app N27 N29
      show Goes p e below _ (Tt28.setTop (mkF m 224 #[.val (.int p0), .val (.int p1), .val (.int p2), .val (.int p3), .val (.int p4), .val (.int (1 : Int32)), .val (.int b0), .val (.int b1), .val (.int b2), .val (.int b3), .val (.ref b20), .val (.long ((((3 : Int64) * ((1 : Int32).toInt64)) + (512 : Int64)) + (own_w b0))), .second] [(.long (own_mem [b0]))]))
      refine gLload Xt28 hx (hb hby at_224) rfl ?_
      refine gLcmp Xt28 hx (hb hby at_226) ?_
      refine gIfN Xt28 hx (hb hby at_227) (XT.ll_ne_f rfl) ?_
      show Goes p e below _ (Tt28.setTop (mkF m 230 #[.val (.int p0), .val (.int p1), .val (.int p2), .val (.int p3), .val (.int p4), .val (.int (1 : Int32)), .val (.int b0), .val (.int b1), .val (.int b2), .val (.int b3), .val (.ref b20), .val (.long ((((3 : Int64) * ((1 : Int32).toInt64)) + (512 : Int64)) + (own_w b0))), .second] []))
      refine gIconst Xt28 hx (hb hby at_230) (v := (1 : Int32)) rfl ?_
      refine gGoto Xt28 hx (hb hby at_231) (pc' := 235) (by decide) (by decide) ?_
      show Goes p e below _ (Tt28.setTop (mkF m 235 #[.val (.int p0), .val (.int p1), .val (.int p2), .val (.int p3), .val (.int p4), .val (.int (1 : Int32)), .val (.int b0), .val (.int b1), .val (.int b2), .val (.int b3), .val (.ref b20), .val (.long ((((3 : Int64) * ((1 : Int32).toInt64)) + (512 : Int64)) + (own_w b0))), .second] [(.int (1 : Int32))]))
      exact goRetN Xt28 hx (t := .boolean) hret hlocks (by simp) (hb hby at_235) (z' := (1 : Int32)) rfl (by decide) (by decide) et28 (⟨rfl, N30⟩)
    · refine gIcmpY Xt10 hx (hb hby at_49) (pc' := 65) (XT.ii_ne_t g1) (by decide) (by decide) ?_
      show Goes p e below _ (Tt10.setTop (mkF m 65 #[.val (.int p0), .val (.int p1), .val (.int p2), .val (.int p3), .val (.int p4), .val (.int k), .val (.int b0), .val (.int b1), .val (.int b2), .val (.int b3), .unset, .unset, .unset] []))
      refine gIload Xt10 hx (hb hby at_65) rfl ?_
      refine gIconst Xt10 hx (hb hby at_67) (v := (2 : Int32)) rfl ?_
      by_cases g2 : k = (2 : Int32)
      · refine gIcmpN Xt10 hx (hb hby at_68) (XT.ii_ne_f g2) ?_
        show Goes p e below _ (Tt10.setTop (mkF m 71 #[.val (.int p0), .val (.int p1), .val (.int p2), .val (.int p3), .val (.int p4), .val (.int k), .val (.int b0), .val (.int b1), .val (.int b2), .val (.int b3), .unset, .unset, .unset] []))
        subst g2
        show Goes p e below _ (Tt10.setTop (mkF m 71 #[.val (.int p0), .val (.int p1), .val (.int p2), .val (.int p3), .val (.int p4), .val (.int (2 : Int32)), .val (.int b0), .val (.int b1), .val (.int b2), .val (.int b3), .unset, .unset, .unset] []))
        refine gIconst Xt10 hx (hb hby at_71) (v := (2 : Int32)) rfl ?_
        obtain ⟨Tt31, ht31, kt31, Xt31, et31, Et31, At31, stt31⟩ := newP Xt10 hx hZ (hw _ (List.mem_of_getElem? (i := 5) rfl)) et10 (g := (mkF m 72 #[.val (.int p0), .val (.int p1), .val (.int p2), .val (.int p3), .val (.int p4), .val (.int (2 : Int32)), .val (.int b0), .val (.int b1), .val (.int b2), .val (.int b3), .unset, .unset, .unset] [(.int (2 : Int32))])) rfl (hb hby at_72) rfl (by decide) (cap := 2) (by decide) (by decide) (by decide) (by decide)
        obtain ⟨b32, gb32⟩ : ∃ z, z = h0.size := ⟨_, rfl⟩
        rw [← gb32] at At31 stt31
        refine go stt31 ?_
        have fr_b32 : Z.heap.size ≤ b32 := gb32 ▸ O0.1
        have O33 : Ext Z.heap ht31 := extT O0 Et31
        have Y_b32 : Ary Z ht31 b32 .byte [(.int (0 : Int32)), (.int (0 : Int32))] := Ary.new At31 rfl (by decide)
        show Goes p e below _ (Tt31.setTop (mkF m 74 #[.val (.int p0), .val (.int p1), .val (.int p2), .val (.int p3), .val (.int p4), .val (.int (2 : Int32)), .val (.int b0), .val (.int b1), .val (.int b2), .val (.int b3), .unset, .unset, .unset] [(.ref b32)]))
        refine gDup Xt31 hx (hb hby at_74) rfl ?_
        refine gIconst Xt31 hx (hb hby at_75) (v := (0 : Int32)) rfl ?_
        refine gIload Xt31 hx (hb hby at_76) rfl ?_
        refine goBastore Xt31 hx hZ et31 Y_b32 (hb hby at_78) (by decide) rfl (fun Tt34 ht34 Xt34 et34 Wt34 => ?_)
        have N35 := Fr.snoc Xt34 N12 fr_b32
        replace Y_b32 : Ary Z ht34 b32 .byte [(.int b0), (.int (0 : Int32))] := Y_b32.set Wt34 (by rw [hb0]; rfl)
        have O36 : Ext Z.heap ht34 := extW O33 Wt34 fr_b32
        show Goes p e below _ (Tt34.setTop (mkF m 79 #[.val (.int p0), .val (.int p1), .val (.int p2), .val (.int p3), .val (.int p4), .val (.int (2 : Int32)), .val (.int b0), .val (.int b1), .val (.int b2), .val (.int b3), .unset, .unset, .unset] [(.ref b32)]))
        refine gDup Xt34 hx (hb hby at_79) rfl ?_
        refine gIconst Xt34 hx (hb hby at_80) (v := (1 : Int32)) rfl ?_
        refine gIload Xt34 hx (hb hby at_81) rfl ?_
        refine goBastore Xt34 hx hZ et34 Y_b32 (hb hby at_83) (by decide) rfl (fun Tt37 ht37 Xt37 et37 Wt37 => ?_)
        have N38 := Fr.snoc Xt37 N35 fr_b32
        replace Y_b32 : Ary Z ht37 b32 .byte [(.int b0), (.int b1)] := Y_b32.set Wt37 (by rw [hb1]; rfl)
        have O39 : Ext Z.heap ht37 := extW O36 Wt37 fr_b32
        show Goes p e below _ (Tt37.setTop (mkF m 84 #[.val (.int p0), .val (.int p1), .val (.int p2), .val (.int p3), .val (.int p4), .val (.int (2 : Int32)), .val (.int b0), .val (.int b1), .val (.int b2), .val (.int b3), .unset, .unset, .unset] [(.ref b32)]))
        refine gAstore Xt37 hx (hb hby at_84) rfl (l' := #[.val (.int p0), .val (.int p1), .val (.int p2), .val (.int p3), .val (.int p4), .val (.int (2 : Int32)), .val (.int b0), .val (.int b1), .val (.int b2), .val (.int b3), .val (.ref b32), .unset, .unset]) rfl ?_
        refine gGoto Xt37 hx (hb hby at_86) (pc' := 143) (by decide) (by decide) ?_
        show Goes p e below _ (Tt37.setTop (mkF m 143 #[.val (.int p0), .val (.int p1), .val (.int p2), .val (.int p3), .val (.int p4), .val (.int (2 : Int32)), .val (.int b0), .val (.int b1), .val (.int b2), .val (.int b3), .val (.ref b32), .unset, .unset] []))
        refine gLdc2J Xt37 hx hZ hown (hw _ (List.mem_of_getElem? (i := 6) rfl)) (hb hby at_143) ?_
        refine gIload Xt37 hx (hb hby at_146) rfl ?_
        refine gI2l Xt37 hx (hb hby at_148) ?_
        refine gLmul Xt37 hx (hb hby at_149) ?_
        refine gLdc2J Xt37 hx hZ hown (hw _ (List.mem_of_getElem? (i := 7) rfl)) (hb hby at_150) ?_
        refine gLadd Xt37 hx (hb hby at_153) ?_
        refine gLstore Xt37 hx (hb hby at_154) (l' := #[.val (.int p0), .val (.int p1), .val (.int p2), .val (.int p3), .val (.int p4), .val (.int (2 : Int32)), .val (.int b0), .val (.int b1), .val (.int b2), .val (.int b3), .val (.ref b32), .val (.long (((3 : Int64) * ((2 : Int32).toInt64)) + (512 : Int64))), .second]) rfl ?_
        show Goes p e below _ (Tt37.setTop (mkF m 156 #[.val (.int p0), .val (.int p1), .val (.int p2), .val (.int p3), .val (.int p4), .val (.int (2 : Int32)), .val (.int b0), .val (.int b1), .val (.int b2), .val (.int b3), .val (.ref b32), .val (.long (((3 : Int64) * ((2 : Int32).toInt64)) + (512 : Int64))), .second] []))
        refine gIload Xt37 hx (hb hby at_156) rfl ?_
        refine gIfN Xt37 hx (hb hby at_158) (XT.i0_le_f (by decide)) ?_
        show Goes p e below _ (Tt37.setTop (mkF m 161 #[.val (.int p0), .val (.int p1), .val (.int p2), .val (.int p3), .val (.int p4), .val (.int (2 : Int32)), .val (.int b0), .val (.int b1), .val (.int b2), .val (.int b3), .val (.ref b32), .val (.long (((3 : Int64) * ((2 : Int32).toInt64)) + (512 : Int64))), .second] []))
        refine gLload Xt37 hx (hb hby at_161) rfl ?_
        refine gIload Xt37 hx (hb hby at_163) rfl ?_
        refine goCallS Xt37 hx hZ hown (hw _ (List.mem_of_getElem? (i := 14) rfl)) (hw _ (List.mem_of_getElem? (i := 15) rfl)) (hw _ (List.mem_of_getElem? (i := 3) rfl)) (hw _ (List.mem_of_getElem? (i := 16) rfl)) (by decide) (rm3 l Z a0 hw b0 ht37 O39) 2 (by decide) (by decide) et37 (hsz rfl) [(.int b0)] [(.long (((3 : Int64) * ((2 : Int32).toInt64)) + (512 : Int64)))] pd_2 rfl rfl rfl (Nat.le_of_eq rfl) (hb hby at_165) (by decide) (by decide) (fun Tt40 vt40 Lt40 Xt40 qt40 => ?_)
        obtain ⟨rfl, N41, et40⟩ := qt40
        have N42 := Fr.app N38 N41
        show Goes p e below _ (Tt40.setTop (mkF m 168 #[.val (.int p0), .val (.int p1), .val (.int p2), .val (.int p3), .val (.int p4), .val (.int (2 : Int32)), .val (.int b0), .val (.int b1), .val (.int b2), .val (.int b3), .val (.ref b32), .val (.long (((3 : Int64) * ((2 : Int32).toInt64)) + (512 : Int64))), .second] [(.long (own_w b0)), (.long (((3 : Int64) * ((2 : Int32).toInt64)) + (512 : Int64)))]))
        refine gLadd Xt40 hx (hb hby at_168) ?_
        refine gLstore Xt40 hx (hb hby at_169) (l' := #[.val (.int p0), .val (.int p1), .val (.int p2), .val (.int p3), .val (.int p4), .val (.int (2 : Int32)), .val (.int b0), .val (.int b1), .val (.int b2), .val (.int b3), .val (.ref b32), .val (.long ((((3 : Int64) * ((2 : Int32).toInt64)) + (512 : Int64)) + (own_w b0))), .second]) rfl ?_
        refine gIload Xt40 hx (hb hby at_171) rfl ?_
        refine gIconst Xt40 hx (hb hby at_173) (v := (1 : Int32)) rfl ?_
        refine gIcmpN Xt40 hx (hb hby at_174) (XT.ii_le_f (by decide)) ?_
        show Goes p e below _ (Tt40.setTop (mkF m 177 #[.val (.int p0), .val (.int p1), .val (.int p2), .val (.int p3), .val (.int p4), .val (.int (2 : Int32)), .val (.int b0), .val (.int b1), .val (.int b2), .val (.int b3), .val (.ref b32), .val (.long ((((3 : Int64) * ((2 : Int32).toInt64)) + (512 : Int64)) + (own_w b0))), .second] []))
        refine gLload Xt40 hx (hb hby at_177) rfl ?_
        refine gIload Xt40 hx (hb hby at_179) rfl ?_
        refine goCallS Xt40 hx hZ hown (hw _ (List.mem_of_getElem? (i := 14) rfl)) (hw _ (List.mem_of_getElem? (i := 15) rfl)) (hw _ (List.mem_of_getElem? (i := 3) rfl)) (hw _ (List.mem_of_getElem? (i := 16) rfl)) (by decide) (rm3 l Z a0 hw b1 ht37 O39) 2 (by decide) (by decide) et40 (hsz rfl) [(.int b1)] [(.long ((((3 : Int64) * ((2 : Int32).toInt64)) + (512 : Int64)) + (own_w b0)))] pd_2 rfl rfl rfl (Nat.le_of_eq rfl) (hb hby at_181) (by decide) (by decide) (fun Tt43 vt43 Lt43 Xt43 qt43 => ?_)
        obtain ⟨rfl, N44, et43⟩ := qt43
        have N45 := Fr.app N42 N44
        show Goes p e below _ (Tt43.setTop (mkF m 184 #[.val (.int p0), .val (.int p1), .val (.int p2), .val (.int p3), .val (.int p4), .val (.int (2 : Int32)), .val (.int b0), .val (.int b1), .val (.int b2), .val (.int b3), .val (.ref b32), .val (.long ((((3 : Int64) * ((2 : Int32).toInt64)) + (512 : Int64)) + (own_w b0))), .second] [(.long (own_w b1)), (.long ((((3 : Int64) * ((2 : Int32).toInt64)) + (512 : Int64)) + (own_w b0)))]))
        refine gLadd Xt43 hx (hb hby at_184) ?_
        refine gLstore Xt43 hx (hb hby at_185) (l' := #[.val (.int p0), .val (.int p1), .val (.int p2), .val (.int p3), .val (.int p4), .val (.int (2 : Int32)), .val (.int b0), .val (.int b1), .val (.int b2), .val (.int b3), .val (.ref b32), .val (.long (((((3 : Int64) * ((2 : Int32).toInt64)) + (512 : Int64)) + (own_w b0)) + (own_w b1))), .second]) rfl ?_
        refine gIload Xt43 hx (hb hby at_187) rfl ?_
        refine gIconst Xt43 hx (hb hby at_189) (v := (2 : Int32)) rfl ?_
        refine gIcmpY Xt43 hx (hb hby at_190) (pc' := 203) (XT.ii_le_t (by decide)) (by decide) (by decide) ?_
        show Goes p e below _ (Tt43.setTop (mkF m 203 #[.val (.int p0), .val (.int p1), .val (.int p2), .val (.int p3), .val (.int p4), .val (.int (2 : Int32)), .val (.int b0), .val (.int b1), .val (.int b2), .val (.int b3), .val (.ref b32), .val (.long (((((3 : Int64) * ((2 : Int32).toInt64)) + (512 : Int64)) + (own_w b0)) + (own_w b1))), .second] []))
        refine gIload Xt43 hx (hb hby at_203) rfl ?_
        refine gIconst Xt43 hx (hb hby at_205) (v := (3 : Int32)) rfl ?_
        refine gIcmpY Xt43 hx (hb hby at_206) (pc' := 219) (XT.ii_le_t (by decide)) (by decide) (by decide) ?_
        show Goes p e below _ (Tt43.setTop (mkF m 219 #[.val (.int p0), .val (.int p1), .val (.int p2), .val (.int p3), .val (.int p4), .val (.int (2 : Int32)), .val (.int b0), .val (.int b1), .val (.int b2), .val (.int b3), .val (.ref b32), .val (.long (((((3 : Int64) * ((2 : Int32).toInt64)) + (512 : Int64)) + (own_w b0)) + (own_w b1))), .second] []))
        refine gAload Xt43 hx (hb hby at_219) rfl rfl ?_
        refine goCallS Xt43 hx hZ hown (hw _ (List.mem_of_getElem? (i := 8) rfl)) (hw _ (List.mem_of_getElem? (i := 9) rfl)) (hw _ (List.mem_of_getElem? (i := 10) rfl)) (hw _ (List.mem_of_getElem? (i := 11) rfl)) (by decide) (rm2 l Z a0 hw [b0, b1] b32 ht37 O39 Y_b32 (by simp)) 0 (by decide) (by decide) et43 (hsz rfl) [(.ref b32)] [] pd_1 rfl rfl rfl (Nat.le_of_eq rfl) (hb hby at_221) (by decide) (by decide) (fun Tt46 vt46 Lt46 Xt46 qt46 => ?_)
        obtain ⟨rfl, N47, et46⟩ := qt46
        have N48 := Fr.app N45 N47
        show Goes p e below _ (Tt46.setTop (mkF m 224 #[.val (.int p0), .val (.int p1), .val (.int p2), .val (.int p3), .val (.int p4), .val (.int (2 : Int32)), .val (.int b0), .val (.int b1), .val (.int b2), .val (.int b3), .val (.ref b32), .val (.long (((((3 : Int64) * ((2 : Int32).toInt64)) + (512 : Int64)) + (own_w b0)) + (own_w b1))), .second] [(.long (own_mem [b0, b1]))]))
        refine gLload Xt46 hx (hb hby at_224) rfl ?_
        refine gLcmp Xt46 hx (hb hby at_226) ?_
        refine gIfN Xt46 hx (hb hby at_227) (XT.ll_ne_f rfl) ?_
        show Goes p e below _ (Tt46.setTop (mkF m 230 #[.val (.int p0), .val (.int p1), .val (.int p2), .val (.int p3), .val (.int p4), .val (.int (2 : Int32)), .val (.int b0), .val (.int b1), .val (.int b2), .val (.int b3), .val (.ref b32), .val (.long (((((3 : Int64) * ((2 : Int32).toInt64)) + (512 : Int64)) + (own_w b0)) + (own_w b1))), .second] []))
        refine gIconst Xt46 hx (hb hby at_230) (v := (1 : Int32)) rfl ?_
        refine gGoto Xt46 hx (hb hby at_231) (pc' := 235) (by decide) (by decide) ?_
        show Goes p e below _ (Tt46.setTop (mkF m 235 #[.val (.int p0), .val (.int p1), .val (.int p2), .val (.int p3), .val (.int p4), .val (.int (2 : Int32)), .val (.int b0), .val (.int b1), .val (.int b2), .val (.int b3), .val (.ref b32), .val (.long (((((3 : Int64) * ((2 : Int32).toInt64)) + (512 : Int64)) + (own_w b0)) + (own_w b1))), .second] [(.int (1 : Int32))]))
        exact goRetN Xt46 hx (t := .boolean) hret hlocks (by simp) (hb hby at_235) (z' := (1 : Int32)) rfl (by decide) (by decide) et46 (⟨rfl, N48⟩)
      · refine gIcmpY Xt10 hx (hb hby at_68) (pc' := 89) (XT.ii_ne_t g2) (by decide) (by decide) ?_
        show Goes p e below _ (Tt10.setTop (mkF m 89 #[.val (.int p0), .val (.int p1), .val (.int p2), .val (.int p3), .val (.int p4), .val (.int k), .val (.int b0), .val (.int b1), .val (.int b2), .val (.int b3), .unset, .unset, .unset] []))
        refine gIload Xt10 hx (hb hby at_89) rfl ?_
        refine gIconst Xt10 hx (hb hby at_91) (v := (3 : Int32)) rfl ?_
        by_cases g3 : k = (3 : Int32)
        · refine gIcmpN Xt10 hx (hb hby at_92) (XT.ii_ne_f g3) ?_
          show Goes p e below _ (Tt10.setTop (mkF m 95 #[.val (.int p0), .val (.int p1), .val (.int p2), .val (.int p3), .val (.int p4), .val (.int k), .val (.int b0), .val (.int b1), .val (.int b2), .val (.int b3), .unset, .unset, .unset] []))
          subst g3
          show Goes p e below _ (Tt10.setTop (mkF m 95 #[.val (.int p0), .val (.int p1), .val (.int p2), .val (.int p3), .val (.int p4), .val (.int (3 : Int32)), .val (.int b0), .val (.int b1), .val (.int b2), .val (.int b3), .unset, .unset, .unset] []))
          refine gIconst Xt10 hx (hb hby at_95) (v := (3 : Int32)) rfl ?_
          obtain ⟨Tt49, ht49, kt49, Xt49, et49, Et49, At49, stt49⟩ := newP Xt10 hx hZ (hw _ (List.mem_of_getElem? (i := 5) rfl)) et10 (g := (mkF m 96 #[.val (.int p0), .val (.int p1), .val (.int p2), .val (.int p3), .val (.int p4), .val (.int (3 : Int32)), .val (.int b0), .val (.int b1), .val (.int b2), .val (.int b3), .unset, .unset, .unset] [(.int (3 : Int32))])) rfl (hb hby at_96) rfl (by decide) (cap := 3) (by decide) (by decide) (by decide) (by decide)
          obtain ⟨b50, gb50⟩ : ∃ z, z = h0.size := ⟨_, rfl⟩
          rw [← gb50] at At49 stt49
          refine go stt49 ?_
          have fr_b50 : Z.heap.size ≤ b50 := gb50 ▸ O0.1
          have O51 : Ext Z.heap ht49 := extT O0 Et49
          have Y_b50 : Ary Z ht49 b50 .byte [(.int (0 : Int32)), (.int (0 : Int32)), (.int (0 : Int32))] := Ary.new At49 rfl (by decide)
          show Goes p e below _ (Tt49.setTop (mkF m 98 #[.val (.int p0), .val (.int p1), .val (.int p2), .val (.int p3), .val (.int p4), .val (.int (3 : Int32)), .val (.int b0), .val (.int b1), .val (.int b2), .val (.int b3), .unset, .unset, .unset] [(.ref b50)]))
          refine gDup Xt49 hx (hb hby at_98) rfl ?_
          refine gIconst Xt49 hx (hb hby at_99) (v := (0 : Int32)) rfl ?_
          refine gIload Xt49 hx (hb hby at_100) rfl ?_
          refine goBastore Xt49 hx hZ et49 Y_b50 (hb hby at_102) (by decide) rfl (fun Tt52 ht52 Xt52 et52 Wt52 => ?_)
          have N53 := Fr.snoc Xt52 N12 fr_b50
          replace Y_b50 : Ary Z ht52 b50 .byte [(.int b0), (.int (0 : Int32)), (.int (0 : Int32))] := Y_b50.set Wt52 (by rw [hb0]; rfl)
          have O54 : Ext Z.heap ht52 := extW O51 Wt52 fr_b50
          show Goes p e below _ (Tt52.setTop (mkF m 103 #[.val (.int p0), .val (.int p1), .val (.int p2), .val (.int p3), .val (.int p4), .val (.int (3 : Int32)), .val (.int b0), .val (.int b1), .val (.int b2), .val (.int b3), .unset, .unset, .unset] [(.ref b50)]))
          refine gDup Xt52 hx (hb hby at_103) rfl ?_
          refine gIconst Xt52 hx (hb hby at_104) (v := (1 : Int32)) rfl ?_
          refine gIload Xt52 hx (hb hby at_105) rfl ?_
          refine goBastore Xt52 hx hZ et52 Y_b50 (hb hby at_107) (by decide) rfl (fun Tt55 ht55 Xt55 et55 Wt55 => ?_)
          have N56 := Fr.snoc Xt55 N53 fr_b50
          replace Y_b50 : Ary Z ht55 b50 .byte [(.int b0), (.int b1), (.int (0 : Int32))] := Y_b50.set Wt55 (by rw [hb1]; rfl)
          have O57 : Ext Z.heap ht55 := extW O54 Wt55 fr_b50
          show Goes p e below _ (Tt55.setTop (mkF m 108 #[.val (.int p0), .val (.int p1), .val (.int p2), .val (.int p3), .val (.int p4), .val (.int (3 : Int32)), .val (.int b0), .val (.int b1), .val (.int b2), .val (.int b3), .unset, .unset, .unset] [(.ref b50)]))
          refine gDup Xt55 hx (hb hby at_108) rfl ?_
          refine gIconst Xt55 hx (hb hby at_109) (v := (2 : Int32)) rfl ?_
          refine gIload Xt55 hx (hb hby at_110) rfl ?_
          refine goBastore Xt55 hx hZ et55 Y_b50 (hb hby at_112) (by decide) rfl (fun Tt58 ht58 Xt58 et58 Wt58 => ?_)
          have N59 := Fr.snoc Xt58 N56 fr_b50
          replace Y_b50 : Ary Z ht58 b50 .byte [(.int b0), (.int b1), (.int b2)] := Y_b50.set Wt58 (by rw [hb2]; rfl)
          have O60 : Ext Z.heap ht58 := extW O57 Wt58 fr_b50
          show Goes p e below _ (Tt58.setTop (mkF m 113 #[.val (.int p0), .val (.int p1), .val (.int p2), .val (.int p3), .val (.int p4), .val (.int (3 : Int32)), .val (.int b0), .val (.int b1), .val (.int b2), .val (.int b3), .unset, .unset, .unset] [(.ref b50)]))
          refine gAstore Xt58 hx (hb hby at_113) rfl (l' := #[.val (.int p0), .val (.int p1), .val (.int p2), .val (.int p3), .val (.int p4), .val (.int (3 : Int32)), .val (.int b0), .val (.int b1), .val (.int b2), .val (.int b3), .val (.ref b50), .unset, .unset]) rfl ?_
          refine gGoto Xt58 hx (hb hby at_115) (pc' := 143) (by decide) (by decide) ?_
          show Goes p e below _ (Tt58.setTop (mkF m 143 #[.val (.int p0), .val (.int p1), .val (.int p2), .val (.int p3), .val (.int p4), .val (.int (3 : Int32)), .val (.int b0), .val (.int b1), .val (.int b2), .val (.int b3), .val (.ref b50), .unset, .unset] []))
          refine gLdc2J Xt58 hx hZ hown (hw _ (List.mem_of_getElem? (i := 6) rfl)) (hb hby at_143) ?_
          refine gIload Xt58 hx (hb hby at_146) rfl ?_
          refine gI2l Xt58 hx (hb hby at_148) ?_
          refine gLmul Xt58 hx (hb hby at_149) ?_
          refine gLdc2J Xt58 hx hZ hown (hw _ (List.mem_of_getElem? (i := 7) rfl)) (hb hby at_150) ?_
          refine gLadd Xt58 hx (hb hby at_153) ?_
          refine gLstore Xt58 hx (hb hby at_154) (l' := #[.val (.int p0), .val (.int p1), .val (.int p2), .val (.int p3), .val (.int p4), .val (.int (3 : Int32)), .val (.int b0), .val (.int b1), .val (.int b2), .val (.int b3), .val (.ref b50), .val (.long (((3 : Int64) * ((3 : Int32).toInt64)) + (512 : Int64))), .second]) rfl ?_
          show Goes p e below _ (Tt58.setTop (mkF m 156 #[.val (.int p0), .val (.int p1), .val (.int p2), .val (.int p3), .val (.int p4), .val (.int (3 : Int32)), .val (.int b0), .val (.int b1), .val (.int b2), .val (.int b3), .val (.ref b50), .val (.long (((3 : Int64) * ((3 : Int32).toInt64)) + (512 : Int64))), .second] []))
          refine gIload Xt58 hx (hb hby at_156) rfl ?_
          refine gIfN Xt58 hx (hb hby at_158) (XT.i0_le_f (by decide)) ?_
          show Goes p e below _ (Tt58.setTop (mkF m 161 #[.val (.int p0), .val (.int p1), .val (.int p2), .val (.int p3), .val (.int p4), .val (.int (3 : Int32)), .val (.int b0), .val (.int b1), .val (.int b2), .val (.int b3), .val (.ref b50), .val (.long (((3 : Int64) * ((3 : Int32).toInt64)) + (512 : Int64))), .second] []))
          refine gLload Xt58 hx (hb hby at_161) rfl ?_
          refine gIload Xt58 hx (hb hby at_163) rfl ?_
          refine goCallS Xt58 hx hZ hown (hw _ (List.mem_of_getElem? (i := 14) rfl)) (hw _ (List.mem_of_getElem? (i := 15) rfl)) (hw _ (List.mem_of_getElem? (i := 3) rfl)) (hw _ (List.mem_of_getElem? (i := 16) rfl)) (by decide) (rm3 l Z a0 hw b0 ht58 O60) 2 (by decide) (by decide) et58 (hsz rfl) [(.int b0)] [(.long (((3 : Int64) * ((3 : Int32).toInt64)) + (512 : Int64)))] pd_2 rfl rfl rfl (Nat.le_of_eq rfl) (hb hby at_165) (by decide) (by decide) (fun Tt61 vt61 Lt61 Xt61 qt61 => ?_)
          obtain ⟨rfl, N62, et61⟩ := qt61
          have N63 := Fr.app N59 N62
          show Goes p e below _ (Tt61.setTop (mkF m 168 #[.val (.int p0), .val (.int p1), .val (.int p2), .val (.int p3), .val (.int p4), .val (.int (3 : Int32)), .val (.int b0), .val (.int b1), .val (.int b2), .val (.int b3), .val (.ref b50), .val (.long (((3 : Int64) * ((3 : Int32).toInt64)) + (512 : Int64))), .second] [(.long (own_w b0)), (.long (((3 : Int64) * ((3 : Int32).toInt64)) + (512 : Int64)))]))
          refine gLadd Xt61 hx (hb hby at_168) ?_
          refine gLstore Xt61 hx (hb hby at_169) (l' := #[.val (.int p0), .val (.int p1), .val (.int p2), .val (.int p3), .val (.int p4), .val (.int (3 : Int32)), .val (.int b0), .val (.int b1), .val (.int b2), .val (.int b3), .val (.ref b50), .val (.long ((((3 : Int64) * ((3 : Int32).toInt64)) + (512 : Int64)) + (own_w b0))), .second]) rfl ?_
          refine gIload Xt61 hx (hb hby at_171) rfl ?_
          refine gIconst Xt61 hx (hb hby at_173) (v := (1 : Int32)) rfl ?_
          refine gIcmpN Xt61 hx (hb hby at_174) (XT.ii_le_f (by decide)) ?_
          show Goes p e below _ (Tt61.setTop (mkF m 177 #[.val (.int p0), .val (.int p1), .val (.int p2), .val (.int p3), .val (.int p4), .val (.int (3 : Int32)), .val (.int b0), .val (.int b1), .val (.int b2), .val (.int b3), .val (.ref b50), .val (.long ((((3 : Int64) * ((3 : Int32).toInt64)) + (512 : Int64)) + (own_w b0))), .second] []))
          refine gLload Xt61 hx (hb hby at_177) rfl ?_
          refine gIload Xt61 hx (hb hby at_179) rfl ?_
          refine goCallS Xt61 hx hZ hown (hw _ (List.mem_of_getElem? (i := 14) rfl)) (hw _ (List.mem_of_getElem? (i := 15) rfl)) (hw _ (List.mem_of_getElem? (i := 3) rfl)) (hw _ (List.mem_of_getElem? (i := 16) rfl)) (by decide) (rm3 l Z a0 hw b1 ht58 O60) 2 (by decide) (by decide) et61 (hsz rfl) [(.int b1)] [(.long ((((3 : Int64) * ((3 : Int32).toInt64)) + (512 : Int64)) + (own_w b0)))] pd_2 rfl rfl rfl (Nat.le_of_eq rfl) (hb hby at_181) (by decide) (by decide) (fun Tt64 vt64 Lt64 Xt64 qt64 => ?_)
          obtain ⟨rfl, N65, et64⟩ := qt64
          have N66 := Fr.app N63 N65
          show Goes p e below _ (Tt64.setTop (mkF m 184 #[.val (.int p0), .val (.int p1), .val (.int p2), .val (.int p3), .val (.int p4), .val (.int (3 : Int32)), .val (.int b0), .val (.int b1), .val (.int b2), .val (.int b3), .val (.ref b50), .val (.long ((((3 : Int64) * ((3 : Int32).toInt64)) + (512 : Int64)) + (own_w b0))), .second] [(.long (own_w b1)), (.long ((((3 : Int64) * ((3 : Int32).toInt64)) + (512 : Int64)) + (own_w b0)))]))
          refine gLadd Xt64 hx (hb hby at_184) ?_
          refine gLstore Xt64 hx (hb hby at_185) (l' := #[.val (.int p0), .val (.int p1), .val (.int p2), .val (.int p3), .val (.int p4), .val (.int (3 : Int32)), .val (.int b0), .val (.int b1), .val (.int b2), .val (.int b3), .val (.ref b50), .val (.long (((((3 : Int64) * ((3 : Int32).toInt64)) + (512 : Int64)) + (own_w b0)) + (own_w b1))), .second]) rfl ?_
          refine gIload Xt64 hx (hb hby at_187) rfl ?_
          refine gIconst Xt64 hx (hb hby at_189) (v := (2 : Int32)) rfl ?_
          refine gIcmpN Xt64 hx (hb hby at_190) (XT.ii_le_f (by decide)) ?_
          show Goes p e below _ (Tt64.setTop (mkF m 193 #[.val (.int p0), .val (.int p1), .val (.int p2), .val (.int p3), .val (.int p4), .val (.int (3 : Int32)), .val (.int b0), .val (.int b1), .val (.int b2), .val (.int b3), .val (.ref b50), .val (.long (((((3 : Int64) * ((3 : Int32).toInt64)) + (512 : Int64)) + (own_w b0)) + (own_w b1))), .second] []))
          refine gLload Xt64 hx (hb hby at_193) rfl ?_
          refine gIload Xt64 hx (hb hby at_195) rfl ?_
          refine goCallS Xt64 hx hZ hown (hw _ (List.mem_of_getElem? (i := 14) rfl)) (hw _ (List.mem_of_getElem? (i := 15) rfl)) (hw _ (List.mem_of_getElem? (i := 3) rfl)) (hw _ (List.mem_of_getElem? (i := 16) rfl)) (by decide) (rm3 l Z a0 hw b2 ht58 O60) 2 (by decide) (by decide) et64 (hsz rfl) [(.int b2)] [(.long (((((3 : Int64) * ((3 : Int32).toInt64)) + (512 : Int64)) + (own_w b0)) + (own_w b1)))] pd_2 rfl rfl rfl (Nat.le_of_eq rfl) (hb hby at_197) (by decide) (by decide) (fun Tt67 vt67 Lt67 Xt67 qt67 => ?_)
          obtain ⟨rfl, N68, et67⟩ := qt67
          have N69 := Fr.app N66 N68
          show Goes p e below _ (Tt67.setTop (mkF m 200 #[.val (.int p0), .val (.int p1), .val (.int p2), .val (.int p3), .val (.int p4), .val (.int (3 : Int32)), .val (.int b0), .val (.int b1), .val (.int b2), .val (.int b3), .val (.ref b50), .val (.long (((((3 : Int64) * ((3 : Int32).toInt64)) + (512 : Int64)) + (own_w b0)) + (own_w b1))), .second] [(.long (own_w b2)), (.long (((((3 : Int64) * ((3 : Int32).toInt64)) + (512 : Int64)) + (own_w b0)) + (own_w b1)))]))
          refine gLadd Xt67 hx (hb hby at_200) ?_
          refine gLstore Xt67 hx (hb hby at_201) (l' := #[.val (.int p0), .val (.int p1), .val (.int p2), .val (.int p3), .val (.int p4), .val (.int (3 : Int32)), .val (.int b0), .val (.int b1), .val (.int b2), .val (.int b3), .val (.ref b50), .val (.long ((((((3 : Int64) * ((3 : Int32).toInt64)) + (512 : Int64)) + (own_w b0)) + (own_w b1)) + (own_w b2))), .second]) rfl ?_
          refine gIload Xt67 hx (hb hby at_203) rfl ?_
          refine gIconst Xt67 hx (hb hby at_205) (v := (3 : Int32)) rfl ?_
          refine gIcmpY Xt67 hx (hb hby at_206) (pc' := 219) (XT.ii_le_t (by decide)) (by decide) (by decide) ?_
          show Goes p e below _ (Tt67.setTop (mkF m 219 #[.val (.int p0), .val (.int p1), .val (.int p2), .val (.int p3), .val (.int p4), .val (.int (3 : Int32)), .val (.int b0), .val (.int b1), .val (.int b2), .val (.int b3), .val (.ref b50), .val (.long ((((((3 : Int64) * ((3 : Int32).toInt64)) + (512 : Int64)) + (own_w b0)) + (own_w b1)) + (own_w b2))), .second] []))
          refine gAload Xt67 hx (hb hby at_219) rfl rfl ?_
          refine goCallS Xt67 hx hZ hown (hw _ (List.mem_of_getElem? (i := 8) rfl)) (hw _ (List.mem_of_getElem? (i := 9) rfl)) (hw _ (List.mem_of_getElem? (i := 10) rfl)) (hw _ (List.mem_of_getElem? (i := 11) rfl)) (by decide) (rm2 l Z a0 hw [b0, b1, b2] b50 ht58 O60 Y_b50 (by simp)) 0 (by decide) (by decide) et67 (hsz rfl) [(.ref b50)] [] pd_1 rfl rfl rfl (Nat.le_of_eq rfl) (hb hby at_221) (by decide) (by decide) (fun Tt70 vt70 Lt70 Xt70 qt70 => ?_)
          obtain ⟨rfl, N71, et70⟩ := qt70
          have N72 := Fr.app N69 N71
          show Goes p e below _ (Tt70.setTop (mkF m 224 #[.val (.int p0), .val (.int p1), .val (.int p2), .val (.int p3), .val (.int p4), .val (.int (3 : Int32)), .val (.int b0), .val (.int b1), .val (.int b2), .val (.int b3), .val (.ref b50), .val (.long ((((((3 : Int64) * ((3 : Int32).toInt64)) + (512 : Int64)) + (own_w b0)) + (own_w b1)) + (own_w b2))), .second] [(.long (own_mem [b0, b1, b2]))]))
          refine gLload Xt70 hx (hb hby at_224) rfl ?_
          refine gLcmp Xt70 hx (hb hby at_226) ?_
          refine gIfN Xt70 hx (hb hby at_227) (XT.ll_ne_f rfl) ?_
          show Goes p e below _ (Tt70.setTop (mkF m 230 #[.val (.int p0), .val (.int p1), .val (.int p2), .val (.int p3), .val (.int p4), .val (.int (3 : Int32)), .val (.int b0), .val (.int b1), .val (.int b2), .val (.int b3), .val (.ref b50), .val (.long ((((((3 : Int64) * ((3 : Int32).toInt64)) + (512 : Int64)) + (own_w b0)) + (own_w b1)) + (own_w b2))), .second] []))
          refine gIconst Xt70 hx (hb hby at_230) (v := (1 : Int32)) rfl ?_
          refine gGoto Xt70 hx (hb hby at_231) (pc' := 235) (by decide) (by decide) ?_
          show Goes p e below _ (Tt70.setTop (mkF m 235 #[.val (.int p0), .val (.int p1), .val (.int p2), .val (.int p3), .val (.int p4), .val (.int (3 : Int32)), .val (.int b0), .val (.int b1), .val (.int b2), .val (.int b3), .val (.ref b50), .val (.long ((((((3 : Int64) * ((3 : Int32).toInt64)) + (512 : Int64)) + (own_w b0)) + (own_w b1)) + (own_w b2))), .second] [(.int (1 : Int32))]))
          exact goRetN Xt70 hx (t := .boolean) hret hlocks (by simp) (hb hby at_235) (z' := (1 : Int32)) rfl (by decide) (by decide) et70 (⟨rfl, N72⟩)
        · refine gIcmpY Xt10 hx (hb hby at_92) (pc' := 118) (XT.ii_ne_t g3) (by decide) (by decide) ?_
          show Goes p e below _ (Tt10.setTop (mkF m 118 #[.val (.int p0), .val (.int p1), .val (.int p2), .val (.int p3), .val (.int p4), .val (.int k), .val (.int b0), .val (.int b1), .val (.int b2), .val (.int b3), .unset, .unset, .unset] []))
          obtain rfl : k = 4 := by
            rcases h5 with q | q | q | q | q
            · exact absurd q g0
            · exact absurd q g1
            · exact absurd q g2
            · exact absurd q g3
            · exact q
          show Goes p e below _ (Tt10.setTop (mkF m 118 #[.val (.int p0), .val (.int p1), .val (.int p2), .val (.int p3), .val (.int p4), .val (.int (4 : Int32)), .val (.int b0), .val (.int b1), .val (.int b2), .val (.int b3), .unset, .unset, .unset] []))
          refine gIconst Xt10 hx (hb hby at_118) (v := (4 : Int32)) rfl ?_
          obtain ⟨Tt73, ht73, kt73, Xt73, et73, Et73, At73, stt73⟩ := newP Xt10 hx hZ (hw _ (List.mem_of_getElem? (i := 5) rfl)) et10 (g := (mkF m 119 #[.val (.int p0), .val (.int p1), .val (.int p2), .val (.int p3), .val (.int p4), .val (.int (4 : Int32)), .val (.int b0), .val (.int b1), .val (.int b2), .val (.int b3), .unset, .unset, .unset] [(.int (4 : Int32))])) rfl (hb hby at_119) rfl (by decide) (cap := 4) (by decide) (by decide) (by decide) (by decide)
          obtain ⟨b74, gb74⟩ : ∃ z, z = h0.size := ⟨_, rfl⟩
          rw [← gb74] at At73 stt73
          refine go stt73 ?_
          have fr_b74 : Z.heap.size ≤ b74 := gb74 ▸ O0.1
          have O75 : Ext Z.heap ht73 := extT O0 Et73
          have Y_b74 : Ary Z ht73 b74 .byte [(.int (0 : Int32)), (.int (0 : Int32)), (.int (0 : Int32)), (.int (0 : Int32))] := Ary.new At73 rfl (by decide)
          show Goes p e below _ (Tt73.setTop (mkF m 121 #[.val (.int p0), .val (.int p1), .val (.int p2), .val (.int p3), .val (.int p4), .val (.int (4 : Int32)), .val (.int b0), .val (.int b1), .val (.int b2), .val (.int b3), .unset, .unset, .unset] [(.ref b74)]))
          refine gDup Xt73 hx (hb hby at_121) rfl ?_
          refine gIconst Xt73 hx (hb hby at_122) (v := (0 : Int32)) rfl ?_
          refine gIload Xt73 hx (hb hby at_123) rfl ?_
          refine goBastore Xt73 hx hZ et73 Y_b74 (hb hby at_125) (by decide) rfl (fun Tt76 ht76 Xt76 et76 Wt76 => ?_)
          have N77 := Fr.snoc Xt76 N12 fr_b74
          replace Y_b74 : Ary Z ht76 b74 .byte [(.int b0), (.int (0 : Int32)), (.int (0 : Int32)), (.int (0 : Int32))] := Y_b74.set Wt76 (by rw [hb0]; rfl)
          have O78 : Ext Z.heap ht76 := extW O75 Wt76 fr_b74
          show Goes p e below _ (Tt76.setTop (mkF m 126 #[.val (.int p0), .val (.int p1), .val (.int p2), .val (.int p3), .val (.int p4), .val (.int (4 : Int32)), .val (.int b0), .val (.int b1), .val (.int b2), .val (.int b3), .unset, .unset, .unset] [(.ref b74)]))
          refine gDup Xt76 hx (hb hby at_126) rfl ?_
          refine gIconst Xt76 hx (hb hby at_127) (v := (1 : Int32)) rfl ?_
          refine gIload Xt76 hx (hb hby at_128) rfl ?_
          refine goBastore Xt76 hx hZ et76 Y_b74 (hb hby at_130) (by decide) rfl (fun Tt79 ht79 Xt79 et79 Wt79 => ?_)
          have N80 := Fr.snoc Xt79 N77 fr_b74
          replace Y_b74 : Ary Z ht79 b74 .byte [(.int b0), (.int b1), (.int (0 : Int32)), (.int (0 : Int32))] := Y_b74.set Wt79 (by rw [hb1]; rfl)
          have O81 : Ext Z.heap ht79 := extW O78 Wt79 fr_b74
          show Goes p e below _ (Tt79.setTop (mkF m 131 #[.val (.int p0), .val (.int p1), .val (.int p2), .val (.int p3), .val (.int p4), .val (.int (4 : Int32)), .val (.int b0), .val (.int b1), .val (.int b2), .val (.int b3), .unset, .unset, .unset] [(.ref b74)]))
          refine gDup Xt79 hx (hb hby at_131) rfl ?_
          refine gIconst Xt79 hx (hb hby at_132) (v := (2 : Int32)) rfl ?_
          refine gIload Xt79 hx (hb hby at_133) rfl ?_
          refine goBastore Xt79 hx hZ et79 Y_b74 (hb hby at_135) (by decide) rfl (fun Tt82 ht82 Xt82 et82 Wt82 => ?_)
          have N83 := Fr.snoc Xt82 N80 fr_b74
          replace Y_b74 : Ary Z ht82 b74 .byte [(.int b0), (.int b1), (.int b2), (.int (0 : Int32))] := Y_b74.set Wt82 (by rw [hb2]; rfl)
          have O84 : Ext Z.heap ht82 := extW O81 Wt82 fr_b74
          show Goes p e below _ (Tt82.setTop (mkF m 136 #[.val (.int p0), .val (.int p1), .val (.int p2), .val (.int p3), .val (.int p4), .val (.int (4 : Int32)), .val (.int b0), .val (.int b1), .val (.int b2), .val (.int b3), .unset, .unset, .unset] [(.ref b74)]))
          refine gDup Xt82 hx (hb hby at_136) rfl ?_
          refine gIconst Xt82 hx (hb hby at_137) (v := (3 : Int32)) rfl ?_
          refine gIload Xt82 hx (hb hby at_138) rfl ?_
          refine goBastore Xt82 hx hZ et82 Y_b74 (hb hby at_140) (by decide) rfl (fun Tt85 ht85 Xt85 et85 Wt85 => ?_)
          have N86 := Fr.snoc Xt85 N83 fr_b74
          replace Y_b74 : Ary Z ht85 b74 .byte [(.int b0), (.int b1), (.int b2), (.int b3)] := Y_b74.set Wt85 (by rw [hb3]; rfl)
          have O87 : Ext Z.heap ht85 := extW O84 Wt85 fr_b74
          show Goes p e below _ (Tt85.setTop (mkF m 141 #[.val (.int p0), .val (.int p1), .val (.int p2), .val (.int p3), .val (.int p4), .val (.int (4 : Int32)), .val (.int b0), .val (.int b1), .val (.int b2), .val (.int b3), .unset, .unset, .unset] [(.ref b74)]))
          refine gAstore Xt85 hx (hb hby at_141) rfl (l' := #[.val (.int p0), .val (.int p1), .val (.int p2), .val (.int p3), .val (.int p4), .val (.int (4 : Int32)), .val (.int b0), .val (.int b1), .val (.int b2), .val (.int b3), .val (.ref b74), .unset, .unset]) rfl ?_
          refine gLdc2J Xt85 hx hZ hown (hw _ (List.mem_of_getElem? (i := 6) rfl)) (hb hby at_143) ?_
          refine gIload Xt85 hx (hb hby at_146) rfl ?_
          refine gI2l Xt85 hx (hb hby at_148) ?_
          refine gLmul Xt85 hx (hb hby at_149) ?_
          refine gLdc2J Xt85 hx hZ hown (hw _ (List.mem_of_getElem? (i := 7) rfl)) (hb hby at_150) ?_
          refine gLadd Xt85 hx (hb hby at_153) ?_
          show Goes p e below _ (Tt85.setTop (mkF m 154 #[.val (.int p0), .val (.int p1), .val (.int p2), .val (.int p3), .val (.int p4), .val (.int (4 : Int32)), .val (.int b0), .val (.int b1), .val (.int b2), .val (.int b3), .val (.ref b74), .unset, .unset] [(.long (((3 : Int64) * ((4 : Int32).toInt64)) + (512 : Int64)))]))
          refine gLstore Xt85 hx (hb hby at_154) (l' := #[.val (.int p0), .val (.int p1), .val (.int p2), .val (.int p3), .val (.int p4), .val (.int (4 : Int32)), .val (.int b0), .val (.int b1), .val (.int b2), .val (.int b3), .val (.ref b74), .val (.long (((3 : Int64) * ((4 : Int32).toInt64)) + (512 : Int64))), .second]) rfl ?_
          refine gIload Xt85 hx (hb hby at_156) rfl ?_
          refine gIfN Xt85 hx (hb hby at_158) (XT.i0_le_f (by decide)) ?_
          show Goes p e below _ (Tt85.setTop (mkF m 161 #[.val (.int p0), .val (.int p1), .val (.int p2), .val (.int p3), .val (.int p4), .val (.int (4 : Int32)), .val (.int b0), .val (.int b1), .val (.int b2), .val (.int b3), .val (.ref b74), .val (.long (((3 : Int64) * ((4 : Int32).toInt64)) + (512 : Int64))), .second] []))
          refine gLload Xt85 hx (hb hby at_161) rfl ?_
          refine gIload Xt85 hx (hb hby at_163) rfl ?_
          refine goCallS Xt85 hx hZ hown (hw _ (List.mem_of_getElem? (i := 14) rfl)) (hw _ (List.mem_of_getElem? (i := 15) rfl)) (hw _ (List.mem_of_getElem? (i := 3) rfl)) (hw _ (List.mem_of_getElem? (i := 16) rfl)) (by decide) (rm3 l Z a0 hw b0 ht85 O87) 2 (by decide) (by decide) et85 (hsz rfl) [(.int b0)] [(.long (((3 : Int64) * ((4 : Int32).toInt64)) + (512 : Int64)))] pd_2 rfl rfl rfl (Nat.le_of_eq rfl) (hb hby at_165) (by decide) (by decide) (fun Tt88 vt88 Lt88 Xt88 qt88 => ?_)
          obtain ⟨rfl, N89, et88⟩ := qt88
          have N90 := Fr.app N86 N89
          show Goes p e below _ (Tt88.setTop (mkF m 168 #[.val (.int p0), .val (.int p1), .val (.int p2), .val (.int p3), .val (.int p4), .val (.int (4 : Int32)), .val (.int b0), .val (.int b1), .val (.int b2), .val (.int b3), .val (.ref b74), .val (.long (((3 : Int64) * ((4 : Int32).toInt64)) + (512 : Int64))), .second] [(.long (own_w b0)), (.long (((3 : Int64) * ((4 : Int32).toInt64)) + (512 : Int64)))]))
          refine gLadd Xt88 hx (hb hby at_168) ?_
          refine gLstore Xt88 hx (hb hby at_169) (l' := #[.val (.int p0), .val (.int p1), .val (.int p2), .val (.int p3), .val (.int p4), .val (.int (4 : Int32)), .val (.int b0), .val (.int b1), .val (.int b2), .val (.int b3), .val (.ref b74), .val (.long ((((3 : Int64) * ((4 : Int32).toInt64)) + (512 : Int64)) + (own_w b0))), .second]) rfl ?_
          refine gIload Xt88 hx (hb hby at_171) rfl ?_
          refine gIconst Xt88 hx (hb hby at_173) (v := (1 : Int32)) rfl ?_
          refine gIcmpN Xt88 hx (hb hby at_174) (XT.ii_le_f (by decide)) ?_
          show Goes p e below _ (Tt88.setTop (mkF m 177 #[.val (.int p0), .val (.int p1), .val (.int p2), .val (.int p3), .val (.int p4), .val (.int (4 : Int32)), .val (.int b0), .val (.int b1), .val (.int b2), .val (.int b3), .val (.ref b74), .val (.long ((((3 : Int64) * ((4 : Int32).toInt64)) + (512 : Int64)) + (own_w b0))), .second] []))
          refine gLload Xt88 hx (hb hby at_177) rfl ?_
          refine gIload Xt88 hx (hb hby at_179) rfl ?_
          refine goCallS Xt88 hx hZ hown (hw _ (List.mem_of_getElem? (i := 14) rfl)) (hw _ (List.mem_of_getElem? (i := 15) rfl)) (hw _ (List.mem_of_getElem? (i := 3) rfl)) (hw _ (List.mem_of_getElem? (i := 16) rfl)) (by decide) (rm3 l Z a0 hw b1 ht85 O87) 2 (by decide) (by decide) et88 (hsz rfl) [(.int b1)] [(.long ((((3 : Int64) * ((4 : Int32).toInt64)) + (512 : Int64)) + (own_w b0)))] pd_2 rfl rfl rfl (Nat.le_of_eq rfl) (hb hby at_181) (by decide) (by decide) (fun Tt91 vt91 Lt91 Xt91 qt91 => ?_)
          obtain ⟨rfl, N92, et91⟩ := qt91
          have N93 := Fr.app N90 N92
          show Goes p e below _ (Tt91.setTop (mkF m 184 #[.val (.int p0), .val (.int p1), .val (.int p2), .val (.int p3), .val (.int p4), .val (.int (4 : Int32)), .val (.int b0), .val (.int b1), .val (.int b2), .val (.int b3), .val (.ref b74), .val (.long ((((3 : Int64) * ((4 : Int32).toInt64)) + (512 : Int64)) + (own_w b0))), .second] [(.long (own_w b1)), (.long ((((3 : Int64) * ((4 : Int32).toInt64)) + (512 : Int64)) + (own_w b0)))]))
          refine gLadd Xt91 hx (hb hby at_184) ?_
          refine gLstore Xt91 hx (hb hby at_185) (l' := #[.val (.int p0), .val (.int p1), .val (.int p2), .val (.int p3), .val (.int p4), .val (.int (4 : Int32)), .val (.int b0), .val (.int b1), .val (.int b2), .val (.int b3), .val (.ref b74), .val (.long (((((3 : Int64) * ((4 : Int32).toInt64)) + (512 : Int64)) + (own_w b0)) + (own_w b1))), .second]) rfl ?_
          refine gIload Xt91 hx (hb hby at_187) rfl ?_
          refine gIconst Xt91 hx (hb hby at_189) (v := (2 : Int32)) rfl ?_
          refine gIcmpN Xt91 hx (hb hby at_190) (XT.ii_le_f (by decide)) ?_
          show Goes p e below _ (Tt91.setTop (mkF m 193 #[.val (.int p0), .val (.int p1), .val (.int p2), .val (.int p3), .val (.int p4), .val (.int (4 : Int32)), .val (.int b0), .val (.int b1), .val (.int b2), .val (.int b3), .val (.ref b74), .val (.long (((((3 : Int64) * ((4 : Int32).toInt64)) + (512 : Int64)) + (own_w b0)) + (own_w b1))), .second] []))
          refine gLload Xt91 hx (hb hby at_193) rfl ?_
          refine gIload Xt91 hx (hb hby at_195) rfl ?_
          refine goCallS Xt91 hx hZ hown (hw _ (List.mem_of_getElem? (i := 14) rfl)) (hw _ (List.mem_of_getElem? (i := 15) rfl)) (hw _ (List.mem_of_getElem? (i := 3) rfl)) (hw _ (List.mem_of_getElem? (i := 16) rfl)) (by decide) (rm3 l Z a0 hw b2 ht85 O87) 2 (by decide) (by decide) et91 (hsz rfl) [(.int b2)] [(.long (((((3 : Int64) * ((4 : Int32).toInt64)) + (512 : Int64)) + (own_w b0)) + (own_w b1)))] pd_2 rfl rfl rfl (Nat.le_of_eq rfl) (hb hby at_197) (by decide) (by decide) (fun Tt94 vt94 Lt94 Xt94 qt94 => ?_)
          obtain ⟨rfl, N95, et94⟩ := qt94
          have N96 := Fr.app N93 N95
          show Goes p e below _ (Tt94.setTop (mkF m 200 #[.val (.int p0), .val (.int p1), .val (.int p2), .val (.int p3), .val (.int p4), .val (.int (4 : Int32)), .val (.int b0), .val (.int b1), .val (.int b2), .val (.int b3), .val (.ref b74), .val (.long (((((3 : Int64) * ((4 : Int32).toInt64)) + (512 : Int64)) + (own_w b0)) + (own_w b1))), .second] [(.long (own_w b2)), (.long (((((3 : Int64) * ((4 : Int32).toInt64)) + (512 : Int64)) + (own_w b0)) + (own_w b1)))]))
          refine gLadd Xt94 hx (hb hby at_200) ?_
          refine gLstore Xt94 hx (hb hby at_201) (l' := #[.val (.int p0), .val (.int p1), .val (.int p2), .val (.int p3), .val (.int p4), .val (.int (4 : Int32)), .val (.int b0), .val (.int b1), .val (.int b2), .val (.int b3), .val (.ref b74), .val (.long ((((((3 : Int64) * ((4 : Int32).toInt64)) + (512 : Int64)) + (own_w b0)) + (own_w b1)) + (own_w b2))), .second]) rfl ?_
          refine gIload Xt94 hx (hb hby at_203) rfl ?_
          refine gIconst Xt94 hx (hb hby at_205) (v := (3 : Int32)) rfl ?_
          refine gIcmpN Xt94 hx (hb hby at_206) (XT.ii_le_f (by decide)) ?_
          show Goes p e below _ (Tt94.setTop (mkF m 209 #[.val (.int p0), .val (.int p1), .val (.int p2), .val (.int p3), .val (.int p4), .val (.int (4 : Int32)), .val (.int b0), .val (.int b1), .val (.int b2), .val (.int b3), .val (.ref b74), .val (.long ((((((3 : Int64) * ((4 : Int32).toInt64)) + (512 : Int64)) + (own_w b0)) + (own_w b1)) + (own_w b2))), .second] []))
          refine gLload Xt94 hx (hb hby at_209) rfl ?_
          refine gIload Xt94 hx (hb hby at_211) rfl ?_
          refine goCallS Xt94 hx hZ hown (hw _ (List.mem_of_getElem? (i := 14) rfl)) (hw _ (List.mem_of_getElem? (i := 15) rfl)) (hw _ (List.mem_of_getElem? (i := 3) rfl)) (hw _ (List.mem_of_getElem? (i := 16) rfl)) (by decide) (rm3 l Z a0 hw b3 ht85 O87) 2 (by decide) (by decide) et94 (hsz rfl) [(.int b3)] [(.long ((((((3 : Int64) * ((4 : Int32).toInt64)) + (512 : Int64)) + (own_w b0)) + (own_w b1)) + (own_w b2)))] pd_2 rfl rfl rfl (Nat.le_of_eq rfl) (hb hby at_213) (by decide) (by decide) (fun Tt97 vt97 Lt97 Xt97 qt97 => ?_)
          obtain ⟨rfl, N98, et97⟩ := qt97
          have N99 := Fr.app N96 N98
          show Goes p e below _ (Tt97.setTop (mkF m 216 #[.val (.int p0), .val (.int p1), .val (.int p2), .val (.int p3), .val (.int p4), .val (.int (4 : Int32)), .val (.int b0), .val (.int b1), .val (.int b2), .val (.int b3), .val (.ref b74), .val (.long ((((((3 : Int64) * ((4 : Int32).toInt64)) + (512 : Int64)) + (own_w b0)) + (own_w b1)) + (own_w b2))), .second] [(.long (own_w b3)), (.long ((((((3 : Int64) * ((4 : Int32).toInt64)) + (512 : Int64)) + (own_w b0)) + (own_w b1)) + (own_w b2)))]))
          refine gLadd Xt97 hx (hb hby at_216) ?_
          refine gLstore Xt97 hx (hb hby at_217) (l' := #[.val (.int p0), .val (.int p1), .val (.int p2), .val (.int p3), .val (.int p4), .val (.int (4 : Int32)), .val (.int b0), .val (.int b1), .val (.int b2), .val (.int b3), .val (.ref b74), .val (.long (((((((3 : Int64) * ((4 : Int32).toInt64)) + (512 : Int64)) + (own_w b0)) + (own_w b1)) + (own_w b2)) + (own_w b3))), .second]) rfl ?_
          refine gAload Xt97 hx (hb hby at_219) rfl rfl ?_
          refine goCallS Xt97 hx hZ hown (hw _ (List.mem_of_getElem? (i := 8) rfl)) (hw _ (List.mem_of_getElem? (i := 9) rfl)) (hw _ (List.mem_of_getElem? (i := 10) rfl)) (hw _ (List.mem_of_getElem? (i := 11) rfl)) (by decide) (rm2 l Z a0 hw [b0, b1, b2, b3] b74 ht85 O87 Y_b74 (by simp)) 0 (by decide) (by decide) et97 (hsz rfl) [(.ref b74)] [] pd_1 rfl rfl rfl (Nat.le_of_eq rfl) (hb hby at_221) (by decide) (by decide) (fun Tt100 vt100 Lt100 Xt100 qt100 => ?_)
          obtain ⟨rfl, N101, et100⟩ := qt100
          have N102 := Fr.app N99 N101
          show Goes p e below _ (Tt100.setTop (mkF m 224 #[.val (.int p0), .val (.int p1), .val (.int p2), .val (.int p3), .val (.int p4), .val (.int (4 : Int32)), .val (.int b0), .val (.int b1), .val (.int b2), .val (.int b3), .val (.ref b74), .val (.long (((((((3 : Int64) * ((4 : Int32).toInt64)) + (512 : Int64)) + (own_w b0)) + (own_w b1)) + (own_w b2)) + (own_w b3))), .second] [(.long (own_mem [b0, b1, b2, b3]))]))
          refine gLload Xt100 hx (hb hby at_224) rfl ?_
          refine gLcmp Xt100 hx (hb hby at_226) ?_
          refine gIfN Xt100 hx (hb hby at_227) (XT.ll_ne_f rfl) ?_
          show Goes p e below _ (Tt100.setTop (mkF m 230 #[.val (.int p0), .val (.int p1), .val (.int p2), .val (.int p3), .val (.int p4), .val (.int (4 : Int32)), .val (.int b0), .val (.int b1), .val (.int b2), .val (.int b3), .val (.ref b74), .val (.long (((((((3 : Int64) * ((4 : Int32).toInt64)) + (512 : Int64)) + (own_w b0)) + (own_w b1)) + (own_w b2)) + (own_w b3))), .second] []))
          refine gIconst Xt100 hx (hb hby at_230) (v := (1 : Int32)) rfl ?_
          refine gGoto Xt100 hx (hb hby at_231) (pc' := 235) (by decide) (by decide) ?_
          show Goes p e below _ (Tt100.setTop (mkF m 235 #[.val (.int p0), .val (.int p1), .val (.int p2), .val (.int p3), .val (.int p4), .val (.int (4 : Int32)), .val (.int b0), .val (.int b1), .val (.int b2), .val (.int b3), .val (.ref b74), .val (.long (((((((3 : Int64) * ((4 : Int32).toInt64)) + (512 : Int64)) + (own_w b0)) + (own_w b1)) + (own_w b2)) + (own_w b3))), .second] [(.int (1 : Int32))]))
          exact goRetN Xt100 hx (t := .boolean) hret hlocks (by simp) (hb hby at_235) (z' := (1 : Int32)) rfl (by decide) (by decide) et100 (⟨rfl, N102⟩)
set_option maxRecDepth 65536 in
set_option maxHeartbeats 40000000 in
theorem comes_1 {Post : Tables → Env → Array Value → State → Outcome → State → Prop} (hpost : ∀ tb e args s v u, (limb_1_1.after args s (.returned v) u = true ∧ limb_1_2.after args s (.returned v) u = true ∧ True) → FrameEnd s (.returned v) u (Jvm.fieldLocs frame_1_writes args s ++ Jvm.arrayLocs frame_1_arrays args s ++ Jvm.staticLocs frame_1_statics s) 16 128 → Post tb e args s (.returned v) u) :
    ArmFor flags0 classFile x code maxLocals ret World_1 tables_1 room_1 Calls_1 rest_1 Pre_1 Post := by
  intro l hfl _ _ p e ha hc hk s m args below hf hA hF happ hP
  obtain ⟨hcalls, hrest, hpre⟩ := hP
  obtain ⟨-, -, -, hnamed, -, -, -, hat⟩ := (Spec.applies_iff hf).mp happ
  obtain ⟨hg, hn⟩ := and_e (Cond.before_iff.mp (show (Jvm.Cond.and given_1 narrow_1).before args s = true from hpre))
  obtain ⟨hc0, r0⟩ := and_e hg
  obtain ⟨c0, r1⟩ := and_e r0
  obtain ⟨c1, r2⟩ := and_e r1
  obtain ⟨c2, r3⟩ := and_e r2
  obtain ⟨c3, r4⟩ := and_e r3
  have c4 := r4
  obtain ⟨w0, w1, w2, w3, w4, rfl⟩ : ∃ w0 w1 w2 w3 w4 : Value, args = #[w0, w1, w2, w3, w4] := by
    have hs : args.size = 5 := by simpa [Cond.value, given_1] using hc0
    obtain ⟨L⟩ := args
    match L, hs with
    | [w0, w1, w2, w3, w4], _ => exact ⟨w0, w1, w2, w3, w4, rfl⟩
  have hw := fun d (hd : d ∈ tables_1) => atoms_spec (ws := Jvm.Cond.code x code maxLocals ret :: tables_1) hat d (List.mem_cons_of_mem _ hd)
  have hfit : Fit s := fun {y c} hc i hi => by
    obtain ⟨ha, rfl⟩ := Array.getElem?_eq_some_iff.mp hc
    have q := List.all_eq_true.mp ((Array.all_eq_true_iff_forall_mem.mp hF) _ (Array.getElem_mem ha)) i (List.mem_range.mpr hi)
    simpa [Array.getElem?_eq_getElem hi] using q
  obtain ⟨x0, y0⟩ := is_v c0
  obtain rfl : w0 = (.int x0) := Option.some.inj y0
  obtain ⟨x1, y1⟩ := is_v c1
  obtain rfl : w1 = (.int x1) := Option.some.inj y1
  obtain ⟨x2, y2⟩ := is_v c2
  obtain rfl : w2 = (.int x2) := Option.some.inj y2
  obtain ⟨x3, y3⟩ := is_v c3
  obtain rfl : w3 = (.int x3) := Option.some.inj y3
  obtain ⟨x4, y4⟩ := is_v c4
  obtain rfl : w4 = (.int x4) := Option.some.inj y4
  obtain ⟨n, o, h1, h2, h3, _, L, rfl, ⟨rfl, N⟩, hq⟩ := rm0 l s _ hw x0 x1 x2 x3 x4 s.heap ⟨Nat.le_refl _, fun _ _ q => q⟩  p e ha hc hk s m _ below hf ((Spec.applies_iff_loose hf).mp happ).1 ⟨rfl, State.Warmed39.refl s, rfl⟩ trivial
  refine ⟨n, _, h1, h2, h3, hpost _ _ _ _ _ _ ⟨Cond.after_iff.mpr rfl, Cond.after_iff.mpr (eq_i res_at (Term.int_eval (1)) rfl), trivial⟩ ⟨hq.1, hq.2.1, (hq.2.2.sift fun y hy => Or.inr (N y hy)).mono (by decide) (by decide)⟩⟩
theorem main_1_1 : Claimed_1_1 := comes_1 fun _ _ _ _ _ _ h hF => ⟨h.1, hF⟩
theorem main_1_2 : Claimed_1_2 := comes_1 fun _ _ _ _ _ _ h hF => ⟨h.2.1, hF⟩
end Jvm.Pilot.@@N@@
namespace Jvm.Pilot.@@N@@
open Jvm Jvm.ClassFile Sem Op Lib Jvm.Free Jvm.Stand Jvm.Pilot.@@N@@.Jvm.D
/-! MADE BY PROGRAM (witnessworld.py) out of the Statement's table words and the real class files: 9 classes; the members and pool entries that the words name. The judged class is class 1, her method 3. -/
namespace start1
open Jvm.ClassFile
def u (s : String) : CpInfo := .utf8 (stringToUtf16 s)
/-- a pool by its gaps: so many unusable entries, then the entry; so many at the end -/
def gap : Nat → List CpInfo → List CpInfo
  | 0, r => r
  | n + 1, r => .unusable :: gap n r
def poolList (es : List (Nat × CpInfo)) (last : Nat) : List CpInfo := es.foldr (fun e r => gap e.1 (e.2 :: r)) (gap last [])
def pool (es : List (Nat × CpInfo)) (last : Nat) : Array CpInfo := ⟨poolList es last⟩
def fileOf (pool : Array CpInfo) (this : Nat) (attrs : Array Attribute := #[]) (ms : Array MethodInfo := #[]) (fl : Nat := 33) (sup : Nat := 0) (ifs : Array Nat := #[]) (fds : Array FieldInfo := #[]) : ClassFile where
  minorVersion := 0
  majorVersion := 65
  constantPool := pool
  accessFlags := fl
  thisClass := this
  superClass := sup
  interfaces := ifs
  fields := fds
  methods := ms
  attributes := attrs
def plain (name : String) (sup : Option ClassId) : Class where
  name := name
  kind := .ordinary
  loader := none
  accessFlags := 33
  super := sup
  interfaces := #[]
  cf := none
  fields := #[]
  methods := #[]
  instanceTypes := #[]
  staticTypes := #[]
  resolved := #[]
  callSites := []
  init := .initialized
  statics := none
  mirror := none

def pool0 : Array CpInfo := pool [(5, u "<init>"), (0, u "()V"), (1, .class_ 10), (1, u "java/lang/Object")] 113

def k0m0 : Method := { name := "<init>", desc := "()V", sig := { parameters := [], returnType := none }, accessFlags := 1, code := none }
/-- java/lang/Object -/
def k0 : Class := { plain "java/lang/Object" none with
  accessFlags := 33
  interfaces := #[]
  cf := some (fileOf pool0 8 #[] #[{ accessFlags := 1, nameIndex := 5, descriptorIndex := 6, attributes := #[] }] 33 0 #[] #[])
  fields := #[]
  methods := #[k0m0]
  instanceTypes := #[]
  staticTypes := #[]
  resolved := Array.replicate 124 none
  statics := none }

def pool1 : Array CpInfo := pool [(2, .class_ 4), (1, u "java/lang/Object"), (0, u "<init>"), (0, u "()V"), (0, .long 512), (1, .long 64), (1, .integer 2147483647), (0, .methodref 13 14), (0, .class_ 15), (0, .nameAndType 16 17), (0, u "com/example/ambit/ambit/server/CsvMemoryForPinLaw"), (0, u "pick"), (0, u "(I)B"), (0, .long 3), (1, .methodref 13 21), (0, .nameAndType 22 23), (0, u "weight"), (0, u "(B)J"), (0, .methodref 25 26), (0, .class_ 27), (0, .nameAndType 28 29), (0, u "com/example/ambit/ambit/server/Csv"), (0, u "memoryFor"), (0, u "([B)J"), (3, u "law"), (0, u "(IIIII)Z")] 4

def k1m0 : Method := { name := "<init>", desc := "()V", sig := { parameters := [], returnType := none }, accessFlags := 1, code := none }
def k1c1 : Code := { maxStack := 2, maxLocals := 2, code := method_2_code, exceptionTable := #[], attributes := #[] }
def k1m1 : Method := { name := "pick", desc := "(I)B", sig := { parameters := [.int], returnType := some .byte }, accessFlags := 10, code := some k1c1 }
def k1c2 : Code := { maxStack := 2, maxLocals := 1, code := method_3_code, exceptionTable := #[], attributes := #[] }
def k1m2 : Method := { name := "weight", desc := "(B)J", sig := { parameters := [.byte], returnType := some .long }, accessFlags := 10, code := some k1c2 }
def k1c3 : Code := { maxStack := 4, maxLocals := 13, code := code, exceptionTable := #[], attributes := #[] }
def k1m3 : Method := { name := "law", desc := "(IIIII)Z", sig := { parameters := [.int, .int, .int, .int, .int], returnType := some .boolean }, accessFlags := 9, code := some k1c3 }
/-- com/example/ambit/ambit/server/CsvMemoryForPinLaw -/
def k1 : Class := { plain "com/example/ambit/ambit/server/CsvMemoryForPinLaw" (some 0) with
  accessFlags := 49
  interfaces := #[]
  cf := some (fileOf pool1 13 #[] #[{ accessFlags := 1, nameIndex := 5, descriptorIndex := 6, attributes := #[] }, { accessFlags := 10, nameIndex := 16, descriptorIndex := 17, attributes := #[] }, { accessFlags := 10, nameIndex := 22, descriptorIndex := 23, attributes := #[] }, { accessFlags := 9, nameIndex := 33, descriptorIndex := 34, attributes := #[] }] 49 2 #[] #[])
  fields := #[]
  methods := #[k1m0, k1m1, k1m2, k1m3]
  instanceTypes := #[]
  staticTypes := #[]
  resolved := Array.replicate 39 none
  statics := none }

def pool2 : Array CpInfo := pool [(2, .class_ 4), (1, u "java/lang/Object"), (3, .class_ 10), (1, u "com/example/ambit/ambit/server/Csv"), (0, u "columns"), (0, u "Ljava/util/Map;"), (2, u "lines"), (0, u "Ljava/util/List;"), (145, .long 3), (1, .long 512), (1, .long 64), (33, .class_ 202), (1, u "com/example/ambit/ambit/server/Csv$LineReader"), (47, u "MAX_BYTES"), (0, u "I"), (2, u "BYTE_ORDER_MARK"), (0, u "Ljava/lang/String;"), (0, u "LINE_BYTES"), (1, u "PATH_ELEMENT_BYTES"), (12, u "memoryFor"), (0, u "([B)J"), (17, .class_ 291), (0, u "com/example/ambit/ambit/server/Csv$Writer"), (0, .class_ 293), (0, u "com/example/ambit/ambit/server/Csv$Line")] 43

def k2c0 : Code := { maxStack := 4, maxLocals := 7, code := prog_29_method_3_code, exceptionTable := #[], attributes := #[] }
def k2m0 : Method := { name := "memoryFor", desc := "([B)J", sig := { parameters := [(.array .byte)], returnType := some .long }, accessFlags := 8, code := some k2c0 }
/-- com/example/ambit/ambit/server/Csv -/
def k2 : Class := { plain "com/example/ambit/ambit/server/Csv" (some 0) with
  accessFlags := 48
  interfaces := #[]
  cf := some (fileOf pool2 8 #[.nestMembers #[290, 292, 200]] #[{ accessFlags := 8, nameIndex := 271, descriptorIndex := 272, attributes := #[] }] 48 2 #[] #[{ accessFlags := 24, nameIndex := 250, descriptorIndex := 251, attributes := #[] }, { accessFlags := 26, nameIndex := 254, descriptorIndex := 255, attributes := #[] }, { accessFlags := 26, nameIndex := 256, descriptorIndex := 251, attributes := #[] }, { accessFlags := 26, nameIndex := 258, descriptorIndex := 251, attributes := #[] }, { accessFlags := 18, nameIndex := 11, descriptorIndex := 12, attributes := #[] }, { accessFlags := 18, nameIndex := 15, descriptorIndex := 16, attributes := #[] }])
  fields := #[{ name := "MAX_BYTES", type := .int, accessFlags := 24, slot := 0, constantValue := 0 }, { name := "BYTE_ORDER_MARK", type := (.object "java/lang/String"), accessFlags := 26, slot := 1, constantValue := 0 }, { name := "LINE_BYTES", type := .int, accessFlags := 26, slot := 2, constantValue := 0 }, { name := "PATH_ELEMENT_BYTES", type := .int, accessFlags := 26, slot := 3, constantValue := 0 }, { name := "columns", type := (.object "java/util/Map"), accessFlags := 18, slot := 0, constantValue := 0 }, { name := "lines", type := (.object "java/util/List"), accessFlags := 18, slot := 1, constantValue := 0 }]
  methods := #[k2m0]
  instanceTypes := #[(.object "java/util/Map"), (.object "java/util/List")]
  staticTypes := #[.int, (.object "java/lang/String"), .int, .int]
  resolved := Array.replicate 337 none
  statics := none }

def pool3 : Array CpInfo := pool [(1, u "java/lang/Cloneable"), (0, .class_ 1), (0, u "java/lang/Object"), (0, .class_ 3)] 3

/-- java/lang/Cloneable -/
def k3 : Class := { plain "java/lang/Cloneable" (some 0) with
  accessFlags := 1537
  interfaces := #[]
  cf := some (fileOf pool3 2 #[] #[] 1537 4 #[] #[])
  fields := #[]
  methods := #[]
  instanceTypes := #[]
  staticTypes := #[]
  resolved := Array.replicate 8 none
  statics := none }

def pool4 : Array CpInfo := pool [(1, u "java/io/Serializable"), (0, .class_ 1), (0, u "java/lang/Object"), (0, .class_ 3)] 3

/-- java/io/Serializable -/
def k4 : Class := { plain "java/io/Serializable" (some 0) with
  accessFlags := 1537
  interfaces := #[]
  cf := some (fileOf pool4 2 #[] #[] 1537 4 #[] #[])
  fields := #[]
  methods := #[]
  instanceTypes := #[]
  staticTypes := #[]
  resolved := Array.replicate 8 none
  statics := none }

/-- the primitive byte -/
def k5 : Class := { plain "byte" none with kind := .primitive 'B', accessFlags := 0x411 }
/-- [B -/
def k6 : Class := { plain "[B" (some 0) with kind := .array 5 .byte, interfaces := #[3, 4], accessFlags := 1041 }

/-- the primitive int -/
def k7 : Class := { plain "int" none with kind := .primitive 'I', accessFlags := 0x411 }
/-- [I -/
def k8 : Class := { plain "[I" (some 0) with kind := .array 7 .int, interfaces := #[3, 4], accessFlags := 1041 }

def heap : Heap := #[]
def classes : Array Class := #[k0, k1, k2, k3, k4, k5, k6, k7, k8]
def interned : List (Array UInt16 × Addr) := []
def slotsUsed : Nat := 0
def theMethod : MethodId := ⟨1, 3⟩
def args0 : Array Value := #[.int 5, .int 80, .int 3, .int 9, .int 1]
def aboutOver (below : List Frame) : State where
  vm := { classes := classes, interned := interned.toArray }
  heap := heap
  slotsUsed := slotsUsed
  threads := #[{ frames := .invoking theMethod args0 :: below }]
def below0 : List Frame := [.native { method := ⟨0, 0⟩, args := #[] }]
def about1 : State := aboutOver below0
def p0 : Program := .bare "" "" ""
def e0 : Env := launch0.env 0 0 0
theorem w_frames : about1.frames = Frame.invoking theMethod args0 :: below0 := rfl
set_option maxRecDepth 65536 in
theorem w_args : argsFit about1.vm theMethod args0 = true := by decide +kernel
set_option maxRecDepth 65536 in
theorem w_heap : heapFits about1 = true := by decide +kernel
set_option maxRecDepth 65536 in
theorem w_runnable : about1.curStatus? = some .runnable := by decide +kernel
set_option maxRecDepth 65536 in
theorem w_alone : about1.alone = true := by decide +kernel
set_option maxRecDepth 65536 in
theorem w_named : about1.methodNamed? x = some theMethod := by decide +kernel
set_option maxRecDepth 65536 in
theorem w_hears : about1.hears theMethod below0 = true := by decide +kernel
set_option maxRecDepth 65536 in
theorem w_ripe : about1.ripe theMethod args0 below0 = true := by decide +kernel
theorem w_running : about1.status = .running := rfl
set_option maxRecDepth 65536 in
theorem w_room : about1.hasRoom e0.platform room_1 = true :=
  launch0.hasRoom_least _ room_1 (by decide +kernel) (by decide +kernel) (by decide +kernel) (by decide +kernel) (by decide +kernel) (by decide +kernel)
theorem allAtoms_all (ts : List Jvm.Cond) (a : Array Jvm.Value) (st : Jvm.State) : (allAtoms ts).before a st = ts.all (fun c => c.before a st) := by
  induction ts with
  | nil => rfl
  | cons c t ih =>
    show (Jvm.Cond.and c (allAtoms t)).before a st = _
    rw [Jvm.Cond.before_and, ih, List.all_cons]
def words1 : List Jvm.Cond := Jvm.Cond.code x code maxLocals ret :: tables_1
/-- a 'code' word, met by the world's own term for the bytes: nothing is compared byte by byte -/
theorem code_word {y : MethodName} {bytes : ByteArray} {mx : Nat} {rt : Option FieldType} {a : Array Value} {s : State} {m : MethodId} {meth : Method} {c : Code} (h1 : s.methodNamed? y = some m) (h2 : s.vm.method? m = some meth) (h3 : meth.code = some c) (h4 : c.code = bytes)
    (h5 : (c.maxLocals == mx && c.exceptionTable.isEmpty && decide (c.maxStack ≤ mostOperands) && decide (meth.sig.returnType = rt) && !meth.locks && decide (parseMethodDescriptor y.desc = some meth.sig)) = true) : (Jvm.Cond.code y bytes mx rt).before a s = true := by
  simp only [Bool.and_eq_true, beq_iff_eq, Bool.not_eq_true', decide_eq_true_eq] at h5
  obtain ⟨⟨⟨⟨⟨g1, g2⟩, g3⟩, g4⟩, g5⟩, g6⟩ := h5
  simp [Cond.before, Cond.holds, Cond.value, h1, h2, h3, h4, g1, g2, g3, g4, g5, g6]
def isCode : Jvm.Cond → Bool
  | .code _ _ _ _ => true
  | _ => false
theorem all_split {L : List Jvm.Cond} {P : Jvm.Cond → Bool} (h1 : L.all (fun c => isCode c || P c) = true) (h2 : ∀ c ∈ L.filter isCode, P c = true) : L.all P = true := by
  refine List.all_eq_true.mpr fun c hc => ?_
  have h := List.all_eq_true.mp h1 c hc
  rcases Bool.eq_false_or_eq_true (isCode c) with hi | hi
  · exact h2 c (List.mem_filter.mpr ⟨hc, hi⟩)
  · simpa [hi] using h
set_option maxRecDepth 65536 in
theorem w_c0 : (Jvm.Cond.code x code maxLocals ret).before args0 about1 = true := code_word (m := ⟨1, 3⟩) (meth := k1m3) (c := k1c3) (by decide +kernel) rfl rfl rfl (by decide +kernel)
set_option maxRecDepth 65536 in
theorem w_c1 : (Jvm.Cond.code ({ cls := "com/example/ambit/ambit/server/CsvMemoryForPinLaw", name := "pick", desc := "(I)B" } : Jvm.MethodName) method_2_code (2 : Nat) (Option.some Jvm.ClassFile.FieldType.byte)).before args0 about1 = true := code_word (m := ⟨1, 1⟩) (meth := k1m1) (c := k1c1) (by decide +kernel) rfl rfl rfl (by decide +kernel)
set_option maxRecDepth 65536 in
theorem w_c2 : (Jvm.Cond.code ({ cls := "com/example/ambit/ambit/server/Csv", name := "memoryFor", desc := "([B)J" } : Jvm.MethodName) prog_29_method_3_code (7 : Nat) (Option.some Jvm.ClassFile.FieldType.long)).before args0 about1 = true := code_word (m := ⟨2, 0⟩) (meth := k2m0) (c := k2c0) (by decide +kernel) rfl rfl rfl (by decide +kernel)
set_option maxRecDepth 65536 in
theorem w_c3 : (Jvm.Cond.code ({ cls := "com/example/ambit/ambit/server/CsvMemoryForPinLaw", name := "weight", desc := "(B)J" } : Jvm.MethodName) method_3_code (1 : Nat) (Option.some Jvm.ClassFile.FieldType.long)).before args0 about1 = true := code_word (m := ⟨1, 2⟩) (meth := k1m2) (c := k1c2) (by decide +kernel) rfl rfl rfl (by decide +kernel)
def codes1 : List Jvm.Cond := [Jvm.Cond.code x code maxLocals ret, Jvm.Cond.code ({ cls := "com/example/ambit/ambit/server/CsvMemoryForPinLaw", name := "pick", desc := "(I)B" } : Jvm.MethodName) method_2_code (2 : Nat) (Option.some Jvm.ClassFile.FieldType.byte), Jvm.Cond.code ({ cls := "com/example/ambit/ambit/server/Csv", name := "memoryFor", desc := "([B)J" } : Jvm.MethodName) prog_29_method_3_code (7 : Nat) (Option.some Jvm.ClassFile.FieldType.long), Jvm.Cond.code ({ cls := "com/example/ambit/ambit/server/CsvMemoryForPinLaw", name := "weight", desc := "(B)J" } : Jvm.MethodName) method_3_code (1 : Nat) (Option.some Jvm.ClassFile.FieldType.long)]
set_option maxRecDepth 65536 in
theorem codes_eq : words1.filter isCode = codes1 := rfl
theorem w_codes : ∀ c ∈ words1.filter isCode, c.before args0 about1 = true := by
  rw [codes_eq]
  intro c hc
  simp only [codes1, List.mem_cons, List.not_mem_nil, or_false] at hc
  rcases hc with rfl | rfl | rfl | rfl
  · exact w_c0
  · exact w_c1
  · exact w_c2
  · exact w_c3
set_option maxRecDepth 65536 in
theorem w_t1 : words1.all (fun c => isCode c || c.before args0 about1) = true := by decide +kernel
theorem w_tables : (allAtoms (Jvm.Cond.code x code maxLocals ret :: tables_1)).before args0 about1 = true := by
  rw [allAtoms_all]
  show words1.all (fun c => c.before args0 about1) = true
  refine all_split ?_ w_codes
  rw [w_t1]
set_option maxRecDepth 65536 in
theorem w_case : (Jvm.Cond.and given_1 narrow_1).before args0 about1 = true := by decide +kernel
theorem w_applies : (headSpec (Jvm.Cond.code x code maxLocals ret :: tables_1) room_1).applies x e0.platform about1 = true :=
  (Spec.applies_iff w_frames).mpr ⟨w_running, w_runnable, w_alone, w_named, w_hears, w_ripe, w_room, w_tables⟩
theorem atStart : AtStart classFile x code maxLocals ret World_1 tables_1 room_1 Calls_1 rest_1 Pre_1 launch0 p0 e0 about1 theMethod args0 below0 :=
  ⟨lists_1, trivial, launch0.admits_env _ _ _, launch0.least_env, fairChoices_fair.cas, fairChoices_fair.clock, w_frames, w_args, w_heap, w_applies, trivial, trivial, w_case⟩
end start1
theorem witness_1 : WitnessClaimed_1 := ⟨start1.p0, start1.e0, start1.about1, start1.theMethod, start1.args0, start1.below0, start1.atStart⟩
end Jvm.Pilot.@@N@@
