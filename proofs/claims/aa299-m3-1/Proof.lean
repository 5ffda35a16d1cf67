import JvmDerived
import JvmDerived.Pilot.@@N@@Statement
import JvmDerived.Pilot.@@N@@Code
set_option linter.unusedVariables false
set_option linter.unusedSimpArgs false
namespace Jvm.OwnWalk
open Sem ClassFile Op Lib Jvm.Stand Jvm.Free Jvm.LawKit Jvm.RoadKit
section Own
variable {p : Program} {l : Launch} {e : Env} {R : Room} {s : State} {m : MethodId} {args : Array Value} {below : List Frame} {meth : Method} {c : Code} {T : State} {locs : List Loc} {cells slots : Nat} {Z : State} {a0 : Array Value} {h h' : Heap} {Q : Option Value → Heap → List Loc → Prop} {kc ks : Nat} {G : Outcome → State → Prop} {A B : State}
/-- from A the invocation comes to its end, and Q holds of what it returns, of the heap and of the places written -/
def Goes (p : Program) (e : Env) (below : List Frame) (G : Outcome → State → Prop) (A : State) : Prop :=
  ∃ s₂ o, Steps p.tables e below A s₂ ∧ s₂.status = .running ∧ Ended s₂ below o ∧ G o s₂
def EndN (s : State) (Q : Option Value → Heap → List Loc → Prop) (kc ks : Nat) (o : Outcome) (t : State) : Prop := ∃ v L, o = .returned v ∧ Q v t.heap L ∧ FrameEnd s o t L kc ks
theorem go (k : ∀ t, Steps p.tables e below B t → Steps p.tables e below A t) (g : Goes p e below G B) : Goes p e below G A := by
  obtain ⟨s₂, o, st, r⟩ := g
  exact ⟨s₂, o, k _ st, r⟩
theorem goE {g g' : JFrame} (q : g = g') (k : Goes p e below G (T.setTop g')) : Goes p e below G (T.setTop g) := q ▸ k
theorem goEnd (X : Stand p l e R s m args below meth c T locs cells slots) {v : Option Value} (hv : meth.sig.returnType = none → v = none) (hlocks : meth.locks = false) (hc : cells ≤ kc) (hs : slots ≤ ks) (eT : T.heap = h) (hq : Q v h locs)
    (k : ∀ fs, (∀ (f : JFrame) (acts : List Action), f.method = m → f.locked = none → f.entered = [] → (doReturn e (T.setTop f) acts v).1 = T.setFrames fs) → Steps p.tables e below A (T.setFrames fs)) : Goes p e below (EndN s Q kc ks) A := by
  obtain ⟨fs, hr, hrun, hended, hW, hsame⟩ := X.leave hv hlocks
  exact ⟨_, _, k fs hr, hrun, hended, _, _, rfl, (by show Q v T.heap locs; rw [eT]; exact hq), ⟨_, rfl⟩, hW, hsame.mono hc hs⟩
theorem goRetV (X : Stand p l e R s m args below meth c T locs cells slots) (hx : p.tables.exec = Jvm.exec) {pc : Nat} {Ls : Array Slot} {w : Value} {t : FieldType} {i : Instr} {rest : List Value} (hret : meth.sig.returnType = some t) (hlocks : meth.locks = false) (hd : decode c.code pc = .ok (i, 1)) (hn : narrow t w = w)
    (hi : (i = .ireturn ∧ (t = .int ∨ t = .boolean ∨ t = .byte ∨ t = .char ∨ t = .short) ∧ ∃ z, w = .int z) ∨ (i = .lreturn ∧ t = .long ∧ ∃ z, w = .long z) ∨ (i = .dreturn ∧ t = .double ∧ ∃ z, w = .double z) ∨ (i = .freturn ∧ t = .float ∧ ∃ z, w = .float z) ∨ (i = .areturn ∧ t.isReference = true ∧ w.isRef = true))
    (hc : cells ≤ kc) (hs : slots ≤ ks) (eT : T.heap = h) (hq : Q (some w) h locs) : Goes p e below (EndN s Q kc ks) (T.setTop (mkF m pc Ls (w :: rest))) :=
  goEnd X (v := some w) (fun q => by rw [hret] at q; cases q) hlocks hc hs eT hq fun fs hr => retOut X hx hret hn hi hd hr
theorem goRetI (X : Stand p l e R s m args below meth c T locs cells slots) (hx : p.tables.exec = Jvm.exec) {pc : Nat} {Ls : Array Slot} {z : Int32} {rest : List Value} (hret : meth.sig.returnType = some .int) (hlocks : meth.locks = false) (hd : decode c.code pc = .ok (.ireturn, 1))
    (hc : cells ≤ kc) (hs : slots ≤ ks) (eT : T.heap = h) (hq : Q (some (.int z)) h locs) : Goes p e below (EndN s Q kc ks) (T.setTop (mkF m pc Ls (.int z :: rest))) :=
  goRetV X hx hret hlocks hd rfl (Or.inl ⟨rfl, Or.inl rfl, _, rfl⟩) hc hs eT hq
theorem goRetJ (X : Stand p l e R s m args below meth c T locs cells slots) (hx : p.tables.exec = Jvm.exec) {pc : Nat} {Ls : Array Slot} {z : Int64} {rest : List Value} (hret : meth.sig.returnType = some .long) (hlocks : meth.locks = false) (hd : decode c.code pc = .ok (.lreturn, 1))
    (hc : cells ≤ kc) (hs : slots ≤ ks) (eT : T.heap = h) (hq : Q (some (.long z)) h locs) : Goes p e below (EndN s Q kc ks) (T.setTop (mkF m pc Ls (.long z :: rest))) :=
  goRetV X hx hret hlocks hd rfl (Or.inr (Or.inl ⟨rfl, rfl, _, rfl⟩)) hc hs eT hq
theorem goRetD (X : Stand p l e R s m args below meth c T locs cells slots) (hx : p.tables.exec = Jvm.exec) {pc : Nat} {Ls : Array Slot} {z : UInt64} {rest : List Value} (hret : meth.sig.returnType = some .double) (hlocks : meth.locks = false) (hd : decode c.code pc = .ok (.dreturn, 1))
    (hc : cells ≤ kc) (hs : slots ≤ ks) (eT : T.heap = h) (hq : Q (some (.double z)) h locs) : Goes p e below (EndN s Q kc ks) (T.setTop (mkF m pc Ls (.double z :: rest))) :=
  goRetV X hx hret hlocks hd rfl (Or.inr (Or.inr (Or.inl ⟨rfl, rfl, _, rfl⟩))) hc hs eT hq
theorem goRetA (X : Stand p l e R s m args below meth c T locs cells slots) (hx : p.tables.exec = Jvm.exec) {pc : Nat} {Ls : Array Slot} {w : Value} {t : FieldType} {rest : List Value} (hret : meth.sig.returnType = some t) (hlocks : meth.locks = false) (ht : t.isReference = true) (hw : w.isRef = true) (hd : decode c.code pc = .ok (.areturn, 1))
    (hc : cells ≤ kc) (hs : slots ≤ ks) (eT : T.heap = h) (hq : Q (some w) h locs) : Goes p e below (EndN s Q kc ks) (T.setTop (mkF m pc Ls (w :: rest))) :=
  goRetV X hx hret hlocks hd (by cases t <;> first | (cases ht; done) | rfl) (Or.inr (Or.inr (Or.inr (Or.inr ⟨rfl, ht, hw⟩)))) hc hs eT hq
theorem goRetN (X : Stand p l e R s m args below meth c T locs cells slots) (hx : p.tables.exec = Jvm.exec) {pc : Nat} {Ls : Array Slot} {z z' : Int32} {t : FieldType} {rest : List Value} (hret : meth.sig.returnType = some t) (hlocks : meth.locks = false) (ht : t = .boolean ∨ t = .byte ∨ t = .char ∨ t = .short) (hd : decode c.code pc = .ok (.ireturn, 1)) (hz : nar t z = z')
    (hc : cells ≤ kc) (hs : slots ≤ ks) (eT : T.heap = h) (hq : Q (some (.int z')) h locs) : Goes p e below (EndN s Q kc ks) (T.setTop (mkF m pc Ls (.int z :: rest))) := by
  subst hz
  exact goEnd X (v := some (.int (nar t z))) (fun q => by rw [hret] at q; cases q) hlocks hc hs eT hq fun fs hr => retN X hx hret ht hd hr
theorem goRet0 (X : Stand p l e R s m args below meth c T locs cells slots) (hx : p.tables.exec = Jvm.exec) {pc : Nat} {Ls : Array Slot} (hret : meth.sig.returnType = none) (hlocks : meth.locks = false) (hd : decode c.code pc = .ok (.return_, 1))
    (hc : cells ≤ kc) (hs : slots ≤ ks) (eT : T.heap = h) (hq : Q none h locs) : Goes p e below (EndN s Q kc ks) (T.setTop (mkF m pc Ls [])) :=
  goEnd X (v := none) (fun _ => rfl) hlocks hc hs eT hq fun fs hr => X.returnOut hx hret hd hr
/-- a body's contract: called with these arguments at this heap it returns, and Q holds -/
def Ctr (l : Launch) (Z : State) (y : MethodName) (bytes : ByteArray) (maxL : Nat) (ret : Option FieldType) (ws : List Cond) (rm : Room) (as : Array Value) (h0 : Heap) (Q : Option Value → Heap → List Loc → Prop) : Prop :=
  MetFree l y (head1 (Cond.code y bytes maxL ret :: ws) rm) (fun a U => a = as ∧ Z.Warmed39 U.vm ∧ U.heap = h0) (fun _ _ _ _ _ => True) (fun _ U o U' => ∃ v L, o = .returned v ∧ Q v U'.heap L ∧ FrameEnd U o U' L rm.cells rm.slots)
theorem ctr {y : MethodName} {bytes : ByteArray} {maxL : Nat} {ret : Option FieldType} {ws : List Cond} {rm : Room} {as : Array Value} {h0 : Heap} (hpn : plainFor y = true)
    (body : ∀ (p : Program) (e : Env) (s : State) (m : MethodId) (below : List Frame) (meth : Method) (c : Code) (s₁ : State), p.tables.exec = Jvm.exec → c.code = bytes → c.maxLocals = maxL → s.vm.findClass y.cls = some m.cls → meth.name = y.name → meth.sig.returnType = ret → meth.locks = false → Z.Warmed39 s.vm →
      Stand p l e rm s m as below meth c s₁ [] 0 0 → s₁.heap = h0 → Goes p e below (EndN s Q rm.cells rm.slots) (s₁.setTop (entryFrame m as maxL))) : Ctr l Z y bytes maxL ret ws rm as h0 Q := by
  refine MetFree.of_bodySF hpn hisR ?_
  intro p e s m args below meth c s₁ Bd hml0 hP hK
  obtain ⟨rfl, hZ, hh⟩ := hP
  exact body p e s m below meth c s₁ Bd.exec Bd.bytes hml0 (findClass_of_methodNamed Bd.named) (name_of_methodNamed Bd.named Bd.method).1 Bd.returns Bd.notSynchronized hZ (Stand.of_body Bd) (by rw [← hh, Bd.state]; rfl)
theorem goCallS (X : Stand p l e R s m args below meth c T locs cells slots) (hx : p.tables.exec = Jvm.exec) (hZ : Z.Warmed39 s.vm) {own : String} {index : Nat} {y : MethodName} {bytes : ByteArray} {maxL : Nat} {ret : Option FieldType} (hown : s.vm.findClass own = some m.cls)
    (w1 : (Cond.methodLink own index y).before a0 Z = true) (w2 : (Cond.static y).before a0 Z = true) (w3 : (Cond.initialized y.cls).before a0 Z = true) (w4 : (Cond.code y bytes maxL ret).before a0 Z = true) (hy : y.cls ≠ "java/lang/invoke/MethodHandle" ∧ y.cls ≠ "java/lang/invoke/VarHandle")
    {rm : Room} {as : Array Value} {Q' : Option Value → Heap → List Loc → Prop} (hM : Ctr l Z y bytes maxL ret [] rm as h Q') (W : Nat) (hf : rm.frames + 1 ≤ R.frames) (hl : W + (maxL + 11) + rm.locals ≤ R.locals) (eT : T.heap = h)
    {pc : Nat} {Ls : Array Slot} {st : List Value} (hsize : Ls.size = c.maxLocals) (argsL rest : List Value) {ps : List FieldType} {rt : Option FieldType} (hpd : parseMethodDescriptor y.desc = some ⟨ps, rt⟩) (hlen : argsL.length = ps.length) (hst : st = argsL.reverse ++ rest) (has : argsL.toArray = as) (hW : (rest.map fun v => v.category).sum ≤ W)
    (hd : decode c.code pc = .ok (.invokestatic index, 3)) (hc : cells + rm.cells ≤ R.cells) (hs : slots + rm.slots ≤ R.slots)
    (k : ∀ T' v L, Stand p l e R s m args below meth c T' (locs ++ L) (cells + rm.cells) (slots + rm.slots) → Q' v T'.heap L → Goes p e below G (T'.setTop (mkF m (pc + 3) Ls (v.toList ++ rest)))) : Goes p e below G (T.setTop (mkF m pc Ls st)) := by
  subst hst
  obtain ⟨v, _, ⟨T', L', k', n'⟩, -, X', ⟨L, hQ, l1, y1, z1⟩, st⟩ := Jvm.LawKit.callS X hx (y := y) hown (mvT hZ w1) (mvT hZ w2) (mvT hZ w3) (mvT hZ w4) hy (backOf (W := W) hM hZ w4 w3 hf hl) (g := mkF m pc Ls (argsL.reverse ++ rest)) rfl hsize (argsL := argsL) (rest := rest) (lenOf hpd hlen) rfl (by show 2 * 0 + _ ≤ _; omega) hd (fun _ _ => ⟨has, eT, hc, hs⟩)
  dsimp only [Pt.U, Pt.locs, Pt.cells, Pt.slots] at X' l1 y1 z1 st hQ
  subst l1 y1 z1
  exact go st (k T' v L X' hQ)
theorem goCallI (X : Stand p l e R s m args below meth c T locs cells slots) (hx : p.tables.exec = Jvm.exec) (hZ : Z.Warmed39 s.vm) {own : String} {index : Nat} {y : MethodName} {bytes : ByteArray} {maxL : Nat} (hy1 : y.name = "<init>") (hown : s.vm.findClass own = some m.cls)
    (w1 : (Cond.methodLink own index y).before a0 Z = true) (w2 : (Cond.instanceMethod y).before a0 Z = true) (w3 : (Cond.initialized y.cls).before a0 Z = true) (w4 : (Cond.code y bytes maxL none).before a0 Z = true) (hy : y.cls ≠ "java/lang/invoke/MethodHandle" ∧ y.cls ≠ "java/lang/invoke/VarHandle")
    {rm : Room} {as : Array Value} {Q' : Option Value → Heap → List Loc → Prop} (hM : Ctr l Z y bytes maxL none [] rm as h Q') (W : Nat) (hf : rm.frames + 1 ≤ R.frames) (hl : W + (maxL + 11) + rm.locals ≤ R.locals) (eT : T.heap = h)
    {pc : Nat} {Ls : Array Slot} {st : List Value} (hsize : Ls.size = c.maxLocals) (a : Addr) (argsL rest : List Value) {ps : List FieldType} {rt : Option FieldType} (hpd : parseMethodDescriptor y.desc = some ⟨ps, rt⟩) (hlen : argsL.length = ps.length) (hst : st = argsL.reverse ++ .ref a :: rest) (has : (.ref a :: argsL).toArray = as) (hW : (rest.map fun v => v.category).sum ≤ W)
    (hd : decode c.code pc = .ok (.invokespecial index, 3)) (hc : cells + rm.cells ≤ R.cells) (hs : slots + rm.slots ≤ R.slots)
    (k : ∀ T' v L, Stand p l e R s m args below meth c T' (locs ++ L) (cells + rm.cells) (slots + rm.slots) → Q' v T'.heap L → Goes p e below G (T'.setTop (mkF m (pc + 3) Ls (v.toList ++ rest)))) : Goes p e below G (T.setTop (mkF m pc Ls st)) := by
  subst hst
  obtain ⟨v, _, ⟨T', L', k', n'⟩, -, X', ⟨L, hQ, l1, y1, z1⟩, st⟩ := X.specialBack hx (y := y) hy1 hown (mvT hZ w1) (mvT hZ w2) (mvT hZ w4) hy (backOf (W := W) hM hZ w4 w3 hf hl) (g := mkF m pc Ls (argsL.reverse ++ .ref a :: rest)) rfl hsize (Steps.refl _) (a := a) (argsL := argsL) (rest := rest) (lenOf hpd hlen) rfl (by show 2 * 0 + _ ≤ _; omega) hd (fun _ _ => ⟨has, eT, hc, hs⟩)
  dsimp only [Pt.U, Pt.locs, Pt.cells, Pt.slots] at X' l1 y1 z1 st hQ
  subst l1 y1 z1
  exact go (fun _ => st.trans) (k T' v L X' hQ)
theorem goCallV (X : Stand p l e R s m args below meth c T locs cells slots) (hx : p.tables.exec = Jvm.exec) (hZ : Z.Warmed39 s.vm) {own C : String} {index : Nat} {y : MethodName} {bytes : ByteArray} {maxL : Nat} {ret : Option FieldType} (hown : s.vm.findClass own = some m.cls)
    (w1 : (Cond.methodLink own index y).before a0 Z = true) (w2 : (Cond.declares y).before a0 Z = true) (w5 : (Cond.selects C y y).before a0 Z = true) (w6 : (Cond.instanceMethod y).before a0 Z = true) (w3 : (Cond.initialized y.cls).before a0 Z = true) (w4 : (Cond.code y bytes maxL ret).before a0 Z = true) (hy : y.cls ≠ "java/lang/invoke/MethodHandle" ∧ y.cls ≠ "java/lang/invoke/VarHandle")
    {rm : Room} {as : Array Value} {Q' : Option Value → Heap → List Loc → Prop} (hM : Ctr l Z y bytes maxL ret [] rm as h Q') (W : Nat) (hf : rm.frames + 1 ≤ R.frames) (hl : W + (maxL + 11) + rm.locals ≤ R.locals) (eT : T.heap = h) {a : Addr} (E : Exa Z h a C)
    {pc : Nat} {Ls : Array Slot} {st : List Value} (hsize : Ls.size = c.maxLocals) (argsL rest : List Value) {ps : List FieldType} {rt : Option FieldType} (hpd : parseMethodDescriptor y.desc = some ⟨ps, rt⟩) (hlen : argsL.length = ps.length) (hst : st = argsL.reverse ++ .ref a :: rest) (has : (.ref a :: argsL).toArray = as) (hW : (rest.map fun v => v.category).sum ≤ W)
    (hd : decode c.code pc = .ok (.invokevirtual index, 3)) (hc : cells + rm.cells ≤ R.cells) (hs : slots + rm.slots ≤ R.slots)
    (k : ∀ T' v L, Stand p l e R s m args below meth c T' (locs ++ L) (cells + rm.cells) (slots + rm.slots) → Q' v T'.heap L → Goes p e below G (T'.setTop (mkF m (pc + 3) Ls (v.toList ++ rest)))) : Goes p e below G (T.setTop (mkF m pc Ls st)) := by
  subst hst
  obtain ⟨cq, kq, qa, qb, qc⟩ := isOf hZ eT E
  obtain ⟨v, _, ⟨T', L', k', n'⟩, -, X', ⟨L, hQ, l1, y1, z1⟩, st⟩ := X.virtualBack hx (y := y) (z := y) hown (mvT hZ w1) (mvT hZ w2) (notFace_of_selects (args := #[]) (mvT hZ w5)) (mvT hZ w5) (mvT hZ w6) hy (backOf (W := W) hM hZ w4 w3 hf hl) qa qc (g := mkF m pc Ls (argsL.reverse ++ .ref a :: rest)) rfl hsize (Steps.refl _) (argsL := argsL) (rest := rest) (lenOf hpd hlen) rfl (by show 2 * 0 + _ ≤ _; omega) hd (fun _ _ => ⟨has, eT, hc, hs⟩)
  dsimp only [Pt.U, Pt.locs, Pt.cells, Pt.slots] at X' l1 y1 z1 st hQ
  subst l1 y1 z1
  exact go (fun _ => st.trans) (k T' v L X' hQ)
theorem extT {h0 : Heap} (O : Ext h0 h) (E : Ext h h') : Ext h0 h' := ⟨Nat.le_trans O.1 E.1, fun x c q => E.2 x c (O.2 x c q)⟩
theorem extK {h0 : Heap} {ws : List Addr} (O : Ext h0 h) (K : Keep h h' ws) (q : ∀ x ∈ ws, h0.size ≤ x) : Ext h0 h' := ⟨Nat.le_trans O.1 K.1, fun x c r => K.2.1 x c (O.2 x c r) fun z => absurd (Array.getElem?_eq_some_iff.mp r).1 (Nat.not_lt.mpr (q x z))⟩
theorem extW {h0 : Heap} {a : Addr} {sl : Nat} {v : Value} (O : Ext h0 h) (W : Wr h h' a sl v) (q : h0.size ≤ a) : Ext h0 h' := extK O (Keep.of_wr W) (allS q all0)
theorem eqI_v {t : Term} {k : Int32} {first s : State} {o : Option Outcome} {idx : List Nat} {args : Array Value} (h : (Cond.eq t (.int k)).value args first o s idx = some true) : t.eval args first o idx s = some (.int k) := by
  simp only [Cond.value, Term.eval] at h
  cases ht : t.eval args first o idx s with
  | none => simp [ht] at h
  | some x => cases x <;> simp [ht] at h ⊢; exact h
/-- an array with these values -/
def Ary (Z : State) (h : Heap) (a : Addr) (ty : FieldType) (vs : List Value) : Prop := ∃ cl : Cell, Arr Z h a cl ty ∧ cl.slots.toList = vs ∧ vs.length < 2 ^ 31
variable {a b : Addr} {ty : FieldType} {vs : List Value}
theorem Ary.lt (F : Ary Z h a ty vs) : a < h.size := by obtain ⟨c, A, -⟩ := F; exact A.lt
theorem Ary.ext (F : Ary Z h a ty vs) (E : Ext h h') : Ary Z h' a ty vs := by obtain ⟨c, A, r⟩ := F; exact ⟨c, A.ext E, r⟩
theorem Ary.other (F : Ary Z h b ty vs) {sl : Nat} {v : Value} (W : Wr h h' a sl v) (q : b ≠ a) : Ary Z h' b ty vs := by obtain ⟨c, A, r⟩ := F; exact ⟨c, A.other W q, r⟩
theorem Ary.keep (F : Ary Z h a ty vs) {ws : List Addr} (K : Keep h h' ws) (q : a ∉ ws) : Ary Z h' a ty vs := by obtain ⟨c, A, r⟩ := F; exact ⟨c, ⟨K.2.1 a c A.1 q, A.2⟩, r⟩
theorem Ary.set (F : Ary Z h a ty vs) {j : Int32} {v : Value} (W : Wr h h' a j.toNatClampNeg v) {ws : List Value} (e : vs.set j.toNatClampNeg v = ws) : Ary Z h' a ty ws := by
  obtain ⟨c, A, r, q⟩ := F
  refine ⟨_, A.same W, ?_, ?_⟩
  · rw [← e, ← r]; simp [Cell.setSlot]
  · rw [← e, List.length_set]; exact q
theorem Ary.new {cA : ClassId} {n : Int32} (A : Arr Z h a (newA cA ty n) ty) (e : List.replicate n.toNatClampNeg (defaultValue ty) = vs) (q : vs.length < 2 ^ 31) : Ary Z h a ty vs := ⟨_, A, by rw [← e]; simp [newA], q⟩
theorem Ary.inb {cl : Cell} (r : cl.slots.toList = vs) {j : Int32} {v : Value} (hj : ¬ j < 0) (hv : vs[j.toNatClampNeg]? = some v) : ¬ (j < 0 ∨ cl.slots.size ≤ j.toNatClampNeg) := fun q => by
  rcases q with q | q
  · exact hj q
  · subst r
    have := (List.getElem?_eq_some_iff.mp hv).1
    rw [Array.length_toList] at this
    omega
theorem Ary.at {cl : Cell} (r : cl.slots.toList = vs) {j : Int32} {v : Value} (hv : vs[j.toNatClampNeg]? = some v) : cl.slots[j.toNatClampNeg]? = some v := by subst r; simpa using hv
theorem goIaload (X : Stand p l e R s m args below meth c T locs cells slots) (hx : p.tables.exec = Jvm.exec) (hZ : Z.Warmed39 s.vm) (eT : T.heap = h) {vs : List Value} (F : Ary Z h a .int vs) {j x : Int32} {pc : Nat} {Ls : Array Slot} {rest : List Value} (hd : decode c.code pc = .ok (.iaload, 1)) (hj : ¬ j < 0) (hv : vs[j.toNatClampNeg]? = some (.int x))
    (k : Goes p e below G (T.setTop (mkF m (pc + 1) Ls (.int x :: rest)))) : Goes p e below G (T.setTop (mkF m pc Ls (.int j :: .ref a :: rest))) := by
  obtain ⟨cl, A, r, q⟩ := F
  exact go (X.iaload hx (j := j) (v := .int x) (by rw [eT]; exact A.1) (State.isArrayOf_alike hZ.alike A.2.1) A.2.2 (Ary.inb r hj hv) (Ary.at r hv) (g := mkF m pc Ls (.int j :: .ref a :: rest)) rfl rfl hd) k
theorem goBaload (X : Stand p l e R s m args below meth c T locs cells slots) (hx : p.tables.exec = Jvm.exec) (hZ : Z.Warmed39 s.vm) (eT : T.heap = h) {vs : List Value} (F : Ary Z h a .byte vs) {j x : Int32} {pc : Nat} {Ls : Array Slot} {rest : List Value} (hd : decode c.code pc = .ok (.baload, 1)) (hj : ¬ j < 0) (hv : vs[j.toNatClampNeg]? = some (.int x))
    (k : Goes p e below G (T.setTop (mkF m (pc + 1) Ls (.int x :: rest)))) : Goes p e below G (T.setTop (mkF m pc Ls (.int j :: .ref a :: rest))) := by
  obtain ⟨cl, A, r, q⟩ := F
  exact go (X.baloadBytes hx (j := j) (v := .int x) (by rw [eT]; exact A.1) (State.isArrayOf_alike hZ.alike A.2.1) A.2.2 (Ary.inb r hj hv) (Ary.at r hv) (g := mkF m pc Ls (.int j :: .ref a :: rest)) rfl rfl hd) k
theorem goZaload (X : Stand p l e R s m args below meth c T locs cells slots) (hx : p.tables.exec = Jvm.exec) (hZ : Z.Warmed39 s.vm) (eT : T.heap = h) {vs : List Value} (F : Ary Z h a .boolean vs) {j x : Int32} {pc : Nat} {Ls : Array Slot} {rest : List Value} (hd : decode c.code pc = .ok (.baload, 1)) (hj : ¬ j < 0) (hv : vs[j.toNatClampNeg]? = some (.int x))
    (k : Goes p e below G (T.setTop (mkF m (pc + 1) Ls (.int x :: rest)))) : Goes p e below G (T.setTop (mkF m pc Ls (.int j :: .ref a :: rest))) := by
  obtain ⟨cl, A, r, q⟩ := F
  exact go (X.baloadBooleans hx (j := j) (v := .int x) (by rw [eT]; exact A.1) (State.isArrayOf_alike hZ.alike A.2.1) A.2.2 (Ary.inb r hj hv) (Ary.at r hv) (g := mkF m pc Ls (.int j :: .ref a :: rest)) rfl rfl hd) k
theorem goCaload (X : Stand p l e R s m args below meth c T locs cells slots) (hx : p.tables.exec = Jvm.exec) (hZ : Z.Warmed39 s.vm) (eT : T.heap = h) {vs : List Value} (F : Ary Z h a .char vs) {j x : Int32} {pc : Nat} {Ls : Array Slot} {rest : List Value} (hd : decode c.code pc = .ok (.caload, 1)) (hj : ¬ j < 0) (hv : vs[j.toNatClampNeg]? = some (.int x))
    (k : Goes p e below G (T.setTop (mkF m (pc + 1) Ls (.int x :: rest)))) : Goes p e below G (T.setTop (mkF m pc Ls (.int j :: .ref a :: rest))) := by
  obtain ⟨cl, A, r, q⟩ := F
  exact go (X.caload hx (j := j) (v := .int x) (by rw [eT]; exact A.1) (State.isArrayOf_alike hZ.alike A.2.1) A.2.2 (Ary.inb r hj hv) (Ary.at r hv) (g := mkF m pc Ls (.int j :: .ref a :: rest)) rfl rfl hd) k
theorem goAlen (X : Stand p l e R s m args below meth c T locs cells slots) (hx : p.tables.exec = Jvm.exec) (hZ : Z.Warmed39 s.vm) (eT : T.heap = h) {vs : List Value} (F : Ary Z h a ty vs) {n : Int32} {pc : Nat} {Ls : Array Slot} {rest : List Value} (hd : decode c.code pc = .ok (.arraylength, 1)) (hn : vs.length.toInt32 = n)
    (k : Goes p e below G (T.setTop (mkF m (pc + 1) Ls (.int n :: rest)))) : Goes p e below G (T.setTop (mkF m pc Ls (.ref a :: rest))) := by
  obtain ⟨cl, A, r, q⟩ := F
  have e1 : cl.slots.size.toInt32 = n := by rw [← hn, ← r, Array.length_toList]
  refine go (X.arraylength hx (cell := cl) (by rw [eT]; exact A.1) (State.isArrayOf_alike hZ.alike A.2.1) (g := mkF m pc Ls (.ref a :: rest)) rfl (rest := rest) rfl hd) ?_
  rw [e1]
  exact k
theorem goIastore (X : Stand p l e R s m args below meth c T locs cells slots) (hx : p.tables.exec = Jvm.exec) (hZ : Z.Warmed39 s.vm) (eT : T.heap = h) {vs : List Value} (F : Ary Z h a .int vs) {j x : Int32} {v : Value} {pc : Nat} {Ls : Array Slot} {rest : List Value} (hd : decode c.code pc = .ok (.iastore, 1)) (hj : ¬ j < 0) (hv : vs[j.toNatClampNeg]? = some v)
    (k : ∀ T' h', Stand p l e R s m args below meth c T' (locs ++ [⟨a, j.toNatClampNeg⟩]) cells slots → T'.heap = h' → Wr h h' a j.toNatClampNeg (.int x) → Goes p e below G (T'.setTop (mkF m (pc + 1) Ls rest))) : Goes p e below G (T.setTop (mkF m pc Ls (.int x :: .int j :: .ref a :: rest))) := by
  obtain ⟨cl, A, r, q⟩ := F
  obtain ⟨T', h', X', e', W', st⟩ := stI X hx hZ eT A (j := j) (x := x) (Ary.inb r hj hv) (g := mkF m pc Ls (.int x :: .int j :: .ref a :: rest)) rfl rfl hd
  exact go st (k T' h' X' e' W')
theorem goBastore (X : Stand p l e R s m args below meth c T locs cells slots) (hx : p.tables.exec = Jvm.exec) (hZ : Z.Warmed39 s.vm) (eT : T.heap = h) {vs : List Value} (F : Ary Z h a .byte vs) {j x : Int32} {v : Value} {pc : Nat} {Ls : Array Slot} {rest : List Value} (hd : decode c.code pc = .ok (.bastore, 1)) (hj : ¬ j < 0) (hv : vs[j.toNatClampNeg]? = some v)
    (k : ∀ T' h', Stand p l e R s m args below meth c T' (locs ++ [⟨a, j.toNatClampNeg⟩]) cells slots → T'.heap = h' → Wr h h' a j.toNatClampNeg (.int (nar .byte x)) → Goes p e below G (T'.setTop (mkF m (pc + 1) Ls rest))) : Goes p e below G (T.setTop (mkF m pc Ls (.int x :: .int j :: .ref a :: rest))) := by
  obtain ⟨cl, A, r, q⟩ := F
  obtain ⟨T', h', X', e', W', st⟩ := stB X hx hZ eT A (j := j) (x := x) (Ary.inb r hj hv) (g := mkF m pc Ls (.int x :: .int j :: .ref a :: rest)) rfl rfl hd
  exact go st (k T' h' X' e' W')
theorem goZastore (X : Stand p l e R s m args below meth c T locs cells slots) (hx : p.tables.exec = Jvm.exec) (hZ : Z.Warmed39 s.vm) (eT : T.heap = h) {vs : List Value} (F : Ary Z h a .boolean vs) {j x : Int32} {v : Value} {pc : Nat} {Ls : Array Slot} {rest : List Value} (hd : decode c.code pc = .ok (.bastore, 1)) (hj : ¬ j < 0) (hv : vs[j.toNatClampNeg]? = some v)
    (k : ∀ T' h', Stand p l e R s m args below meth c T' (locs ++ [⟨a, j.toNatClampNeg⟩]) cells slots → T'.heap = h' → Wr h h' a j.toNatClampNeg (.int (nar .boolean x)) → Goes p e below G (T'.setTop (mkF m (pc + 1) Ls rest))) : Goes p e below G (T.setTop (mkF m pc Ls (.int x :: .int j :: .ref a :: rest))) := by
  obtain ⟨cl, A, r, q⟩ := F
  obtain ⟨T', h', X', e', W', st⟩ := stZ X hx hZ eT A (j := j) (x := x) (Ary.inb r hj hv) (g := mkF m pc Ls (.int x :: .int j :: .ref a :: rest)) rfl rfl hd
  exact go st (k T' h' X' e' W')
theorem goCastore (X : Stand p l e R s m args below meth c T locs cells slots) (hx : p.tables.exec = Jvm.exec) (hZ : Z.Warmed39 s.vm) (eT : T.heap = h) {vs : List Value} (F : Ary Z h a .char vs) {j x : Int32} {v : Value} {pc : Nat} {Ls : Array Slot} {rest : List Value} (hd : decode c.code pc = .ok (.castore, 1)) (hj : ¬ j < 0) (hv : vs[j.toNatClampNeg]? = some v)
    (k : ∀ T' h', Stand p l e R s m args below meth c T' (locs ++ [⟨a, j.toNatClampNeg⟩]) cells slots → T'.heap = h' → Wr h h' a j.toNatClampNeg (.int (nar .char x)) → Goes p e below G (T'.setTop (mkF m (pc + 1) Ls rest))) : Goes p e below G (T.setTop (mkF m pc Ls (.int x :: .int j :: .ref a :: rest))) := by
  obtain ⟨cl, A, r, q⟩ := F
  obtain ⟨T', h', X', e', W', st⟩ := stC X hx hZ eT A (j := j) (x := x) (Ary.inb r hj hv) (g := mkF m pc Ls (.int x :: .int j :: .ref a :: rest)) rfl rfl hd
  exact go st (k T' h' X' e' W')
theorem narb (x : Int32) : nar .byte x.toInt8.toInt32 = x.toInt8.toInt32 := by simp [nar]
theorem narc (x : Int32) : nar .char x.toUInt32.toUInt16.toUInt32.toInt32 = x.toUInt32.toUInt16.toUInt32.toInt32 := by simp only [nar, UInt32.toUInt32_toInt32, UInt16.toUInt16_toUInt32]
theorem gIload (X : Stand p l e R s m args below meth c T locs cells slots) (hx : p.tables.exec = Jvm.exec) {pc : Nat} {Ls : Array Slot} {st : List Value} {k : Nat} {v : Int32} (hd : decode c.code pc = .ok (.iload k, 2)) (hl : Ls[k]? = some (.val (.int v))) (K : Goes p e below G (T.setTop (mkF m (pc + 2) Ls (.int v :: st)))) : Goes p e below G (T.setTop (mkF m pc Ls (st))) :=
  go (fun _ q => XS.iload (g := mkF m pc Ls (st)) X.here hx rfl hd hl q) K
theorem gIloadN (X : Stand p l e R s m args below meth c T locs cells slots) (hx : p.tables.exec = Jvm.exec) {pc : Nat} {Ls : Array Slot} {st : List Value} {k : Fin 4} {v : Int32} (hd : decode c.code pc = .ok (.iload_n k, 1)) (hl : Ls[k.val]? = some (.val (.int v))) (K : Goes p e below G (T.setTop (mkF m (pc + 1) Ls (.int v :: st)))) : Goes p e below G (T.setTop (mkF m pc Ls (st))) :=
  go (fun _ q => XS.iloadN (g := mkF m pc Ls (st)) X.here hx rfl hd hl q) K
theorem gIstore (X : Stand p l e R s m args below meth c T locs cells slots) (hx : p.tables.exec = Jvm.exec) {pc : Nat} {Ls : Array Slot} {st : List Value} {k : Nat} {v : Int32} {l' : Array Slot} (hd : decode c.code pc = .ok (.istore k, 2)) (hl : storeLocals Ls k (.int v) = some l') (K : Goes p e below G (T.setTop (mkF m (pc + 2) l' (st)))) : Goes p e below G (T.setTop (mkF m pc Ls (.int v :: st))) :=
  go (fun _ q => XS.istore (g := mkF m pc Ls (.int v :: st)) X.here hx rfl hd rfl hl q) K
theorem gIstoreN (X : Stand p l e R s m args below meth c T locs cells slots) (hx : p.tables.exec = Jvm.exec) {pc : Nat} {Ls : Array Slot} {st : List Value} {k : Fin 4} {v : Int32} {l' : Array Slot} (hd : decode c.code pc = .ok (.istore_n k, 1)) (hl : storeLocals Ls k.val (.int v) = some l') (K : Goes p e below G (T.setTop (mkF m (pc + 1) l' (st)))) : Goes p e below G (T.setTop (mkF m pc Ls (.int v :: st))) :=
  go (fun _ q => XS.istoreN (g := mkF m pc Ls (.int v :: st)) X.here hx rfl hd rfl hl q) K
theorem gLload (X : Stand p l e R s m args below meth c T locs cells slots) (hx : p.tables.exec = Jvm.exec) {pc : Nat} {Ls : Array Slot} {st : List Value} {k : Nat} {v : Int64} (hd : decode c.code pc = .ok (.lload k, 2)) (hl : Ls[k]? = some (.val (.long v))) (K : Goes p e below G (T.setTop (mkF m (pc + 2) Ls (.long v :: st)))) : Goes p e below G (T.setTop (mkF m pc Ls (st))) :=
  go (fun _ q => XT.lload (g := mkF m pc Ls (st)) X.here hx rfl hd hl q) K
theorem gLloadN (X : Stand p l e R s m args below meth c T locs cells slots) (hx : p.tables.exec = Jvm.exec) {pc : Nat} {Ls : Array Slot} {st : List Value} {k : Fin 4} {v : Int64} (hd : decode c.code pc = .ok (.lload_n k, 1)) (hl : Ls[k.val]? = some (.val (.long v))) (K : Goes p e below G (T.setTop (mkF m (pc + 1) Ls (.long v :: st)))) : Goes p e below G (T.setTop (mkF m pc Ls (st))) :=
  go (fun _ q => XT.lloadN (g := mkF m pc Ls (st)) X.here hx rfl hd hl q) K
theorem gLstore (X : Stand p l e R s m args below meth c T locs cells slots) (hx : p.tables.exec = Jvm.exec) {pc : Nat} {Ls : Array Slot} {st : List Value} {k : Nat} {v : Int64} {l' : Array Slot} (hd : decode c.code pc = .ok (.lstore k, 2)) (hl : storeLocals Ls k (.long v) = some l') (K : Goes p e below G (T.setTop (mkF m (pc + 2) l' (st)))) : Goes p e below G (T.setTop (mkF m pc Ls (.long v :: st))) :=
  go (fun _ q => XT.lstore (g := mkF m pc Ls (.long v :: st)) X.here hx rfl hd rfl hl q) K
theorem gLstoreN (X : Stand p l e R s m args below meth c T locs cells slots) (hx : p.tables.exec = Jvm.exec) {pc : Nat} {Ls : Array Slot} {st : List Value} {k : Fin 4} {v : Int64} {l' : Array Slot} (hd : decode c.code pc = .ok (.lstore_n k, 1)) (hl : storeLocals Ls k.val (.long v) = some l') (K : Goes p e below G (T.setTop (mkF m (pc + 1) l' (st)))) : Goes p e below G (T.setTop (mkF m pc Ls (.long v :: st))) :=
  go (fun _ q => XT.lstoreN (g := mkF m pc Ls (.long v :: st)) X.here hx rfl hd rfl hl q) K
theorem gDload (X : Stand p l e R s m args below meth c T locs cells slots) (hx : p.tables.exec = Jvm.exec) {pc : Nat} {Ls : Array Slot} {st : List Value} {k : Nat} {v : UInt64} (hd : decode c.code pc = .ok (.dload k, 2)) (hl : Ls[k]? = some (.val (.double v))) (K : Goes p e below G (T.setTop (mkF m (pc + 2) Ls (.double v :: st)))) : Goes p e below G (T.setTop (mkF m pc Ls (st))) :=
  go (fun _ q => XS.dload (g := mkF m pc Ls (st)) X.here hx rfl hd hl q) K
theorem gDloadN (X : Stand p l e R s m args below meth c T locs cells slots) (hx : p.tables.exec = Jvm.exec) {pc : Nat} {Ls : Array Slot} {st : List Value} {k : Fin 4} {v : UInt64} (hd : decode c.code pc = .ok (.dload_n k, 1)) (hl : Ls[k.val]? = some (.val (.double v))) (K : Goes p e below G (T.setTop (mkF m (pc + 1) Ls (.double v :: st)))) : Goes p e below G (T.setTop (mkF m pc Ls (st))) :=
  go (fun _ q => XS.dloadN (g := mkF m pc Ls (st)) X.here hx rfl hd hl q) K
theorem gDstore (X : Stand p l e R s m args below meth c T locs cells slots) (hx : p.tables.exec = Jvm.exec) {pc : Nat} {Ls : Array Slot} {st : List Value} {k : Nat} {v : UInt64} {l' : Array Slot} (hd : decode c.code pc = .ok (.dstore k, 2)) (hl : storeLocals Ls k (.double v) = some l') (K : Goes p e below G (T.setTop (mkF m (pc + 2) l' (st)))) : Goes p e below G (T.setTop (mkF m pc Ls (.double v :: st))) :=
  go (fun _ q => XS.dstore (g := mkF m pc Ls (.double v :: st)) X.here hx rfl hd rfl hl q) K
theorem gDstoreN (X : Stand p l e R s m args below meth c T locs cells slots) (hx : p.tables.exec = Jvm.exec) {pc : Nat} {Ls : Array Slot} {st : List Value} {k : Fin 4} {v : UInt64} {l' : Array Slot} (hd : decode c.code pc = .ok (.dstore_n k, 1)) (hl : storeLocals Ls k.val (.double v) = some l') (K : Goes p e below G (T.setTop (mkF m (pc + 1) l' (st)))) : Goes p e below G (T.setTop (mkF m pc Ls (.double v :: st))) :=
  go (fun _ q => XS.dstoreN (g := mkF m pc Ls (.double v :: st)) X.here hx rfl hd rfl hl q) K
theorem gAload (X : Stand p l e R s m args below meth c T locs cells slots) (hx : p.tables.exec = Jvm.exec) {pc : Nat} {Ls : Array Slot} {st : List Value} {k : Nat} {v : Value} (hd : decode c.code pc = .ok (.aload k, 2)) (hl : Ls[k]? = some (.val v)) (hv : v.isRef = true) (K : Goes p e below G (T.setTop (mkF m (pc + 2) Ls (v :: st)))) : Goes p e below G (T.setTop (mkF m pc Ls (st))) :=
  go (fun _ q => XS.aload (g := mkF m pc Ls (st)) X.here hx rfl hd hl hv q) K
theorem gAloadN (X : Stand p l e R s m args below meth c T locs cells slots) (hx : p.tables.exec = Jvm.exec) {pc : Nat} {Ls : Array Slot} {st : List Value} {k : Fin 4} {v : Value} (hd : decode c.code pc = .ok (.aload_n k, 1)) (hl : Ls[k.val]? = some (.val v)) (hv : v.isRef = true) (K : Goes p e below G (T.setTop (mkF m (pc + 1) Ls (v :: st)))) : Goes p e below G (T.setTop (mkF m pc Ls (st))) :=
  go (fun _ q => XS.aloadN (g := mkF m pc Ls (st)) X.here hx rfl hd hl hv q) K
theorem gAstore (X : Stand p l e R s m args below meth c T locs cells slots) (hx : p.tables.exec = Jvm.exec) {pc : Nat} {Ls : Array Slot} {st : List Value} {k : Nat} {v : Value} {l' : Array Slot} (hd : decode c.code pc = .ok (.astore k, 2)) (hv : v.isRef = true) (hl : storeLocals Ls k v = some l') (K : Goes p e below G (T.setTop (mkF m (pc + 2) l' (st)))) : Goes p e below G (T.setTop (mkF m pc Ls (v :: st))) :=
  go (fun _ q => XS.astore (g := mkF m pc Ls (v :: st)) X.here hx rfl hd rfl hv hl q) K
theorem gAstoreN (X : Stand p l e R s m args below meth c T locs cells slots) (hx : p.tables.exec = Jvm.exec) {pc : Nat} {Ls : Array Slot} {st : List Value} {k : Fin 4} {v : Value} {l' : Array Slot} (hd : decode c.code pc = .ok (.astore_n k, 1)) (hv : v.isRef = true) (hl : storeLocals Ls k.val v = some l') (K : Goes p e below G (T.setTop (mkF m (pc + 1) l' (st)))) : Goes p e below G (T.setTop (mkF m pc Ls (v :: st))) :=
  go (fun _ q => XS.astoreN (g := mkF m pc Ls (v :: st)) X.here hx rfl hd rfl hv hl q) K
theorem gIstoreS (X : Stand p l e R s m args below meth c T locs cells slots) (hx : p.tables.exec = Jvm.exec) {pc : Nat} {Ls : Array Slot} {st : List Value} {k : Nat} {v : Int32} {o : Slot} (hd : decode c.code pc = .ok (.istore k, 2)) (hold : Ls[k]? = some o) (ho : o = .unset ∨ ∃ w, o = .val w ∧ w.category = 1) (K : Goes p e below G (T.setTop (mkF m (pc + 2) (Ls.setIfInBounds k (.val (.int v))) (st)))) : Goes p e below G (T.setTop (mkF m pc Ls (.int v :: st))) :=
  go (fun _ q => XS.istoreS (g := mkF m pc Ls (.int v :: st)) X.here hx rfl hd rfl hold ho q) K
theorem gIconst (X : Stand p l e R s m args below meth c T locs cells slots) (hx : p.tables.exec = Jvm.exec) {pc : Nat} {Ls : Array Slot} {st : List Value} {i : Int} {v : Int32} (hd : decode c.code pc = .ok (.iconst i, 1)) (hv : Int32.ofInt i = v) (K : Goes p e below G (T.setTop (mkF m (pc + 1) Ls (.int v :: st)))) : Goes p e below G (T.setTop (mkF m pc Ls st)) := by
  subst hv
  exact go (fun _ q => XS.iconst (g := mkF m pc Ls st) X.here hx rfl hd q) K
theorem gBipush (X : Stand p l e R s m args below meth c T locs cells slots) (hx : p.tables.exec = Jvm.exec) {pc : Nat} {Ls : Array Slot} {st : List Value} {i : Int} {v : Int32} (hd : decode c.code pc = .ok (.bipush i, 2)) (hv : (Int8.ofInt i).toInt32 = v) (K : Goes p e below G (T.setTop (mkF m (pc + 2) Ls (.int v :: st)))) : Goes p e below G (T.setTop (mkF m pc Ls st)) := by
  subst hv
  exact go (fun _ q => XS.bipush (g := mkF m pc Ls st) X.here hx rfl hd q) K
theorem gSipush (X : Stand p l e R s m args below meth c T locs cells slots) (hx : p.tables.exec = Jvm.exec) {pc : Nat} {Ls : Array Slot} {st : List Value} {i : Int} {v : Int32} (hd : decode c.code pc = .ok (.sipush i, 3)) (hv : (Int16.ofInt i).toInt32 = v) (K : Goes p e below G (T.setTop (mkF m (pc + 3) Ls (.int v :: st)))) : Goes p e below G (T.setTop (mkF m pc Ls st)) := by
  subst hv
  exact go (fun _ q => XS.sipush (g := mkF m pc Ls st) X.here hx rfl hd q) K
theorem gLconst (X : Stand p l e R s m args below meth c T locs cells slots) (hx : p.tables.exec = Jvm.exec) {pc : Nat} {Ls : Array Slot} {st : List Value} {i : Fin 2} {v : Int64} (hd : decode c.code pc = .ok (.lconst i, 1)) (hv : Int64.ofNat i = v) (K : Goes p e below G (T.setTop (mkF m (pc + 1) Ls (.long v :: st)))) : Goes p e below G (T.setTop (mkF m pc Ls st)) := by
  subst hv
  exact go (fun _ q => XT.lconst (g := mkF m pc Ls st) X.here hx rfl hd q) K
theorem gAnull (X : Stand p l e R s m args below meth c T locs cells slots) (hx : p.tables.exec = Jvm.exec) {pc : Nat} {Ls : Array Slot} {st : List Value}  (hd : decode c.code pc = .ok (.aconst_null, 1))  (K : Goes p e below G (T.setTop (mkF m (pc + 1) Ls (.null :: st)))) : Goes p e below G (T.setTop (mkF m pc Ls (st))) :=
  go (fun _ q => XS.aconstNull (g := mkF m pc Ls (st)) X.here hx rfl hd  q) K
theorem gDconst0 (X : Stand p l e R s m args below meth c T locs cells slots) (hx : p.tables.exec = Jvm.exec) {pc : Nat} {Ls : Array Slot} {st : List Value}  (hd : decode c.code pc = .ok (.dconst 0, 1))  (K : Goes p e below G (T.setTop (mkF m (pc + 1) Ls (.double FP.dconst0 :: st)))) : Goes p e below G (T.setTop (mkF m pc Ls (st))) :=
  go (fun _ q => XS.dconst0 (g := mkF m pc Ls (st)) X.here hx rfl hd rfl q) K
theorem gDconst1 (X : Stand p l e R s m args below meth c T locs cells slots) (hx : p.tables.exec = Jvm.exec) {pc : Nat} {Ls : Array Slot} {st : List Value}  (hd : decode c.code pc = .ok (.dconst 1, 1))  (K : Goes p e below G (T.setTop (mkF m (pc + 1) Ls (.double FP.dconst1 :: st)))) : Goes p e below G (T.setTop (mkF m pc Ls (st))) :=
  go (fun _ q => XS.dconst1 (g := mkF m pc Ls (st)) X.here hx rfl hd rfl q) K
theorem gIadd (X : Stand p l e R s m args below meth c T locs cells slots) (hx : p.tables.exec = Jvm.exec) {pc : Nat} {Ls : Array Slot} {st : List Value} {x y : Int32} (hd : decode c.code pc = .ok (.iadd, 1))  (K : Goes p e below G (T.setTop (mkF m (pc + 1) Ls (.int (x + y) :: st)))) : Goes p e below G (T.setTop (mkF m pc Ls (.int y :: .int x :: st))) :=
  go (fun _ q => XS.iadd (g := mkF m pc Ls (.int y :: .int x :: st)) X.here hx rfl hd rfl q) K
theorem gIsub (X : Stand p l e R s m args below meth c T locs cells slots) (hx : p.tables.exec = Jvm.exec) {pc : Nat} {Ls : Array Slot} {st : List Value} {x y : Int32} (hd : decode c.code pc = .ok (.isub, 1))  (K : Goes p e below G (T.setTop (mkF m (pc + 1) Ls (.int (x - y) :: st)))) : Goes p e below G (T.setTop (mkF m pc Ls (.int y :: .int x :: st))) :=
  go (fun _ q => XS.isub (g := mkF m pc Ls (.int y :: .int x :: st)) X.here hx rfl hd rfl q) K
theorem gImul (X : Stand p l e R s m args below meth c T locs cells slots) (hx : p.tables.exec = Jvm.exec) {pc : Nat} {Ls : Array Slot} {st : List Value} {x y : Int32} (hd : decode c.code pc = .ok (.imul, 1))  (K : Goes p e below G (T.setTop (mkF m (pc + 1) Ls (.int (x * y) :: st)))) : Goes p e below G (T.setTop (mkF m pc Ls (.int y :: .int x :: st))) :=
  go (fun _ q => XS.imul (g := mkF m pc Ls (.int y :: .int x :: st)) X.here hx rfl hd rfl q) K
theorem gIand (X : Stand p l e R s m args below meth c T locs cells slots) (hx : p.tables.exec = Jvm.exec) {pc : Nat} {Ls : Array Slot} {st : List Value} {x y : Int32} (hd : decode c.code pc = .ok (.iand, 1))  (K : Goes p e below G (T.setTop (mkF m (pc + 1) Ls (.int (x &&& y) :: st)))) : Goes p e below G (T.setTop (mkF m pc Ls (.int y :: .int x :: st))) :=
  go (fun _ q => XS.iand (g := mkF m pc Ls (.int y :: .int x :: st)) X.here hx rfl hd rfl q) K
theorem gIor (X : Stand p l e R s m args below meth c T locs cells slots) (hx : p.tables.exec = Jvm.exec) {pc : Nat} {Ls : Array Slot} {st : List Value} {x y : Int32} (hd : decode c.code pc = .ok (.ior, 1))  (K : Goes p e below G (T.setTop (mkF m (pc + 1) Ls (.int (x ||| y) :: st)))) : Goes p e below G (T.setTop (mkF m pc Ls (.int y :: .int x :: st))) :=
  go (fun _ q => XT.ior (g := mkF m pc Ls (.int y :: .int x :: st)) X.here hx rfl hd rfl q) K
theorem gIxor (X : Stand p l e R s m args below meth c T locs cells slots) (hx : p.tables.exec = Jvm.exec) {pc : Nat} {Ls : Array Slot} {st : List Value} {x y : Int32} (hd : decode c.code pc = .ok (.ixor, 1))  (K : Goes p e below G (T.setTop (mkF m (pc + 1) Ls (.int (x ^^^ y) :: st)))) : Goes p e below G (T.setTop (mkF m pc Ls (.int y :: .int x :: st))) :=
  go (fun _ q => XT.ixor (g := mkF m pc Ls (.int y :: .int x :: st)) X.here hx rfl hd rfl q) K
theorem gIshl (X : Stand p l e R s m args below meth c T locs cells slots) (hx : p.tables.exec = Jvm.exec) {pc : Nat} {Ls : Array Slot} {st : List Value} {x y : Int32} (hd : decode c.code pc = .ok (.ishl, 1))  (K : Goes p e below G (T.setTop (mkF m (pc + 1) Ls (.int (x <<< (y &&& 31)) :: st)))) : Goes p e below G (T.setTop (mkF m pc Ls (.int y :: .int x :: st))) :=
  go (fun _ q => XT.ishl (g := mkF m pc Ls (.int y :: .int x :: st)) X.here hx rfl hd rfl q) K
theorem gIshr (X : Stand p l e R s m args below meth c T locs cells slots) (hx : p.tables.exec = Jvm.exec) {pc : Nat} {Ls : Array Slot} {st : List Value} {x y : Int32} (hd : decode c.code pc = .ok (.ishr, 1))  (K : Goes p e below G (T.setTop (mkF m (pc + 1) Ls (.int (x >>> (y &&& 31)) :: st)))) : Goes p e below G (T.setTop (mkF m pc Ls (.int y :: .int x :: st))) :=
  go (fun _ q => XT.ishr (g := mkF m pc Ls (.int y :: .int x :: st)) X.here hx rfl hd rfl q) K
theorem gIushr (X : Stand p l e R s m args below meth c T locs cells slots) (hx : p.tables.exec = Jvm.exec) {pc : Nat} {Ls : Array Slot} {st : List Value} {x y : Int32} (hd : decode c.code pc = .ok (.iushr, 1))  (K : Goes p e below G (T.setTop (mkF m (pc + 1) Ls (.int (XT.ushr x y) :: st)))) : Goes p e below G (T.setTop (mkF m pc Ls (.int y :: .int x :: st))) :=
  go (fun _ q => XT.iushr (g := mkF m pc Ls (.int y :: .int x :: st)) X.here hx rfl hd rfl q) K
theorem gLadd (X : Stand p l e R s m args below meth c T locs cells slots) (hx : p.tables.exec = Jvm.exec) {pc : Nat} {Ls : Array Slot} {st : List Value} {x y : Int64} (hd : decode c.code pc = .ok (.ladd, 1))  (K : Goes p e below G (T.setTop (mkF m (pc + 1) Ls (.long (x + y) :: st)))) : Goes p e below G (T.setTop (mkF m pc Ls (.long y :: .long x :: st))) :=
  go (fun _ q => XT.ladd (g := mkF m pc Ls (.long y :: .long x :: st)) X.here hx rfl hd rfl q) K
theorem gLsub (X : Stand p l e R s m args below meth c T locs cells slots) (hx : p.tables.exec = Jvm.exec) {pc : Nat} {Ls : Array Slot} {st : List Value} {x y : Int64} (hd : decode c.code pc = .ok (.lsub, 1))  (K : Goes p e below G (T.setTop (mkF m (pc + 1) Ls (.long (x - y) :: st)))) : Goes p e below G (T.setTop (mkF m pc Ls (.long y :: .long x :: st))) :=
  go (fun _ q => XT.lsub (g := mkF m pc Ls (.long y :: .long x :: st)) X.here hx rfl hd rfl q) K
theorem gLmul (X : Stand p l e R s m args below meth c T locs cells slots) (hx : p.tables.exec = Jvm.exec) {pc : Nat} {Ls : Array Slot} {st : List Value} {x y : Int64} (hd : decode c.code pc = .ok (.lmul, 1))  (K : Goes p e below G (T.setTop (mkF m (pc + 1) Ls (.long (x * y) :: st)))) : Goes p e below G (T.setTop (mkF m pc Ls (.long y :: .long x :: st))) :=
  go (fun _ q => XT.lmul (g := mkF m pc Ls (.long y :: .long x :: st)) X.here hx rfl hd rfl q) K
theorem gLand (X : Stand p l e R s m args below meth c T locs cells slots) (hx : p.tables.exec = Jvm.exec) {pc : Nat} {Ls : Array Slot} {st : List Value} {x y : Int64} (hd : decode c.code pc = .ok (.land, 1))  (K : Goes p e below G (T.setTop (mkF m (pc + 1) Ls (.long (x &&& y) :: st)))) : Goes p e below G (T.setTop (mkF m pc Ls (.long y :: .long x :: st))) :=
  go (fun _ q => XT.land (g := mkF m pc Ls (.long y :: .long x :: st)) X.here hx rfl hd rfl q) K
theorem gLor (X : Stand p l e R s m args below meth c T locs cells slots) (hx : p.tables.exec = Jvm.exec) {pc : Nat} {Ls : Array Slot} {st : List Value} {x y : Int64} (hd : decode c.code pc = .ok (.lor, 1))  (K : Goes p e below G (T.setTop (mkF m (pc + 1) Ls (.long (x ||| y) :: st)))) : Goes p e below G (T.setTop (mkF m pc Ls (.long y :: .long x :: st))) :=
  go (fun _ q => XT.lor (g := mkF m pc Ls (.long y :: .long x :: st)) X.here hx rfl hd rfl q) K
theorem gLxor (X : Stand p l e R s m args below meth c T locs cells slots) (hx : p.tables.exec = Jvm.exec) {pc : Nat} {Ls : Array Slot} {st : List Value} {x y : Int64} (hd : decode c.code pc = .ok (.lxor, 1))  (K : Goes p e below G (T.setTop (mkF m (pc + 1) Ls (.long (x ^^^ y) :: st)))) : Goes p e below G (T.setTop (mkF m pc Ls (.long y :: .long x :: st))) :=
  go (fun _ q => XT.lxor (g := mkF m pc Ls (.long y :: .long x :: st)) X.here hx rfl hd rfl q) K
theorem gLshl (X : Stand p l e R s m args below meth c T locs cells slots) (hx : p.tables.exec = Jvm.exec) {pc : Nat} {Ls : Array Slot} {st : List Value} {x : Int64} {y : Int32} (hd : decode c.code pc = .ok (.lshl, 1))  (K : Goes p e below G (T.setTop (mkF m (pc + 1) Ls (.long (x <<< (y.toInt64 &&& 63)) :: st)))) : Goes p e below G (T.setTop (mkF m pc Ls (.int y :: .long x :: st))) :=
  go (fun _ q => XT.lshl (g := mkF m pc Ls (.int y :: .long x :: st)) X.here hx rfl hd rfl q) K
theorem gLshr (X : Stand p l e R s m args below meth c T locs cells slots) (hx : p.tables.exec = Jvm.exec) {pc : Nat} {Ls : Array Slot} {st : List Value} {x : Int64} {y : Int32} (hd : decode c.code pc = .ok (.lshr, 1))  (K : Goes p e below G (T.setTop (mkF m (pc + 1) Ls (.long (x >>> (y.toInt64 &&& 63)) :: st)))) : Goes p e below G (T.setTop (mkF m pc Ls (.int y :: .long x :: st))) :=
  go (fun _ q => XT.lshr (g := mkF m pc Ls (.int y :: .long x :: st)) X.here hx rfl hd rfl q) K
theorem gLushr (X : Stand p l e R s m args below meth c T locs cells slots) (hx : p.tables.exec = Jvm.exec) {pc : Nat} {Ls : Array Slot} {st : List Value} {x : Int64} {y : Int32} (hd : decode c.code pc = .ok (.lushr, 1))  (K : Goes p e below G (T.setTop (mkF m (pc + 1) Ls (.long (XT.ushrL x y) :: st)))) : Goes p e below G (T.setTop (mkF m pc Ls (.int y :: .long x :: st))) :=
  go (fun _ q => XT.lushr (g := mkF m pc Ls (.int y :: .long x :: st)) X.here hx rfl hd rfl q) K
theorem gIneg (X : Stand p l e R s m args below meth c T locs cells slots) (hx : p.tables.exec = Jvm.exec) {pc : Nat} {Ls : Array Slot} {st : List Value} {x : Int32} (hd : decode c.code pc = .ok (.ineg, 1))  (K : Goes p e below G (T.setTop (mkF m (pc + 1) Ls (.int (-x) :: st)))) : Goes p e below G (T.setTop (mkF m pc Ls (.int x :: st))) :=
  go (fun _ q => XS.ineg (g := mkF m pc Ls (.int x :: st)) X.here hx rfl hd rfl q) K
theorem gI2l (X : Stand p l e R s m args below meth c T locs cells slots) (hx : p.tables.exec = Jvm.exec) {pc : Nat} {Ls : Array Slot} {st : List Value} {x : Int32} (hd : decode c.code pc = .ok (.i2l, 1))  (K : Goes p e below G (T.setTop (mkF m (pc + 1) Ls (.long (x.toInt64) :: st)))) : Goes p e below G (T.setTop (mkF m pc Ls (.int x :: st))) :=
  go (fun _ q => XT.i2l (g := mkF m pc Ls (.int x :: st)) X.here hx rfl hd rfl q) K
theorem gL2i (X : Stand p l e R s m args below meth c T locs cells slots) (hx : p.tables.exec = Jvm.exec) {pc : Nat} {Ls : Array Slot} {st : List Value} {x : Int64} (hd : decode c.code pc = .ok (.l2i, 1))  (K : Goes p e below G (T.setTop (mkF m (pc + 1) Ls (.int (x.toInt32) :: st)))) : Goes p e below G (T.setTop (mkF m pc Ls (.long x :: st))) :=
  go (fun _ q => XT.l2i (g := mkF m pc Ls (.long x :: st)) X.here hx rfl hd rfl q) K
theorem gI2b (X : Stand p l e R s m args below meth c T locs cells slots) (hx : p.tables.exec = Jvm.exec) {pc : Nat} {Ls : Array Slot} {st : List Value} {x : Int32} (hd : decode c.code pc = .ok (.i2b, 1))  (K : Goes p e below G (T.setTop (mkF m (pc + 1) Ls (.int (x.toInt8.toInt32) :: st)))) : Goes p e below G (T.setTop (mkF m pc Ls (.int x :: st))) :=
  go (fun _ q => XT.i2b (g := mkF m pc Ls (.int x :: st)) X.here hx rfl hd rfl q) K
theorem gI2c (X : Stand p l e R s m args below meth c T locs cells slots) (hx : p.tables.exec = Jvm.exec) {pc : Nat} {Ls : Array Slot} {st : List Value} {x : Int32} (hd : decode c.code pc = .ok (.i2c, 1))  (K : Goes p e below G (T.setTop (mkF m (pc + 1) Ls (.int (x.toUInt32.toUInt16.toUInt32.toInt32) :: st)))) : Goes p e below G (T.setTop (mkF m pc Ls (.int x :: st))) :=
  go (fun _ q => XT.i2c (g := mkF m pc Ls (.int x :: st)) X.here hx rfl hd rfl q) K
theorem gI2d (X : Stand p l e R s m args below meth c T locs cells slots) (hx : p.tables.exec = Jvm.exec) {pc : Nat} {Ls : Array Slot} {st : List Value} {x : Int32} (hd : decode c.code pc = .ok (.i2d, 1))  (K : Goes p e below G (T.setTop (mkF m (pc + 1) Ls (.double (FP.i2d x) :: st)))) : Goes p e below G (T.setTop (mkF m pc Ls (.int x :: st))) :=
  go (fun _ q => XS.i2dS (g := mkF m pc Ls (.int x :: st)) X.here hx rfl hd rfl rfl q) K
theorem gL2d (X : Stand p l e R s m args below meth c T locs cells slots) (hx : p.tables.exec = Jvm.exec) {pc : Nat} {Ls : Array Slot} {st : List Value} {x : Int64} (hd : decode c.code pc = .ok (.l2d, 1))  (K : Goes p e below G (T.setTop (mkF m (pc + 1) Ls (.double (FP.l2d x) :: st)))) : Goes p e below G (T.setTop (mkF m pc Ls (.long x :: st))) :=
  go (fun _ q => XS.l2dS (g := mkF m pc Ls (.long x :: st)) X.here hx rfl hd rfl rfl q) K
theorem gDadd (X : Stand p l e R s m args below meth c T locs cells slots) (hx : p.tables.exec = Jvm.exec) {pc : Nat} {Ls : Array Slot} {st : List Value} {x y : UInt64} (hd : decode c.code pc = .ok (.dadd, 1)) (hn : Jvm.Free.Fl.NoNaN64 (FP.dadd x y)) (K : Goes p e below G (T.setTop (mkF m (pc + 1) Ls (.double (FP.dadd x y) :: st)))) : Goes p e below G (T.setTop (mkF m pc Ls (.double y :: .double x :: st))) :=
  go (fun _ q => XS.daddS (g := mkF m pc Ls (.double y :: .double x :: st)) X.here hx rfl hd rfl hn rfl q) K
theorem gDsub (X : Stand p l e R s m args below meth c T locs cells slots) (hx : p.tables.exec = Jvm.exec) {pc : Nat} {Ls : Array Slot} {st : List Value} {x y : UInt64} (hd : decode c.code pc = .ok (.dsub, 1)) (hn : Jvm.Free.Fl.NoNaN64 (FP.dsub x y)) (K : Goes p e below G (T.setTop (mkF m (pc + 1) Ls (.double (FP.dsub x y) :: st)))) : Goes p e below G (T.setTop (mkF m pc Ls (.double y :: .double x :: st))) :=
  go (fun _ q => XS.dsubS (g := mkF m pc Ls (.double y :: .double x :: st)) X.here hx rfl hd rfl hn rfl q) K
theorem gDmul (X : Stand p l e R s m args below meth c T locs cells slots) (hx : p.tables.exec = Jvm.exec) {pc : Nat} {Ls : Array Slot} {st : List Value} {x y : UInt64} (hd : decode c.code pc = .ok (.dmul, 1)) (hn : Jvm.Free.Fl.NoNaN64 (FP.dmul x y)) (K : Goes p e below G (T.setTop (mkF m (pc + 1) Ls (.double (FP.dmul x y) :: st)))) : Goes p e below G (T.setTop (mkF m pc Ls (.double y :: .double x :: st))) :=
  go (fun _ q => XS.dmulS (g := mkF m pc Ls (.double y :: .double x :: st)) X.here hx rfl hd rfl hn rfl q) K
theorem gDdiv (X : Stand p l e R s m args below meth c T locs cells slots) (hx : p.tables.exec = Jvm.exec) {pc : Nat} {Ls : Array Slot} {st : List Value} {x y : UInt64} (hd : decode c.code pc = .ok (.ddiv, 1)) (hn : Jvm.Free.Fl.NoNaN64 (FP.ddiv x y)) (K : Goes p e below G (T.setTop (mkF m (pc + 1) Ls (.double (FP.ddiv x y) :: st)))) : Goes p e below G (T.setTop (mkF m pc Ls (.double y :: .double x :: st))) :=
  go (fun _ q => XS.ddivS (g := mkF m pc Ls (.double y :: .double x :: st)) X.here hx rfl hd rfl hn rfl q) K
theorem gDcmp (X : Stand p l e R s m args below meth c T locs cells slots) (hx : p.tables.exec = Jvm.exec) {pc : Nat} {Ls : Array Slot} {st : List Value} {o : CmpOp} {x y : UInt64} (hd : decode c.code pc = .ok (.dcmp o, 1))  (K : Goes p e below G (T.setTop (mkF m (pc + 1) Ls (.int (cmpValue (FP.dcmp x y) o) :: st)))) : Goes p e below G (T.setTop (mkF m pc Ls (.double y :: .double x :: st))) :=
  go (fun _ q => XS.dcmpS (g := mkF m pc Ls (.double y :: .double x :: st)) X.here hx rfl hd rfl rfl q) K
theorem gLcmp (X : Stand p l e R s m args below meth c T locs cells slots) (hx : p.tables.exec = Jvm.exec) {pc : Nat} {Ls : Array Slot} {st : List Value} {x y : Int64} (hd : decode c.code pc = .ok (.lcmp, 1))  (K : Goes p e below G (T.setTop (mkF m (pc + 1) Ls (.int (XT.cmpL x y) :: st)))) : Goes p e below G (T.setTop (mkF m pc Ls (.long y :: .long x :: st))) :=
  go (fun _ q => XT.lcmp (g := mkF m pc Ls (.long y :: .long x :: st)) X.here hx rfl hd rfl q) K
theorem gDup (X : Stand p l e R s m args below meth c T locs cells slots) (hx : p.tables.exec = Jvm.exec) {pc : Nat} {Ls : Array Slot} {st : List Value} {x : Value} (hd : decode c.code pc = .ok (.dup, 1)) (hc : x.category = 1) (K : Goes p e below G (T.setTop (mkF m (pc + 1) Ls (x :: x :: st)))) : Goes p e below G (T.setTop (mkF m pc Ls (x :: st))) :=
  go (fun _ q => XS.dup (g := mkF m pc Ls (x :: st)) X.here hx rfl hd rfl hc q) K
theorem gPop (X : Stand p l e R s m args below meth c T locs cells slots) (hx : p.tables.exec = Jvm.exec) {pc : Nat} {Ls : Array Slot} {st : List Value} {x : Value} (hd : decode c.code pc = .ok (.pop, 1)) (hc : x.category = 1) (K : Goes p e below G (T.setTop (mkF m (pc + 1) Ls (st)))) : Goes p e below G (T.setTop (mkF m pc Ls (x :: st))) :=
  go (fun _ q => XT.pop (g := mkF m pc Ls (x :: st)) X.here hx rfl hd rfl hc q) K
theorem gDupX1 (X : Stand p l e R s m args below meth c T locs cells slots) (hx : p.tables.exec = Jvm.exec) {pc : Nat} {Ls : Array Slot} {st : List Value} {x y : Value} (hd : decode c.code pc = .ok (.dup_x1, 1)) (hc : x.category = 1) (hc' : y.category = 1) (K : Goes p e below G (T.setTop (mkF m (pc + 1) Ls (x :: y :: x :: st)))) : Goes p e below G (T.setTop (mkF m pc Ls (x :: y :: st))) :=
  go (fun _ q => XT.dupX1 (g := mkF m pc Ls (x :: y :: st)) X.here hx rfl hd rfl hc hc' q) K
theorem gDup2 (X : Stand p l e R s m args below meth c T locs cells slots) (hx : p.tables.exec = Jvm.exec) {pc : Nat} {Ls : Array Slot} {st : List Value} {x y : Value} (hd : decode c.code pc = .ok (.dup2, 1)) (hc : x.category = 1) (hc' : y.category = 1) (K : Goes p e below G (T.setTop (mkF m (pc + 1) Ls (x :: y :: x :: y :: st)))) : Goes p e below G (T.setTop (mkF m pc Ls (x :: y :: st))) :=
  go (fun _ q => XT.dup2 (g := mkF m pc Ls (x :: y :: st)) X.here hx rfl hd rfl hc hc' q) K
theorem gIinc (X : Stand p l e R s m args below meth c T locs cells slots) (hx : p.tables.exec = Jvm.exec) {pc : Nat} {Ls : Array Slot} {st : List Value} {k : Nat} {i : Int} {x v : Int32} {l' : Array Slot} (hd : decode c.code pc = .ok (.iinc k i, 3)) (hv : x + Int32.ofInt i = v) (hl : Ls[k]? = some (.val (.int x))) (hl' : storeLocals Ls k (.int v) = some l') (K : Goes p e below G (T.setTop (mkF m (pc + 3) l' st))) : Goes p e below G (T.setTop (mkF m pc Ls st)) := by
  subst hv
  exact go (fun _ q => XS.iinc (g := mkF m pc Ls st) X.here hx rfl hd hl hl' q) K
theorem gIrem (X : Stand p l e R s m args below meth c T locs cells slots) (hx : p.tables.exec = Jvm.exec) {pc : Nat} {Ls : Array Slot} {st : List Value} {x y : Int32} (hd : decode c.code pc = .ok (.irem, 1)) (hy : y ≠ 0) (K : Goes p e below G (T.setTop (mkF m (pc + 1) Ls (.int (x % y) :: st)))) : Goes p e below G (T.setTop (mkF m pc Ls (.int y :: .int x :: st))) :=
  go (fun _ q => iremM X hx (g := mkF m pc Ls (.int y :: .int x :: st)) rfl hd rfl hy q) K
theorem gIdiv (X : Stand p l e R s m args below meth c T locs cells slots) (hx : p.tables.exec = Jvm.exec) {pc : Nat} {Ls : Array Slot} {st : List Value} {x y : Int32} (hd : decode c.code pc = .ok (.idiv, 1)) (hy : y ≠ 0) (K : Goes p e below G (T.setTop (mkF m (pc + 1) Ls (.int (x / y) :: st)))) : Goes p e below G (T.setTop (mkF m pc Ls (.int y :: .int x :: st))) :=
  go (fun _ q => XS.idiv (g := mkF m pc Ls (.int y :: .int x :: st)) X.here hx rfl hd rfl hy q) K
theorem gGoto (X : Stand p l e R s m args below meth c T locs cells slots) (hx : p.tables.exec = Jvm.exec) {pc : Nat} {Ls : Array Slot} {st : List Value} {o : Int} {pc' : Nat} (hd : decode c.code pc = .ok (.goto o, 3)) (ho : 0 ≤ (pc : Int) + o) (hp : ((pc : Int) + o).toNat = pc') (K : Goes p e below G (T.setTop (mkF m pc' Ls (st)))) : Goes p e below G (T.setTop (mkF m pc Ls (st))) :=
  go (fun _ q => XS.goto (g := mkF m pc Ls (st)) X.here hx rfl rfl hd ho hp q) K
theorem gIfY (X : Stand p l e R s m args below meth c T locs cells slots) (hx : p.tables.exec = Jvm.exec) {pc : Nat} {Ls : Array Slot} {st : List Value} {cd : ClassFile.Cond} {x : Int32} {o : Int} {pc' : Nat} (hd : decode c.code pc = .ok (.ifCond cd o, 3)) (hc : ifCond.holds cd x = true) (ho : 0 ≤ (pc : Int) + o) (hp : ((pc : Int) + o).toNat = pc') (K : Goes p e below G (T.setTop (mkF m pc' Ls (st)))) : Goes p e below G (T.setTop (mkF m pc Ls (.int x :: st))) :=
  go (fun _ q => XS.ifYes (g := mkF m pc Ls (.int x :: st)) X.here hx rfl rfl hd rfl hc ho hp q) K
theorem gIfN (X : Stand p l e R s m args below meth c T locs cells slots) (hx : p.tables.exec = Jvm.exec) {pc : Nat} {Ls : Array Slot} {st : List Value} {cd : ClassFile.Cond} {x : Int32} {o : Int} (hd : decode c.code pc = .ok (.ifCond cd o, 3)) (hc : ifCond.holds cd x = false) (K : Goes p e below G (T.setTop (mkF m (pc + 3) Ls (st)))) : Goes p e below G (T.setTop (mkF m pc Ls (.int x :: st))) :=
  go (fun _ q => XS.ifNo (g := mkF m pc Ls (.int x :: st)) X.here hx rfl hd rfl hc q) K
theorem gIcmpY (X : Stand p l e R s m args below meth c T locs cells slots) (hx : p.tables.exec = Jvm.exec) {pc : Nat} {Ls : Array Slot} {st : List Value} {cd : ClassFile.Cond} {x y : Int32} {o : Int} {pc' : Nat} (hd : decode c.code pc = .ok (.if_icmp cd o, 3)) (hc : if_icmp.holds cd x y = true) (ho : 0 ≤ (pc : Int) + o) (hp : ((pc : Int) + o).toNat = pc') (K : Goes p e below G (T.setTop (mkF m pc' Ls (st)))) : Goes p e below G (T.setTop (mkF m pc Ls (.int y :: .int x :: st))) :=
  go (fun _ q => XS.icmpYes (g := mkF m pc Ls (.int y :: .int x :: st)) X.here hx rfl rfl hd rfl hc ho hp q) K
theorem gIcmpN (X : Stand p l e R s m args below meth c T locs cells slots) (hx : p.tables.exec = Jvm.exec) {pc : Nat} {Ls : Array Slot} {st : List Value} {cd : ClassFile.Cond} {x y : Int32} {o : Int} (hd : decode c.code pc = .ok (.if_icmp cd o, 3)) (hc : if_icmp.holds cd x y = false) (K : Goes p e below G (T.setTop (mkF m (pc + 3) Ls (st)))) : Goes p e below G (T.setTop (mkF m pc Ls (.int y :: .int x :: st))) :=
  go (fun _ q => XS.icmpNo (g := mkF m pc Ls (.int y :: .int x :: st)) X.here hx rfl hd rfl hc q) K
theorem gAcmpY (X : Stand p l e R s m args below meth c T locs cells slots) (hx : p.tables.exec = Jvm.exec) {pc : Nat} {Ls : Array Slot} {st : List Value} {cd : ClassFile.ACond} {x y : Value} {o : Int} {pc' : Nat} (hd : decode c.code pc = .ok (.if_acmp cd o, 3)) (hx' : x.isRef = true) (hy' : y.isRef = true) (hc : XT.acmp cd x y = true) (ho : 0 ≤ (pc : Int) + o) (hp : ((pc : Int) + o).toNat = pc') (K : Goes p e below G (T.setTop (mkF m pc' Ls (st)))) : Goes p e below G (T.setTop (mkF m pc Ls (y :: x :: st))) :=
  go (fun _ q => XT.acmpYes (g := mkF m pc Ls (y :: x :: st)) X.here hx rfl rfl hd rfl hx' hy' hc ho hp q) K
theorem gAcmpN (X : Stand p l e R s m args below meth c T locs cells slots) (hx : p.tables.exec = Jvm.exec) {pc : Nat} {Ls : Array Slot} {st : List Value} {cd : ClassFile.ACond} {x y : Value} {o : Int} (hd : decode c.code pc = .ok (.if_acmp cd o, 3)) (hx' : x.isRef = true) (hy' : y.isRef = true) (hc : XT.acmp cd x y = false) (K : Goes p e below G (T.setTop (mkF m (pc + 3) Ls (st)))) : Goes p e below G (T.setTop (mkF m pc Ls (y :: x :: st))) :=
  go (fun _ q => XT.acmpNo (g := mkF m pc Ls (y :: x :: st)) X.here hx rfl hd rfl hx' hy' hc q) K
theorem gNullY (X : Stand p l e R s m args below meth c T locs cells slots) (hx : p.tables.exec = Jvm.exec) {pc : Nat} {Ls : Array Slot} {st : List Value} {o : Int} {pc' : Nat} (hd : decode c.code pc = .ok (.ifnull o, 3)) (ho : 0 ≤ (pc : Int) + o) (hp : ((pc : Int) + o).toNat = pc') (K : Goes p e below G (T.setTop (mkF m pc' Ls (st)))) : Goes p e below G (T.setTop (mkF m pc Ls (.null :: st))) :=
  go (fun _ q => XS.ifnullYes (g := mkF m pc Ls (.null :: st)) X.here hx rfl rfl hd rfl ho hp q) K
theorem gNullN (X : Stand p l e R s m args below meth c T locs cells slots) (hx : p.tables.exec = Jvm.exec) {pc : Nat} {Ls : Array Slot} {st : List Value} {b : Addr} {o : Int} (hd : decode c.code pc = .ok (.ifnull o, 3))  (K : Goes p e below G (T.setTop (mkF m (pc + 3) Ls (st)))) : Goes p e below G (T.setTop (mkF m pc Ls (.ref b :: st))) :=
  go (fun _ q => XS.ifnullNo (g := mkF m pc Ls (.ref b :: st)) X.here hx rfl hd rfl q) K
theorem gNonnullY (X : Stand p l e R s m args below meth c T locs cells slots) (hx : p.tables.exec = Jvm.exec) {pc : Nat} {Ls : Array Slot} {st : List Value} {b : Addr} {o : Int} {pc' : Nat} (hd : decode c.code pc = .ok (.ifnonnull o, 3)) (ho : 0 ≤ (pc : Int) + o) (hp : ((pc : Int) + o).toNat = pc') (K : Goes p e below G (T.setTop (mkF m pc' Ls (st)))) : Goes p e below G (T.setTop (mkF m pc Ls (.ref b :: st))) :=
  go (fun _ q => XT.ifnonnullYes (g := mkF m pc Ls (.ref b :: st)) X.here hx rfl rfl hd rfl ho hp q) K
theorem gNonnullN (X : Stand p l e R s m args below meth c T locs cells slots) (hx : p.tables.exec = Jvm.exec) {pc : Nat} {Ls : Array Slot} {st : List Value} {o : Int} (hd : decode c.code pc = .ok (.ifnonnull o, 3))  (K : Goes p e below G (T.setTop (mkF m (pc + 3) Ls (st)))) : Goes p e below G (T.setTop (mkF m pc Ls (.null :: st))) :=
  go (fun _ q => XT.ifnonnullNo (g := mkF m pc Ls (.null :: st)) X.here hx rfl hd rfl q) K
theorem gLdcI (X : Stand p l e R s m args below meth c T locs cells slots) (hx : p.tables.exec = Jvm.exec) {pc : Nat} {Ls : Array Slot} {st : List Value} (hZ : Z.Warmed39 s.vm) {own : String} (hown : s.vm.findClass own = some m.cls) {i : Nat} {v : Int32} (w : (Cond.constant own i v).before a0 Z = true) (hd : decode c.code pc = .ok (.ldc i, 2)) (K : Goes p e below G (T.setTop (mkF m (pc + 2) Ls (.int v :: st)))) : Goes p e below G (T.setTop (mkF m pc Ls st)) :=
  go (fun _ q => X.ldcI hx hown (mvT hZ w) (g := mkF m pc Ls st) rfl hd q) K
theorem gLdcWI (X : Stand p l e R s m args below meth c T locs cells slots) (hx : p.tables.exec = Jvm.exec) {pc : Nat} {Ls : Array Slot} {st : List Value} (hZ : Z.Warmed39 s.vm) {own : String} (hown : s.vm.findClass own = some m.cls) {i : Nat} {v : Int32} (w : (Cond.constant own i v).before a0 Z = true) (hd : decode c.code pc = .ok (.ldc_w i, 3)) (K : Goes p e below G (T.setTop (mkF m (pc + 3) Ls (.int v :: st)))) : Goes p e below G (T.setTop (mkF m pc Ls st)) :=
  go (fun _ q => X.ldcWI hx hown (mvT hZ w) (g := mkF m pc Ls st) rfl hd q) K
theorem gLdc2J (X : Stand p l e R s m args below meth c T locs cells slots) (hx : p.tables.exec = Jvm.exec) {pc : Nat} {Ls : Array Slot} {st : List Value} (hZ : Z.Warmed39 s.vm) {own : String} (hown : s.vm.findClass own = some m.cls) {i : Nat} {v : Int64} (w : (Cond.constantLong own i v).before a0 Z = true) (hd : decode c.code pc = .ok (.ldc2_w i, 3)) (K : Goes p e below G (T.setTop (mkF m (pc + 3) Ls (.long v :: st)))) : Goes p e below G (T.setTop (mkF m pc Ls st)) :=
  go (fun _ q => X.ldc2J hx hown (mvT hZ w) (g := mkF m pc Ls st) rfl hd q) K
theorem gLdc2D (X : Stand p l e R s m args below meth c T locs cells slots) (hx : p.tables.exec = Jvm.exec) {pc : Nat} {Ls : Array Slot} {st : List Value} (hZ : Z.Warmed39 s.vm) {own : String} (hown : s.vm.findClass own = some m.cls) {i : Nat} {v : UInt64} (w : (Cond.constantDouble own i v).before a0 Z = true) (hd : decode c.code pc = .ok (.ldc2_w i, 3)) (K : Goes p e below G (T.setTop (mkF m (pc + 3) Ls (.double v :: st)))) : Goes p e below G (T.setTop (mkF m pc Ls st)) :=
  go (fun _ q => X.ldc2DoubleC hx hown (mvT hZ w) (g := mkF m pc Ls st) rfl hd _ q) K
end Own
end Jvm.OwnWalk
namespace Jvm.OwnWalk
open Sem ClassFile Op Lib Jvm.Stand Jvm.Free Jvm.LawKit Jvm.RoadKit
section OwnW
variable {p : Program} {l : Launch} {e : Env} {R : Room} {s : State} {m : MethodId} {args : Array Value} {below : List Frame} {meth : Method} {c : Code} {T : State} {locs : List Loc} {cells slots : Nat} {Z : State} {a0 : Array Value} {h h' : Heap} {Q : Option Value → Heap → List Loc → Vm → Prop} {kc ks : Nat} {G : Outcome → State → Prop} {A B : State} {vm0 : Vm} {Pv : Vm → Prop}
/-- the wide end: String constants may have been loaded -/
def EndW (s : State) (Q : Option Value → Heap → List Loc → Vm → Prop) (kc ks : Nat) (o : Outcome) (t : State) : Prop := ∃ v L, o = .returned v ∧ Q v t.heap L t.vm ∧ ReturnedEndW s o t L kc ks
/-- how far the tables have come since the start s: vm0 is what the walk is re-based on -/
def Sn (s : State) (vm : Vm) (h : Heap) : Prop := ∃ k, s.Since vm k ∧ k ≤ h.size
theorem Sn.ext (F : Sn s vm0 h) (E : Ext h h') : Sn s vm0 h' := by obtain ⟨k, a, b⟩ := F; exact ⟨k, a, Nat.le_trans b E.1⟩
theorem Sn.wr {a : Addr} {sl : Nat} {v : Value} (F : Sn s vm0 h) (W : Wr h h' a sl v) : Sn s vm0 h' := by obtain ⟨k, a, b⟩ := F; exact ⟨k, a, by rw [W.size]; exact b⟩
theorem Sn.keep {ws : List Addr} (F : Sn s vm0 h) (K : Keep h h' ws) : Sn s vm0 h' := by obtain ⟨k, a, b⟩ := F; exact ⟨k, a, Nat.le_trans b K.1⟩
theorem Sn.start (s : State) (h : Heap) : Sn s s.vm h := ⟨0, (State.WarmedH.refl s).since 0, Nat.zero_le _⟩
theorem IB.warm {Ts : List String} (I : IB Z vm0 Ts) {vm1 : Vm} (hW : (s.setVm vm0).WarmedH vm1) : IB Z vm1 Ts := by
  obtain ⟨more, e1, e2⟩ := I
  exact ⟨more, by rw [hW.interned_eq]; exact e1, e2⟩
theorem goEndW (X : Stand p l e R (s.setVm vm0) m args below meth c T locs cells slots) (hS : Sn s vm0 h) {v : Option Value} (hv : meth.sig.returnType = none → v = none) (hlocks : meth.locks = false) (hc : cells ≤ kc) (hs : slots ≤ ks) (eT : T.heap = h) (hq : Q v h locs T.vm)
    (k : ∀ fs, (∀ (f : JFrame) (acts : List Action), f.method = m → f.locked = none → f.entered = [] → (doReturn e (T.setTop f) acts v).1 = T.setFrames fs) → Steps p.tables e below A (T.setFrames fs)) : Goes p e below (EndW s Q kc ks) A := by
  obtain ⟨fs, hr, hrun, hended, hW, hsame⟩ := X.leave hv hlocks
  obtain ⟨k0, h1, h2⟩ := hS
  have h3 : s.Since T.vm T.heap.size := h1.trans (hW.since T.heap.size) (by rw [eT]; exact h2)
  exact ⟨_, _, k fs hr, hrun, hended, _, _, rfl, (by show Q v T.heap locs T.vm; rw [eT]; exact hq), ⟨_, rfl⟩, h3.1, h3.2, (hsame.setVm s.vm).mono hc hs⟩
theorem goRetVW (X : Stand p l e R (s.setVm vm0) m args below meth c T locs cells slots) (hx : p.tables.exec = Jvm.exec) (hS : Sn s vm0 h) {pc : Nat} {Ls : Array Slot} {w : Value} {t : FieldType} {i : Instr} {rest : List Value} (hret : meth.sig.returnType = some t) (hlocks : meth.locks = false) (hd : decode c.code pc = .ok (i, 1)) (hn : narrow t w = w)
    (hi : (i = .ireturn ∧ (t = .int ∨ t = .boolean ∨ t = .byte ∨ t = .char ∨ t = .short) ∧ ∃ z, w = .int z) ∨ (i = .lreturn ∧ t = .long ∧ ∃ z, w = .long z) ∨ (i = .dreturn ∧ t = .double ∧ ∃ z, w = .double z) ∨ (i = .freturn ∧ t = .float ∧ ∃ z, w = .float z) ∨ (i = .areturn ∧ t.isReference = true ∧ w.isRef = true))
    (hc : cells ≤ kc) (hs : slots ≤ ks) (eT : T.heap = h) (hq : Q (some w) h locs T.vm) : Goes p e below (EndW s Q kc ks) (T.setTop (mkF m pc Ls (w :: rest))) :=
  goEndW X hS (v := some w) (fun q => by rw [hret] at q; cases q) hlocks hc hs eT hq fun fs hr => retOut X hx hret hn hi hd hr
theorem goRetIW (X : Stand p l e R (s.setVm vm0) m args below meth c T locs cells slots) (hx : p.tables.exec = Jvm.exec) (hS : Sn s vm0 h) {pc : Nat} {Ls : Array Slot} {z : Int32} {rest : List Value} (hret : meth.sig.returnType = some .int) (hlocks : meth.locks = false) (hd : decode c.code pc = .ok (.ireturn, 1))
    (hc : cells ≤ kc) (hs : slots ≤ ks) (eT : T.heap = h) (hq : Q (some (.int z)) h locs T.vm) : Goes p e below (EndW s Q kc ks) (T.setTop (mkF m pc Ls (.int z :: rest))) :=
  goRetVW X hx hS hret hlocks hd rfl (Or.inl ⟨rfl, Or.inl rfl, _, rfl⟩) hc hs eT hq
theorem goRetAW (X : Stand p l e R (s.setVm vm0) m args below meth c T locs cells slots) (hx : p.tables.exec = Jvm.exec) (hS : Sn s vm0 h) {pc : Nat} {Ls : Array Slot} {w : Value} {t : FieldType} {rest : List Value} (hret : meth.sig.returnType = some t) (hlocks : meth.locks = false) (ht : t.isReference = true) (hw : w.isRef = true) (hd : decode c.code pc = .ok (.areturn, 1))
    (hc : cells ≤ kc) (hs : slots ≤ ks) (eT : T.heap = h) (hq : Q (some w) h locs T.vm) : Goes p e below (EndW s Q kc ks) (T.setTop (mkF m pc Ls (w :: rest))) :=
  goRetVW X hx hS hret hlocks hd (by cases t <;> first | (cases ht; done) | rfl) (Or.inr (Or.inr (Or.inr (Or.inr ⟨rfl, ht, hw⟩)))) hc hs eT hq
theorem goRetNW (X : Stand p l e R (s.setVm vm0) m args below meth c T locs cells slots) (hx : p.tables.exec = Jvm.exec) (hS : Sn s vm0 h) {pc : Nat} {Ls : Array Slot} {z z' : Int32} {t : FieldType} {rest : List Value} (hret : meth.sig.returnType = some t) (hlocks : meth.locks = false) (ht : t = .boolean ∨ t = .byte ∨ t = .char ∨ t = .short) (hd : decode c.code pc = .ok (.ireturn, 1)) (hz : nar t z = z')
    (hc : cells ≤ kc) (hs : slots ≤ ks) (eT : T.heap = h) (hq : Q (some (.int z')) h locs T.vm) : Goes p e below (EndW s Q kc ks) (T.setTop (mkF m pc Ls (.int z :: rest))) := by
  subst hz
  exact goEndW X hS (v := some (.int (nar t z))) (fun q => by rw [hret] at q; cases q) hlocks hc hs eT hq fun fs hr => retN X hx hret ht hd hr
theorem goRet0W (X : Stand p l e R (s.setVm vm0) m args below meth c T locs cells slots) (hx : p.tables.exec = Jvm.exec) (hS : Sn s vm0 h) {pc : Nat} {Ls : Array Slot} (hret : meth.sig.returnType = none) (hlocks : meth.locks = false) (hd : decode c.code pc = .ok (.return_, 1))
    (hc : cells ≤ kc) (hs : slots ≤ ks) (eT : T.heap = h) (hq : Q none h locs T.vm) : Goes p e below (EndW s Q kc ks) (T.setTop (mkF m pc Ls [])) :=
  goEndW X hS (v := none) (fun _ => rfl) hlocks hc hs eT hq fun fs hr => X.returnOut hx hret hd hr
/-- a body's wide contract; Pv: what it asks of the tables where it is called -/
def CtrW (l : Launch) (Z : State) (y : MethodName) (bytes : ByteArray) (maxL : Nat) (ret : Option FieldType) (ws : List Cond) (rm : Room) (as : Array Value) (h0 : Heap) (Pv : Vm → Prop) (Q : Option Value → Heap → List Loc → Vm → Prop) : Prop :=
  MetFree l y (head1 (Cond.code y bytes maxL ret :: ws) rm) (fun a U => a = as ∧ Z.Warmed39 U.vm ∧ U.heap = h0 ∧ Pv U.vm) (fun _ _ _ _ _ => True) (fun _ U o U' => EndW U Q rm.cells rm.slots o U')
theorem ctrW {y : MethodName} {bytes : ByteArray} {maxL : Nat} {ret : Option FieldType} {ws : List Cond} {rm : Room} {as : Array Value} {h0 : Heap} (hpn : plainFor y = true)
    (body : ∀ (p : Program) (e : Env) (s : State) (m : MethodId) (below : List Frame) (meth : Method) (c : Code) (s₁ : State) (vm0 : Vm), p.tables.exec = Jvm.exec → c.code = bytes → c.maxLocals = maxL → vm0.findClass y.cls = some m.cls → meth.name = y.name → meth.sig.returnType = ret → meth.locks = false → Z.Warmed39 vm0 →
      Stand p l e rm (s.setVm vm0) m as below meth c s₁ [] 0 0 → s₁.heap = h0 → Sn s vm0 h0 → s.heap = h0 → Pv vm0 → Goes p e below (EndW s Q rm.cells rm.slots) (s₁.setTop (entryFrame m as maxL))) : CtrW l Z y bytes maxL ret ws rm as h0 Pv Q := by
  refine MetFree.of_bodySF hpn hisR ?_
  intro p e s m args below meth c s₁ Bd hml0 hP hK
  obtain ⟨rfl, hZ, hh, hv⟩ := hP
  exact body p e s m below meth c s₁ s.vm Bd.exec Bd.bytes hml0 (findClass_of_methodNamed Bd.named) (name_of_methodNamed Bd.named Bd.method).1 Bd.returns Bd.notSynchronized hZ (Stand.of_body Bd) (by rw [← hh, Bd.state]; rfl) (Sn.start s _) hh hv
theorem backW {y : MethodName} {bytes : ByteArray} {maxL : Nat} {ret : Option FieldType} {rm : Room} {len W : Nat} {as : Array Value}
    (hM : CtrW l Z y bytes maxL ret [] rm as h Pv Q) (hPv : ∀ vm1, s.WarmedH vm1 → Pv vm1)
    (hZ : Z.Warmed39 s.vm) (wc : (Cond.code y bytes maxL ret).before a0 Z = true) (wz : (Cond.initialized y.cls).before a0 Z = true) (hf : rm.frames + 1 ≤ R.frames) (hl : W + (maxL + 11) + rm.locals ≤ R.locals) :
    BackS l R p e below s args y len W (fun A a => a = as ∧ A.U.heap = h ∧ A.cells + rm.cells ≤ R.cells ∧ A.slots + rm.slots ≤ R.slots)
      (fun A _ v B => ∃ L, Q v B.U.heap L B.U.vm ∧ B.locs = A.locs ++ L ∧ B.cells = A.cells + rm.cells ∧ B.slots = A.slots + rm.slots) :=
  BackS.of_freeW (bytes := bytes) (maxL := maxL) (ret := ret) (E := fun _ _ o t L k n => k = rm.cells ∧ n = rm.slots ∧ ∃ v, o = .returned v ∧ Q v t.heap L t.vm) hM hf hl
    (fun m meth c A a Y hp => have hU : Z.Warmed39 A.U.vm := wtrans hZ Y.warmed
      ⟨by show (Cond.and _ .tt).before a A.U = true; rw [Cond.before_and, mv hU wc]; rfl, mv hU wc, mv hU wz, hp.2.2.1, hp.2.2.2⟩)
    (fun m meth c A a g mk Y hp => ⟨hp.1, wtrans hZ Y.warmed, hp.2.1, hPv _ Y.warmed⟩) (fun _ _ _ _ _ _ _ _ _ => trivial)
    (fun _ _ _ _ ⟨v, L, h1, h2, h3⟩ => ⟨L, _, _, h3, rfl, rfl, v, h1, h2⟩)
    (fun m meth c A a g mk v t L k n Y hp _ _ ⟨e1, e2, v', e3, e4⟩ => by cases e3; subst e1 e2; exact ⟨L, e4, rfl, rfl, rfl⟩)
theorem goCallSW (X : Stand p l e R (s.setVm vm0) m args below meth c T locs cells slots) (hx : p.tables.exec = Jvm.exec) (hZ : Z.Warmed39 vm0) (hS : Sn s vm0 h) {own : String} {index : Nat} {y : MethodName} {bytes : ByteArray} {maxL : Nat} {ret : Option FieldType} (hown : vm0.findClass own = some m.cls)
    (w1 : (Cond.methodLink own index y).before a0 Z = true) (w2 : (Cond.static y).before a0 Z = true) (w3 : (Cond.initialized y.cls).before a0 Z = true) (w4 : (Cond.code y bytes maxL ret).before a0 Z = true) (hy : y.cls ≠ "java/lang/invoke/MethodHandle" ∧ y.cls ≠ "java/lang/invoke/VarHandle")
    {rm : Room} {as : Array Value} {Q' : Option Value → Heap → List Loc → Vm → Prop} (hM : CtrW l Z y bytes maxL ret [] rm as h Pv Q') (hPv : ∀ vm1, (s.setVm vm0).WarmedH vm1 → Pv vm1) (W : Nat) (hf : rm.frames + 1 ≤ R.frames) (hl : W + (maxL + 11) + rm.locals ≤ R.locals) (eT : T.heap = h)
    {pc : Nat} {Ls : Array Slot} {st : List Value} (hsize : Ls.size = c.maxLocals) (argsL rest : List Value) {ps : List FieldType} {rt : Option FieldType} (hpd : parseMethodDescriptor y.desc = some ⟨ps, rt⟩) (hlen : argsL.length = ps.length) (hst : st = argsL.reverse ++ rest) (has : argsL.toArray = as) (hW : (rest.map fun v => v.category).sum ≤ W)
    (hd : decode c.code pc = .ok (.invokestatic index, 3)) (hc : cells + rm.cells ≤ R.cells) (hs : slots + rm.slots ≤ R.slots)
    (k : ∀ T' v L, Stand p l e R (s.setVm T'.vm) m args below meth c T' (locs ++ L) (cells + rm.cells) (slots + rm.slots) → Z.Warmed39 T'.vm → T'.vm.findClass own = some m.cls → Sn s T'.vm T'.heap → (s.setVm vm0).Warmed39 T'.vm → Q' v T'.heap L T'.vm → Goes p e below G (T'.setTop (mkF m (pc + 3) Ls (v.toList ++ rest)))) : Goes p e below G (T.setTop (mkF m pc Ls st)) := by
  subst hst
  obtain ⟨v, _, ⟨T', L', k', n'⟩, -, X', hS', hgr, ⟨L, hQ, l1, y1, z1⟩, st⟩ := callSS X hx (y := y) hown (mvT (s := s.setVm vm0) hZ w1) (mvT (s := s.setVm vm0) hZ w2) (mvT (s := s.setVm vm0) hZ w3) (mvT (s := s.setVm vm0) hZ w4) hy (backW (W := W) hM hPv hZ w4 w3 hf hl) (g := mkF m pc Ls (argsL.reverse ++ rest)) rfl hsize (argsL := argsL) (rest := rest) (lenOf hpd hlen) rfl (by show 2 * 0 + _ ≤ _; omega) hd (fun _ _ => ⟨has, eT, hc, hs⟩)
  dsimp only [Pt.U, Pt.locs, Pt.cells, Pt.slots] at X' l1 y1 z1 st hQ hS' hgr
  subst l1 y1 z1
  obtain ⟨k0, s1, s2⟩ := hS
  have h3 : s.Since T'.vm T'.heap.size := s1.trans hS' (Nat.le_trans s2 (by rw [← eT]; exact hgr))
  exact go (fun _ => st.trans) (k T' v L X' (State.Warmed39.trans (t := s.setVm vm0) hZ hS'.1) (by rw [hS'.1.alike.findClass]; exact hown) ⟨_, h3, Nat.le_refl _⟩ hS'.1 hQ)
theorem goCallIW (X : Stand p l e R (s.setVm vm0) m args below meth c T locs cells slots) (hx : p.tables.exec = Jvm.exec) (hZ : Z.Warmed39 vm0) (hS : Sn s vm0 h) {own : String} {index : Nat} {y : MethodName} {bytes : ByteArray} {maxL : Nat} (hy1 : y.name = "<init>") (hown : vm0.findClass own = some m.cls)
    (w1 : (Cond.methodLink own index y).before a0 Z = true) (w2 : (Cond.instanceMethod y).before a0 Z = true) (w3 : (Cond.initialized y.cls).before a0 Z = true) (w4 : (Cond.code y bytes maxL none).before a0 Z = true) (hy : y.cls ≠ "java/lang/invoke/MethodHandle" ∧ y.cls ≠ "java/lang/invoke/VarHandle")
    {rm : Room} {as : Array Value} {Q' : Option Value → Heap → List Loc → Vm → Prop} (hM : CtrW l Z y bytes maxL none [] rm as h Pv Q') (hPv : ∀ vm1, (s.setVm vm0).WarmedH vm1 → Pv vm1) (W : Nat) (hf : rm.frames + 1 ≤ R.frames) (hl : W + (maxL + 11) + rm.locals ≤ R.locals) (eT : T.heap = h)
    {pc : Nat} {Ls : Array Slot} {st : List Value} (hsize : Ls.size = c.maxLocals) (a : Addr) (argsL rest : List Value) {ps : List FieldType} {rt : Option FieldType} (hpd : parseMethodDescriptor y.desc = some ⟨ps, rt⟩) (hlen : argsL.length = ps.length) (hst : st = argsL.reverse ++ .ref a :: rest) (has : (.ref a :: argsL).toArray = as) (hW : (rest.map fun v => v.category).sum ≤ W)
    (hd : decode c.code pc = .ok (.invokespecial index, 3)) (hc : cells + rm.cells ≤ R.cells) (hs : slots + rm.slots ≤ R.slots)
    (k : ∀ T' v L, Stand p l e R (s.setVm T'.vm) m args below meth c T' (locs ++ L) (cells + rm.cells) (slots + rm.slots) → Z.Warmed39 T'.vm → T'.vm.findClass own = some m.cls → Sn s T'.vm T'.heap → (s.setVm vm0).Warmed39 T'.vm → Q' v T'.heap L T'.vm → Goes p e below G (T'.setTop (mkF m (pc + 3) Ls (v.toList ++ rest)))) : Goes p e below G (T.setTop (mkF m pc Ls st)) := by
  subst hst
  obtain ⟨v, _, ⟨T', L', k', n'⟩, -, X', hS', hgr, ⟨L, hQ, l1, y1, z1⟩, st⟩ := X.specialBackS hx (y := y) hy1 hown (mvT (s := s.setVm vm0) hZ w1) (mvT (s := s.setVm vm0) hZ w2) (mvT (s := s.setVm vm0) hZ w4) hy (backW (W := W) hM hPv hZ w4 w3 hf hl) (g := mkF m pc Ls (argsL.reverse ++ .ref a :: rest)) rfl hsize (Steps.refl _) (a := a) (argsL := argsL) (rest := rest) (lenOf hpd hlen) rfl (by show 2 * 0 + _ ≤ _; omega) hd (fun _ _ => ⟨has, eT, hc, hs⟩)
  dsimp only [Pt.U, Pt.locs, Pt.cells, Pt.slots] at X' l1 y1 z1 st hQ hS' hgr
  subst l1 y1 z1
  obtain ⟨k0, s1, s2⟩ := hS
  have h3 : s.Since T'.vm T'.heap.size := s1.trans hS' (Nat.le_trans s2 (by rw [← eT]; exact hgr))
  exact go (fun _ => st.trans) (k T' v L X' (State.Warmed39.trans (t := s.setVm vm0) hZ hS'.1) (by rw [hS'.1.alike.findClass]; exact hown) ⟨_, h3, Nat.le_refl _⟩ hS'.1 hQ)
theorem goCallVW (X : Stand p l e R (s.setVm vm0) m args below meth c T locs cells slots) (hx : p.tables.exec = Jvm.exec) (hZ : Z.Warmed39 vm0) (hS : Sn s vm0 h) {own C : String} {index : Nat} {y : MethodName} {bytes : ByteArray} {maxL : Nat} {ret : Option FieldType} (hown : vm0.findClass own = some m.cls)
    (w1 : (Cond.methodLink own index y).before a0 Z = true) (w2 : (Cond.declares y).before a0 Z = true) (w5 : (Cond.selects C y y).before a0 Z = true) (w6 : (Cond.instanceMethod y).before a0 Z = true) (w3 : (Cond.initialized y.cls).before a0 Z = true) (w4 : (Cond.code y bytes maxL ret).before a0 Z = true) (hy : y.cls ≠ "java/lang/invoke/MethodHandle" ∧ y.cls ≠ "java/lang/invoke/VarHandle")
    {rm : Room} {as : Array Value} {Q' : Option Value → Heap → List Loc → Vm → Prop} (hM : CtrW l Z y bytes maxL ret [] rm as h Pv Q') (hPv : ∀ vm1, (s.setVm vm0).WarmedH vm1 → Pv vm1) (W : Nat) (hf : rm.frames + 1 ≤ R.frames) (hl : W + (maxL + 11) + rm.locals ≤ R.locals) (eT : T.heap = h) {a : Addr} (E : Exa Z h a C)
    {pc : Nat} {Ls : Array Slot} {st : List Value} (hsize : Ls.size = c.maxLocals) (argsL rest : List Value) {ps : List FieldType} {rt : Option FieldType} (hpd : parseMethodDescriptor y.desc = some ⟨ps, rt⟩) (hlen : argsL.length = ps.length) (hst : st = argsL.reverse ++ .ref a :: rest) (has : (.ref a :: argsL).toArray = as) (hW : (rest.map fun v => v.category).sum ≤ W)
    (hd : decode c.code pc = .ok (.invokevirtual index, 3)) (hc : cells + rm.cells ≤ R.cells) (hs : slots + rm.slots ≤ R.slots)
    (k : ∀ T' v L, Stand p l e R (s.setVm T'.vm) m args below meth c T' (locs ++ L) (cells + rm.cells) (slots + rm.slots) → Z.Warmed39 T'.vm → T'.vm.findClass own = some m.cls → Sn s T'.vm T'.heap → (s.setVm vm0).Warmed39 T'.vm → Q' v T'.heap L T'.vm → Goes p e below G (T'.setTop (mkF m (pc + 3) Ls (v.toList ++ rest)))) : Goes p e below G (T.setTop (mkF m pc Ls st)) := by
  subst hst
  obtain ⟨cq, kq, qa, qb, qc⟩ := isOf (s := s.setVm vm0) hZ eT E
  obtain ⟨v, _, ⟨T', L', k', n'⟩, -, X', hS', hgr, ⟨L, hQ, l1, y1, z1⟩, st⟩ := X.virtualBackS hx (y := y) (z := y) hown (mvT (s := s.setVm vm0) hZ w1) (mvT (s := s.setVm vm0) hZ w2) (notFace_of_selects (args := #[]) (mvT (s := s.setVm vm0) hZ w5)) (mvT (s := s.setVm vm0) hZ w5) (mvT (s := s.setVm vm0) hZ w6) hy (backW (W := W) hM hPv hZ w4 w3 hf hl) qa qc (g := mkF m pc Ls (argsL.reverse ++ .ref a :: rest)) rfl hsize (Steps.refl _) (argsL := argsL) (rest := rest) (lenOf hpd hlen) rfl (by show 2 * 0 + _ ≤ _; omega) hd (fun _ _ => ⟨has, eT, hc, hs⟩)
  dsimp only [Pt.U, Pt.locs, Pt.cells, Pt.slots] at X' l1 y1 z1 st hQ hS' hgr
  subst l1 y1 z1
  obtain ⟨k0, s1, s2⟩ := hS
  have h3 : s.Since T'.vm T'.heap.size := s1.trans hS' (Nat.le_trans s2 (by rw [← eT]; exact hgr))
  exact go (fun _ => st.trans) (k T' v L X' (State.Warmed39.trans (t := s.setVm vm0) hZ hS'.1) (by rw [hS'.1.alike.findClass]; exact hown) ⟨_, h3, Nat.le_refl _⟩ hS'.1 hQ)
/-- Arv with its whole list is Ary -/
theorem Arv.ary {b : Addr} {k : ClassId} {ty : FieldType} {z : Int32} {vs : List Value} {d : Value} (F : Arv Z h b k ty z vs d) (hl : z.toNatClampNeg = vs.length) : Ary Z h b ty vs := by
  obtain ⟨cl, A, -, hs, hz, H, -⟩ := F
  refine ⟨cl, A, ?_, ?_⟩
  · apply List.ext_getElem?
    intro i
    by_cases hi : i < cl.slots.size
    · have := H i hi
      rw [Array.getElem?_toList, this]
      rw [List.getD_eq_getElem?_getD]
      have hv : i < vs.length := by omega
      simp [hv]
    · rw [List.getElem?_eq_none (by rw [Array.length_toList]; omega), List.getElem?_eq_none (by omega)]
  · rw [← hl]; exact (back32 hz).2
end OwnW
end Jvm.OwnWalk
namespace Jvm.Pilot.@@N@@
open Jvm Jvm.ClassFile Sem Op Lib Jvm.Free Jvm.Stand Jvm.LawKit Jvm.RoadKit Jvm.OwnWalk Bundle Jvm.Pilot.@@N@@.Jvm.D
theorem d_jdk_52_method_21_0 : decode jdk_52_method_21_code 0 = .ok (.iconst 0, 1) := by decide +kernel
theorem d_jdk_52_method_21_1 : decode jdk_52_method_21_code 1 = .ok (.istore 5, 2) := by decide +kernel
theorem d_jdk_52_method_21_3 : decode jdk_52_method_21_code 3 = .ok (.iload 5, 2) := by decide +kernel
theorem d_jdk_52_method_21_5 : decode jdk_52_method_21_code 5 = .ok (.iload 4, 2) := by decide +kernel
theorem d_jdk_52_method_21_7 : decode jdk_52_method_21_code 7 = .ok (.if_icmp .ge 37, 3) := by decide +kernel
theorem d_jdk_52_method_21_10 : decode jdk_52_method_21_code 10 = .ok (.aload_n 0, 1) := by decide +kernel
theorem d_jdk_52_method_21_11 : decode jdk_52_method_21_code 11 = .ok (.iload_n 1, 1) := by decide +kernel
theorem d_jdk_52_method_21_12 : decode jdk_52_method_21_code 12 = .ok (.caload, 1) := by decide +kernel
theorem d_jdk_52_method_21_13 : decode jdk_52_method_21_code 13 = .ok (.istore 6, 2) := by decide +kernel
theorem d_jdk_52_method_21_15 : decode jdk_52_method_21_code 15 = .ok (.iload 6, 2) := by decide +kernel
theorem d_jdk_52_method_21_17 : decode jdk_52_method_21_code 17 = .ok (.sipush 255, 3) := by decide +kernel
theorem d_jdk_52_method_21_20 : decode jdk_52_method_21_code 20 = .ok (.if_icmp .le 6, 3) := by decide +kernel
theorem d_jdk_52_method_21_26 : decode jdk_52_method_21_code 26 = .ok (.aload_n 2, 1) := by decide +kernel
theorem d_jdk_52_method_21_27 : decode jdk_52_method_21_code 27 = .ok (.iload_n 3, 1) := by decide +kernel
theorem d_jdk_52_method_21_28 : decode jdk_52_method_21_code 28 = .ok (.iload 6, 2) := by decide +kernel
theorem d_jdk_52_method_21_30 : decode jdk_52_method_21_code 30 = .ok (.i2b, 1) := by decide +kernel
theorem d_jdk_52_method_21_31 : decode jdk_52_method_21_code 31 = .ok (.bastore, 1) := by decide +kernel
theorem d_jdk_52_method_21_32 : decode jdk_52_method_21_code 32 = .ok (.iinc 1 1, 3) := by decide +kernel
theorem d_jdk_52_method_21_35 : decode jdk_52_method_21_code 35 = .ok (.iinc 3 1, 3) := by decide +kernel
theorem d_jdk_52_method_21_38 : decode jdk_52_method_21_code 38 = .ok (.iinc 5 1, 3) := by decide +kernel
theorem d_jdk_52_method_21_41 : decode jdk_52_method_21_code 41 = .ok (.goto (-38), 3) := by decide +kernel
theorem d_jdk_52_method_21_44 : decode jdk_52_method_21_code 44 = .ok (.iload 4, 2) := by decide +kernel
theorem d_jdk_52_method_21_46 : decode jdk_52_method_21_code 46 = .ok (.ireturn, 1) := by decide +kernel
theorem pn_0 : plainName "java/lang/StringUTF16" = true := by first | (simp [plainName, overriddenIn]; done) | decide +kernel
theorem ef_rmSa2 (m : MethodId) (x0 : Addr) (x1 : Int32) (x2 : Addr) (x3 : Int32) (x4 : Int32) : entryFrame m #[(.ref x0), (.int x1), (.ref x2), (.int x3), (.int x4)] 7 = mkF m 0 #[.val (.ref x0), .val (.int x1), .val (.ref x2), .val (.int x3), .val (.int x4), .unset, .unset] [] := by first | (simp [entryFrame, mkF, argsToLocals, Value.category]; done) | rfl
set_option maxRecDepth 65536 in
set_option maxHeartbeats 40000000 in
theorem rmSa2 (l : Launch) (Z : State) (a0 : Array Value) (hw : ∀ d ∈ tables_1, d.before a0 Z = true) (c0 c1 : Int32) (a1 : Addr) (a2 : Addr) (h0 : Heap) (O0 : Ext Z.heap h0) (Y1 : Ary Z h0 a1 .char [(.int c0), (.int c1)]) (Y2 : Ary Z h0 a2 .byte [(.int (0 : Int32)), (.int (0 : Int32))]) (ne : a1 ≠ a2) (fr2 : Z.heap.size ≤ a2) (hc0 : ¬ (255 : Int32) < c0) (hc1 : ¬ (255 : Int32) < c1) :
    Ctr l Z (⟨"java/lang/StringUTF16", "compress", "([CI[BII)I"⟩ : MethodName) jdk_52_method_21_code 7 (some .int) [] ({ frames := 0, cells := 0, slots := 0, locals := 0 } : Room) #[(.ref a1), (.int (0 : Int32)), (.ref a2), (.int (0 : Int32)), (.int (2 : Int32))] h0 (fun v h L => v = some (.int (2 : Int32)) ∧ Fr Z.heap.size L ∧ Keep h0 h [a2] ∧ Ary Z h a2 .byte [(.int (c0.toInt8.toInt32)), (.int (c1.toInt8.toInt32))]) := by
  refine ctr (plainFor_of_name pn_0) ?_
  intro p e s m below meth c s₁ hx hby hml hown hnm hret hlocks hZ X0 e0
  have N0 := Fr.nil Z.heap.size
  have hsz : ∀ {Ls : Array Slot}, Ls.size = 7 → Ls.size = c.maxLocals := fun q => q.trans hml.symm
  have K0 := Keep.refl h0 [a2]
  refine goE (ef_rmSa2 m (a1) ((0 : Int32)) (a2) ((0 : Int32)) ((2 : Int32))) ?_
  show Goes p e below _ (s₁.setTop (mkF m 0 #[.val (.ref a1), .val (.int (0 : Int32)), .val (.ref a2), .val (.int (0 : Int32)), .val (.int (2 : Int32)), .unset, .unset] []))
  refine gIconst X0 hx (hb hby d_jdk_52_method_21_0) (v := (0 : Int32)) rfl ?_
  refine gIstore X0 hx (hb hby d_jdk_52_method_21_1) (l' := #[.val (.ref a1), .val (.int (0 : Int32)), .val (.ref a2), .val (.int (0 : Int32)), .val (.int (2 : Int32)), .val (.int (0 : Int32)), .unset]) rfl ?_
  refine gIload X0 hx (hb hby d_jdk_52_method_21_3) rfl ?_
  refine gIload X0 hx (hb hby d_jdk_52_method_21_5) rfl ?_
  refine gIcmpN X0 hx (hb hby d_jdk_52_method_21_7) (XT.ii_ge_f (by decide)) ?_
  show Goes p e below _ (s₁.setTop (mkF m 10 #[.val (.ref a1), .val (.int (0 : Int32)), .val (.ref a2), .val (.int (0 : Int32)), .val (.int (2 : Int32)), .val (.int (0 : Int32)), .unset] []))
  refine gAloadN X0 hx (hb hby d_jdk_52_method_21_10) rfl rfl ?_
  refine gIloadN X0 hx (hb hby d_jdk_52_method_21_11) rfl ?_
  refine goCaload X0 hx hZ e0 Y1 (x := c0) (hb hby d_jdk_52_method_21_12) (by decide) rfl ?_
  refine gIstore X0 hx (hb hby d_jdk_52_method_21_13) (l' := #[.val (.ref a1), .val (.int (0 : Int32)), .val (.ref a2), .val (.int (0 : Int32)), .val (.int (2 : Int32)), .val (.int (0 : Int32)), .val (.int c0)]) rfl ?_
  refine gIload X0 hx (hb hby d_jdk_52_method_21_15) rfl ?_
  refine gSipush X0 hx (hb hby d_jdk_52_method_21_17) (v := (255 : Int32)) rfl ?_
  refine gIcmpY X0 hx (hb hby d_jdk_52_method_21_20) (pc' := 26) (XT.ii_le_t hc0) (by decide) (by decide) ?_
  show Goes p e below _ (s₁.setTop (mkF m 26 #[.val (.ref a1), .val (.int (0 : Int32)), .val (.ref a2), .val (.int (0 : Int32)), .val (.int (2 : Int32)), .val (.int (0 : Int32)), .val (.int c0)] []))
  refine gAloadN X0 hx (hb hby d_jdk_52_method_21_26) rfl rfl ?_
  refine gIloadN X0 hx (hb hby d_jdk_52_method_21_27) rfl ?_
  refine gIload X0 hx (hb hby d_jdk_52_method_21_28) rfl ?_
  refine gI2b X0 hx (hb hby d_jdk_52_method_21_30) ?_
  refine goBastore X0 hx hZ e0 Y2 (hb hby d_jdk_52_method_21_31) (by decide) rfl (fun Tt1 ht1 Xt1 et1 Wt1 => ?_)
  have N2 := Fr.snoc Xt1 N0 fr2
  replace Y2 : Ary Z ht1 a2 .byte [(.int (c0.toInt8.toInt32)), (.int (0 : Int32))] := Y2.set Wt1 (by rw [narb]; rfl)
  replace Y1 := Y1.other Wt1 ne
  have O3 : Ext Z.heap ht1 := extW O0 Wt1 fr2
  have K4 := K0.wr Wt1 (Or.inl (by simp))
  show Goes p e below _ (Tt1.setTop (mkF m 32 #[.val (.ref a1), .val (.int (0 : Int32)), .val (.ref a2), .val (.int (0 : Int32)), .val (.int (2 : Int32)), .val (.int (0 : Int32)), .val (.int c0)] []))
  refine gIinc Xt1 hx (hb hby d_jdk_52_method_21_32) (v := (1 : Int32)) rfl rfl (l' := #[.val (.ref a1), .val (.int (1 : Int32)), .val (.ref a2), .val (.int (0 : Int32)), .val (.int (2 : Int32)), .val (.int (0 : Int32)), .val (.int c0)]) rfl ?_
  refine gIinc Xt1 hx (hb hby d_jdk_52_method_21_35) (v := (1 : Int32)) rfl rfl (l' := #[.val (.ref a1), .val (.int (1 : Int32)), .val (.ref a2), .val (.int (1 : Int32)), .val (.int (2 : Int32)), .val (.int (0 : Int32)), .val (.int c0)]) rfl ?_
  refine gIinc Xt1 hx (hb hby d_jdk_52_method_21_38) (v := (1 : Int32)) rfl rfl (l' := #[.val (.ref a1), .val (.int (1 : Int32)), .val (.ref a2), .val (.int (1 : Int32)), .val (.int (2 : Int32)), .val (.int (1 : Int32)), .val (.int c0)]) rfl ?_
  refine gGoto Xt1 hx (hb hby d_jdk_52_method_21_41) (pc' := 3) (by decide) (by decide) ?_
  show Goes p e below _ (Tt1.setTop (mkF m 3 #[.val (.ref a1), .val (.int (1 : Int32)), .val (.ref a2), .val (.int (1 : Int32)), .val (.int (2 : Int32)), .val (.int (1 : Int32)), .val (.int c0)] []))
  refine gIload Xt1 hx (hb hby d_jdk_52_method_21_3) rfl ?_
  refine gIload Xt1 hx (hb hby d_jdk_52_method_21_5) rfl ?_
  refine gIcmpN Xt1 hx (hb hby d_jdk_52_method_21_7) (XT.ii_ge_f (by decide)) ?_
  show Goes p e below _ (Tt1.setTop (mkF m 10 #[.val (.ref a1), .val (.int (1 : Int32)), .val (.ref a2), .val (.int (1 : Int32)), .val (.int (2 : Int32)), .val (.int (1 : Int32)), .val (.int c0)] []))
  refine gAloadN Xt1 hx (hb hby d_jdk_52_method_21_10) rfl rfl ?_
  refine gIloadN Xt1 hx (hb hby d_jdk_52_method_21_11) rfl ?_
  refine goCaload Xt1 hx hZ et1 Y1 (x := c1) (hb hby d_jdk_52_method_21_12) (by decide) rfl ?_
  refine gIstore Xt1 hx (hb hby d_jdk_52_method_21_13) (l' := #[.val (.ref a1), .val (.int (1 : Int32)), .val (.ref a2), .val (.int (1 : Int32)), .val (.int (2 : Int32)), .val (.int (1 : Int32)), .val (.int c1)]) rfl ?_
  refine gIload Xt1 hx (hb hby d_jdk_52_method_21_15) rfl ?_
  refine gSipush Xt1 hx (hb hby d_jdk_52_method_21_17) (v := (255 : Int32)) rfl ?_
  refine gIcmpY Xt1 hx (hb hby d_jdk_52_method_21_20) (pc' := 26) (XT.ii_le_t hc1) (by decide) (by decide) ?_
  show Goes p e below _ (Tt1.setTop (mkF m 26 #[.val (.ref a1), .val (.int (1 : Int32)), .val (.ref a2), .val (.int (1 : Int32)), .val (.int (2 : Int32)), .val (.int (1 : Int32)), .val (.int c1)] []))
  refine gAloadN Xt1 hx (hb hby d_jdk_52_method_21_26) rfl rfl ?_
  refine gIloadN Xt1 hx (hb hby d_jdk_52_method_21_27) rfl ?_
  refine gIload Xt1 hx (hb hby d_jdk_52_method_21_28) rfl ?_
  refine gI2b Xt1 hx (hb hby d_jdk_52_method_21_30) ?_
  refine goBastore Xt1 hx hZ et1 Y2 (hb hby d_jdk_52_method_21_31) (by decide) rfl (fun Tt5 ht5 Xt5 et5 Wt5 => ?_)
  have N6 := Fr.snoc Xt5 N2 fr2
  replace Y2 : Ary Z ht5 a2 .byte [(.int (c0.toInt8.toInt32)), (.int (c1.toInt8.toInt32))] := Y2.set Wt5 (by rw [narb]; rfl)
  replace Y1 := Y1.other Wt5 ne
  have O7 : Ext Z.heap ht5 := extW O3 Wt5 fr2
  have K8 := K4.wr Wt5 (Or.inl (by simp))
  show Goes p e below _ (Tt5.setTop (mkF m 32 #[.val (.ref a1), .val (.int (1 : Int32)), .val (.ref a2), .val (.int (1 : Int32)), .val (.int (2 : Int32)), .val (.int (1 : Int32)), .val (.int c1)] []))
  refine gIinc Xt5 hx (hb hby d_jdk_52_method_21_32) (v := (2 : Int32)) rfl rfl (l' := #[.val (.ref a1), .val (.int (2 : Int32)), .val (.ref a2), .val (.int (1 : Int32)), .val (.int (2 : Int32)), .val (.int (1 : Int32)), .val (.int c1)]) rfl ?_
  refine gIinc Xt5 hx (hb hby d_jdk_52_method_21_35) (v := (2 : Int32)) rfl rfl (l' := #[.val (.ref a1), .val (.int (2 : Int32)), .val (.ref a2), .val (.int (2 : Int32)), .val (.int (2 : Int32)), .val (.int (1 : Int32)), .val (.int c1)]) rfl ?_
  refine gIinc Xt5 hx (hb hby d_jdk_52_method_21_38) (v := (2 : Int32)) rfl rfl (l' := #[.val (.ref a1), .val (.int (2 : Int32)), .val (.ref a2), .val (.int (2 : Int32)), .val (.int (2 : Int32)), .val (.int (2 : Int32)), .val (.int c1)]) rfl ?_
  refine gGoto Xt5 hx (hb hby d_jdk_52_method_21_41) (pc' := 3) (by decide) (by decide) ?_
  show Goes p e below _ (Tt5.setTop (mkF m 3 #[.val (.ref a1), .val (.int (2 : Int32)), .val (.ref a2), .val (.int (2 : Int32)), .val (.int (2 : Int32)), .val (.int (2 : Int32)), .val (.int c1)] []))
  refine gIload Xt5 hx (hb hby d_jdk_52_method_21_3) rfl ?_
  refine gIload Xt5 hx (hb hby d_jdk_52_method_21_5) rfl ?_
  refine gIcmpY Xt5 hx (hb hby d_jdk_52_method_21_7) (pc' := 44) (XT.ii_ge_t (by decide)) (by decide) (by decide) ?_
  show Goes p e below _ (Tt5.setTop (mkF m 44 #[.val (.ref a1), .val (.int (2 : Int32)), .val (.ref a2), .val (.int (2 : Int32)), .val (.int (2 : Int32)), .val (.int (2 : Int32)), .val (.int c1)] []))
  refine gIload Xt5 hx (hb hby d_jdk_52_method_21_44) rfl ?_
  exact goRetI Xt5 hx hret hlocks (hb hby d_jdk_52_method_21_46) (by decide) (by decide) et5 (⟨rfl, N6, K8, Y2⟩)
theorem d_jdk_52_method_16_0 : decode jdk_52_method_16_code 0 = .ok (.iload_n 2, 1) := by decide +kernel
theorem d_jdk_52_method_16_1 : decode jdk_52_method_16_code 1 = .ok (.newarray .byte, 2) := by decide +kernel
theorem d_jdk_52_method_16_3 : decode jdk_52_method_16_code 3 = .ok (.astore_n 3, 1) := by decide +kernel
theorem d_jdk_52_method_16_4 : decode jdk_52_method_16_code 4 = .ok (.aload_n 0, 1) := by decide +kernel
theorem d_jdk_52_method_16_5 : decode jdk_52_method_16_code 5 = .ok (.iload_n 1, 1) := by decide +kernel
theorem d_jdk_52_method_16_6 : decode jdk_52_method_16_code 6 = .ok (.aload_n 3, 1) := by decide +kernel
theorem d_jdk_52_method_16_7 : decode jdk_52_method_16_code 7 = .ok (.iconst 0, 1) := by decide +kernel
theorem d_jdk_52_method_16_8 : decode jdk_52_method_16_code 8 = .ok (.iload_n 2, 1) := by decide +kernel
theorem pd_0 : parseMethodDescriptor "([CI[BII)I" = some ⟨[(.array .char), .int, (.array .byte), .int, .int], some .int⟩ := by decide +kernel
theorem d_jdk_52_method_16_9 : decode jdk_52_method_16_code 9 = .ok (.invokestatic 115, 3) := by decide +kernel
theorem d_jdk_52_method_16_12 : decode jdk_52_method_16_code 12 = .ok (.istore 4, 2) := by decide +kernel
theorem d_jdk_52_method_16_14 : decode jdk_52_method_16_code 14 = .ok (.iload 4, 2) := by decide +kernel
theorem d_jdk_52_method_16_16 : decode jdk_52_method_16_code 16 = .ok (.iload_n 2, 1) := by decide +kernel
theorem d_jdk_52_method_16_17 : decode jdk_52_method_16_code 17 = .ok (.if_icmp .eq 40, 3) := by decide +kernel
theorem d_jdk_52_method_16_57 : decode jdk_52_method_16_code 57 = .ok (.aload_n 3, 1) := by decide +kernel
theorem d_jdk_52_method_16_58 : decode jdk_52_method_16_code 58 = .ok (.areturn, 1) := by decide +kernel
theorem ef_rmSb2 (m : MethodId) (x0 : Addr) (x1 : Int32) (x2 : Int32) : entryFrame m #[(.ref x0), (.int x1), (.int x2)] 6 = mkF m 0 #[.val (.ref x0), .val (.int x1), .val (.int x2), .unset, .unset, .unset] [] := by first | (simp [entryFrame, mkF, argsToLocals, Value.category]; done) | rfl
set_option maxRecDepth 65536 in
set_option maxHeartbeats 40000000 in
theorem rmSb2 (l : Launch) (Z : State) (a0 : Array Value) (hw : ∀ d ∈ tables_1, d.before a0 Z = true) (c0 c1 : Int32) (a1 : Addr) (h0 : Heap) (O0 : Ext Z.heap h0) (Y1 : Ary Z h0 a1 .char [(.int c0), (.int c1)]) (hc0 : ¬ (255 : Int32) < c0) (hc1 : ¬ (255 : Int32) < c1) :
    Ctr l Z (⟨"java/lang/StringUTF16", "compress", "([CII)[B"⟩ : MethodName) jdk_52_method_16_code 6 (some (.array .byte)) [] ({ frames := 1, cells := 1, slots := 2, locals := 18 } : Room) #[(.ref a1), (.int (0 : Int32)), (.int (2 : Int32))] h0 (fun v h L => ∃ u, v = some (.ref u) ∧ Fr Z.heap.size L ∧ Keep h0 h [] ∧ h0.size ≤ u ∧ Ary Z h u .byte [(.int (c0.toInt8.toInt32)), (.int (c1.toInt8.toInt32))]) := by
  refine ctr (plainFor_of_name pn_0) ?_
  intro p e s m below meth c s₁ hx hby hml hown hnm hret hlocks hZ X0 e0
  have N0 := Fr.nil Z.heap.size
  have hsz : ∀ {Ls : Array Slot}, Ls.size = 6 → Ls.size = c.maxLocals := fun q => q.trans hml.symm
  have K0 := Keep.refl h0 []
  refine goE (ef_rmSb2 m (a1) ((0 : Int32)) ((2 : Int32))) ?_
  show Goes p e below _ (s₁.setTop (mkF m 0 #[.val (.ref a1), .val (.int (0 : Int32)), .val (.int (2 : Int32)), .unset, .unset, .unset] []))
  refine gIloadN X0 hx (hb hby d_jdk_52_method_16_0) rfl ?_
  obtain ⟨Tt1, ht1, kt1, Xt1, et1, Et1, At1, stt1⟩ := newP X0 hx hZ (hw _ (List.mem_of_getElem? (i := 47) rfl)) e0 (g := (mkF m 1 #[.val (.ref a1), .val (.int (0 : Int32)), .val (.int (2 : Int32)), .unset, .unset, .unset] [(.int (2 : Int32))])) rfl (hb hby d_jdk_52_method_16_1) rfl (by decide) (cap := 2) (by decide) (by decide) (by decide) (by decide)
  obtain ⟨ob2, gob2⟩ : ∃ z, z = h0.size := ⟨_, rfl⟩
  rw [← gob2] at At1 stt1
  refine go stt1 ?_
  have ne_a1_ob2 : a1 ≠ ob2 := Nat.ne_of_lt (gob2 ▸ Y1.lt)
  have fr_ob2 : Z.heap.size ≤ ob2 := gob2 ▸ O0.1
  have pa_ob2 : h0.size ≤ ob2 := gob2 ▸ K0.1
  replace Y1 := Y1.ext Et1
  have O3 : Ext Z.heap ht1 := extT O0 Et1
  have K4 := K0.ext Et1
  have Y_ob2 : Ary Z ht1 ob2 .byte [(.int (0 : Int32)), (.int (0 : Int32))] := Ary.new At1 rfl (by decide)
  show Goes p e below _ (Tt1.setTop (mkF m 3 #[.val (.ref a1), .val (.int (0 : Int32)), .val (.int (2 : Int32)), .unset, .unset, .unset] [(.ref ob2)]))
  refine gAstoreN Xt1 hx (hb hby d_jdk_52_method_16_3) rfl (l' := #[.val (.ref a1), .val (.int (0 : Int32)), .val (.int (2 : Int32)), .val (.ref ob2), .unset, .unset]) rfl ?_
  refine gAloadN Xt1 hx (hb hby d_jdk_52_method_16_4) rfl rfl ?_
  refine gIloadN Xt1 hx (hb hby d_jdk_52_method_16_5) rfl ?_
  refine gAloadN Xt1 hx (hb hby d_jdk_52_method_16_6) rfl rfl ?_
  refine gIconst Xt1 hx (hb hby d_jdk_52_method_16_7) (v := (0 : Int32)) rfl ?_
  refine gIloadN Xt1 hx (hb hby d_jdk_52_method_16_8) rfl ?_
  refine goCallS Xt1 hx hZ hown (hw _ (List.mem_of_getElem? (i := 59) rfl)) (hw _ (List.mem_of_getElem? (i := 60) rfl)) (hw _ (List.mem_of_getElem? (i := 57) rfl)) (hw _ (List.mem_of_getElem? (i := 61) rfl)) (by decide) (rmSa2 l Z a0 hw c0 c1 a1 ob2 ht1 O3 Y1 Y_ob2 ne_a1_ob2 fr_ob2 hc0 hc1) 0 (by decide) (by decide) et1 (hsz rfl) [(.ref a1), (.int (0 : Int32)), (.ref ob2), (.int (0 : Int32)), (.int (2 : Int32))] [] pd_0 rfl rfl rfl (Nat.le_of_eq rfl) (hb hby d_jdk_52_method_16_9) (by decide) (by decide) (fun Tt5 vt5 Lt5 Xt5 qt5 => ?_)
  obtain ⟨ht5, et5⟩ : ∃ z, Tt5.heap = z := ⟨_, rfl⟩
  rw [et5] at qt5
  obtain ⟨rfl, N6, Kct5, Yb⟩ := qt5
  have N7 := Fr.app N0 N6
  replace Y1 := Y1.keep Kct5 (ninS ne_a1_ob2 nin0)
  have O8 : Ext Z.heap ht5 := extK O3 Kct5 (allS fr_ob2 all0)
  have K9 := K4.trans Kct5 (allS (Or.inr pa_ob2) all0)
  show Goes p e below _ (Tt5.setTop (mkF m 12 #[.val (.ref a1), .val (.int (0 : Int32)), .val (.int (2 : Int32)), .val (.ref ob2), .unset, .unset] [(.int (2 : Int32))]))
  refine gIstore Xt5 hx (hb hby d_jdk_52_method_16_12) (l' := #[.val (.ref a1), .val (.int (0 : Int32)), .val (.int (2 : Int32)), .val (.ref ob2), .val (.int (2 : Int32)), .unset]) rfl ?_
  refine gIload Xt5 hx (hb hby d_jdk_52_method_16_14) rfl ?_
  refine gIloadN Xt5 hx (hb hby d_jdk_52_method_16_16) rfl ?_
  refine gIcmpY Xt5 hx (hb hby d_jdk_52_method_16_17) (pc' := 57) (XT.ii_eq_t rfl) (by decide) (by decide) ?_
  show Goes p e below _ (Tt5.setTop (mkF m 57 #[.val (.ref a1), .val (.int (0 : Int32)), .val (.int (2 : Int32)), .val (.ref ob2), .val (.int (2 : Int32)), .unset] []))
  refine gAloadN Xt5 hx (hb hby d_jdk_52_method_16_57) rfl rfl ?_
  exact goRetA Xt5 hx hret hlocks rfl rfl (hb hby d_jdk_52_method_16_58) (by decide) (by decide) et5 (⟨ob2, rfl, N7, K9, pa_ob2, Yb⟩)
theorem d_jdk_52_method_15_0 : decode jdk_52_method_15_code 0 = .ok (.iload_n 1, 1) := by decide +kernel
theorem d_jdk_52_method_15_1 : decode jdk_52_method_15_code 1 = .ok (.aload_n 0, 1) := by decide +kernel
theorem d_jdk_52_method_15_2 : decode jdk_52_method_15_code 2 = .ok (.arraylength, 1) := by decide +kernel
theorem d_jdk_52_method_15_3 : decode jdk_52_method_15_code 3 = .ok (.isub, 1) := by decide +kernel
theorem d_jdk_52_method_15_4 : decode jdk_52_method_15_code 4 = .ok (.bipush 31, 2) := by decide +kernel
theorem d_jdk_52_method_15_6 : decode jdk_52_method_15_code 6 = .ok (.iushr, 1) := by decide +kernel
theorem d_jdk_52_method_15_7 : decode jdk_52_method_15_code 7 = .ok (.i2b, 1) := by decide +kernel
theorem d_jdk_52_method_15_8 : decode jdk_52_method_15_code 8 = .ok (.ireturn, 1) := by decide +kernel
theorem ef_rmSc2 (m : MethodId) (x0 : Addr) (x1 : Int32) : entryFrame m #[(.ref x0), (.int x1)] 2 = mkF m 0 #[.val (.ref x0), .val (.int x1)] [] := by first | (simp [entryFrame, mkF, argsToLocals, Value.category]; done) | rfl
set_option maxRecDepth 65536 in
set_option maxHeartbeats 40000000 in
theorem rmSc2 (l : Launch) (Z : State) (a0 : Array Value) (hw : ∀ d ∈ tables_1, d.before a0 Z = true) (c0 c1 : Int32) (a1 : Addr) (h0 : Heap) (O0 : Ext Z.heap h0) (Y1 : Ary Z h0 a1 .byte [(.int (c0.toInt8.toInt32)), (.int (c1.toInt8.toInt32))]) :
    Ctr l Z (⟨"java/lang/StringUTF16", "coderFromArrayLen", "([BI)B"⟩ : MethodName) jdk_52_method_15_code 2 (some .byte) [] ({ frames := 0, cells := 0, slots := 0, locals := 0 } : Room) #[(.ref a1), (.int (2 : Int32))] h0 (fun v h L => v = some (.int (0 : Int32)) ∧ Fr Z.heap.size L ∧ h = h0) := by
  refine ctr (plainFor_of_name pn_0) ?_
  intro p e s m below meth c s₁ hx hby hml hown hnm hret hlocks hZ X0 e0
  have N0 := Fr.nil Z.heap.size
  have hsz : ∀ {Ls : Array Slot}, Ls.size = 2 → Ls.size = c.maxLocals := fun q => q.trans hml.symm
  refine goE (ef_rmSc2 m (a1) ((2 : Int32))) ?_
  show Goes p e below _ (s₁.setTop (mkF m 0 #[.val (.ref a1), .val (.int (2 : Int32))] []))
  refine gIloadN X0 hx (hb hby d_jdk_52_method_15_0) rfl ?_
  refine gAloadN X0 hx (hb hby d_jdk_52_method_15_1) rfl rfl ?_
  refine goAlen X0 hx hZ e0 Y1 (n := (2 : Int32)) (hb hby d_jdk_52_method_15_2) rfl ?_
  refine gIsub X0 hx (hb hby d_jdk_52_method_15_3) ?_
  refine gBipush X0 hx (hb hby d_jdk_52_method_15_4) (v := (31 : Int32)) rfl ?_
  refine gIushr X0 hx (hb hby d_jdk_52_method_15_6) ?_
  refine gI2b X0 hx (hb hby d_jdk_52_method_15_7) ?_
  show Goes p e below _ (s₁.setTop (mkF m 8 #[.val (.ref a1), .val (.int (2 : Int32))] [(.int ((XT.ushr (0 : Int32) (31 : Int32)).toInt8.toInt32))]))
  exact goRetN X0 hx (t := .byte) hret hlocks (by simp) (hb hby d_jdk_52_method_15_8) (z' := (0 : Int32)) (by decide) (by decide) (by decide) e0 (⟨rfl, N0, rfl⟩)
theorem d_jdk_42_method_149_0 : decode jdk_42_method_149_code 0 = .ok (.aload_n 0, 1) := by decide +kernel
theorem d_jdk_42_method_149_1 : decode jdk_42_method_149_code 1 = .ok (.invokespecial 1, 3) := by decide +kernel
theorem d_jdk_42_method_149_4 : decode jdk_42_method_149_code 4 = .ok (.iload_n 3, 1) := by decide +kernel
theorem d_jdk_42_method_149_5 : decode jdk_42_method_149_code 5 = .ok (.ifCond .ne 22, 3) := by decide +kernel
theorem d_jdk_42_method_149_27 : decode jdk_42_method_149_code 27 = .ok (.getstatic 38, 3) := by decide +kernel
theorem d_jdk_42_method_149_30 : decode jdk_42_method_149_code 30 = .ok (.ifCond .eq 28, 3) := by decide +kernel
theorem d_jdk_42_method_149_33 : decode jdk_42_method_149_code 33 = .ok (.aload_n 1, 1) := by decide +kernel
theorem d_jdk_42_method_149_34 : decode jdk_42_method_149_code 34 = .ok (.iload_n 2, 1) := by decide +kernel
theorem d_jdk_42_method_149_35 : decode jdk_42_method_149_code 35 = .ok (.iload_n 3, 1) := by decide +kernel
theorem pd_1 : parseMethodDescriptor "([CII)[B" = some ⟨[(.array .char), .int, .int], some (.array .byte)⟩ := by decide +kernel
theorem d_jdk_42_method_149_36 : decode jdk_42_method_149_code 36 = .ok (.invokestatic 177, 3) := by decide +kernel
theorem d_jdk_42_method_149_39 : decode jdk_42_method_149_code 39 = .ok (.astore 5, 2) := by decide +kernel
theorem d_jdk_42_method_149_41 : decode jdk_42_method_149_code 41 = .ok (.aload_n 0, 1) := by decide +kernel
theorem d_jdk_42_method_149_42 : decode jdk_42_method_149_code 42 = .ok (.aload 5, 2) := by decide +kernel
theorem d_jdk_42_method_149_44 : decode jdk_42_method_149_code 44 = .ok (.iload_n 3, 1) := by decide +kernel
theorem pd_2 : parseMethodDescriptor "([BI)B" = some ⟨[(.array .byte), .int], some .byte⟩ := by decide +kernel
theorem d_jdk_42_method_149_45 : decode jdk_42_method_149_code 45 = .ok (.invokestatic 47, 3) := by decide +kernel
theorem d_jdk_42_method_149_48 : decode jdk_42_method_149_code 48 = .ok (.putfield 15, 3) := by decide +kernel
theorem d_jdk_42_method_149_51 : decode jdk_42_method_149_code 51 = .ok (.aload_n 0, 1) := by decide +kernel
theorem d_jdk_42_method_149_52 : decode jdk_42_method_149_code 52 = .ok (.aload 5, 2) := by decide +kernel
theorem d_jdk_42_method_149_54 : decode jdk_42_method_149_code 54 = .ok (.putfield 9, 3) := by decide +kernel
theorem d_jdk_42_method_149_57 : decode jdk_42_method_149_code 57 = .ok (.return_, 1) := by decide +kernel
theorem pn_1 : plainName "java/lang/String" = true := by first | (simp [plainName, overriddenIn]; done) | decide +kernel
theorem ef_rmSd2 (m : MethodId) (x0 : Addr) (x1 : Addr) (x2 : Int32) (x3 : Int32) : entryFrame m #[(.ref x0), (.ref x1), (.int x2), (.int x3), .null] 6 = mkF m 0 #[.val (.ref x0), .val (.ref x1), .val (.int x2), .val (.int x3), .val .null, .unset] [] := by first | (simp [entryFrame, mkF, argsToLocals, Value.category]; done) | rfl
set_option maxRecDepth 65536 in
set_option maxHeartbeats 40000000 in
theorem rmSd2 (l : Launch) (Z : State) (a0 : Array Value) (hw : ∀ d ∈ tables_1, d.before a0 Z = true) (cs : Int32) (c0 c1 : Int32) (a1 : Addr) (a2 : Addr) (h0 : Heap) (O0 : Ext Z.heap h0) (S_cs : Sta Z Z.heap "java/lang/String" "COMPACT_STRINGS" "Z" (.int cs)) (hcs : ¬ cs = 0) (E1 : Exa Z h0 a1 "java/lang/String") (F1 : Fld Z h0 a1 "java/lang/String" "value" "[B" .null) (F2 : Fld Z h0 a1 "java/lang/String" "coder" "B" (.int (0 : Int32))) (Y2 : Ary Z h0 a2 .char [(.int c0), (.int c1)]) (ne : a1 ≠ a2) (fr1 : Z.heap.size ≤ a1) (hc0 : ¬ (255 : Int32) < c0) (hc1 : ¬ (255 : Int32) < c1) :
    Ctr l Z (⟨"java/lang/String", "<init>", "([CIILjava/lang/Void;)V"⟩ : MethodName) jdk_42_method_149_code 6 none [] ({ frames := 2, cells := 1, slots := 2, locals := 36 } : Room) #[(.ref a1), (.ref a2), (.int (0 : Int32)), (.int (2 : Int32)), .null] h0 (fun v h L => v = none ∧ Fr Z.heap.size L ∧ Keep h0 h [a1] ∧ ∃ u, h0.size ≤ u ∧ Fld Z h a1 "java/lang/String" "value" "[B" (.ref u) ∧ Fld Z h a1 "java/lang/String" "coder" "B" (.int (0 : Int32)) ∧ Ary Z h u .byte [(.int (c0.toInt8.toInt32)), (.int (c1.toInt8.toInt32))]) := by
  refine ctr (plainFor_of_name pn_1) ?_
  intro p e s m below meth c s₁ hx hby hml hown hnm hret hlocks hZ X0 e0
  have N0 := Fr.nil Z.heap.size
  have hsz : ∀ {Ls : Array Slot}, Ls.size = 6 → Ls.size = c.maxLocals := fun q => q.trans hml.symm
  have K0 := Keep.refl h0 [a1]
  refine goE (ef_rmSd2 m (a1) (a2) ((0 : Int32)) ((2 : Int32))) ?_
  show Goes p e below _ (s₁.setTop (mkF m 0 #[.val (.ref a1), .val (.ref a2), .val (.int (0 : Int32)), .val (.int (2 : Int32)), .val .null, .unset] []))
  refine gAloadN X0 hx (hb hby d_jdk_42_method_149_0) rfl rfl ?_
  obtain ⟨Tt1, Xt1, et1, stt1⟩ := initO X0 hx hZ hown (hw _ (List.mem_of_getElem? (i := 45) rfl)) (hw _ (List.mem_of_getElem? (i := 16) rfl)) (hw _ (List.mem_of_getElem? (i := 17) rfl)) e0 (g := (mkF m 1 #[.val (.ref a1), .val (.ref a2), .val (.int (0 : Int32)), .val (.int (2 : Int32)), .val .null, .unset] [(.ref a1)])) rfl (by rw [hml]; rfl) rfl (hb hby d_jdk_42_method_149_1) (by decide) (W := 0) (Nat.le_of_eq rfl) (by decide)
  refine go stt1 ?_
  show Goes p e below _ (Tt1.setTop (mkF m 4 #[.val (.ref a1), .val (.ref a2), .val (.int (0 : Int32)), .val (.int (2 : Int32)), .val .null, .unset] []))
  refine gIloadN Xt1 hx (hb hby d_jdk_42_method_149_4) rfl ?_
  refine gIfY Xt1 hx (hb hby d_jdk_42_method_149_5) (pc' := 27) (XT.i0_ne_t (by decide)) (by decide) (by decide) ?_
  show Goes p e below _ (Tt1.setTop (mkF m 27 #[.val (.ref a1), .val (.ref a2), .val (.int (0 : Int32)), .val (.int (2 : Int32)), .val .null, .unset] []))
  obtain ⟨Tt2, Xt2, et2, stt2⟩ := getS2 Xt1 hx hZ hown (host := "") (Or.inl (hw _ (List.mem_of_getElem? (i := 54) rfl))) Via.refl et1 (S_cs.ext O0) (g := (mkF m 27 #[.val (.ref a1), .val (.ref a2), .val (.int (0 : Int32)), .val (.int (2 : Int32)), .val .null, .unset] [])) rfl (hb hby d_jdk_42_method_149_27)
  refine go stt2 ?_
  show Goes p e below _ (Tt2.setTop (mkF m 30 #[.val (.ref a1), .val (.ref a2), .val (.int (0 : Int32)), .val (.int (2 : Int32)), .val .null, .unset] [(.int cs)]))
  refine gIfN Xt2 hx (hb hby d_jdk_42_method_149_30) (XT.i0_eq_f hcs) ?_
  show Goes p e below _ (Tt2.setTop (mkF m 33 #[.val (.ref a1), .val (.ref a2), .val (.int (0 : Int32)), .val (.int (2 : Int32)), .val .null, .unset] []))
  refine gAloadN Xt2 hx (hb hby d_jdk_42_method_149_33) rfl rfl ?_
  refine gIloadN Xt2 hx (hb hby d_jdk_42_method_149_34) rfl ?_
  refine gIloadN Xt2 hx (hb hby d_jdk_42_method_149_35) rfl ?_
  have lt_a1_t3 := E1.lt
  have lt_a2_t3 := Y2.lt
  refine goCallS Xt2 hx hZ hown (hw _ (List.mem_of_getElem? (i := 55) rfl)) (hw _ (List.mem_of_getElem? (i := 56) rfl)) (hw _ (List.mem_of_getElem? (i := 57) rfl)) (hw _ (List.mem_of_getElem? (i := 58) rfl)) (by decide) (rmSb2 l Z a0 hw c0 c1 a2 h0 O0 Y2 hc0 hc1) 0 (by decide) (by decide) et2 (hsz rfl) [(.ref a2), (.int (0 : Int32)), (.int (2 : Int32))] [] pd_1 rfl rfl rfl (Nat.le_of_eq rfl) (hb hby d_jdk_42_method_149_36) (by decide) (by decide) (fun Tt3 vt3 Lt3 Xt3 qt3 => ?_)
  obtain ⟨ht3, et3⟩ : ∃ z, Tt3.heap = z := ⟨_, rfl⟩
  rw [et3] at qt3
  obtain ⟨u, rfl, N4, Kct3, pu, Yu⟩ := qt3
  have N5 := Fr.app N0 N4
  replace E1 := E1.keep Kct3
  replace F1 := F1.keep Kct3 nin0
  replace F2 := F2.keep Kct3 nin0
  replace Y2 := Y2.keep Kct3 nin0
  have O6 : Ext Z.heap ht3 := extK O0 Kct3 all0
  have K7 := K0.trans Kct3 all0
  have ne_a1_u : a1 ≠ u := Nat.ne_of_lt (Nat.lt_of_lt_of_le lt_a1_t3 pu)
  have ne_a2_u : a2 ≠ u := Nat.ne_of_lt (Nat.lt_of_lt_of_le lt_a2_t3 pu)
  have fr_u : Z.heap.size ≤ u := Nat.le_trans O0.1 pu
  have pa_u : h0.size ≤ u := Nat.le_trans K0.1 pu
  show Goes p e below _ (Tt3.setTop (mkF m 39 #[.val (.ref a1), .val (.ref a2), .val (.int (0 : Int32)), .val (.int (2 : Int32)), .val .null, .unset] [(.ref u)]))
  refine gAstore Xt3 hx (hb hby d_jdk_42_method_149_39) rfl (l' := #[.val (.ref a1), .val (.ref a2), .val (.int (0 : Int32)), .val (.int (2 : Int32)), .val .null, .val (.ref u)]) rfl ?_
  refine gAloadN Xt3 hx (hb hby d_jdk_42_method_149_41) rfl rfl ?_
  refine gAload Xt3 hx (hb hby d_jdk_42_method_149_42) rfl rfl ?_
  refine gIloadN Xt3 hx (hb hby d_jdk_42_method_149_44) rfl ?_
  refine goCallS Xt3 hx hZ hown (hw _ (List.mem_of_getElem? (i := 62) rfl)) (hw _ (List.mem_of_getElem? (i := 63) rfl)) (hw _ (List.mem_of_getElem? (i := 57) rfl)) (hw _ (List.mem_of_getElem? (i := 64) rfl)) (by decide) (rmSc2 l Z a0 hw c0 c1 u ht3 O6 Yu) 1 (by decide) (by decide) et3 (hsz rfl) [(.ref u), (.int (2 : Int32))] [(.ref a1)] pd_2 rfl rfl rfl (Nat.le_of_eq rfl) (hb hby d_jdk_42_method_149_45) (by decide) (by decide) (fun Tt8 vt8 Lt8 Xt8 qt8 => ?_)
  obtain ⟨rfl, N9, et8⟩ := qt8
  have N10 := Fr.app N5 N9
  show Goes p e below _ (Tt8.setTop (mkF m 48 #[.val (.ref a1), .val (.ref a2), .val (.int (0 : Int32)), .val (.int (2 : Int32)), .val .null, .val (.ref u)] [(.int (0 : Int32)), (.ref a1)]))
  obtain ⟨Tt11, ht11, Xt11, et11, Wt11, stt11⟩ := putF Xt8 hx hZ hown (host := "") (Or.inl (hw _ (List.mem_of_getElem? (i := 53) rfl))) Via.refl et8 F2 E1 (Or.inr ⟨(hw _ (List.mem_of_getElem? (i := 49) rfl)), rfl, hnm⟩) (hw _ (List.mem_of_getElem? (i := 35) rfl)) (ty := .byte) (by decide) rfl rfl (g := (mkF m 48 #[.val (.ref a1), .val (.ref a2), .val (.int (0 : Int32)), .val (.int (2 : Int32)), .val .null, .val (.ref u)] [(.int (0 : Int32)), (.ref a1)])) rfl rfl (hb hby d_jdk_42_method_149_48)
  refine go stt11 ?_
  have N12 := Fr.snoc Xt11 N10 fr1
  replace F2 := F2.same Wt11
  replace E1 := E1.wr Wt11
  replace F1 := F1.other Wt11 (Or.inr (slot_ne (Or.inr (hw _ (List.mem_of_getElem? (i := 48) rfl))) (Or.inr (hw _ (List.mem_of_getElem? (i := 49) rfl))) (by decide) (t := (.array .byte)) (by decide) (t' := .byte) (by decide)))
  replace Y2 := Y2.other Wt11 (Ne.symm ne)
  replace Yu := Yu.other Wt11 (Ne.symm ne_a1_u)
  have O13 : Ext Z.heap ht11 := extW O6 Wt11 fr1
  have K14 := K7.wr Wt11 (Or.inl (by simp))
  show Goes p e below _ (Tt11.setTop (mkF m 51 #[.val (.ref a1), .val (.ref a2), .val (.int (0 : Int32)), .val (.int (2 : Int32)), .val .null, .val (.ref u)] []))
  refine gAloadN Xt11 hx (hb hby d_jdk_42_method_149_51) rfl rfl ?_
  refine gAload Xt11 hx (hb hby d_jdk_42_method_149_52) rfl rfl ?_
  obtain ⟨Tt15, ht15, Xt15, et15, Wt15, stt15⟩ := putF Xt11 hx hZ hown (host := "") (Or.inl (hw _ (List.mem_of_getElem? (i := 52) rfl))) Via.refl et11 F1 E1 (Or.inr ⟨(hw _ (List.mem_of_getElem? (i := 48) rfl)), rfl, hnm⟩) (hw _ (List.mem_of_getElem? (i := 35) rfl)) (ty := (.array .byte)) (by decide) rfl rfl (g := (mkF m 54 #[.val (.ref a1), .val (.ref a2), .val (.int (0 : Int32)), .val (.int (2 : Int32)), .val .null, .val (.ref u)] [(.ref u), (.ref a1)])) rfl rfl (hb hby d_jdk_42_method_149_54)
  refine go stt15 ?_
  have N16 := Fr.snoc Xt15 N12 fr1
  replace F1 := F1.same Wt15
  replace E1 := E1.wr Wt15
  replace F2 := F2.other Wt15 (Or.inr (slot_ne (Or.inr (hw _ (List.mem_of_getElem? (i := 49) rfl))) (Or.inr (hw _ (List.mem_of_getElem? (i := 48) rfl))) (by decide) (t := .byte) (by decide) (t' := (.array .byte)) (by decide)))
  replace Y2 := Y2.other Wt15 (Ne.symm ne)
  replace Yu := Yu.other Wt15 (Ne.symm ne_a1_u)
  have O17 : Ext Z.heap ht15 := extW O13 Wt15 fr1
  have K18 := K14.wr Wt15 (Or.inl (by simp))
  show Goes p e below _ (Tt15.setTop (mkF m 57 #[.val (.ref a1), .val (.ref a2), .val (.int (0 : Int32)), .val (.int (2 : Int32)), .val .null, .val (.ref u)] []))
  exact goRet0 Xt15 hx hret hlocks (hb hby d_jdk_42_method_149_57) (by decide) (by decide) et15 (⟨rfl, N16, K18, u, pa_u, F1, F2, Yu⟩)
theorem d_jdk_42_method_3_0 : decode jdk_42_method_3_code 0 = .ok (.aload_n 0, 1) := by decide +kernel
theorem d_jdk_42_method_3_1 : decode jdk_42_method_3_code 1 = .ok (.aload_n 1, 1) := by decide +kernel
theorem d_jdk_42_method_3_2 : decode jdk_42_method_3_code 2 = .ok (.iconst 0, 1) := by decide +kernel
theorem d_jdk_42_method_3_3 : decode jdk_42_method_3_code 3 = .ok (.aload_n 1, 1) := by decide +kernel
theorem d_jdk_42_method_3_4 : decode jdk_42_method_3_code 4 = .ok (.arraylength, 1) := by decide +kernel
theorem d_jdk_42_method_3_5 : decode jdk_42_method_3_code 5 = .ok (.aconst_null, 1) := by decide +kernel
theorem pd_3 : parseMethodDescriptor "([CIILjava/lang/Void;)V" = some ⟨[(.array .char), .int, .int, (.object "java/lang/Void")], none⟩ := by decide +kernel
theorem d_jdk_42_method_3_6 : decode jdk_42_method_3_code 6 = .ok (.invokespecial 27, 3) := by decide +kernel
theorem d_jdk_42_method_3_9 : decode jdk_42_method_3_code 9 = .ok (.return_, 1) := by decide +kernel
theorem ef_rmS2 (m : MethodId) (x0 : Addr) (x1 : Addr) : entryFrame m #[(.ref x0), (.ref x1)] 2 = mkF m 0 #[.val (.ref x0), .val (.ref x1)] [] := by first | (simp [entryFrame, mkF, argsToLocals, Value.category]; done) | rfl
set_option maxRecDepth 65536 in
set_option maxHeartbeats 40000000 in
theorem rmS2 (l : Launch) (Z : State) (a0 : Array Value) (hw : ∀ d ∈ tables_1, d.before a0 Z = true) (cs : Int32) (c0 c1 : Int32) (a1 : Addr) (a2 : Addr) (h0 : Heap) (O0 : Ext Z.heap h0) (S_cs : Sta Z Z.heap "java/lang/String" "COMPACT_STRINGS" "Z" (.int cs)) (hcs : ¬ cs = 0) (E1 : Exa Z h0 a1 "java/lang/String") (F1 : Fld Z h0 a1 "java/lang/String" "value" "[B" .null) (F2 : Fld Z h0 a1 "java/lang/String" "coder" "B" (.int (0 : Int32))) (Y2 : Ary Z h0 a2 .char [(.int c0), (.int c1)]) (ne : a1 ≠ a2) (fr1 : Z.heap.size ≤ a1) (hc0 : ¬ (255 : Int32) < c0) (hc1 : ¬ (255 : Int32) < c1) :
    Ctr l Z (⟨"java/lang/String", "<init>", "([C)V"⟩ : MethodName) jdk_42_method_3_code 2 none [] ({ frames := 3, cells := 1, slots := 2, locals := 53 } : Room) #[(.ref a1), (.ref a2)] h0 (fun v h L => v = none ∧ Fr Z.heap.size L ∧ Keep h0 h [a1] ∧ ∃ u, h0.size ≤ u ∧ Fld Z h a1 "java/lang/String" "value" "[B" (.ref u) ∧ Fld Z h a1 "java/lang/String" "coder" "B" (.int (0 : Int32)) ∧ Ary Z h u .byte [(.int (c0.toInt8.toInt32)), (.int (c1.toInt8.toInt32))]) := by
  refine ctr (plainFor_of_name pn_1) ?_
  intro p e s m below meth c s₁ hx hby hml hown hnm hret hlocks hZ X0 e0
  have N0 := Fr.nil Z.heap.size
  have hsz : ∀ {Ls : Array Slot}, Ls.size = 2 → Ls.size = c.maxLocals := fun q => q.trans hml.symm
  have K0 := Keep.refl h0 [a1]
  refine goE (ef_rmS2 m (a1) (a2)) ?_
  show Goes p e below _ (s₁.setTop (mkF m 0 #[.val (.ref a1), .val (.ref a2)] []))
  refine gAloadN X0 hx (hb hby d_jdk_42_method_3_0) rfl rfl ?_
  refine gAloadN X0 hx (hb hby d_jdk_42_method_3_1) rfl rfl ?_
  refine gIconst X0 hx (hb hby d_jdk_42_method_3_2) (v := (0 : Int32)) rfl ?_
  refine gAloadN X0 hx (hb hby d_jdk_42_method_3_3) rfl rfl ?_
  refine goAlen X0 hx hZ e0 Y2 (n := (2 : Int32)) (hb hby d_jdk_42_method_3_4) rfl ?_
  refine gAnull X0 hx (hb hby d_jdk_42_method_3_5) ?_
  have lt_a1_t1 := E1.lt
  have lt_a2_t1 := Y2.lt
  refine goCallI X0 hx hZ rfl hown (hw _ (List.mem_of_getElem? (i := 41) rfl)) (hw _ (List.mem_of_getElem? (i := 42) rfl)) (hw _ (List.mem_of_getElem? (i := 36) rfl)) (hw _ (List.mem_of_getElem? (i := 44) rfl)) (by decide) (rmSd2 l Z a0 hw cs c0 c1 a1 a2 h0 O0 S_cs hcs E1 F1 F2 Y2 ne fr1 hc0 hc1) 0 (by decide) (by decide) e0 (hsz rfl) a1 [(.ref a2), (.int (0 : Int32)), (.int (2 : Int32)), .null] [] pd_3 rfl rfl rfl (Nat.le_of_eq rfl) (hb hby d_jdk_42_method_3_6) (by decide) (by decide) (fun Tt1 vt1 Lt1 Xt1 qt1 => ?_)
  obtain ⟨ht1, et1⟩ : ∃ z, Tt1.heap = z := ⟨_, rfl⟩
  rw [et1] at qt1
  obtain ⟨rfl, N2, Kct1, u, pu, Gv, Gc, Yu⟩ := qt1
  have N3 := Fr.app N0 N2
  replace E1 := E1.keep Kct1
  replace Y2 := Y2.keep Kct1 (ninS (Ne.symm ne) nin0)
  have O4 : Ext Z.heap ht1 := extK O0 Kct1 (allS fr1 all0)
  have K5 := K0.trans Kct1 (allS (Or.inl (by simp)) all0)
  have ne_a1_u : a1 ≠ u := Nat.ne_of_lt (Nat.lt_of_lt_of_le lt_a1_t1 pu)
  have ne_a2_u : a2 ≠ u := Nat.ne_of_lt (Nat.lt_of_lt_of_le lt_a2_t1 pu)
  have fr_u : Z.heap.size ≤ u := Nat.le_trans O0.1 pu
  have pa_u : h0.size ≤ u := Nat.le_trans K0.1 pu
  show Goes p e below _ (Tt1.setTop (mkF m 9 #[.val (.ref a1), .val (.ref a2)] []))
  exact goRet0 Xt1 hx hret hlocks (hb hby d_jdk_42_method_3_9) (by decide) (by decide) et1 (⟨rfl, N3, K5, u, pu, Gv, Gc, Yu⟩)
theorem ef_rmSa3 (m : MethodId) (x0 : Addr) (x1 : Int32) (x2 : Addr) (x3 : Int32) (x4 : Int32) : entryFrame m #[(.ref x0), (.int x1), (.ref x2), (.int x3), (.int x4)] 7 = mkF m 0 #[.val (.ref x0), .val (.int x1), .val (.ref x2), .val (.int x3), .val (.int x4), .unset, .unset] [] := by first | (simp [entryFrame, mkF, argsToLocals, Value.category]; done) | rfl
set_option maxRecDepth 65536 in
set_option maxHeartbeats 40000000 in
theorem rmSa3 (l : Launch) (Z : State) (a0 : Array Value) (hw : ∀ d ∈ tables_1, d.before a0 Z = true) (c0 c1 c2 : Int32) (a1 : Addr) (a2 : Addr) (h0 : Heap) (O0 : Ext Z.heap h0) (Y1 : Ary Z h0 a1 .char [(.int c0), (.int c1), (.int c2)]) (Y2 : Ary Z h0 a2 .byte [(.int (0 : Int32)), (.int (0 : Int32)), (.int (0 : Int32))]) (ne : a1 ≠ a2) (fr2 : Z.heap.size ≤ a2) (hc0 : ¬ (255 : Int32) < c0) (hc1 : ¬ (255 : Int32) < c1) (hc2 : ¬ (255 : Int32) < c2) :
    Ctr l Z (⟨"java/lang/StringUTF16", "compress", "([CI[BII)I"⟩ : MethodName) jdk_52_method_21_code 7 (some .int) [] ({ frames := 0, cells := 0, slots := 0, locals := 0 } : Room) #[(.ref a1), (.int (0 : Int32)), (.ref a2), (.int (0 : Int32)), (.int (3 : Int32))] h0 (fun v h L => v = some (.int (3 : Int32)) ∧ Fr Z.heap.size L ∧ Keep h0 h [a2] ∧ Ary Z h a2 .byte [(.int (c0.toInt8.toInt32)), (.int (c1.toInt8.toInt32)), (.int (c2.toInt8.toInt32))]) := by
  refine ctr (plainFor_of_name pn_0) ?_
  intro p e s m below meth c s₁ hx hby hml hown hnm hret hlocks hZ X0 e0
  have N0 := Fr.nil Z.heap.size
  have hsz : ∀ {Ls : Array Slot}, Ls.size = 7 → Ls.size = c.maxLocals := fun q => q.trans hml.symm
  have K0 := Keep.refl h0 [a2]
  refine goE (ef_rmSa3 m (a1) ((0 : Int32)) (a2) ((0 : Int32)) ((3 : Int32))) ?_
  show Goes p e below _ (s₁.setTop (mkF m 0 #[.val (.ref a1), .val (.int (0 : Int32)), .val (.ref a2), .val (.int (0 : Int32)), .val (.int (3 : Int32)), .unset, .unset] []))
  refine gIconst X0 hx (hb hby d_jdk_52_method_21_0) (v := (0 : Int32)) rfl ?_
  refine gIstore X0 hx (hb hby d_jdk_52_method_21_1) (l' := #[.val (.ref a1), .val (.int (0 : Int32)), .val (.ref a2), .val (.int (0 : Int32)), .val (.int (3 : Int32)), .val (.int (0 : Int32)), .unset]) rfl ?_
  refine gIload X0 hx (hb hby d_jdk_52_method_21_3) rfl ?_
  refine gIload X0 hx (hb hby d_jdk_52_method_21_5) rfl ?_
  refine gIcmpN X0 hx (hb hby d_jdk_52_method_21_7) (XT.ii_ge_f (by decide)) ?_
  show Goes p e below _ (s₁.setTop (mkF m 10 #[.val (.ref a1), .val (.int (0 : Int32)), .val (.ref a2), .val (.int (0 : Int32)), .val (.int (3 : Int32)), .val (.int (0 : Int32)), .unset] []))
  refine gAloadN X0 hx (hb hby d_jdk_52_method_21_10) rfl rfl ?_
  refine gIloadN X0 hx (hb hby d_jdk_52_method_21_11) rfl ?_
  refine goCaload X0 hx hZ e0 Y1 (x := c0) (hb hby d_jdk_52_method_21_12) (by decide) rfl ?_
  refine gIstore X0 hx (hb hby d_jdk_52_method_21_13) (l' := #[.val (.ref a1), .val (.int (0 : Int32)), .val (.ref a2), .val (.int (0 : Int32)), .val (.int (3 : Int32)), .val (.int (0 : Int32)), .val (.int c0)]) rfl ?_
  refine gIload X0 hx (hb hby d_jdk_52_method_21_15) rfl ?_
  refine gSipush X0 hx (hb hby d_jdk_52_method_21_17) (v := (255 : Int32)) rfl ?_
  refine gIcmpY X0 hx (hb hby d_jdk_52_method_21_20) (pc' := 26) (XT.ii_le_t hc0) (by decide) (by decide) ?_
  show Goes p e below _ (s₁.setTop (mkF m 26 #[.val (.ref a1), .val (.int (0 : Int32)), .val (.ref a2), .val (.int (0 : Int32)), .val (.int (3 : Int32)), .val (.int (0 : Int32)), .val (.int c0)] []))
  refine gAloadN X0 hx (hb hby d_jdk_52_method_21_26) rfl rfl ?_
  refine gIloadN X0 hx (hb hby d_jdk_52_method_21_27) rfl ?_
  refine gIload X0 hx (hb hby d_jdk_52_method_21_28) rfl ?_
  refine gI2b X0 hx (hb hby d_jdk_52_method_21_30) ?_
  refine goBastore X0 hx hZ e0 Y2 (hb hby d_jdk_52_method_21_31) (by decide) rfl (fun Tt1 ht1 Xt1 et1 Wt1 => ?_)
  have N2 := Fr.snoc Xt1 N0 fr2
  replace Y2 : Ary Z ht1 a2 .byte [(.int (c0.toInt8.toInt32)), (.int (0 : Int32)), (.int (0 : Int32))] := Y2.set Wt1 (by rw [narb]; rfl)
  replace Y1 := Y1.other Wt1 ne
  have O3 : Ext Z.heap ht1 := extW O0 Wt1 fr2
  have K4 := K0.wr Wt1 (Or.inl (by simp))
  show Goes p e below _ (Tt1.setTop (mkF m 32 #[.val (.ref a1), .val (.int (0 : Int32)), .val (.ref a2), .val (.int (0 : Int32)), .val (.int (3 : Int32)), .val (.int (0 : Int32)), .val (.int c0)] []))
  refine gIinc Xt1 hx (hb hby d_jdk_52_method_21_32) (v := (1 : Int32)) rfl rfl (l' := #[.val (.ref a1), .val (.int (1 : Int32)), .val (.ref a2), .val (.int (0 : Int32)), .val (.int (3 : Int32)), .val (.int (0 : Int32)), .val (.int c0)]) rfl ?_
  refine gIinc Xt1 hx (hb hby d_jdk_52_method_21_35) (v := (1 : Int32)) rfl rfl (l' := #[.val (.ref a1), .val (.int (1 : Int32)), .val (.ref a2), .val (.int (1 : Int32)), .val (.int (3 : Int32)), .val (.int (0 : Int32)), .val (.int c0)]) rfl ?_
  refine gIinc Xt1 hx (hb hby d_jdk_52_method_21_38) (v := (1 : Int32)) rfl rfl (l' := #[.val (.ref a1), .val (.int (1 : Int32)), .val (.ref a2), .val (.int (1 : Int32)), .val (.int (3 : Int32)), .val (.int (1 : Int32)), .val (.int c0)]) rfl ?_
  refine gGoto Xt1 hx (hb hby d_jdk_52_method_21_41) (pc' := 3) (by decide) (by decide) ?_
  show Goes p e below _ (Tt1.setTop (mkF m 3 #[.val (.ref a1), .val (.int (1 : Int32)), .val (.ref a2), .val (.int (1 : Int32)), .val (.int (3 : Int32)), .val (.int (1 : Int32)), .val (.int c0)] []))
  refine gIload Xt1 hx (hb hby d_jdk_52_method_21_3) rfl ?_
  refine gIload Xt1 hx (hb hby d_jdk_52_method_21_5) rfl ?_
  refine gIcmpN Xt1 hx (hb hby d_jdk_52_method_21_7) (XT.ii_ge_f (by decide)) ?_
  show Goes p e below _ (Tt1.setTop (mkF m 10 #[.val (.ref a1), .val (.int (1 : Int32)), .val (.ref a2), .val (.int (1 : Int32)), .val (.int (3 : Int32)), .val (.int (1 : Int32)), .val (.int c0)] []))
  refine gAloadN Xt1 hx (hb hby d_jdk_52_method_21_10) rfl rfl ?_
  refine gIloadN Xt1 hx (hb hby d_jdk_52_method_21_11) rfl ?_
  refine goCaload Xt1 hx hZ et1 Y1 (x := c1) (hb hby d_jdk_52_method_21_12) (by decide) rfl ?_
  refine gIstore Xt1 hx (hb hby d_jdk_52_method_21_13) (l' := #[.val (.ref a1), .val (.int (1 : Int32)), .val (.ref a2), .val (.int (1 : Int32)), .val (.int (3 : Int32)), .val (.int (1 : Int32)), .val (.int c1)]) rfl ?_
  refine gIload Xt1 hx (hb hby d_jdk_52_method_21_15) rfl ?_
  refine gSipush Xt1 hx (hb hby d_jdk_52_method_21_17) (v := (255 : Int32)) rfl ?_
  refine gIcmpY Xt1 hx (hb hby d_jdk_52_method_21_20) (pc' := 26) (XT.ii_le_t hc1) (by decide) (by decide) ?_
  show Goes p e below _ (Tt1.setTop (mkF m 26 #[.val (.ref a1), .val (.int (1 : Int32)), .val (.ref a2), .val (.int (1 : Int32)), .val (.int (3 : Int32)), .val (.int (1 : Int32)), .val (.int c1)] []))
  refine gAloadN Xt1 hx (hb hby d_jdk_52_method_21_26) rfl rfl ?_
  refine gIloadN Xt1 hx (hb hby d_jdk_52_method_21_27) rfl ?_
  refine gIload Xt1 hx (hb hby d_jdk_52_method_21_28) rfl ?_
  refine gI2b Xt1 hx (hb hby d_jdk_52_method_21_30) ?_
  refine goBastore Xt1 hx hZ et1 Y2 (hb hby d_jdk_52_method_21_31) (by decide) rfl (fun Tt5 ht5 Xt5 et5 Wt5 => ?_)
  have N6 := Fr.snoc Xt5 N2 fr2
  replace Y2 : Ary Z ht5 a2 .byte [(.int (c0.toInt8.toInt32)), (.int (c1.toInt8.toInt32)), (.int (0 : Int32))] := Y2.set Wt5 (by rw [narb]; rfl)
  replace Y1 := Y1.other Wt5 ne
  have O7 : Ext Z.heap ht5 := extW O3 Wt5 fr2
  have K8 := K4.wr Wt5 (Or.inl (by simp))
  show Goes p e below _ (Tt5.setTop (mkF m 32 #[.val (.ref a1), .val (.int (1 : Int32)), .val (.ref a2), .val (.int (1 : Int32)), .val (.int (3 : Int32)), .val (.int (1 : Int32)), .val (.int c1)] []))
  refine gIinc Xt5 hx (hb hby d_jdk_52_method_21_32) (v := (2 : Int32)) rfl rfl (l' := #[.val (.ref a1), .val (.int (2 : Int32)), .val (.ref a2), .val (.int (1 : Int32)), .val (.int (3 : Int32)), .val (.int (1 : Int32)), .val (.int c1)]) rfl ?_
  refine gIinc Xt5 hx (hb hby d_jdk_52_method_21_35) (v := (2 : Int32)) rfl rfl (l' := #[.val (.ref a1), .val (.int (2 : Int32)), .val (.ref a2), .val (.int (2 : Int32)), .val (.int (3 : Int32)), .val (.int (1 : Int32)), .val (.int c1)]) rfl ?_
  refine gIinc Xt5 hx (hb hby d_jdk_52_method_21_38) (v := (2 : Int32)) rfl rfl (l' := #[.val (.ref a1), .val (.int (2 : Int32)), .val (.ref a2), .val (.int (2 : Int32)), .val (.int (3 : Int32)), .val (.int (2 : Int32)), .val (.int c1)]) rfl ?_
  refine gGoto Xt5 hx (hb hby d_jdk_52_method_21_41) (pc' := 3) (by decide) (by decide) ?_
  show Goes p e below _ (Tt5.setTop (mkF m 3 #[.val (.ref a1), .val (.int (2 : Int32)), .val (.ref a2), .val (.int (2 : Int32)), .val (.int (3 : Int32)), .val (.int (2 : Int32)), .val (.int c1)] []))
  refine gIload Xt5 hx (hb hby d_jdk_52_method_21_3) rfl ?_
  refine gIload Xt5 hx (hb hby d_jdk_52_method_21_5) rfl ?_
  refine gIcmpN Xt5 hx (hb hby d_jdk_52_method_21_7) (XT.ii_ge_f (by decide)) ?_
  show Goes p e below _ (Tt5.setTop (mkF m 10 #[.val (.ref a1), .val (.int (2 : Int32)), .val (.ref a2), .val (.int (2 : Int32)), .val (.int (3 : Int32)), .val (.int (2 : Int32)), .val (.int c1)] []))
  refine gAloadN Xt5 hx (hb hby d_jdk_52_method_21_10) rfl rfl ?_
  refine gIloadN Xt5 hx (hb hby d_jdk_52_method_21_11) rfl ?_
  refine goCaload Xt5 hx hZ et5 Y1 (x := c2) (hb hby d_jdk_52_method_21_12) (by decide) rfl ?_
  refine gIstore Xt5 hx (hb hby d_jdk_52_method_21_13) (l' := #[.val (.ref a1), .val (.int (2 : Int32)), .val (.ref a2), .val (.int (2 : Int32)), .val (.int (3 : Int32)), .val (.int (2 : Int32)), .val (.int c2)]) rfl ?_
  refine gIload Xt5 hx (hb hby d_jdk_52_method_21_15) rfl ?_
  refine gSipush Xt5 hx (hb hby d_jdk_52_method_21_17) (v := (255 : Int32)) rfl ?_
  refine gIcmpY Xt5 hx (hb hby d_jdk_52_method_21_20) (pc' := 26) (XT.ii_le_t hc2) (by decide) (by decide) ?_
  show Goes p e below _ (Tt5.setTop (mkF m 26 #[.val (.ref a1), .val (.int (2 : Int32)), .val (.ref a2), .val (.int (2 : Int32)), .val (.int (3 : Int32)), .val (.int (2 : Int32)), .val (.int c2)] []))
  refine gAloadN Xt5 hx (hb hby d_jdk_52_method_21_26) rfl rfl ?_
  refine gIloadN Xt5 hx (hb hby d_jdk_52_method_21_27) rfl ?_
  refine gIload Xt5 hx (hb hby d_jdk_52_method_21_28) rfl ?_
  refine gI2b Xt5 hx (hb hby d_jdk_52_method_21_30) ?_
  refine goBastore Xt5 hx hZ et5 Y2 (hb hby d_jdk_52_method_21_31) (by decide) rfl (fun Tt9 ht9 Xt9 et9 Wt9 => ?_)
  have N10 := Fr.snoc Xt9 N6 fr2
  replace Y2 : Ary Z ht9 a2 .byte [(.int (c0.toInt8.toInt32)), (.int (c1.toInt8.toInt32)), (.int (c2.toInt8.toInt32))] := Y2.set Wt9 (by rw [narb]; rfl)
  replace Y1 := Y1.other Wt9 ne
  have O11 : Ext Z.heap ht9 := extW O7 Wt9 fr2
  have K12 := K8.wr Wt9 (Or.inl (by simp))
  show Goes p e below _ (Tt9.setTop (mkF m 32 #[.val (.ref a1), .val (.int (2 : Int32)), .val (.ref a2), .val (.int (2 : Int32)), .val (.int (3 : Int32)), .val (.int (2 : Int32)), .val (.int c2)] []))
  refine gIinc Xt9 hx (hb hby d_jdk_52_method_21_32) (v := (3 : Int32)) rfl rfl (l' := #[.val (.ref a1), .val (.int (3 : Int32)), .val (.ref a2), .val (.int (2 : Int32)), .val (.int (3 : Int32)), .val (.int (2 : Int32)), .val (.int c2)]) rfl ?_
  refine gIinc Xt9 hx (hb hby d_jdk_52_method_21_35) (v := (3 : Int32)) rfl rfl (l' := #[.val (.ref a1), .val (.int (3 : Int32)), .val (.ref a2), .val (.int (3 : Int32)), .val (.int (3 : Int32)), .val (.int (2 : Int32)), .val (.int c2)]) rfl ?_
  refine gIinc Xt9 hx (hb hby d_jdk_52_method_21_38) (v := (3 : Int32)) rfl rfl (l' := #[.val (.ref a1), .val (.int (3 : Int32)), .val (.ref a2), .val (.int (3 : Int32)), .val (.int (3 : Int32)), .val (.int (3 : Int32)), .val (.int c2)]) rfl ?_
  refine gGoto Xt9 hx (hb hby d_jdk_52_method_21_41) (pc' := 3) (by decide) (by decide) ?_
  show Goes p e below _ (Tt9.setTop (mkF m 3 #[.val (.ref a1), .val (.int (3 : Int32)), .val (.ref a2), .val (.int (3 : Int32)), .val (.int (3 : Int32)), .val (.int (3 : Int32)), .val (.int c2)] []))
  refine gIload Xt9 hx (hb hby d_jdk_52_method_21_3) rfl ?_
  refine gIload Xt9 hx (hb hby d_jdk_52_method_21_5) rfl ?_
  refine gIcmpY Xt9 hx (hb hby d_jdk_52_method_21_7) (pc' := 44) (XT.ii_ge_t (by decide)) (by decide) (by decide) ?_
  show Goes p e below _ (Tt9.setTop (mkF m 44 #[.val (.ref a1), .val (.int (3 : Int32)), .val (.ref a2), .val (.int (3 : Int32)), .val (.int (3 : Int32)), .val (.int (3 : Int32)), .val (.int c2)] []))
  refine gIload Xt9 hx (hb hby d_jdk_52_method_21_44) rfl ?_
  exact goRetI Xt9 hx hret hlocks (hb hby d_jdk_52_method_21_46) (by decide) (by decide) et9 (⟨rfl, N10, K12, Y2⟩)
theorem ef_rmSb3 (m : MethodId) (x0 : Addr) (x1 : Int32) (x2 : Int32) : entryFrame m #[(.ref x0), (.int x1), (.int x2)] 6 = mkF m 0 #[.val (.ref x0), .val (.int x1), .val (.int x2), .unset, .unset, .unset] [] := by first | (simp [entryFrame, mkF, argsToLocals, Value.category]; done) | rfl
set_option maxRecDepth 65536 in
set_option maxHeartbeats 40000000 in
theorem rmSb3 (l : Launch) (Z : State) (a0 : Array Value) (hw : ∀ d ∈ tables_1, d.before a0 Z = true) (c0 c1 c2 : Int32) (a1 : Addr) (h0 : Heap) (O0 : Ext Z.heap h0) (Y1 : Ary Z h0 a1 .char [(.int c0), (.int c1), (.int c2)]) (hc0 : ¬ (255 : Int32) < c0) (hc1 : ¬ (255 : Int32) < c1) (hc2 : ¬ (255 : Int32) < c2) :
    Ctr l Z (⟨"java/lang/StringUTF16", "compress", "([CII)[B"⟩ : MethodName) jdk_52_method_16_code 6 (some (.array .byte)) [] ({ frames := 1, cells := 1, slots := 3, locals := 18 } : Room) #[(.ref a1), (.int (0 : Int32)), (.int (3 : Int32))] h0 (fun v h L => ∃ u, v = some (.ref u) ∧ Fr Z.heap.size L ∧ Keep h0 h [] ∧ h0.size ≤ u ∧ Ary Z h u .byte [(.int (c0.toInt8.toInt32)), (.int (c1.toInt8.toInt32)), (.int (c2.toInt8.toInt32))]) := by
  refine ctr (plainFor_of_name pn_0) ?_
  intro p e s m below meth c s₁ hx hby hml hown hnm hret hlocks hZ X0 e0
  have N0 := Fr.nil Z.heap.size
  have hsz : ∀ {Ls : Array Slot}, Ls.size = 6 → Ls.size = c.maxLocals := fun q => q.trans hml.symm
  have K0 := Keep.refl h0 []
  refine goE (ef_rmSb3 m (a1) ((0 : Int32)) ((3 : Int32))) ?_
  show Goes p e below _ (s₁.setTop (mkF m 0 #[.val (.ref a1), .val (.int (0 : Int32)), .val (.int (3 : Int32)), .unset, .unset, .unset] []))
  refine gIloadN X0 hx (hb hby d_jdk_52_method_16_0) rfl ?_
  obtain ⟨Tt1, ht1, kt1, Xt1, et1, Et1, At1, stt1⟩ := newP X0 hx hZ (hw _ (List.mem_of_getElem? (i := 47) rfl)) e0 (g := (mkF m 1 #[.val (.ref a1), .val (.int (0 : Int32)), .val (.int (3 : Int32)), .unset, .unset, .unset] [(.int (3 : Int32))])) rfl (hb hby d_jdk_52_method_16_1) rfl (by decide) (cap := 3) (by decide) (by decide) (by decide) (by decide)
  obtain ⟨ob2, gob2⟩ : ∃ z, z = h0.size := ⟨_, rfl⟩
  rw [← gob2] at At1 stt1
  refine go stt1 ?_
  have ne_a1_ob2 : a1 ≠ ob2 := Nat.ne_of_lt (gob2 ▸ Y1.lt)
  have fr_ob2 : Z.heap.size ≤ ob2 := gob2 ▸ O0.1
  have pa_ob2 : h0.size ≤ ob2 := gob2 ▸ K0.1
  replace Y1 := Y1.ext Et1
  have O3 : Ext Z.heap ht1 := extT O0 Et1
  have K4 := K0.ext Et1
  have Y_ob2 : Ary Z ht1 ob2 .byte [(.int (0 : Int32)), (.int (0 : Int32)), (.int (0 : Int32))] := Ary.new At1 rfl (by decide)
  show Goes p e below _ (Tt1.setTop (mkF m 3 #[.val (.ref a1), .val (.int (0 : Int32)), .val (.int (3 : Int32)), .unset, .unset, .unset] [(.ref ob2)]))
  refine gAstoreN Xt1 hx (hb hby d_jdk_52_method_16_3) rfl (l' := #[.val (.ref a1), .val (.int (0 : Int32)), .val (.int (3 : Int32)), .val (.ref ob2), .unset, .unset]) rfl ?_
  refine gAloadN Xt1 hx (hb hby d_jdk_52_method_16_4) rfl rfl ?_
  refine gIloadN Xt1 hx (hb hby d_jdk_52_method_16_5) rfl ?_
  refine gAloadN Xt1 hx (hb hby d_jdk_52_method_16_6) rfl rfl ?_
  refine gIconst Xt1 hx (hb hby d_jdk_52_method_16_7) (v := (0 : Int32)) rfl ?_
  refine gIloadN Xt1 hx (hb hby d_jdk_52_method_16_8) rfl ?_
  refine goCallS Xt1 hx hZ hown (hw _ (List.mem_of_getElem? (i := 59) rfl)) (hw _ (List.mem_of_getElem? (i := 60) rfl)) (hw _ (List.mem_of_getElem? (i := 57) rfl)) (hw _ (List.mem_of_getElem? (i := 61) rfl)) (by decide) (rmSa3 l Z a0 hw c0 c1 c2 a1 ob2 ht1 O3 Y1 Y_ob2 ne_a1_ob2 fr_ob2 hc0 hc1 hc2) 0 (by decide) (by decide) et1 (hsz rfl) [(.ref a1), (.int (0 : Int32)), (.ref ob2), (.int (0 : Int32)), (.int (3 : Int32))] [] pd_0 rfl rfl rfl (Nat.le_of_eq rfl) (hb hby d_jdk_52_method_16_9) (by decide) (by decide) (fun Tt5 vt5 Lt5 Xt5 qt5 => ?_)
  obtain ⟨ht5, et5⟩ : ∃ z, Tt5.heap = z := ⟨_, rfl⟩
  rw [et5] at qt5
  obtain ⟨rfl, N6, Kct5, Yb⟩ := qt5
  have N7 := Fr.app N0 N6
  replace Y1 := Y1.keep Kct5 (ninS ne_a1_ob2 nin0)
  have O8 : Ext Z.heap ht5 := extK O3 Kct5 (allS fr_ob2 all0)
  have K9 := K4.trans Kct5 (allS (Or.inr pa_ob2) all0)
  show Goes p e below _ (Tt5.setTop (mkF m 12 #[.val (.ref a1), .val (.int (0 : Int32)), .val (.int (3 : Int32)), .val (.ref ob2), .unset, .unset] [(.int (3 : Int32))]))
  refine gIstore Xt5 hx (hb hby d_jdk_52_method_16_12) (l' := #[.val (.ref a1), .val (.int (0 : Int32)), .val (.int (3 : Int32)), .val (.ref ob2), .val (.int (3 : Int32)), .unset]) rfl ?_
  refine gIload Xt5 hx (hb hby d_jdk_52_method_16_14) rfl ?_
  refine gIloadN Xt5 hx (hb hby d_jdk_52_method_16_16) rfl ?_
  refine gIcmpY Xt5 hx (hb hby d_jdk_52_method_16_17) (pc' := 57) (XT.ii_eq_t rfl) (by decide) (by decide) ?_
  show Goes p e below _ (Tt5.setTop (mkF m 57 #[.val (.ref a1), .val (.int (0 : Int32)), .val (.int (3 : Int32)), .val (.ref ob2), .val (.int (3 : Int32)), .unset] []))
  refine gAloadN Xt5 hx (hb hby d_jdk_52_method_16_57) rfl rfl ?_
  exact goRetA Xt5 hx hret hlocks rfl rfl (hb hby d_jdk_52_method_16_58) (by decide) (by decide) et5 (⟨ob2, rfl, N7, K9, pa_ob2, Yb⟩)
theorem ef_rmSc3 (m : MethodId) (x0 : Addr) (x1 : Int32) : entryFrame m #[(.ref x0), (.int x1)] 2 = mkF m 0 #[.val (.ref x0), .val (.int x1)] [] := by first | (simp [entryFrame, mkF, argsToLocals, Value.category]; done) | rfl
set_option maxRecDepth 65536 in
set_option maxHeartbeats 40000000 in
theorem rmSc3 (l : Launch) (Z : State) (a0 : Array Value) (hw : ∀ d ∈ tables_1, d.before a0 Z = true) (c0 c1 c2 : Int32) (a1 : Addr) (h0 : Heap) (O0 : Ext Z.heap h0) (Y1 : Ary Z h0 a1 .byte [(.int (c0.toInt8.toInt32)), (.int (c1.toInt8.toInt32)), (.int (c2.toInt8.toInt32))]) :
    Ctr l Z (⟨"java/lang/StringUTF16", "coderFromArrayLen", "([BI)B"⟩ : MethodName) jdk_52_method_15_code 2 (some .byte) [] ({ frames := 0, cells := 0, slots := 0, locals := 0 } : Room) #[(.ref a1), (.int (3 : Int32))] h0 (fun v h L => v = some (.int (0 : Int32)) ∧ Fr Z.heap.size L ∧ h = h0) := by
  refine ctr (plainFor_of_name pn_0) ?_
  intro p e s m below meth c s₁ hx hby hml hown hnm hret hlocks hZ X0 e0
  have N0 := Fr.nil Z.heap.size
  have hsz : ∀ {Ls : Array Slot}, Ls.size = 2 → Ls.size = c.maxLocals := fun q => q.trans hml.symm
  refine goE (ef_rmSc3 m (a1) ((3 : Int32))) ?_
  show Goes p e below _ (s₁.setTop (mkF m 0 #[.val (.ref a1), .val (.int (3 : Int32))] []))
  refine gIloadN X0 hx (hb hby d_jdk_52_method_15_0) rfl ?_
  refine gAloadN X0 hx (hb hby d_jdk_52_method_15_1) rfl rfl ?_
  refine goAlen X0 hx hZ e0 Y1 (n := (3 : Int32)) (hb hby d_jdk_52_method_15_2) rfl ?_
  refine gIsub X0 hx (hb hby d_jdk_52_method_15_3) ?_
  refine gBipush X0 hx (hb hby d_jdk_52_method_15_4) (v := (31 : Int32)) rfl ?_
  refine gIushr X0 hx (hb hby d_jdk_52_method_15_6) ?_
  refine gI2b X0 hx (hb hby d_jdk_52_method_15_7) ?_
  show Goes p e below _ (s₁.setTop (mkF m 8 #[.val (.ref a1), .val (.int (3 : Int32))] [(.int ((XT.ushr (0 : Int32) (31 : Int32)).toInt8.toInt32))]))
  exact goRetN X0 hx (t := .byte) hret hlocks (by simp) (hb hby d_jdk_52_method_15_8) (z' := (0 : Int32)) (by decide) (by decide) (by decide) e0 (⟨rfl, N0, rfl⟩)
theorem ef_rmSd3 (m : MethodId) (x0 : Addr) (x1 : Addr) (x2 : Int32) (x3 : Int32) : entryFrame m #[(.ref x0), (.ref x1), (.int x2), (.int x3), .null] 6 = mkF m 0 #[.val (.ref x0), .val (.ref x1), .val (.int x2), .val (.int x3), .val .null, .unset] [] := by first | (simp [entryFrame, mkF, argsToLocals, Value.category]; done) | rfl
set_option maxRecDepth 65536 in
set_option maxHeartbeats 40000000 in
theorem rmSd3 (l : Launch) (Z : State) (a0 : Array Value) (hw : ∀ d ∈ tables_1, d.before a0 Z = true) (cs : Int32) (c0 c1 c2 : Int32) (a1 : Addr) (a2 : Addr) (h0 : Heap) (O0 : Ext Z.heap h0) (S_cs : Sta Z Z.heap "java/lang/String" "COMPACT_STRINGS" "Z" (.int cs)) (hcs : ¬ cs = 0) (E1 : Exa Z h0 a1 "java/lang/String") (F1 : Fld Z h0 a1 "java/lang/String" "value" "[B" .null) (F2 : Fld Z h0 a1 "java/lang/String" "coder" "B" (.int (0 : Int32))) (Y2 : Ary Z h0 a2 .char [(.int c0), (.int c1), (.int c2)]) (ne : a1 ≠ a2) (fr1 : Z.heap.size ≤ a1) (hc0 : ¬ (255 : Int32) < c0) (hc1 : ¬ (255 : Int32) < c1) (hc2 : ¬ (255 : Int32) < c2) :
    Ctr l Z (⟨"java/lang/String", "<init>", "([CIILjava/lang/Void;)V"⟩ : MethodName) jdk_42_method_149_code 6 none [] ({ frames := 2, cells := 1, slots := 3, locals := 36 } : Room) #[(.ref a1), (.ref a2), (.int (0 : Int32)), (.int (3 : Int32)), .null] h0 (fun v h L => v = none ∧ Fr Z.heap.size L ∧ Keep h0 h [a1] ∧ ∃ u, h0.size ≤ u ∧ Fld Z h a1 "java/lang/String" "value" "[B" (.ref u) ∧ Fld Z h a1 "java/lang/String" "coder" "B" (.int (0 : Int32)) ∧ Ary Z h u .byte [(.int (c0.toInt8.toInt32)), (.int (c1.toInt8.toInt32)), (.int (c2.toInt8.toInt32))]) := by
  refine ctr (plainFor_of_name pn_1) ?_
  intro p e s m below meth c s₁ hx hby hml hown hnm hret hlocks hZ X0 e0
  have N0 := Fr.nil Z.heap.size
  have hsz : ∀ {Ls : Array Slot}, Ls.size = 6 → Ls.size = c.maxLocals := fun q => q.trans hml.symm
  have K0 := Keep.refl h0 [a1]
  refine goE (ef_rmSd3 m (a1) (a2) ((0 : Int32)) ((3 : Int32))) ?_
  show Goes p e below _ (s₁.setTop (mkF m 0 #[.val (.ref a1), .val (.ref a2), .val (.int (0 : Int32)), .val (.int (3 : Int32)), .val .null, .unset] []))
  refine gAloadN X0 hx (hb hby d_jdk_42_method_149_0) rfl rfl ?_
  obtain ⟨Tt1, Xt1, et1, stt1⟩ := initO X0 hx hZ hown (hw _ (List.mem_of_getElem? (i := 45) rfl)) (hw _ (List.mem_of_getElem? (i := 16) rfl)) (hw _ (List.mem_of_getElem? (i := 17) rfl)) e0 (g := (mkF m 1 #[.val (.ref a1), .val (.ref a2), .val (.int (0 : Int32)), .val (.int (3 : Int32)), .val .null, .unset] [(.ref a1)])) rfl (by rw [hml]; rfl) rfl (hb hby d_jdk_42_method_149_1) (by decide) (W := 0) (Nat.le_of_eq rfl) (by decide)
  refine go stt1 ?_
  show Goes p e below _ (Tt1.setTop (mkF m 4 #[.val (.ref a1), .val (.ref a2), .val (.int (0 : Int32)), .val (.int (3 : Int32)), .val .null, .unset] []))
  refine gIloadN Xt1 hx (hb hby d_jdk_42_method_149_4) rfl ?_
  refine gIfY Xt1 hx (hb hby d_jdk_42_method_149_5) (pc' := 27) (XT.i0_ne_t (by decide)) (by decide) (by decide) ?_
  show Goes p e below _ (Tt1.setTop (mkF m 27 #[.val (.ref a1), .val (.ref a2), .val (.int (0 : Int32)), .val (.int (3 : Int32)), .val .null, .unset] []))
  obtain ⟨Tt2, Xt2, et2, stt2⟩ := getS2 Xt1 hx hZ hown (host := "") (Or.inl (hw _ (List.mem_of_getElem? (i := 54) rfl))) Via.refl et1 (S_cs.ext O0) (g := (mkF m 27 #[.val (.ref a1), .val (.ref a2), .val (.int (0 : Int32)), .val (.int (3 : Int32)), .val .null, .unset] [])) rfl (hb hby d_jdk_42_method_149_27)
  refine go stt2 ?_
  show Goes p e below _ (Tt2.setTop (mkF m 30 #[.val (.ref a1), .val (.ref a2), .val (.int (0 : Int32)), .val (.int (3 : Int32)), .val .null, .unset] [(.int cs)]))
  refine gIfN Xt2 hx (hb hby d_jdk_42_method_149_30) (XT.i0_eq_f hcs) ?_
  show Goes p e below _ (Tt2.setTop (mkF m 33 #[.val (.ref a1), .val (.ref a2), .val (.int (0 : Int32)), .val (.int (3 : Int32)), .val .null, .unset] []))
  refine gAloadN Xt2 hx (hb hby d_jdk_42_method_149_33) rfl rfl ?_
  refine gIloadN Xt2 hx (hb hby d_jdk_42_method_149_34) rfl ?_
  refine gIloadN Xt2 hx (hb hby d_jdk_42_method_149_35) rfl ?_
  have lt_a1_t3 := E1.lt
  have lt_a2_t3 := Y2.lt
  refine goCallS Xt2 hx hZ hown (hw _ (List.mem_of_getElem? (i := 55) rfl)) (hw _ (List.mem_of_getElem? (i := 56) rfl)) (hw _ (List.mem_of_getElem? (i := 57) rfl)) (hw _ (List.mem_of_getElem? (i := 58) rfl)) (by decide) (rmSb3 l Z a0 hw c0 c1 c2 a2 h0 O0 Y2 hc0 hc1 hc2) 0 (by decide) (by decide) et2 (hsz rfl) [(.ref a2), (.int (0 : Int32)), (.int (3 : Int32))] [] pd_1 rfl rfl rfl (Nat.le_of_eq rfl) (hb hby d_jdk_42_method_149_36) (by decide) (by decide) (fun Tt3 vt3 Lt3 Xt3 qt3 => ?_)
  obtain ⟨ht3, et3⟩ : ∃ z, Tt3.heap = z := ⟨_, rfl⟩
  rw [et3] at qt3
  obtain ⟨u, rfl, N4, Kct3, pu, Yu⟩ := qt3
  have N5 := Fr.app N0 N4
  replace E1 := E1.keep Kct3
  replace F1 := F1.keep Kct3 nin0
  replace F2 := F2.keep Kct3 nin0
  replace Y2 := Y2.keep Kct3 nin0
  have O6 : Ext Z.heap ht3 := extK O0 Kct3 all0
  have K7 := K0.trans Kct3 all0
  have ne_a1_u : a1 ≠ u := Nat.ne_of_lt (Nat.lt_of_lt_of_le lt_a1_t3 pu)
  have ne_a2_u : a2 ≠ u := Nat.ne_of_lt (Nat.lt_of_lt_of_le lt_a2_t3 pu)
  have fr_u : Z.heap.size ≤ u := Nat.le_trans O0.1 pu
  have pa_u : h0.size ≤ u := Nat.le_trans K0.1 pu
  show Goes p e below _ (Tt3.setTop (mkF m 39 #[.val (.ref a1), .val (.ref a2), .val (.int (0 : Int32)), .val (.int (3 : Int32)), .val .null, .unset] [(.ref u)]))
  refine gAstore Xt3 hx (hb hby d_jdk_42_method_149_39) rfl (l' := #[.val (.ref a1), .val (.ref a2), .val (.int (0 : Int32)), .val (.int (3 : Int32)), .val .null, .val (.ref u)]) rfl ?_
  refine gAloadN Xt3 hx (hb hby d_jdk_42_method_149_41) rfl rfl ?_
  refine gAload Xt3 hx (hb hby d_jdk_42_method_149_42) rfl rfl ?_
  refine gIloadN Xt3 hx (hb hby d_jdk_42_method_149_44) rfl ?_
  refine goCallS Xt3 hx hZ hown (hw _ (List.mem_of_getElem? (i := 62) rfl)) (hw _ (List.mem_of_getElem? (i := 63) rfl)) (hw _ (List.mem_of_getElem? (i := 57) rfl)) (hw _ (List.mem_of_getElem? (i := 64) rfl)) (by decide) (rmSc3 l Z a0 hw c0 c1 c2 u ht3 O6 Yu) 1 (by decide) (by decide) et3 (hsz rfl) [(.ref u), (.int (3 : Int32))] [(.ref a1)] pd_2 rfl rfl rfl (Nat.le_of_eq rfl) (hb hby d_jdk_42_method_149_45) (by decide) (by decide) (fun Tt8 vt8 Lt8 Xt8 qt8 => ?_)
  obtain ⟨rfl, N9, et8⟩ := qt8
  have N10 := Fr.app N5 N9
  show Goes p e below _ (Tt8.setTop (mkF m 48 #[.val (.ref a1), .val (.ref a2), .val (.int (0 : Int32)), .val (.int (3 : Int32)), .val .null, .val (.ref u)] [(.int (0 : Int32)), (.ref a1)]))
  obtain ⟨Tt11, ht11, Xt11, et11, Wt11, stt11⟩ := putF Xt8 hx hZ hown (host := "") (Or.inl (hw _ (List.mem_of_getElem? (i := 53) rfl))) Via.refl et8 F2 E1 (Or.inr ⟨(hw _ (List.mem_of_getElem? (i := 49) rfl)), rfl, hnm⟩) (hw _ (List.mem_of_getElem? (i := 35) rfl)) (ty := .byte) (by decide) rfl rfl (g := (mkF m 48 #[.val (.ref a1), .val (.ref a2), .val (.int (0 : Int32)), .val (.int (3 : Int32)), .val .null, .val (.ref u)] [(.int (0 : Int32)), (.ref a1)])) rfl rfl (hb hby d_jdk_42_method_149_48)
  refine go stt11 ?_
  have N12 := Fr.snoc Xt11 N10 fr1
  replace F2 := F2.same Wt11
  replace E1 := E1.wr Wt11
  replace F1 := F1.other Wt11 (Or.inr (slot_ne (Or.inr (hw _ (List.mem_of_getElem? (i := 48) rfl))) (Or.inr (hw _ (List.mem_of_getElem? (i := 49) rfl))) (by decide) (t := (.array .byte)) (by decide) (t' := .byte) (by decide)))
  replace Y2 := Y2.other Wt11 (Ne.symm ne)
  replace Yu := Yu.other Wt11 (Ne.symm ne_a1_u)
  have O13 : Ext Z.heap ht11 := extW O6 Wt11 fr1
  have K14 := K7.wr Wt11 (Or.inl (by simp))
  show Goes p e below _ (Tt11.setTop (mkF m 51 #[.val (.ref a1), .val (.ref a2), .val (.int (0 : Int32)), .val (.int (3 : Int32)), .val .null, .val (.ref u)] []))
  refine gAloadN Xt11 hx (hb hby d_jdk_42_method_149_51) rfl rfl ?_
  refine gAload Xt11 hx (hb hby d_jdk_42_method_149_52) rfl rfl ?_
  obtain ⟨Tt15, ht15, Xt15, et15, Wt15, stt15⟩ := putF Xt11 hx hZ hown (host := "") (Or.inl (hw _ (List.mem_of_getElem? (i := 52) rfl))) Via.refl et11 F1 E1 (Or.inr ⟨(hw _ (List.mem_of_getElem? (i := 48) rfl)), rfl, hnm⟩) (hw _ (List.mem_of_getElem? (i := 35) rfl)) (ty := (.array .byte)) (by decide) rfl rfl (g := (mkF m 54 #[.val (.ref a1), .val (.ref a2), .val (.int (0 : Int32)), .val (.int (3 : Int32)), .val .null, .val (.ref u)] [(.ref u), (.ref a1)])) rfl rfl (hb hby d_jdk_42_method_149_54)
  refine go stt15 ?_
  have N16 := Fr.snoc Xt15 N12 fr1
  replace F1 := F1.same Wt15
  replace E1 := E1.wr Wt15
  replace F2 := F2.other Wt15 (Or.inr (slot_ne (Or.inr (hw _ (List.mem_of_getElem? (i := 49) rfl))) (Or.inr (hw _ (List.mem_of_getElem? (i := 48) rfl))) (by decide) (t := .byte) (by decide) (t' := (.array .byte)) (by decide)))
  replace Y2 := Y2.other Wt15 (Ne.symm ne)
  replace Yu := Yu.other Wt15 (Ne.symm ne_a1_u)
  have O17 : Ext Z.heap ht15 := extW O13 Wt15 fr1
  have K18 := K14.wr Wt15 (Or.inl (by simp))
  show Goes p e below _ (Tt15.setTop (mkF m 57 #[.val (.ref a1), .val (.ref a2), .val (.int (0 : Int32)), .val (.int (3 : Int32)), .val .null, .val (.ref u)] []))
  exact goRet0 Xt15 hx hret hlocks (hb hby d_jdk_42_method_149_57) (by decide) (by decide) et15 (⟨rfl, N16, K18, u, pa_u, F1, F2, Yu⟩)
theorem ef_rmS3 (m : MethodId) (x0 : Addr) (x1 : Addr) : entryFrame m #[(.ref x0), (.ref x1)] 2 = mkF m 0 #[.val (.ref x0), .val (.ref x1)] [] := by first | (simp [entryFrame, mkF, argsToLocals, Value.category]; done) | rfl
set_option maxRecDepth 65536 in
set_option maxHeartbeats 40000000 in
theorem rmS3 (l : Launch) (Z : State) (a0 : Array Value) (hw : ∀ d ∈ tables_1, d.before a0 Z = true) (cs : Int32) (c0 c1 c2 : Int32) (a1 : Addr) (a2 : Addr) (h0 : Heap) (O0 : Ext Z.heap h0) (S_cs : Sta Z Z.heap "java/lang/String" "COMPACT_STRINGS" "Z" (.int cs)) (hcs : ¬ cs = 0) (E1 : Exa Z h0 a1 "java/lang/String") (F1 : Fld Z h0 a1 "java/lang/String" "value" "[B" .null) (F2 : Fld Z h0 a1 "java/lang/String" "coder" "B" (.int (0 : Int32))) (Y2 : Ary Z h0 a2 .char [(.int c0), (.int c1), (.int c2)]) (ne : a1 ≠ a2) (fr1 : Z.heap.size ≤ a1) (hc0 : ¬ (255 : Int32) < c0) (hc1 : ¬ (255 : Int32) < c1) (hc2 : ¬ (255 : Int32) < c2) :
    Ctr l Z (⟨"java/lang/String", "<init>", "([C)V"⟩ : MethodName) jdk_42_method_3_code 2 none [] ({ frames := 3, cells := 1, slots := 3, locals := 53 } : Room) #[(.ref a1), (.ref a2)] h0 (fun v h L => v = none ∧ Fr Z.heap.size L ∧ Keep h0 h [a1] ∧ ∃ u, h0.size ≤ u ∧ Fld Z h a1 "java/lang/String" "value" "[B" (.ref u) ∧ Fld Z h a1 "java/lang/String" "coder" "B" (.int (0 : Int32)) ∧ Ary Z h u .byte [(.int (c0.toInt8.toInt32)), (.int (c1.toInt8.toInt32)), (.int (c2.toInt8.toInt32))]) := by
  refine ctr (plainFor_of_name pn_1) ?_
  intro p e s m below meth c s₁ hx hby hml hown hnm hret hlocks hZ X0 e0
  have N0 := Fr.nil Z.heap.size
  have hsz : ∀ {Ls : Array Slot}, Ls.size = 2 → Ls.size = c.maxLocals := fun q => q.trans hml.symm
  have K0 := Keep.refl h0 [a1]
  refine goE (ef_rmS3 m (a1) (a2)) ?_
  show Goes p e below _ (s₁.setTop (mkF m 0 #[.val (.ref a1), .val (.ref a2)] []))
  refine gAloadN X0 hx (hb hby d_jdk_42_method_3_0) rfl rfl ?_
  refine gAloadN X0 hx (hb hby d_jdk_42_method_3_1) rfl rfl ?_
  refine gIconst X0 hx (hb hby d_jdk_42_method_3_2) (v := (0 : Int32)) rfl ?_
  refine gAloadN X0 hx (hb hby d_jdk_42_method_3_3) rfl rfl ?_
  refine goAlen X0 hx hZ e0 Y2 (n := (3 : Int32)) (hb hby d_jdk_42_method_3_4) rfl ?_
  refine gAnull X0 hx (hb hby d_jdk_42_method_3_5) ?_
  have lt_a1_t1 := E1.lt
  have lt_a2_t1 := Y2.lt
  refine goCallI X0 hx hZ rfl hown (hw _ (List.mem_of_getElem? (i := 41) rfl)) (hw _ (List.mem_of_getElem? (i := 42) rfl)) (hw _ (List.mem_of_getElem? (i := 36) rfl)) (hw _ (List.mem_of_getElem? (i := 44) rfl)) (by decide) (rmSd3 l Z a0 hw cs c0 c1 c2 a1 a2 h0 O0 S_cs hcs E1 F1 F2 Y2 ne fr1 hc0 hc1 hc2) 0 (by decide) (by decide) e0 (hsz rfl) a1 [(.ref a2), (.int (0 : Int32)), (.int (3 : Int32)), .null] [] pd_3 rfl rfl rfl (Nat.le_of_eq rfl) (hb hby d_jdk_42_method_3_6) (by decide) (by decide) (fun Tt1 vt1 Lt1 Xt1 qt1 => ?_)
  obtain ⟨ht1, et1⟩ : ∃ z, Tt1.heap = z := ⟨_, rfl⟩
  rw [et1] at qt1
  obtain ⟨rfl, N2, Kct1, u, pu, Gv, Gc, Yu⟩ := qt1
  have N3 := Fr.app N0 N2
  replace E1 := E1.keep Kct1
  replace Y2 := Y2.keep Kct1 (ninS (Ne.symm ne) nin0)
  have O4 : Ext Z.heap ht1 := extK O0 Kct1 (allS fr1 all0)
  have K5 := K0.trans Kct1 (allS (Or.inl (by simp)) all0)
  have ne_a1_u : a1 ≠ u := Nat.ne_of_lt (Nat.lt_of_lt_of_le lt_a1_t1 pu)
  have ne_a2_u : a2 ≠ u := Nat.ne_of_lt (Nat.lt_of_lt_of_le lt_a2_t1 pu)
  have fr_u : Z.heap.size ≤ u := Nat.le_trans O0.1 pu
  have pa_u : h0.size ≤ u := Nat.le_trans K0.1 pu
  show Goes p e below _ (Tt1.setTop (mkF m 9 #[.val (.ref a1), .val (.ref a2)] []))
  exact goRet0 Xt1 hx hret hlocks (hb hby d_jdk_42_method_3_9) (by decide) (by decide) et1 (⟨rfl, N3, K5, u, pu, Gv, Gc, Yu⟩)
theorem own_ch (x : Int32) : nar .char ((x &&& (255 : Int32)).toUInt32.toUInt16.toUInt32.toInt32) = (x &&& (255 : Int32)).toUInt32.toUInt16.toUInt32.toInt32 ∧ ¬ (255 : Int32) < (x &&& (255 : Int32)).toUInt32.toUInt16.toUInt32.toInt32 := by
  refine ⟨narc _, ?_⟩
  rw [i2c_mask, Int32.lt_iff_toInt_lt, show (255 : Int32).toInt = 255 by decide]
  have := c_and x 255 (by decide)
  rw [show (255 : Int32).toInt = 255 by decide] at this
  omega
theorem d_jdk_43_method_3_0 : decode jdk_43_method_3_code 0 = .ok (.iload_n 0, 1) := by decide +kernel
theorem d_jdk_43_method_3_1 : decode jdk_43_method_3_code 1 = .ok (.sipush 255, 3) := by decide +kernel
theorem d_jdk_43_method_3_4 : decode jdk_43_method_3_code 4 = .ok (.if_icmp .gt 7, 3) := by decide +kernel
theorem d_jdk_43_method_3_7 : decode jdk_43_method_3_code 7 = .ok (.iconst 1, 1) := by decide +kernel
theorem d_jdk_43_method_3_8 : decode jdk_43_method_3_code 8 = .ok (.goto 4, 3) := by decide +kernel
theorem d_jdk_43_method_3_12 : decode jdk_43_method_3_code 12 = .ok (.ireturn, 1) := by decide +kernel
theorem pn_2 : plainName "java/lang/StringLatin1" = true := by first | (simp [plainName, overriddenIn]; done) | decide +kernel
theorem ef_rmVe (m : MethodId) (x0 : Int32) : entryFrame m #[(.int x0)] 1 = mkF m 0 #[.val (.int x0)] [] := by first | (simp [entryFrame, mkF, argsToLocals, Value.category]; done) | rfl
set_option maxRecDepth 65536 in
set_option maxHeartbeats 40000000 in
theorem rmVe (l : Launch) (Z : State) (a0 : Array Value) (hw : ∀ d ∈ tables_1, d.before a0 Z = true)  (c0 : Int32) (h0 : Heap) (O0 : Ext Z.heap h0) (hc0 : ¬ (255 : Int32) < c0) :
    Ctr l Z (⟨"java/lang/StringLatin1", "canEncode", "(C)Z"⟩ : MethodName) jdk_43_method_3_code 1 (some .boolean) [] ({ frames := 0, cells := 0, slots := 0, locals := 0 } : Room) #[(.int c0)] h0 (fun v h L => v = some (.int 1) ∧ Fr Z.heap.size L ∧ h = h0) := by
  refine ctr (plainFor_of_name pn_2) ?_
  intro p e s m below meth c s₁ hx hby hml hown hnm hret hlocks hZ X0 e0
  have N0 := Fr.nil Z.heap.size
  have hsz : ∀ {Ls : Array Slot}, Ls.size = 1 → Ls.size = c.maxLocals := fun q => q.trans hml.symm
  refine goE (ef_rmVe m (c0)) ?_
  show Goes p e below _ (s₁.setTop (mkF m 0 #[.val (.int c0)] []))
  refine gIloadN X0 hx (hb hby d_jdk_43_method_3_0) rfl ?_
  refine gSipush X0 hx (hb hby d_jdk_43_method_3_1) (v := (255 : Int32)) rfl ?_
  refine gIcmpN X0 hx (hb hby d_jdk_43_method_3_4) (XT.ii_gt_f hc0) ?_
  show Goes p e below _ (s₁.setTop (mkF m 7 #[.val (.int c0)] []))
  refine gIconst X0 hx (hb hby d_jdk_43_method_3_7) (v := (1 : Int32)) rfl ?_
  refine gGoto X0 hx (hb hby d_jdk_43_method_3_8) (pc' := 12) (by decide) (by decide) ?_
  show Goes p e below _ (s₁.setTop (mkF m 12 #[.val (.int c0)] [(.int (1 : Int32))]))
  exact goRetN X0 hx (t := .boolean) hret hlocks (by simp) (hb hby d_jdk_43_method_3_12) (z' := (1 : Int32)) rfl (by decide) (by decide) e0 (⟨rfl, N0, rfl⟩)
theorem d_jdk_43_method_46_0 : decode jdk_43_method_46_code 0 = .ok (.iconst 1, 1) := by decide +kernel
theorem d_jdk_43_method_46_1 : decode jdk_43_method_46_code 1 = .ok (.newarray .byte, 2) := by decide +kernel
theorem d_jdk_43_method_46_3 : decode jdk_43_method_46_code 3 = .ok (.dup, 1) := by decide +kernel
theorem d_jdk_43_method_46_4 : decode jdk_43_method_46_code 4 = .ok (.iconst 0, 1) := by decide +kernel
theorem d_jdk_43_method_46_5 : decode jdk_43_method_46_code 5 = .ok (.iload_n 0, 1) := by decide +kernel
theorem d_jdk_43_method_46_6 : decode jdk_43_method_46_code 6 = .ok (.i2b, 1) := by decide +kernel
theorem d_jdk_43_method_46_7 : decode jdk_43_method_46_code 7 = .ok (.bastore, 1) := by decide +kernel
theorem d_jdk_43_method_46_8 : decode jdk_43_method_46_code 8 = .ok (.areturn, 1) := by decide +kernel
theorem ef_rmVb (m : MethodId) (x0 : Int32) : entryFrame m #[(.int x0)] 1 = mkF m 0 #[.val (.int x0)] [] := by first | (simp [entryFrame, mkF, argsToLocals, Value.category]; done) | rfl
set_option maxRecDepth 65536 in
set_option maxHeartbeats 40000000 in
theorem rmVb (l : Launch) (Z : State) (a0 : Array Value) (hw : ∀ d ∈ tables_1, d.before a0 Z = true)  (c0 : Int32) (h0 : Heap) (O0 : Ext Z.heap h0)  :
    Ctr l Z (⟨"java/lang/StringLatin1", "toBytes", "(C)[B"⟩ : MethodName) jdk_43_method_46_code 1 (some (.array .byte)) [] ({ frames := 0, cells := 1, slots := 1, locals := 0 } : Room) #[(.int c0)] h0 (fun v h L => ∃ u, v = some (.ref u) ∧ Fr Z.heap.size L ∧ Keep h0 h [] ∧ h0.size ≤ u ∧ Ary Z h u .byte [(.int (c0.toInt8.toInt32))]) := by
  refine ctr (plainFor_of_name pn_2) ?_
  intro p e s m below meth c s₁ hx hby hml hown hnm hret hlocks hZ X0 e0
  have N0 := Fr.nil Z.heap.size
  have hsz : ∀ {Ls : Array Slot}, Ls.size = 1 → Ls.size = c.maxLocals := fun q => q.trans hml.symm
  have K0 := Keep.refl h0 []
  refine goE (ef_rmVb m (c0)) ?_
  show Goes p e below _ (s₁.setTop (mkF m 0 #[.val (.int c0)] []))
  refine gIconst X0 hx (hb hby d_jdk_43_method_46_0) (v := (1 : Int32)) rfl ?_
  obtain ⟨Tt1, ht1, kt1, Xt1, et1, Et1, At1, stt1⟩ := newP X0 hx hZ (hw _ (List.mem_of_getElem? (i := 47) rfl)) e0 (g := (mkF m 1 #[.val (.int c0)] [(.int (1 : Int32))])) rfl (hb hby d_jdk_43_method_46_1) rfl (by decide) (cap := 1) (by decide) (by decide) (by decide) (by decide)
  obtain ⟨ob2, gob2⟩ : ∃ z, z = h0.size := ⟨_, rfl⟩
  rw [← gob2] at At1 stt1
  refine go stt1 ?_
  have fr_ob2 : Z.heap.size ≤ ob2 := gob2 ▸ O0.1
  have pa_ob2 : h0.size ≤ ob2 := gob2 ▸ K0.1
  have O3 : Ext Z.heap ht1 := extT O0 Et1
  have K4 := K0.ext Et1
  have Y_ob2 : Ary Z ht1 ob2 .byte [(.int (0 : Int32))] := Ary.new At1 rfl (by decide)
  show Goes p e below _ (Tt1.setTop (mkF m 3 #[.val (.int c0)] [(.ref ob2)]))
  refine gDup Xt1 hx (hb hby d_jdk_43_method_46_3) rfl ?_
  refine gIconst Xt1 hx (hb hby d_jdk_43_method_46_4) (v := (0 : Int32)) rfl ?_
  refine gIloadN Xt1 hx (hb hby d_jdk_43_method_46_5) rfl ?_
  refine gI2b Xt1 hx (hb hby d_jdk_43_method_46_6) ?_
  refine goBastore Xt1 hx hZ et1 Y_ob2 (hb hby d_jdk_43_method_46_7) (by decide) rfl (fun Tt5 ht5 Xt5 et5 Wt5 => ?_)
  have N6 := Fr.snoc Xt5 N0 fr_ob2
  replace Y_ob2 : Ary Z ht5 ob2 .byte [(.int (c0.toInt8.toInt32))] := Y_ob2.set Wt5 (by rw [narb]; rfl)
  have O7 : Ext Z.heap ht5 := extW O3 Wt5 fr_ob2
  have K8 := K4.wr Wt5 (Or.inr pa_ob2)
  show Goes p e below _ (Tt5.setTop (mkF m 8 #[.val (.int c0)] [(.ref ob2)]))
  exact goRetA Xt5 hx hret hlocks rfl rfl (hb hby d_jdk_43_method_46_8) (by decide) (by decide) et5 (⟨ob2, rfl, N6, K8, pa_ob2, Y_ob2⟩)
theorem d_jdk_42_method_151_0 : decode jdk_42_method_151_code 0 = .ok (.aload_n 0, 1) := by decide +kernel
theorem d_jdk_42_method_151_1 : decode jdk_42_method_151_code 1 = .ok (.invokespecial 1, 3) := by decide +kernel
theorem d_jdk_42_method_151_4 : decode jdk_42_method_151_code 4 = .ok (.aload_n 0, 1) := by decide +kernel
theorem d_jdk_42_method_151_5 : decode jdk_42_method_151_code 5 = .ok (.aload_n 1, 1) := by decide +kernel
theorem d_jdk_42_method_151_6 : decode jdk_42_method_151_code 6 = .ok (.putfield 9, 3) := by decide +kernel
theorem d_jdk_42_method_151_9 : decode jdk_42_method_151_code 9 = .ok (.aload_n 0, 1) := by decide +kernel
theorem d_jdk_42_method_151_10 : decode jdk_42_method_151_code 10 = .ok (.iload_n 2, 1) := by decide +kernel
theorem d_jdk_42_method_151_11 : decode jdk_42_method_151_code 11 = .ok (.putfield 15, 3) := by decide +kernel
theorem d_jdk_42_method_151_14 : decode jdk_42_method_151_code 14 = .ok (.return_, 1) := by decide +kernel
theorem ef_rmVi (m : MethodId) (x0 : Addr) (x1 : Addr) (x2 : Int32) : entryFrame m #[(.ref x0), (.ref x1), (.int x2)] 3 = mkF m 0 #[.val (.ref x0), .val (.ref x1), .val (.int x2)] [] := by first | (simp [entryFrame, mkF, argsToLocals, Value.category]; done) | rfl
set_option maxRecDepth 65536 in
set_option maxHeartbeats 40000000 in
theorem rmVi (l : Launch) (Z : State) (a0 : Array Value) (hw : ∀ d ∈ tables_1, d.before a0 Z = true)  (a1 : Addr) (a2 : Addr) (h0 : Heap) (O0 : Ext Z.heap h0) (E1 : Exa Z h0 a1 "java/lang/String") (F1 : Fld Z h0 a1 "java/lang/String" "value" "[B" .null) (F2 : Fld Z h0 a1 "java/lang/String" "coder" "B" (.int (0 : Int32))) (fr1 : Z.heap.size ≤ a1) :
    Ctr l Z (⟨"java/lang/String", "<init>", "([BB)V"⟩ : MethodName) jdk_42_method_151_code 3 none [] ({ frames := 1, cells := 0, slots := 0, locals := 12 } : Room) #[(.ref a1), (.ref a2), (.int (0 : Int32))] h0 (fun v h L => v = none ∧ Fr Z.heap.size L ∧ Keep h0 h [a1] ∧ Fld Z h a1 "java/lang/String" "value" "[B" (.ref a2) ∧ Fld Z h a1 "java/lang/String" "coder" "B" (.int (0 : Int32))) := by
  refine ctr (plainFor_of_name pn_1) ?_
  intro p e s m below meth c s₁ hx hby hml hown hnm hret hlocks hZ X0 e0
  have N0 := Fr.nil Z.heap.size
  have hsz : ∀ {Ls : Array Slot}, Ls.size = 3 → Ls.size = c.maxLocals := fun q => q.trans hml.symm
  have K0 := Keep.refl h0 [a1]
  refine goE (ef_rmVi m (a1) (a2) ((0 : Int32))) ?_
  show Goes p e below _ (s₁.setTop (mkF m 0 #[.val (.ref a1), .val (.ref a2), .val (.int (0 : Int32))] []))
  refine gAloadN X0 hx (hb hby d_jdk_42_method_151_0) rfl rfl ?_
  obtain ⟨Tt1, Xt1, et1, stt1⟩ := initO X0 hx hZ hown (hw _ (List.mem_of_getElem? (i := 45) rfl)) (hw _ (List.mem_of_getElem? (i := 16) rfl)) (hw _ (List.mem_of_getElem? (i := 17) rfl)) e0 (g := (mkF m 1 #[.val (.ref a1), .val (.ref a2), .val (.int (0 : Int32))] [(.ref a1)])) rfl (by rw [hml]; rfl) rfl (hb hby d_jdk_42_method_151_1) (by decide) (W := 0) (Nat.le_of_eq rfl) (by decide)
  refine go stt1 ?_
  show Goes p e below _ (Tt1.setTop (mkF m 4 #[.val (.ref a1), .val (.ref a2), .val (.int (0 : Int32))] []))
  refine gAloadN Xt1 hx (hb hby d_jdk_42_method_151_4) rfl rfl ?_
  refine gAloadN Xt1 hx (hb hby d_jdk_42_method_151_5) rfl rfl ?_
  obtain ⟨Tt2, ht2, Xt2, et2, Wt2, stt2⟩ := putF Xt1 hx hZ hown (host := "") (Or.inl (hw _ (List.mem_of_getElem? (i := 52) rfl))) Via.refl et1 F1 E1 (Or.inr ⟨(hw _ (List.mem_of_getElem? (i := 48) rfl)), rfl, hnm⟩) (hw _ (List.mem_of_getElem? (i := 35) rfl)) (ty := (.array .byte)) (by decide) rfl rfl (g := (mkF m 6 #[.val (.ref a1), .val (.ref a2), .val (.int (0 : Int32))] [(.ref a2), (.ref a1)])) rfl rfl (hb hby d_jdk_42_method_151_6)
  refine go stt2 ?_
  have N3 := Fr.snoc Xt2 N0 fr1
  replace F1 := F1.same Wt2
  replace E1 := E1.wr Wt2
  replace F2 := F2.other Wt2 (Or.inr (slot_ne (Or.inr (hw _ (List.mem_of_getElem? (i := 49) rfl))) (Or.inr (hw _ (List.mem_of_getElem? (i := 48) rfl))) (by decide) (t := .byte) (by decide) (t' := (.array .byte)) (by decide)))
  have O4 : Ext Z.heap ht2 := extW O0 Wt2 fr1
  have K5 := K0.wr Wt2 (Or.inl (by simp))
  show Goes p e below _ (Tt2.setTop (mkF m 9 #[.val (.ref a1), .val (.ref a2), .val (.int (0 : Int32))] []))
  refine gAloadN Xt2 hx (hb hby d_jdk_42_method_151_9) rfl rfl ?_
  refine gIloadN Xt2 hx (hb hby d_jdk_42_method_151_10) rfl ?_
  obtain ⟨Tt6, ht6, Xt6, et6, Wt6, stt6⟩ := putF Xt2 hx hZ hown (host := "") (Or.inl (hw _ (List.mem_of_getElem? (i := 53) rfl))) Via.refl et2 F2 E1 (Or.inr ⟨(hw _ (List.mem_of_getElem? (i := 49) rfl)), rfl, hnm⟩) (hw _ (List.mem_of_getElem? (i := 35) rfl)) (ty := .byte) (by decide) rfl rfl (g := (mkF m 11 #[.val (.ref a1), .val (.ref a2), .val (.int (0 : Int32))] [(.int (0 : Int32)), (.ref a1)])) rfl rfl (hb hby d_jdk_42_method_151_11)
  refine go stt6 ?_
  have N7 := Fr.snoc Xt6 N3 fr1
  replace F2 := F2.same Wt6
  replace E1 := E1.wr Wt6
  replace F1 := F1.other Wt6 (Or.inr (slot_ne (Or.inr (hw _ (List.mem_of_getElem? (i := 48) rfl))) (Or.inr (hw _ (List.mem_of_getElem? (i := 49) rfl))) (by decide) (t := (.array .byte)) (by decide) (t' := .byte) (by decide)))
  have O8 : Ext Z.heap ht6 := extW O4 Wt6 fr1
  have K9 := K5.wr Wt6 (Or.inl (by simp))
  show Goes p e below _ (Tt6.setTop (mkF m 14 #[.val (.ref a1), .val (.ref a2), .val (.int (0 : Int32))] []))
  exact goRet0 Xt6 hx hret hlocks (hb hby d_jdk_42_method_151_14) (by decide) (by decide) et6 (⟨rfl, N7, K9, F1, F2⟩)
theorem d_jdk_42_method_139_0 : decode jdk_42_method_139_code 0 = .ok (.getstatic 38, 3) := by decide +kernel
theorem d_jdk_42_method_139_3 : decode jdk_42_method_139_code 3 = .ok (.ifCond .eq 23, 3) := by decide +kernel
theorem d_jdk_42_method_139_6 : decode jdk_42_method_139_code 6 = .ok (.iload_n 0, 1) := by decide +kernel
theorem pd_4 : parseMethodDescriptor "(C)Z" = some ⟨[.char], some .boolean⟩ := by decide +kernel
theorem d_jdk_42_method_139_7 : decode jdk_42_method_139_code 7 = .ok (.invokestatic 1015, 3) := by decide +kernel
theorem d_jdk_42_method_139_10 : decode jdk_42_method_139_code 10 = .ok (.ifCond .eq 16, 3) := by decide +kernel
theorem d_jdk_42_method_139_13 : decode jdk_42_method_139_code 13 = .ok (.new 10, 3) := by decide +kernel
theorem d_jdk_42_method_139_16 : decode jdk_42_method_139_code 16 = .ok (.dup, 1) := by decide +kernel
theorem d_jdk_42_method_139_17 : decode jdk_42_method_139_code 17 = .ok (.iload_n 0, 1) := by decide +kernel
theorem pd_5 : parseMethodDescriptor "(C)[B" = some ⟨[.char], some (.array .byte)⟩ := by decide +kernel
theorem d_jdk_42_method_139_18 : decode jdk_42_method_139_code 18 = .ok (.invokestatic 1018, 3) := by decide +kernel
theorem d_jdk_42_method_139_21 : decode jdk_42_method_139_code 21 = .ok (.iconst 0, 1) := by decide +kernel
theorem pd_6 : parseMethodDescriptor "([BB)V" = some ⟨[(.array .byte), .byte], none⟩ := by decide +kernel
theorem d_jdk_42_method_139_22 : decode jdk_42_method_139_code 22 = .ok (.invokespecial 209, 3) := by decide +kernel
theorem d_jdk_42_method_139_25 : decode jdk_42_method_139_code 25 = .ok (.areturn, 1) := by decide +kernel
theorem ef_rmV (m : MethodId) (x0 : Int32) : entryFrame m #[(.int x0)] 1 = mkF m 0 #[.val (.int x0)] [] := by first | (simp [entryFrame, mkF, argsToLocals, Value.category]; done) | rfl
set_option maxRecDepth 65536 in
set_option maxHeartbeats 40000000 in
theorem rmV (l : Launch) (Z : State) (a0 : Array Value) (hw : ∀ d ∈ tables_1, d.before a0 Z = true) (cs : Int32) (c0 : Int32) (h0 : Heap) (O0 : Ext Z.heap h0) (S_cs : Sta Z Z.heap "java/lang/String" "COMPACT_STRINGS" "Z" (.int cs)) (hcs : ¬ cs = 0) (hc0 : ¬ (255 : Int32) < c0) :
    Ctr l Z (⟨"java/lang/String", "valueOf", "(C)Ljava/lang/String;"⟩ : MethodName) jdk_42_method_139_code 1 (some (.object "java/lang/String")) [] ({ frames := 2, cells := 2, slots := 5, locals := 29 } : Room) #[(.int c0)] h0 (fun v h L => ∃ b, v = some (.ref b) ∧ Fr Z.heap.size L ∧ Keep h0 h [] ∧ h0.size ≤ b ∧ Exa Z h b "java/lang/String" ∧ ∃ u, h0.size ≤ u ∧ Fld Z h b "java/lang/String" "value" "[B" (.ref u) ∧ Fld Z h b "java/lang/String" "coder" "B" (.int (0 : Int32)) ∧ Ary Z h u .byte [(.int (c0.toInt8.toInt32))]) := by
  refine ctr (plainFor_of_name pn_1) ?_
  intro p e s m below meth c s₁ hx hby hml hown hnm hret hlocks hZ X0 e0
  have N0 := Fr.nil Z.heap.size
  have hsz : ∀ {Ls : Array Slot}, Ls.size = 1 → Ls.size = c.maxLocals := fun q => q.trans hml.symm
  have K0 := Keep.refl h0 []
  refine goE (ef_rmV m (c0)) ?_
  show Goes p e below _ (s₁.setTop (mkF m 0 #[.val (.int c0)] []))
  obtain ⟨Tt1, Xt1, et1, stt1⟩ := getS2 X0 hx hZ hown (host := "") (Or.inl (hw _ (List.mem_of_getElem? (i := 54) rfl))) Via.refl e0 (S_cs.ext O0) (g := (mkF m 0 #[.val (.int c0)] [])) rfl (hb hby d_jdk_42_method_139_0)
  refine go stt1 ?_
  show Goes p e below _ (Tt1.setTop (mkF m 3 #[.val (.int c0)] [(.int cs)]))
  refine gIfN Xt1 hx (hb hby d_jdk_42_method_139_3) (XT.i0_eq_f hcs) ?_
  show Goes p e below _ (Tt1.setTop (mkF m 6 #[.val (.int c0)] []))
  refine gIloadN Xt1 hx (hb hby d_jdk_42_method_139_6) rfl ?_
  refine goCallS Xt1 hx hZ hown (hw _ (List.mem_of_getElem? (i := 68) rfl)) (hw _ (List.mem_of_getElem? (i := 69) rfl)) (hw _ (List.mem_of_getElem? (i := 70) rfl)) (hw _ (List.mem_of_getElem? (i := 71) rfl)) (by decide) (rmVe l Z a0 hw c0 h0 O0 hc0) 0 (by decide) (by decide) et1 (hsz rfl) [(.int c0)] [] pd_4 rfl rfl rfl (Nat.le_of_eq rfl) (hb hby d_jdk_42_method_139_7) (by decide) (by decide) (fun Tt2 vt2 Lt2 Xt2 qt2 => ?_)
  obtain ⟨rfl, N3, et2⟩ := qt2
  have N4 := Fr.app N0 N3
  show Goes p e below _ (Tt2.setTop (mkF m 10 #[.val (.int c0)] [(.int (1 : Int32))]))
  refine gIfN Xt2 hx (hb hby d_jdk_42_method_139_10) (XT.i0_eq_f (by decide)) ?_
  show Goes p e below _ (Tt2.setTop (mkF m 13 #[.val (.int c0)] []))
  obtain ⟨Tt5, ht5, Xt5, et5, Et5, At5, Dt5, -, stt5⟩ := newO Xt2 hx hZ hown (hw _ (List.mem_of_getElem? (i := 72) rfl)) (hw _ (List.mem_of_getElem? (i := 35) rfl)) (hw _ (List.mem_of_getElem? (i := 36) rfl)) et2 (g := (mkF m 13 #[.val (.int c0)] [])) rfl (hb hby d_jdk_42_method_139_13) (by decide) (by decide)
  obtain ⟨ob6, gob6⟩ : ∃ z, z = h0.size := ⟨_, rfl⟩
  rw [← gob6] at At5 Dt5 stt5
  refine go stt5 ?_
  have fr_ob6 : Z.heap.size ≤ ob6 := gob6 ▸ O0.1
  have pa_ob6 : h0.size ≤ ob6 := gob6 ▸ K0.1
  have O7 : Ext Z.heap ht5 := extT O0 Et5
  have K8 := K0.ext Et5
  have F_value_ob6 : Fld Z ht5 ob6 "java/lang/String" "value" "[B" .null := Dt5 (Or.inr (hw _ (List.mem_of_getElem? (i := 48) rfl))) (ty := (.array .byte)) (by decide)
  have F_coder_ob6 : Fld Z ht5 ob6 "java/lang/String" "coder" "B" (.int (0 : Int32)) := Dt5 (Or.inr (hw _ (List.mem_of_getElem? (i := 49) rfl))) (ty := .byte) (by decide)
  show Goes p e below _ (Tt5.setTop (mkF m 16 #[.val (.int c0)] [(.ref ob6)]))
  refine gDup Xt5 hx (hb hby d_jdk_42_method_139_16) rfl ?_
  refine gIloadN Xt5 hx (hb hby d_jdk_42_method_139_17) rfl ?_
  have lt_ob6_t9 := At5.lt
  refine goCallS Xt5 hx hZ hown (hw _ (List.mem_of_getElem? (i := 73) rfl)) (hw _ (List.mem_of_getElem? (i := 74) rfl)) (hw _ (List.mem_of_getElem? (i := 70) rfl)) (hw _ (List.mem_of_getElem? (i := 75) rfl)) (by decide) (rmVb l Z a0 hw c0 ht5 O7) 2 (by decide) (by decide) et5 (hsz rfl) [(.int c0)] [(.ref ob6), (.ref ob6)] pd_5 rfl rfl rfl (Nat.le_of_eq rfl) (hb hby d_jdk_42_method_139_18) (by decide) (by decide) (fun Tt9 vt9 Lt9 Xt9 qt9 => ?_)
  obtain ⟨ht9, et9⟩ : ∃ z, Tt9.heap = z := ⟨_, rfl⟩
  rw [et9] at qt9
  obtain ⟨u, rfl, N10, Kct9, pu, Yu⟩ := qt9
  have N11 := Fr.app N4 N10
  replace At5 := At5.keep Kct9
  replace F_value_ob6 := F_value_ob6.keep Kct9 nin0
  replace F_coder_ob6 := F_coder_ob6.keep Kct9 nin0
  have O12 : Ext Z.heap ht9 := extK O7 Kct9 all0
  have K13 := K8.trans Kct9 all0
  have ne_ob6_u : ob6 ≠ u := Nat.ne_of_lt (Nat.lt_of_lt_of_le lt_ob6_t9 pu)
  have fr_u : Z.heap.size ≤ u := Nat.le_trans O7.1 pu
  have pa_u : h0.size ≤ u := Nat.le_trans K8.1 pu
  show Goes p e below _ (Tt9.setTop (mkF m 21 #[.val (.int c0)] [(.ref u), (.ref ob6), (.ref ob6)]))
  refine gIconst Xt9 hx (hb hby d_jdk_42_method_139_21) (v := (0 : Int32)) rfl ?_
  refine goCallI Xt9 hx hZ rfl hown (hw _ (List.mem_of_getElem? (i := 76) rfl)) (hw _ (List.mem_of_getElem? (i := 77) rfl)) (hw _ (List.mem_of_getElem? (i := 36) rfl)) (hw _ (List.mem_of_getElem? (i := 78) rfl)) (by decide) (rmVi l Z a0 hw ob6 u ht9 O12 At5 F_value_ob6 F_coder_ob6 fr_ob6) 1 (by decide) (by decide) et9 (hsz rfl) ob6 [(.ref u), (.int (0 : Int32))] [(.ref ob6)] pd_6 rfl rfl rfl (Nat.le_of_eq rfl) (hb hby d_jdk_42_method_139_22) (by decide) (by decide) (fun Tt14 vt14 Lt14 Xt14 qt14 => ?_)
  obtain ⟨ht14, et14⟩ : ∃ z, Tt14.heap = z := ⟨_, rfl⟩
  rw [et14] at qt14
  obtain ⟨rfl, N15, Kct14, Gv, Gc⟩ := qt14
  have N16 := Fr.app N11 N15
  replace At5 := At5.keep Kct14
  replace Yu := Yu.keep Kct14 (ninS (Ne.symm ne_ob6_u) nin0)
  have O17 : Ext Z.heap ht14 := extK O12 Kct14 (allS fr_ob6 all0)
  have K18 := K13.trans Kct14 (allS (Or.inr pa_ob6) all0)
  show Goes p e below _ (Tt14.setTop (mkF m 25 #[.val (.int c0)] [(.ref ob6)]))
  exact goRetA Xt14 hx hret hlocks rfl rfl (hb hby d_jdk_42_method_139_25) (by decide) (by decide) et14 (⟨ob6, rfl, N16, K18, pa_ob6, At5, u, pa_u, Gv, Gc, Yu⟩)
theorem own_wS {Z : State} {a0 : Array Value} (hw : ∀ d ∈ tables_1, d.before a0 Z = true) : ∀ a ∈ Bundle.stringAtoms, a.before a0 Z = true := by
  intro d hd
  simp only [Bundle.stringAtoms, Bundle.sN, List.mem_cons, List.not_mem_nil, or_false] at hd
  rcases hd with rfl | rfl | rfl | rfl | rfl | rfl | rfl
  · exact hw _ (List.mem_of_getElem? (i := 36) rfl)
  · exact hw _ (List.mem_of_getElem? (i := 35) rfl)
  · exact hw _ (List.mem_of_getElem? (i := 47) rfl)
  · exact hw _ (List.mem_of_getElem? (i := 48) rfl)
  · exact hw _ (List.mem_of_getElem? (i := 49) rfl)
  · exact hw _ (List.mem_of_getElem? (i := 50) rfl)
  · exact hw _ (List.mem_of_getElem? (i := 51) rfl)
theorem own_fits {n : String} {v : Value} (h : v.isRef = true) : fits (.object n) v = true := by cases v <;> first | rfl | (simp [Value.isRef] at h)
def own_Es (Z : State) (h : Heap) (vm : Vm) : Prop := IB Z vm [] ∨ ∃ a u, Lit (Z.setVm vm) "java/lang/String" 7 a ∧ Fld Z h a "java/lang/String" "value" "[B" (.ref u) ∧ Fld Z h a "java/lang/String" "coder" "B" (.int (0 : Int32))
theorem own_Es.keep {Z : State} {h h' : Heap} {vm : Vm} (F : own_Es Z h vm) (K : Keep h h' []) : own_Es Z h' vm := by
  rcases F with F | ⟨a, u, L, F1, F2⟩
  · exact Or.inl F
  · exact Or.inr ⟨a, u, L, F1.keep K nin0, F2.keep K nin0⟩
theorem own_Es.warm {Z s : State} {h : Heap} {vm0 vm1 : Vm} (F : own_Es Z h vm0) (W : (s.setVm vm0).WarmedH vm1) : own_Es Z h vm1 := by
  rcases F with F | ⟨a, u, L, F1, F2⟩
  · exact Or.inl (IB.warm F W)
  · exact Or.inr ⟨a, u, (Lit.stays (s := s) L W.wide :), F1, F2⟩
theorem d_jdk_42_method_149_8 : decode jdk_42_method_149_code 8 = .ok (.aload_n 0, 1) := by decide +kernel
theorem d_jdk_42_method_149_9 : decode jdk_42_method_149_code 9 = .ok (.ldc 7, 2) := by decide +kernel
theorem d_jdk_42_method_149_11 : decode jdk_42_method_149_code 11 = .ok (.getfield 9, 3) := by decide +kernel
theorem d_jdk_42_method_149_14 : decode jdk_42_method_149_code 14 = .ok (.putfield 9, 3) := by decide +kernel
theorem d_jdk_42_method_149_17 : decode jdk_42_method_149_code 17 = .ok (.aload_n 0, 1) := by decide +kernel
theorem d_jdk_42_method_149_18 : decode jdk_42_method_149_code 18 = .ok (.ldc 7, 2) := by decide +kernel
theorem d_jdk_42_method_149_20 : decode jdk_42_method_149_code 20 = .ok (.getfield 15, 3) := by decide +kernel
theorem d_jdk_42_method_149_23 : decode jdk_42_method_149_code 23 = .ok (.putfield 15, 3) := by decide +kernel
theorem d_jdk_42_method_149_26 : decode jdk_42_method_149_code 26 = .ok (.return_, 1) := by decide +kernel
theorem ef_rmSd0 (m : MethodId) (x0 : Addr) (x1 : Addr) (x2 : Int32) (x3 : Int32) : entryFrame m #[(.ref x0), (.ref x1), (.int x2), (.int x3), .null] 6 = mkF m 0 #[.val (.ref x0), .val (.ref x1), .val (.int x2), .val (.int x3), .val .null, .unset] [] := by first | (simp [entryFrame, mkF, argsToLocals, Value.category]; done) | rfl
set_option maxRecDepth 65536 in
set_option maxHeartbeats 40000000 in
theorem rmSd0 (l : Launch) (Z : State) (a0 : Array Value) (hw : ∀ d ∈ tables_1, d.before a0 Z = true)  (a1 : Addr) (a2 : Addr) (h0 : Heap) (O0 : Ext Z.heap h0) (hh : Jvm.Lit.constHeld Z "java/lang/String" 7) (hcw : Jvm.Lit.compactW.before a0 Z = true) (E1 : Exa Z h0 a1 "java/lang/String") (F1 : Fld Z h0 a1 "java/lang/String" "value" "[B" .null) (F2 : Fld Z h0 a1 "java/lang/String" "coder" "B" (.int (0 : Int32))) (Y2 : Ary Z h0 a2 .char []) (ne : a1 ≠ a2) (fr1 : Z.heap.size ≤ a1) :
    CtrW l Z (⟨"java/lang/String", "<init>", "([CIILjava/lang/Void;)V"⟩ : MethodName) jdk_42_method_149_code 6 none [] ({ frames := 1, cells := 2, slots := 4, locals := 12 } : Room) #[(.ref a1), (.ref a2), (.int (0 : Int32)), (.int (0 : Int32)), .null] h0 (fun vm => own_Es Z h0 vm) (fun v h L vm => v = none ∧ Fr Z.heap.size L ∧ Keep h0 h [a1] ∧ own_Es Z h vm) := by
  refine ctrW (plainFor_of_name pn_1) ?_
  intro p e s m below meth c s₁ vm0 hx hby hml hown hnm hret hlocks hZ X0 e0 hS hh0 hPv
  have N0 := Fr.nil Z.heap.size
  have hsz : ∀ {Ls : Array Slot}, Ls.size = 6 → Ls.size = c.maxLocals := fun q => q.trans hml.symm
  have K0 := Keep.refl h0 [a1]
  refine goE (ef_rmSd0 m (a1) (a2) ((0 : Int32)) ((0 : Int32))) ?_
  show Goes p e below _ (s₁.setTop (mkF m 0 #[.val (.ref a1), .val (.ref a2), .val (.int (0 : Int32)), .val (.int (0 : Int32)), .val .null, .unset] []))
  refine gAloadN X0 hx (hb hby d_jdk_42_method_149_0) rfl rfl ?_
  obtain ⟨Tt1, Xt1, et1, stt1⟩ := initO X0 hx hZ hown (hw _ (List.mem_of_getElem? (i := 45) rfl)) (hw _ (List.mem_of_getElem? (i := 16) rfl)) (hw _ (List.mem_of_getElem? (i := 17) rfl)) e0 (g := (mkF m 1 #[.val (.ref a1), .val (.ref a2), .val (.int (0 : Int32)), .val (.int (0 : Int32)), .val .null, .unset] [(.ref a1)])) rfl (by rw [hml]; rfl) rfl (hb hby d_jdk_42_method_149_1) (by decide) (W := 0) (Nat.le_of_eq rfl) (by decide)
  refine go stt1 ?_
  show Goes p e below _ (Tt1.setTop (mkF m 4 #[.val (.ref a1), .val (.ref a2), .val (.int (0 : Int32)), .val (.int (0 : Int32)), .val .null, .unset] []))
  refine gIloadN Xt1 hx (hb hby d_jdk_42_method_149_4) rfl ?_
  refine gIfN Xt1 hx (hb hby d_jdk_42_method_149_5) (XT.i0_ne_f (by decide)) ?_
  show Goes p e below _ (Tt1.setTop (mkF m 8 #[.val (.ref a1), .val (.ref a2), .val (.int (0 : Int32)), .val (.int (0 : Int32)), .val .null, .unset] []))
  refine gAloadN Xt1 hx (hb hby d_jdk_42_method_149_8) rfl rfl ?_
  rcases hPv with I0 | ⟨ea, eu, Li, Ev, Ec⟩
  · obtain ⟨kt2, sat2, sbt2⟩ := hS
    obtain ⟨at2, Tt2, ht2, kkt2, bt2, kct2, Xt2, et2, Et2, snt2, knt2, hZ, hown, Eat2, Fct2, Fvt2, Yvt2, lat2, lbt2, IBt2, Lit2, stt2⟩ := ldcSVL Xt1 hx hZ hown (hw _ (List.mem_of_getElem? (i := 46) rfl)) (own_wS hw) et1 sat2 sbt2 (Fr.nil _) (fun b cl q => by rw [hh0]; exact O0.2 b cl q) I0 (by simp) hh hcw (vs := []) (z := (0 : Int32)) ⟨by decide, rfl⟩ (by decide) (by decide) (g := (mkF m 9 #[.val (.ref a1), .val (.ref a2), .val (.int (0 : Int32)), .val (.int (0 : Int32)), .val .null, .unset] [(.ref a1)])) rfl (hb hby d_jdk_42_method_149_9) (n := 0) (by decide) (by decide) (by decide) (by decide)
    refine go stt2 ?_
    have hS : Sn s Tt2.vm ht2 := ⟨_, snt2, knt2⟩
    replace E1 := E1.ext Et2
    replace F1 := F1.ext Et2
    replace F2 := F2.ext Et2
    have O3 : Ext Z.heap ht2 := extT O0 Et2
    have K4 := K0.ext Et2
    have Yct2 := Arv.ary Yvt2 (by decide)
    show Goes p e below _ (Tt2.setTop (mkF m 11 #[.val (.ref a1), .val (.ref a2), .val (.int (0 : Int32)), .val (.int (0 : Int32)), .val .null, .unset] [(.ref at2), (.ref a1)]))
    have ne_ea : at2 ≠ a1 := Fld.ne Fvt2 F1 (fun q => nomatch q)
    obtain ⟨Tt5, Xt5, et5, stt5⟩ := getF Xt2 hx hZ hown (host := "") (Or.inl (hw _ (List.mem_of_getElem? (i := 52) rfl))) Via.refl et2 Fvt2 (g := (mkF m 11 #[.val (.ref a1), .val (.ref a2), .val (.int (0 : Int32)), .val (.int (0 : Int32)), .val .null, .unset] [(.ref at2), (.ref a1)])) rfl rfl (hb hby d_jdk_42_method_149_11)
    refine go stt5 ?_
    show Goes p e below _ (Tt5.setTop (mkF m 14 #[.val (.ref a1), .val (.ref a2), .val (.int (0 : Int32)), .val (.int (0 : Int32)), .val .null, .unset] [(.ref bt2), (.ref a1)]))
    obtain ⟨Tt6, ht6, Xt6, et6, Wt6, stt6⟩ := putF Xt5 hx hZ hown (host := "") (Or.inl (hw _ (List.mem_of_getElem? (i := 52) rfl))) Via.refl et5 F1 E1 (Or.inr ⟨(hw _ (List.mem_of_getElem? (i := 48) rfl)), rfl, hnm⟩) (hw _ (List.mem_of_getElem? (i := 35) rfl)) (ty := (.array .byte)) (by decide) rfl rfl (g := (mkF m 14 #[.val (.ref a1), .val (.ref a2), .val (.int (0 : Int32)), .val (.int (0 : Int32)), .val .null, .unset] [(.ref bt2), (.ref a1)])) rfl rfl (hb hby d_jdk_42_method_149_14)
    refine go stt6 ?_
    have N7 := Fr.snoc Xt6 N0 fr1
    replace F1 := F1.same Wt6
    replace E1 := E1.wr Wt6
    replace F2 := F2.other Wt6 (Or.inr (slot_ne (Or.inr (hw _ (List.mem_of_getElem? (i := 49) rfl))) (Or.inr (hw _ (List.mem_of_getElem? (i := 48) rfl))) (by decide) (t := .byte) (by decide) (t' := (.array .byte)) (by decide)))
    replace Fct2 := Fct2.other Wt6 (Or.inl ne_ea)
    replace Fvt2 := Fvt2.other Wt6 (Or.inl ne_ea)
    have O8 : Ext Z.heap ht6 := extW O3 Wt6 fr1
    replace hS := hS.wr Wt6
    have K9 := K4.wr Wt6 (Or.inl (by simp))
    show Goes p e below _ (Tt6.setTop (mkF m 17 #[.val (.ref a1), .val (.ref a2), .val (.int (0 : Int32)), .val (.int (0 : Int32)), .val .null, .unset] []))
    refine gAloadN Xt6 hx (hb hby d_jdk_42_method_149_17) rfl rfl ?_
    refine go (ldcAgain Xt6 hx hZ hown (hw _ (List.mem_of_getElem? (i := 46) rfl)) Lit2 (g := (mkF m 18 #[.val (.ref a1), .val (.ref a2), .val (.int (0 : Int32)), .val (.int (0 : Int32)), .val .null, .unset] [(.ref a1)])) rfl (hb hby d_jdk_42_method_149_18)) ?_
    show Goes p e below _ (Tt6.setTop (mkF m 20 #[.val (.ref a1), .val (.ref a2), .val (.int (0 : Int32)), .val (.int (0 : Int32)), .val .null, .unset] [(.ref at2), (.ref a1)]))
    obtain ⟨Tt10, Xt10, et10, stt10⟩ := getF Xt6 hx hZ hown (host := "") (Or.inl (hw _ (List.mem_of_getElem? (i := 53) rfl))) Via.refl et6 Fct2 (g := (mkF m 20 #[.val (.ref a1), .val (.ref a2), .val (.int (0 : Int32)), .val (.int (0 : Int32)), .val .null, .unset] [(.ref at2), (.ref a1)])) rfl rfl (hb hby d_jdk_42_method_149_20)
    refine go stt10 ?_
    show Goes p e below _ (Tt10.setTop (mkF m 23 #[.val (.ref a1), .val (.ref a2), .val (.int (0 : Int32)), .val (.int (0 : Int32)), .val .null, .unset] [(.int (0 : Int32)), (.ref a1)]))
    obtain ⟨Tt11, ht11, Xt11, et11, Wt11, stt11⟩ := putF Xt10 hx hZ hown (host := "") (Or.inl (hw _ (List.mem_of_getElem? (i := 53) rfl))) Via.refl et10 F2 E1 (Or.inr ⟨(hw _ (List.mem_of_getElem? (i := 49) rfl)), rfl, hnm⟩) (hw _ (List.mem_of_getElem? (i := 35) rfl)) (ty := .byte) (by decide) rfl rfl (g := (mkF m 23 #[.val (.ref a1), .val (.ref a2), .val (.int (0 : Int32)), .val (.int (0 : Int32)), .val .null, .unset] [(.int (0 : Int32)), (.ref a1)])) rfl rfl (hb hby d_jdk_42_method_149_23)
    refine go stt11 ?_
    have N12 := Fr.snoc Xt11 N7 fr1
    replace F2 := F2.same Wt11
    replace E1 := E1.wr Wt11
    replace F1 := F1.other Wt11 (Or.inr (slot_ne (Or.inr (hw _ (List.mem_of_getElem? (i := 48) rfl))) (Or.inr (hw _ (List.mem_of_getElem? (i := 49) rfl))) (by decide) (t := (.array .byte)) (by decide) (t' := .byte) (by decide)))
    replace Fct2 := Fct2.other Wt11 (Or.inl ne_ea)
    replace Fvt2 := Fvt2.other Wt11 (Or.inl ne_ea)
    have O13 : Ext Z.heap ht11 := extW O8 Wt11 fr1
    replace hS := hS.wr Wt11
    have K14 := K9.wr Wt11 (Or.inl (by simp))
    show Goes p e below _ (Tt11.setTop (mkF m 26 #[.val (.ref a1), .val (.ref a2), .val (.int (0 : Int32)), .val (.int (0 : Int32)), .val .null, .unset] []))
    exact goRet0W Xt11 hx hS hret hlocks (hb hby d_jdk_42_method_149_26) (by decide) (by decide) et11 (⟨rfl, N12, K14, Or.inr ⟨at2, bt2, (Lit.stays (s := s) Lit2 Xt11.warmed.wide :), Fvt2, Fct2⟩⟩)
  · refine go (ldcAgain Xt1 hx hZ hown (hw _ (List.mem_of_getElem? (i := 46) rfl)) Li (g := (mkF m 9 #[.val (.ref a1), .val (.ref a2), .val (.int (0 : Int32)), .val (.int (0 : Int32)), .val .null, .unset] [(.ref a1)])) rfl (hb hby d_jdk_42_method_149_9)) ?_
    show Goes p e below _ (Tt1.setTop (mkF m 11 #[.val (.ref a1), .val (.ref a2), .val (.int (0 : Int32)), .val (.int (0 : Int32)), .val .null, .unset] [(.ref ea), (.ref a1)]))
    have ne_ea : ea ≠ a1 := Fld.ne Ev F1 (fun q => nomatch q)
    obtain ⟨Tt15, Xt15, et15, stt15⟩ := getF Xt1 hx hZ hown (host := "") (Or.inl (hw _ (List.mem_of_getElem? (i := 52) rfl))) Via.refl et1 Ev (g := (mkF m 11 #[.val (.ref a1), .val (.ref a2), .val (.int (0 : Int32)), .val (.int (0 : Int32)), .val .null, .unset] [(.ref ea), (.ref a1)])) rfl rfl (hb hby d_jdk_42_method_149_11)
    refine go stt15 ?_
    show Goes p e below _ (Tt15.setTop (mkF m 14 #[.val (.ref a1), .val (.ref a2), .val (.int (0 : Int32)), .val (.int (0 : Int32)), .val .null, .unset] [(.ref eu), (.ref a1)]))
    obtain ⟨Tt16, ht16, Xt16, et16, Wt16, stt16⟩ := putF Xt15 hx hZ hown (host := "") (Or.inl (hw _ (List.mem_of_getElem? (i := 52) rfl))) Via.refl et15 F1 E1 (Or.inr ⟨(hw _ (List.mem_of_getElem? (i := 48) rfl)), rfl, hnm⟩) (hw _ (List.mem_of_getElem? (i := 35) rfl)) (ty := (.array .byte)) (by decide) rfl rfl (g := (mkF m 14 #[.val (.ref a1), .val (.ref a2), .val (.int (0 : Int32)), .val (.int (0 : Int32)), .val .null, .unset] [(.ref eu), (.ref a1)])) rfl rfl (hb hby d_jdk_42_method_149_14)
    refine go stt16 ?_
    have N17 := Fr.snoc Xt16 N0 fr1
    replace F1 := F1.same Wt16
    replace E1 := E1.wr Wt16
    replace F2 := F2.other Wt16 (Or.inr (slot_ne (Or.inr (hw _ (List.mem_of_getElem? (i := 49) rfl))) (Or.inr (hw _ (List.mem_of_getElem? (i := 48) rfl))) (by decide) (t := .byte) (by decide) (t' := (.array .byte)) (by decide)))
    replace Ev := Ev.other Wt16 (Or.inl ne_ea)
    replace Ec := Ec.other Wt16 (Or.inl ne_ea)
    have O18 : Ext Z.heap ht16 := extW O0 Wt16 fr1
    replace hS := hS.wr Wt16
    have K19 := K0.wr Wt16 (Or.inl (by simp))
    show Goes p e below _ (Tt16.setTop (mkF m 17 #[.val (.ref a1), .val (.ref a2), .val (.int (0 : Int32)), .val (.int (0 : Int32)), .val .null, .unset] []))
    refine gAloadN Xt16 hx (hb hby d_jdk_42_method_149_17) rfl rfl ?_
    refine go (ldcAgain Xt16 hx hZ hown (hw _ (List.mem_of_getElem? (i := 46) rfl)) Li (g := (mkF m 18 #[.val (.ref a1), .val (.ref a2), .val (.int (0 : Int32)), .val (.int (0 : Int32)), .val .null, .unset] [(.ref a1)])) rfl (hb hby d_jdk_42_method_149_18)) ?_
    show Goes p e below _ (Tt16.setTop (mkF m 20 #[.val (.ref a1), .val (.ref a2), .val (.int (0 : Int32)), .val (.int (0 : Int32)), .val .null, .unset] [(.ref ea), (.ref a1)]))
    obtain ⟨Tt20, Xt20, et20, stt20⟩ := getF Xt16 hx hZ hown (host := "") (Or.inl (hw _ (List.mem_of_getElem? (i := 53) rfl))) Via.refl et16 Ec (g := (mkF m 20 #[.val (.ref a1), .val (.ref a2), .val (.int (0 : Int32)), .val (.int (0 : Int32)), .val .null, .unset] [(.ref ea), (.ref a1)])) rfl rfl (hb hby d_jdk_42_method_149_20)
    refine go stt20 ?_
    show Goes p e below _ (Tt20.setTop (mkF m 23 #[.val (.ref a1), .val (.ref a2), .val (.int (0 : Int32)), .val (.int (0 : Int32)), .val .null, .unset] [(.int (0 : Int32)), (.ref a1)]))
    obtain ⟨Tt21, ht21, Xt21, et21, Wt21, stt21⟩ := putF Xt20 hx hZ hown (host := "") (Or.inl (hw _ (List.mem_of_getElem? (i := 53) rfl))) Via.refl et20 F2 E1 (Or.inr ⟨(hw _ (List.mem_of_getElem? (i := 49) rfl)), rfl, hnm⟩) (hw _ (List.mem_of_getElem? (i := 35) rfl)) (ty := .byte) (by decide) rfl rfl (g := (mkF m 23 #[.val (.ref a1), .val (.ref a2), .val (.int (0 : Int32)), .val (.int (0 : Int32)), .val .null, .unset] [(.int (0 : Int32)), (.ref a1)])) rfl rfl (hb hby d_jdk_42_method_149_23)
    refine go stt21 ?_
    have N22 := Fr.snoc Xt21 N17 fr1
    replace F2 := F2.same Wt21
    replace E1 := E1.wr Wt21
    replace F1 := F1.other Wt21 (Or.inr (slot_ne (Or.inr (hw _ (List.mem_of_getElem? (i := 48) rfl))) (Or.inr (hw _ (List.mem_of_getElem? (i := 49) rfl))) (by decide) (t := (.array .byte)) (by decide) (t' := .byte) (by decide)))
    replace Ev := Ev.other Wt21 (Or.inl ne_ea)
    replace Ec := Ec.other Wt21 (Or.inl ne_ea)
    have O23 : Ext Z.heap ht21 := extW O18 Wt21 fr1
    replace hS := hS.wr Wt21
    have K24 := K19.wr Wt21 (Or.inl (by simp))
    show Goes p e below _ (Tt21.setTop (mkF m 26 #[.val (.ref a1), .val (.ref a2), .val (.int (0 : Int32)), .val (.int (0 : Int32)), .val .null, .unset] []))
    exact goRet0W Xt21 hx hS hret hlocks (hb hby d_jdk_42_method_149_26) (by decide) (by decide) et21 (⟨rfl, N22, K24, Or.inr ⟨ea, eu, (Lit.stays (s := s) Li Xt21.warmed.wide :), Ev, Ec⟩⟩)
theorem ef_rmS0 (m : MethodId) (x0 : Addr) (x1 : Addr) : entryFrame m #[(.ref x0), (.ref x1)] 2 = mkF m 0 #[.val (.ref x0), .val (.ref x1)] [] := by first | (simp [entryFrame, mkF, argsToLocals, Value.category]; done) | rfl
set_option maxRecDepth 65536 in
set_option maxHeartbeats 40000000 in
theorem rmS0 (l : Launch) (Z : State) (a0 : Array Value) (hw : ∀ d ∈ tables_1, d.before a0 Z = true)  (a1 : Addr) (a2 : Addr) (h0 : Heap) (O0 : Ext Z.heap h0) (hh : Jvm.Lit.constHeld Z "java/lang/String" 7) (hcw : Jvm.Lit.compactW.before a0 Z = true) (E1 : Exa Z h0 a1 "java/lang/String") (F1 : Fld Z h0 a1 "java/lang/String" "value" "[B" .null) (F2 : Fld Z h0 a1 "java/lang/String" "coder" "B" (.int (0 : Int32))) (Y2 : Ary Z h0 a2 .char []) (ne : a1 ≠ a2) (fr1 : Z.heap.size ≤ a1) :
    CtrW l Z (⟨"java/lang/String", "<init>", "([C)V"⟩ : MethodName) jdk_42_method_3_code 2 none [] ({ frames := 2, cells := 2, slots := 4, locals := 29 } : Room) #[(.ref a1), (.ref a2)] h0 (fun vm => own_Es Z h0 vm) (fun v h L vm => v = none ∧ Fr Z.heap.size L ∧ Keep h0 h [a1] ∧ own_Es Z h vm) := by
  refine ctrW (plainFor_of_name pn_1) ?_
  intro p e s m below meth c s₁ vm0 hx hby hml hown hnm hret hlocks hZ X0 e0 hS hh0 hPv
  have N0 := Fr.nil Z.heap.size
  have hsz : ∀ {Ls : Array Slot}, Ls.size = 2 → Ls.size = c.maxLocals := fun q => q.trans hml.symm
  have K0 := Keep.refl h0 [a1]
  refine goE (ef_rmS0 m (a1) (a2)) ?_
  show Goes p e below _ (s₁.setTop (mkF m 0 #[.val (.ref a1), .val (.ref a2)] []))
  refine gAloadN X0 hx (hb hby d_jdk_42_method_3_0) rfl rfl ?_
  refine gAloadN X0 hx (hb hby d_jdk_42_method_3_1) rfl rfl ?_
  refine gIconst X0 hx (hb hby d_jdk_42_method_3_2) (v := (0 : Int32)) rfl ?_
  refine gAloadN X0 hx (hb hby d_jdk_42_method_3_3) rfl rfl ?_
  refine goAlen X0 hx hZ e0 Y2 (n := (0 : Int32)) (hb hby d_jdk_42_method_3_4) rfl ?_
  refine gAnull X0 hx (hb hby d_jdk_42_method_3_5) ?_
  refine goCallIW X0 hx hZ hS rfl hown (hw _ (List.mem_of_getElem? (i := 41) rfl)) (hw _ (List.mem_of_getElem? (i := 42) rfl)) (hw _ (List.mem_of_getElem? (i := 36) rfl)) (hw _ (List.mem_of_getElem? (i := 44) rfl)) (by decide) (rmSd0 l Z a0 hw a1 a2 h0 O0 hh hcw E1 F1 F2 Y2 ne fr1) (fun _ w_ => hPv.warm w_) 0 (by decide) (by decide) e0 (hsz rfl) a1 [(.ref a2), (.int (0 : Int32)), (.int (0 : Int32)), .null] [] pd_3 rfl rfl rfl (Nat.le_of_eq rfl) (hb hby d_jdk_42_method_3_6) (by decide) (by decide) (fun Tt1 vt1 Lt1 Xt1 hZ hown hS wm_t1 qt1 => ?_)
  obtain ⟨ht1, et1⟩ : ∃ z, Tt1.heap = z := ⟨_, rfl⟩
  rw [et1] at qt1 hS
  obtain ⟨rfl, N2, Kct1, Es⟩ := qt1
  have N3 := Fr.app N0 N2
  replace E1 := E1.keep Kct1
  replace Y2 := Y2.keep Kct1 (ninS (Ne.symm ne) nin0)
  have O4 : Ext Z.heap ht1 := extK O0 Kct1 (allS fr1 all0)
  have K5 := K0.trans Kct1 (allS (Or.inl (by simp)) all0)
  show Goes p e below _ (Tt1.setTop (mkF m 9 #[.val (.ref a1), .val (.ref a2)] []))
  exact goRet0W Xt1 hx hS hret hlocks (hb hby d_jdk_42_method_3_9) (by decide) (by decide) et1 (⟨rfl, N3, K5, Es⟩)
theorem d_jdk_30_method_1_0 : decode jdk_30_method_1_code 0 = .ok (.aload_n 0, 1) := by decide +kernel
theorem d_jdk_30_method_1_1 : decode jdk_30_method_1_code 1 = .ok (.invokespecial 1, 3) := by decide +kernel
theorem d_jdk_30_method_1_4 : decode jdk_30_method_1_code 4 = .ok (.return_, 1) := by decide +kernel
theorem pn_3 : plainName "java/lang/Record" = true := by first | (simp [plainName, overriddenIn]; done) | decide +kernel
theorem ef_rmR (m : MethodId) (x0 : Addr) : entryFrame m #[(.ref x0)] 1 = mkF m 0 #[.val (.ref x0)] [] := by first | (simp [entryFrame, mkF, argsToLocals, Value.category]; done) | rfl
set_option maxRecDepth 65536 in
set_option maxHeartbeats 40000000 in
theorem rmR (l : Launch) (Z : State) (a0 : Array Value) (hw : ∀ d ∈ tables_1, d.before a0 Z = true)  (a1 : Addr) (h0 : Heap) (O0 : Ext Z.heap h0)  :
    Ctr l Z (⟨"java/lang/Record", "<init>", "()V"⟩ : MethodName) jdk_30_method_1_code 1 none [] ({ frames := 1, cells := 0, slots := 0, locals := 12 } : Room) #[(.ref a1)] h0 (fun v h L => v = none ∧ Fr Z.heap.size L ∧ h = h0) := by
  refine ctr (plainFor_of_name pn_3) ?_
  intro p e s m below meth c s₁ hx hby hml hown hnm hret hlocks hZ X0 e0
  have N0 := Fr.nil Z.heap.size
  have hsz : ∀ {Ls : Array Slot}, Ls.size = 1 → Ls.size = c.maxLocals := fun q => q.trans hml.symm
  refine goE (ef_rmR m (a1)) ?_
  show Goes p e below _ (s₁.setTop (mkF m 0 #[.val (.ref a1)] []))
  refine gAloadN X0 hx (hb hby d_jdk_30_method_1_0) rfl rfl ?_
  obtain ⟨Tt1, Xt1, et1, stt1⟩ := initO X0 hx hZ hown (hw _ (List.mem_of_getElem? (i := 15) rfl)) (hw _ (List.mem_of_getElem? (i := 16) rfl)) (hw _ (List.mem_of_getElem? (i := 17) rfl)) e0 (g := (mkF m 1 #[.val (.ref a1)] [(.ref a1)])) rfl (by rw [hml]; rfl) rfl (hb hby d_jdk_30_method_1_1) (by decide) (W := 0) (Nat.le_of_eq rfl) (by decide)
  refine go stt1 ?_
  show Goes p e below _ (Tt1.setTop (mkF m 4 #[.val (.ref a1)] []))
  exact goRet0 Xt1 hx hret hlocks (hb hby d_jdk_30_method_1_4) (by decide) (by decide) et1 (⟨rfl, N0, rfl⟩)
theorem d_prog_28_method_1_0 : decode prog_28_method_1_code 0 = .ok (.aload_n 0, 1) := by decide +kernel
theorem pd_7 : parseMethodDescriptor "()V" = some ⟨[], none⟩ := by decide +kernel
theorem d_prog_28_method_1_1 : decode prog_28_method_1_code 1 = .ok (.invokespecial 1, 3) := by decide +kernel
theorem d_prog_28_method_1_4 : decode prog_28_method_1_code 4 = .ok (.aload_n 0, 1) := by decide +kernel
theorem d_prog_28_method_1_5 : decode prog_28_method_1_code 5 = .ok (.iload_n 1, 1) := by decide +kernel
theorem d_prog_28_method_1_6 : decode prog_28_method_1_code 6 = .ok (.putfield 7, 3) := by decide +kernel
theorem d_prog_28_method_1_9 : decode prog_28_method_1_code 9 = .ok (.aload_n 0, 1) := by decide +kernel
theorem d_prog_28_method_1_10 : decode prog_28_method_1_code 10 = .ok (.aload_n 2, 1) := by decide +kernel
theorem d_prog_28_method_1_11 : decode prog_28_method_1_code 11 = .ok (.putfield 13, 3) := by decide +kernel
theorem d_prog_28_method_1_14 : decode prog_28_method_1_code 14 = .ok (.aload_n 0, 1) := by decide +kernel
theorem d_prog_28_method_1_15 : decode prog_28_method_1_code 15 = .ok (.aload_n 3, 1) := by decide +kernel
theorem d_prog_28_method_1_16 : decode prog_28_method_1_code 16 = .ok (.putfield 17, 3) := by decide +kernel
theorem d_prog_28_method_1_19 : decode prog_28_method_1_code 19 = .ok (.return_, 1) := by decide +kernel
theorem pn_4 : plainName "com/example/ambit/ambit/server/Caller" = true := by first | (simp [plainName, overriddenIn]; done) | decide +kernel
theorem ef_rmCNN (m : MethodId) (x0 : Addr) (x1 : Int32) : entryFrame m #[(.ref x0), (.int x1), .null, .null] 4 = mkF m 0 #[.val (.ref x0), .val (.int x1), .val .null, .val .null] [] := by first | (simp [entryFrame, mkF, argsToLocals, Value.category]; done) | rfl
set_option maxRecDepth 65536 in
set_option maxHeartbeats 40000000 in
theorem rmCNN (l : Launch) (Z : State) (a0 : Array Value) (hw : ∀ d ∈ tables_1, d.before a0 Z = true)  (a1 : Addr) (h0 : Heap) (O0 : Ext Z.heap h0) (E1 : Exa Z h0 a1 "com/example/ambit/ambit/server/Caller") (F_admin : Fld Z h0 a1 "com/example/ambit/ambit/server/Caller" "admin" "Z" (.int (0 : Int32))) (F_system : Fld Z h0 a1 "com/example/ambit/ambit/server/Caller" "system" "Ljava/lang/String;" .null) (F_user : Fld Z h0 a1 "com/example/ambit/ambit/server/Caller" "user" "Ljava/lang/String;" .null) (fr1 : Z.heap.size ≤ a1) :
    Ctr l Z (⟨"com/example/ambit/ambit/server/Caller", "<init>", "(ZLjava/lang/String;Ljava/lang/String;)V"⟩ : MethodName) prog_28_method_1_code 4 none [] ({ frames := 2, cells := 0, slots := 0, locals := 24 } : Room) #[(.ref a1), (.int (1 : Int32)), .null, .null] h0 (fun v h L => v = none ∧ Fr Z.heap.size L ∧ Keep h0 h [a1] ∧ Fld Z h a1 "com/example/ambit/ambit/server/Caller" "admin" "Z" (.int (1 : Int32))) := by
  refine ctr (plainFor_of_name pn_4) ?_
  intro p e s m below meth c s₁ hx hby hml hown hnm hret hlocks hZ X0 e0
  have N0 := Fr.nil Z.heap.size
  have hsz : ∀ {Ls : Array Slot}, Ls.size = 4 → Ls.size = c.maxLocals := fun q => q.trans hml.symm
  have K0 := Keep.refl h0 [a1]
  refine goE (ef_rmCNN m (a1) ((1 : Int32))) ?_
  show Goes p e below _ (s₁.setTop (mkF m 0 #[.val (.ref a1), .val (.int (1 : Int32)), .val .null, .val .null] []))
  refine gAloadN X0 hx (hb hby d_prog_28_method_1_0) rfl rfl ?_
  refine goCallI X0 hx hZ rfl hown (hw _ (List.mem_of_getElem? (i := 10) rfl)) (hw _ (List.mem_of_getElem? (i := 11) rfl)) (hw _ (List.mem_of_getElem? (i := 13) rfl)) (hw _ (List.mem_of_getElem? (i := 14) rfl)) (by decide) (rmR l Z a0 hw a1 h0 O0) 0 (by decide) (by decide) e0 (hsz rfl) a1 [] [] pd_7 rfl rfl rfl (Nat.le_of_eq rfl) (hb hby d_prog_28_method_1_1) (by decide) (by decide) (fun Tt1 vt1 Lt1 Xt1 qt1 => ?_)
  obtain ⟨rfl, N2, et1⟩ := qt1
  have N3 := Fr.app N0 N2
  show Goes p e below _ (Tt1.setTop (mkF m 4 #[.val (.ref a1), .val (.int (1 : Int32)), .val .null, .val .null] []))
  refine gAloadN Xt1 hx (hb hby d_prog_28_method_1_4) rfl rfl ?_
  refine gIloadN Xt1 hx (hb hby d_prog_28_method_1_5) rfl ?_
  obtain ⟨Tt4, ht4, Xt4, et4, Wt4, stt4⟩ := putF Xt1 hx hZ hown (host := "") (Or.inl (hw _ (List.mem_of_getElem? (i := 18) rfl))) Via.refl et1 F_admin E1 (Or.inr ⟨(hw _ (List.mem_of_getElem? (i := 19) rfl)), rfl, hnm⟩) (hw _ (List.mem_of_getElem? (i := 5) rfl)) (ty := .boolean) (by decide) rfl rfl (g := (mkF m 6 #[.val (.ref a1), .val (.int (1 : Int32)), .val .null, .val .null] [(.int (1 : Int32)), (.ref a1)])) rfl rfl (hb hby d_prog_28_method_1_6)
  refine go stt4 ?_
  have N5 := Fr.snoc Xt4 N3 fr1
  replace F_admin := F_admin.same Wt4
  replace E1 := E1.wr Wt4
  replace F_system := F_system.other Wt4 (Or.inr (slot_ne (Or.inr (hw _ (List.mem_of_getElem? (i := 21) rfl))) (Or.inr (hw _ (List.mem_of_getElem? (i := 19) rfl))) (by decide) (t := (.object "java/lang/String")) (by decide) (t' := .boolean) (by decide)))
  replace F_user := F_user.other Wt4 (Or.inr (slot_ne (Or.inr (hw _ (List.mem_of_getElem? (i := 23) rfl))) (Or.inr (hw _ (List.mem_of_getElem? (i := 19) rfl))) (by decide) (t := (.object "java/lang/String")) (by decide) (t' := .boolean) (by decide)))
  have O6 : Ext Z.heap ht4 := extW O0 Wt4 fr1
  have K7 := K0.wr Wt4 (Or.inl (by simp))
  show Goes p e below _ (Tt4.setTop (mkF m 9 #[.val (.ref a1), .val (.int (1 : Int32)), .val .null, .val .null] []))
  refine gAloadN Xt4 hx (hb hby d_prog_28_method_1_9) rfl rfl ?_
  refine gAloadN Xt4 hx (hb hby d_prog_28_method_1_10) rfl rfl ?_
  obtain ⟨Tt8, ht8, Xt8, et8, Wt8, stt8⟩ := putF Xt4 hx hZ hown (host := "") (Or.inl (hw _ (List.mem_of_getElem? (i := 20) rfl))) Via.refl et4 F_system E1 (Or.inr ⟨(hw _ (List.mem_of_getElem? (i := 21) rfl)), rfl, hnm⟩) (hw _ (List.mem_of_getElem? (i := 5) rfl)) (ty := (.object "java/lang/String")) (by decide) rfl rfl (g := (mkF m 11 #[.val (.ref a1), .val (.int (1 : Int32)), .val .null, .val .null] [.null, (.ref a1)])) rfl rfl (hb hby d_prog_28_method_1_11)
  refine go stt8 ?_
  have N9 := Fr.snoc Xt8 N5 fr1
  replace F_system := F_system.same Wt8
  replace E1 := E1.wr Wt8
  replace F_admin := F_admin.other Wt8 (Or.inr (slot_ne (Or.inr (hw _ (List.mem_of_getElem? (i := 19) rfl))) (Or.inr (hw _ (List.mem_of_getElem? (i := 21) rfl))) (by decide) (t := .boolean) (by decide) (t' := (.object "java/lang/String")) (by decide)))
  replace F_user := F_user.other Wt8 (Or.inr (slot_ne (Or.inr (hw _ (List.mem_of_getElem? (i := 23) rfl))) (Or.inr (hw _ (List.mem_of_getElem? (i := 21) rfl))) (by decide) (t := (.object "java/lang/String")) (by decide) (t' := (.object "java/lang/String")) (by decide)))
  have O10 : Ext Z.heap ht8 := extW O6 Wt8 fr1
  have K11 := K7.wr Wt8 (Or.inl (by simp))
  show Goes p e below _ (Tt8.setTop (mkF m 14 #[.val (.ref a1), .val (.int (1 : Int32)), .val .null, .val .null] []))
  refine gAloadN Xt8 hx (hb hby d_prog_28_method_1_14) rfl rfl ?_
  refine gAloadN Xt8 hx (hb hby d_prog_28_method_1_15) rfl rfl ?_
  obtain ⟨Tt12, ht12, Xt12, et12, Wt12, stt12⟩ := putF Xt8 hx hZ hown (host := "") (Or.inl (hw _ (List.mem_of_getElem? (i := 22) rfl))) Via.refl et8 F_user E1 (Or.inr ⟨(hw _ (List.mem_of_getElem? (i := 23) rfl)), rfl, hnm⟩) (hw _ (List.mem_of_getElem? (i := 5) rfl)) (ty := (.object "java/lang/String")) (by decide) rfl rfl (g := (mkF m 16 #[.val (.ref a1), .val (.int (1 : Int32)), .val .null, .val .null] [.null, (.ref a1)])) rfl rfl (hb hby d_prog_28_method_1_16)
  refine go stt12 ?_
  have N13 := Fr.snoc Xt12 N9 fr1
  replace F_user := F_user.same Wt12
  replace E1 := E1.wr Wt12
  replace F_admin := F_admin.other Wt12 (Or.inr (slot_ne (Or.inr (hw _ (List.mem_of_getElem? (i := 19) rfl))) (Or.inr (hw _ (List.mem_of_getElem? (i := 23) rfl))) (by decide) (t := .boolean) (by decide) (t' := (.object "java/lang/String")) (by decide)))
  replace F_system := F_system.other Wt12 (Or.inr (slot_ne (Or.inr (hw _ (List.mem_of_getElem? (i := 21) rfl))) (Or.inr (hw _ (List.mem_of_getElem? (i := 23) rfl))) (by decide) (t := (.object "java/lang/String")) (by decide) (t' := (.object "java/lang/String")) (by decide)))
  have O14 : Ext Z.heap ht12 := extW O10 Wt12 fr1
  have K15 := K11.wr Wt12 (Or.inl (by simp))
  show Goes p e below _ (Tt12.setTop (mkF m 19 #[.val (.ref a1), .val (.int (1 : Int32)), .val .null, .val .null] []))
  exact goRet0 Xt12 hx hret hlocks (hb hby d_prog_28_method_1_19) (by decide) (by decide) et12 (⟨rfl, N13, K15, F_admin⟩)
theorem ef_rmCNA (m : MethodId) (x0 : Addr) (x1 : Int32) (x3 : Addr) : entryFrame m #[(.ref x0), (.int x1), .null, (.ref x3)] 4 = mkF m 0 #[.val (.ref x0), .val (.int x1), .val .null, .val (.ref x3)] [] := by first | (simp [entryFrame, mkF, argsToLocals, Value.category]; done) | rfl
set_option maxRecDepth 65536 in
set_option maxHeartbeats 40000000 in
theorem rmCNA (l : Launch) (Z : State) (a0 : Array Value) (hw : ∀ d ∈ tables_1, d.before a0 Z = true)  (a1 : Addr) (a4 : Addr) (h0 : Heap) (O0 : Ext Z.heap h0) (E1 : Exa Z h0 a1 "com/example/ambit/ambit/server/Caller") (F_admin : Fld Z h0 a1 "com/example/ambit/ambit/server/Caller" "admin" "Z" (.int (0 : Int32))) (F_system : Fld Z h0 a1 "com/example/ambit/ambit/server/Caller" "system" "Ljava/lang/String;" .null) (F_user : Fld Z h0 a1 "com/example/ambit/ambit/server/Caller" "user" "Ljava/lang/String;" .null) (fr1 : Z.heap.size ≤ a1) :
    Ctr l Z (⟨"com/example/ambit/ambit/server/Caller", "<init>", "(ZLjava/lang/String;Ljava/lang/String;)V"⟩ : MethodName) prog_28_method_1_code 4 none [] ({ frames := 2, cells := 0, slots := 0, locals := 24 } : Room) #[(.ref a1), (.int (1 : Int32)), .null, (.ref a4)] h0 (fun v h L => v = none ∧ Fr Z.heap.size L ∧ Keep h0 h [a1] ∧ Fld Z h a1 "com/example/ambit/ambit/server/Caller" "admin" "Z" (.int (1 : Int32))) := by
  refine ctr (plainFor_of_name pn_4) ?_
  intro p e s m below meth c s₁ hx hby hml hown hnm hret hlocks hZ X0 e0
  have N0 := Fr.nil Z.heap.size
  have hsz : ∀ {Ls : Array Slot}, Ls.size = 4 → Ls.size = c.maxLocals := fun q => q.trans hml.symm
  have K0 := Keep.refl h0 [a1]
  refine goE (ef_rmCNA m (a1) ((1 : Int32)) (a4)) ?_
  show Goes p e below _ (s₁.setTop (mkF m 0 #[.val (.ref a1), .val (.int (1 : Int32)), .val .null, .val (.ref a4)] []))
  refine gAloadN X0 hx (hb hby d_prog_28_method_1_0) rfl rfl ?_
  refine goCallI X0 hx hZ rfl hown (hw _ (List.mem_of_getElem? (i := 10) rfl)) (hw _ (List.mem_of_getElem? (i := 11) rfl)) (hw _ (List.mem_of_getElem? (i := 13) rfl)) (hw _ (List.mem_of_getElem? (i := 14) rfl)) (by decide) (rmR l Z a0 hw a1 h0 O0) 0 (by decide) (by decide) e0 (hsz rfl) a1 [] [] pd_7 rfl rfl rfl (Nat.le_of_eq rfl) (hb hby d_prog_28_method_1_1) (by decide) (by decide) (fun Tt1 vt1 Lt1 Xt1 qt1 => ?_)
  obtain ⟨rfl, N2, et1⟩ := qt1
  have N3 := Fr.app N0 N2
  show Goes p e below _ (Tt1.setTop (mkF m 4 #[.val (.ref a1), .val (.int (1 : Int32)), .val .null, .val (.ref a4)] []))
  refine gAloadN Xt1 hx (hb hby d_prog_28_method_1_4) rfl rfl ?_
  refine gIloadN Xt1 hx (hb hby d_prog_28_method_1_5) rfl ?_
  obtain ⟨Tt4, ht4, Xt4, et4, Wt4, stt4⟩ := putF Xt1 hx hZ hown (host := "") (Or.inl (hw _ (List.mem_of_getElem? (i := 18) rfl))) Via.refl et1 F_admin E1 (Or.inr ⟨(hw _ (List.mem_of_getElem? (i := 19) rfl)), rfl, hnm⟩) (hw _ (List.mem_of_getElem? (i := 5) rfl)) (ty := .boolean) (by decide) rfl rfl (g := (mkF m 6 #[.val (.ref a1), .val (.int (1 : Int32)), .val .null, .val (.ref a4)] [(.int (1 : Int32)), (.ref a1)])) rfl rfl (hb hby d_prog_28_method_1_6)
  refine go stt4 ?_
  have N5 := Fr.snoc Xt4 N3 fr1
  replace F_admin := F_admin.same Wt4
  replace E1 := E1.wr Wt4
  replace F_system := F_system.other Wt4 (Or.inr (slot_ne (Or.inr (hw _ (List.mem_of_getElem? (i := 21) rfl))) (Or.inr (hw _ (List.mem_of_getElem? (i := 19) rfl))) (by decide) (t := (.object "java/lang/String")) (by decide) (t' := .boolean) (by decide)))
  replace F_user := F_user.other Wt4 (Or.inr (slot_ne (Or.inr (hw _ (List.mem_of_getElem? (i := 23) rfl))) (Or.inr (hw _ (List.mem_of_getElem? (i := 19) rfl))) (by decide) (t := (.object "java/lang/String")) (by decide) (t' := .boolean) (by decide)))
  have O6 : Ext Z.heap ht4 := extW O0 Wt4 fr1
  have K7 := K0.wr Wt4 (Or.inl (by simp))
  show Goes p e below _ (Tt4.setTop (mkF m 9 #[.val (.ref a1), .val (.int (1 : Int32)), .val .null, .val (.ref a4)] []))
  refine gAloadN Xt4 hx (hb hby d_prog_28_method_1_9) rfl rfl ?_
  refine gAloadN Xt4 hx (hb hby d_prog_28_method_1_10) rfl rfl ?_
  obtain ⟨Tt8, ht8, Xt8, et8, Wt8, stt8⟩ := putF Xt4 hx hZ hown (host := "") (Or.inl (hw _ (List.mem_of_getElem? (i := 20) rfl))) Via.refl et4 F_system E1 (Or.inr ⟨(hw _ (List.mem_of_getElem? (i := 21) rfl)), rfl, hnm⟩) (hw _ (List.mem_of_getElem? (i := 5) rfl)) (ty := (.object "java/lang/String")) (by decide) rfl rfl (g := (mkF m 11 #[.val (.ref a1), .val (.int (1 : Int32)), .val .null, .val (.ref a4)] [.null, (.ref a1)])) rfl rfl (hb hby d_prog_28_method_1_11)
  refine go stt8 ?_
  have N9 := Fr.snoc Xt8 N5 fr1
  replace F_system := F_system.same Wt8
  replace E1 := E1.wr Wt8
  replace F_admin := F_admin.other Wt8 (Or.inr (slot_ne (Or.inr (hw _ (List.mem_of_getElem? (i := 19) rfl))) (Or.inr (hw _ (List.mem_of_getElem? (i := 21) rfl))) (by decide) (t := .boolean) (by decide) (t' := (.object "java/lang/String")) (by decide)))
  replace F_user := F_user.other Wt8 (Or.inr (slot_ne (Or.inr (hw _ (List.mem_of_getElem? (i := 23) rfl))) (Or.inr (hw _ (List.mem_of_getElem? (i := 21) rfl))) (by decide) (t := (.object "java/lang/String")) (by decide) (t' := (.object "java/lang/String")) (by decide)))
  have O10 : Ext Z.heap ht8 := extW O6 Wt8 fr1
  have K11 := K7.wr Wt8 (Or.inl (by simp))
  show Goes p e below _ (Tt8.setTop (mkF m 14 #[.val (.ref a1), .val (.int (1 : Int32)), .val .null, .val (.ref a4)] []))
  refine gAloadN Xt8 hx (hb hby d_prog_28_method_1_14) rfl rfl ?_
  refine gAloadN Xt8 hx (hb hby d_prog_28_method_1_15) rfl rfl ?_
  obtain ⟨Tt12, ht12, Xt12, et12, Wt12, stt12⟩ := putF Xt8 hx hZ hown (host := "") (Or.inl (hw _ (List.mem_of_getElem? (i := 22) rfl))) Via.refl et8 F_user E1 (Or.inr ⟨(hw _ (List.mem_of_getElem? (i := 23) rfl)), rfl, hnm⟩) (hw _ (List.mem_of_getElem? (i := 5) rfl)) (ty := (.object "java/lang/String")) (by decide) rfl rfl (g := (mkF m 16 #[.val (.ref a1), .val (.int (1 : Int32)), .val .null, .val (.ref a4)] [(.ref a4), (.ref a1)])) rfl rfl (hb hby d_prog_28_method_1_16)
  refine go stt12 ?_
  have N13 := Fr.snoc Xt12 N9 fr1
  replace F_user := F_user.same Wt12
  replace E1 := E1.wr Wt12
  replace F_admin := F_admin.other Wt12 (Or.inr (slot_ne (Or.inr (hw _ (List.mem_of_getElem? (i := 19) rfl))) (Or.inr (hw _ (List.mem_of_getElem? (i := 23) rfl))) (by decide) (t := .boolean) (by decide) (t' := (.object "java/lang/String")) (by decide)))
  replace F_system := F_system.other Wt12 (Or.inr (slot_ne (Or.inr (hw _ (List.mem_of_getElem? (i := 21) rfl))) (Or.inr (hw _ (List.mem_of_getElem? (i := 23) rfl))) (by decide) (t := (.object "java/lang/String")) (by decide) (t' := (.object "java/lang/String")) (by decide)))
  have O14 : Ext Z.heap ht12 := extW O10 Wt12 fr1
  have K15 := K11.wr Wt12 (Or.inl (by simp))
  show Goes p e below _ (Tt12.setTop (mkF m 19 #[.val (.ref a1), .val (.int (1 : Int32)), .val .null, .val (.ref a4)] []))
  exact goRet0 Xt12 hx hret hlocks (hb hby d_prog_28_method_1_19) (by decide) (by decide) et12 (⟨rfl, N13, K15, F_admin⟩)
theorem ef_rmCAN (m : MethodId) (x0 : Addr) (x1 : Int32) (x2 : Addr) : entryFrame m #[(.ref x0), (.int x1), (.ref x2), .null] 4 = mkF m 0 #[.val (.ref x0), .val (.int x1), .val (.ref x2), .val .null] [] := by first | (simp [entryFrame, mkF, argsToLocals, Value.category]; done) | rfl
set_option maxRecDepth 65536 in
set_option maxHeartbeats 40000000 in
theorem rmCAN (l : Launch) (Z : State) (a0 : Array Value) (hw : ∀ d ∈ tables_1, d.before a0 Z = true)  (a1 : Addr) (a3 : Addr) (h0 : Heap) (O0 : Ext Z.heap h0) (E1 : Exa Z h0 a1 "com/example/ambit/ambit/server/Caller") (F_admin : Fld Z h0 a1 "com/example/ambit/ambit/server/Caller" "admin" "Z" (.int (0 : Int32))) (F_system : Fld Z h0 a1 "com/example/ambit/ambit/server/Caller" "system" "Ljava/lang/String;" .null) (F_user : Fld Z h0 a1 "com/example/ambit/ambit/server/Caller" "user" "Ljava/lang/String;" .null) (fr1 : Z.heap.size ≤ a1) :
    Ctr l Z (⟨"com/example/ambit/ambit/server/Caller", "<init>", "(ZLjava/lang/String;Ljava/lang/String;)V"⟩ : MethodName) prog_28_method_1_code 4 none [] ({ frames := 2, cells := 0, slots := 0, locals := 24 } : Room) #[(.ref a1), (.int (1 : Int32)), (.ref a3), .null] h0 (fun v h L => v = none ∧ Fr Z.heap.size L ∧ Keep h0 h [a1] ∧ Fld Z h a1 "com/example/ambit/ambit/server/Caller" "admin" "Z" (.int (1 : Int32))) := by
  refine ctr (plainFor_of_name pn_4) ?_
  intro p e s m below meth c s₁ hx hby hml hown hnm hret hlocks hZ X0 e0
  have N0 := Fr.nil Z.heap.size
  have hsz : ∀ {Ls : Array Slot}, Ls.size = 4 → Ls.size = c.maxLocals := fun q => q.trans hml.symm
  have K0 := Keep.refl h0 [a1]
  refine goE (ef_rmCAN m (a1) ((1 : Int32)) (a3)) ?_
  show Goes p e below _ (s₁.setTop (mkF m 0 #[.val (.ref a1), .val (.int (1 : Int32)), .val (.ref a3), .val .null] []))
  refine gAloadN X0 hx (hb hby d_prog_28_method_1_0) rfl rfl ?_
  refine goCallI X0 hx hZ rfl hown (hw _ (List.mem_of_getElem? (i := 10) rfl)) (hw _ (List.mem_of_getElem? (i := 11) rfl)) (hw _ (List.mem_of_getElem? (i := 13) rfl)) (hw _ (List.mem_of_getElem? (i := 14) rfl)) (by decide) (rmR l Z a0 hw a1 h0 O0) 0 (by decide) (by decide) e0 (hsz rfl) a1 [] [] pd_7 rfl rfl rfl (Nat.le_of_eq rfl) (hb hby d_prog_28_method_1_1) (by decide) (by decide) (fun Tt1 vt1 Lt1 Xt1 qt1 => ?_)
  obtain ⟨rfl, N2, et1⟩ := qt1
  have N3 := Fr.app N0 N2
  show Goes p e below _ (Tt1.setTop (mkF m 4 #[.val (.ref a1), .val (.int (1 : Int32)), .val (.ref a3), .val .null] []))
  refine gAloadN Xt1 hx (hb hby d_prog_28_method_1_4) rfl rfl ?_
  refine gIloadN Xt1 hx (hb hby d_prog_28_method_1_5) rfl ?_
  obtain ⟨Tt4, ht4, Xt4, et4, Wt4, stt4⟩ := putF Xt1 hx hZ hown (host := "") (Or.inl (hw _ (List.mem_of_getElem? (i := 18) rfl))) Via.refl et1 F_admin E1 (Or.inr ⟨(hw _ (List.mem_of_getElem? (i := 19) rfl)), rfl, hnm⟩) (hw _ (List.mem_of_getElem? (i := 5) rfl)) (ty := .boolean) (by decide) rfl rfl (g := (mkF m 6 #[.val (.ref a1), .val (.int (1 : Int32)), .val (.ref a3), .val .null] [(.int (1 : Int32)), (.ref a1)])) rfl rfl (hb hby d_prog_28_method_1_6)
  refine go stt4 ?_
  have N5 := Fr.snoc Xt4 N3 fr1
  replace F_admin := F_admin.same Wt4
  replace E1 := E1.wr Wt4
  replace F_system := F_system.other Wt4 (Or.inr (slot_ne (Or.inr (hw _ (List.mem_of_getElem? (i := 21) rfl))) (Or.inr (hw _ (List.mem_of_getElem? (i := 19) rfl))) (by decide) (t := (.object "java/lang/String")) (by decide) (t' := .boolean) (by decide)))
  replace F_user := F_user.other Wt4 (Or.inr (slot_ne (Or.inr (hw _ (List.mem_of_getElem? (i := 23) rfl))) (Or.inr (hw _ (List.mem_of_getElem? (i := 19) rfl))) (by decide) (t := (.object "java/lang/String")) (by decide) (t' := .boolean) (by decide)))
  have O6 : Ext Z.heap ht4 := extW O0 Wt4 fr1
  have K7 := K0.wr Wt4 (Or.inl (by simp))
  show Goes p e below _ (Tt4.setTop (mkF m 9 #[.val (.ref a1), .val (.int (1 : Int32)), .val (.ref a3), .val .null] []))
  refine gAloadN Xt4 hx (hb hby d_prog_28_method_1_9) rfl rfl ?_
  refine gAloadN Xt4 hx (hb hby d_prog_28_method_1_10) rfl rfl ?_
  obtain ⟨Tt8, ht8, Xt8, et8, Wt8, stt8⟩ := putF Xt4 hx hZ hown (host := "") (Or.inl (hw _ (List.mem_of_getElem? (i := 20) rfl))) Via.refl et4 F_system E1 (Or.inr ⟨(hw _ (List.mem_of_getElem? (i := 21) rfl)), rfl, hnm⟩) (hw _ (List.mem_of_getElem? (i := 5) rfl)) (ty := (.object "java/lang/String")) (by decide) rfl rfl (g := (mkF m 11 #[.val (.ref a1), .val (.int (1 : Int32)), .val (.ref a3), .val .null] [(.ref a3), (.ref a1)])) rfl rfl (hb hby d_prog_28_method_1_11)
  refine go stt8 ?_
  have N9 := Fr.snoc Xt8 N5 fr1
  replace F_system := F_system.same Wt8
  replace E1 := E1.wr Wt8
  replace F_admin := F_admin.other Wt8 (Or.inr (slot_ne (Or.inr (hw _ (List.mem_of_getElem? (i := 19) rfl))) (Or.inr (hw _ (List.mem_of_getElem? (i := 21) rfl))) (by decide) (t := .boolean) (by decide) (t' := (.object "java/lang/String")) (by decide)))
  replace F_user := F_user.other Wt8 (Or.inr (slot_ne (Or.inr (hw _ (List.mem_of_getElem? (i := 23) rfl))) (Or.inr (hw _ (List.mem_of_getElem? (i := 21) rfl))) (by decide) (t := (.object "java/lang/String")) (by decide) (t' := (.object "java/lang/String")) (by decide)))
  have O10 : Ext Z.heap ht8 := extW O6 Wt8 fr1
  have K11 := K7.wr Wt8 (Or.inl (by simp))
  show Goes p e below _ (Tt8.setTop (mkF m 14 #[.val (.ref a1), .val (.int (1 : Int32)), .val (.ref a3), .val .null] []))
  refine gAloadN Xt8 hx (hb hby d_prog_28_method_1_14) rfl rfl ?_
  refine gAloadN Xt8 hx (hb hby d_prog_28_method_1_15) rfl rfl ?_
  obtain ⟨Tt12, ht12, Xt12, et12, Wt12, stt12⟩ := putF Xt8 hx hZ hown (host := "") (Or.inl (hw _ (List.mem_of_getElem? (i := 22) rfl))) Via.refl et8 F_user E1 (Or.inr ⟨(hw _ (List.mem_of_getElem? (i := 23) rfl)), rfl, hnm⟩) (hw _ (List.mem_of_getElem? (i := 5) rfl)) (ty := (.object "java/lang/String")) (by decide) rfl rfl (g := (mkF m 16 #[.val (.ref a1), .val (.int (1 : Int32)), .val (.ref a3), .val .null] [.null, (.ref a1)])) rfl rfl (hb hby d_prog_28_method_1_16)
  refine go stt12 ?_
  have N13 := Fr.snoc Xt12 N9 fr1
  replace F_user := F_user.same Wt12
  replace E1 := E1.wr Wt12
  replace F_admin := F_admin.other Wt12 (Or.inr (slot_ne (Or.inr (hw _ (List.mem_of_getElem? (i := 19) rfl))) (Or.inr (hw _ (List.mem_of_getElem? (i := 23) rfl))) (by decide) (t := .boolean) (by decide) (t' := (.object "java/lang/String")) (by decide)))
  replace F_system := F_system.other Wt12 (Or.inr (slot_ne (Or.inr (hw _ (List.mem_of_getElem? (i := 21) rfl))) (Or.inr (hw _ (List.mem_of_getElem? (i := 23) rfl))) (by decide) (t := (.object "java/lang/String")) (by decide) (t' := (.object "java/lang/String")) (by decide)))
  have O14 : Ext Z.heap ht12 := extW O10 Wt12 fr1
  have K15 := K11.wr Wt12 (Or.inl (by simp))
  show Goes p e below _ (Tt12.setTop (mkF m 19 #[.val (.ref a1), .val (.int (1 : Int32)), .val (.ref a3), .val .null] []))
  exact goRet0 Xt12 hx hret hlocks (hb hby d_prog_28_method_1_19) (by decide) (by decide) et12 (⟨rfl, N13, K15, F_admin⟩)
theorem ef_rmCAA (m : MethodId) (x0 : Addr) (x1 : Int32) (x2 : Addr) (x3 : Addr) : entryFrame m #[(.ref x0), (.int x1), (.ref x2), (.ref x3)] 4 = mkF m 0 #[.val (.ref x0), .val (.int x1), .val (.ref x2), .val (.ref x3)] [] := by first | (simp [entryFrame, mkF, argsToLocals, Value.category]; done) | rfl
set_option maxRecDepth 65536 in
set_option maxHeartbeats 40000000 in
theorem rmCAA (l : Launch) (Z : State) (a0 : Array Value) (hw : ∀ d ∈ tables_1, d.before a0 Z = true)  (a1 : Addr) (a3 : Addr) (a4 : Addr) (h0 : Heap) (O0 : Ext Z.heap h0) (E1 : Exa Z h0 a1 "com/example/ambit/ambit/server/Caller") (F_admin : Fld Z h0 a1 "com/example/ambit/ambit/server/Caller" "admin" "Z" (.int (0 : Int32))) (F_system : Fld Z h0 a1 "com/example/ambit/ambit/server/Caller" "system" "Ljava/lang/String;" .null) (F_user : Fld Z h0 a1 "com/example/ambit/ambit/server/Caller" "user" "Ljava/lang/String;" .null) (fr1 : Z.heap.size ≤ a1) :
    Ctr l Z (⟨"com/example/ambit/ambit/server/Caller", "<init>", "(ZLjava/lang/String;Ljava/lang/String;)V"⟩ : MethodName) prog_28_method_1_code 4 none [] ({ frames := 2, cells := 0, slots := 0, locals := 24 } : Room) #[(.ref a1), (.int (1 : Int32)), (.ref a3), (.ref a4)] h0 (fun v h L => v = none ∧ Fr Z.heap.size L ∧ Keep h0 h [a1] ∧ Fld Z h a1 "com/example/ambit/ambit/server/Caller" "admin" "Z" (.int (1 : Int32))) := by
  refine ctr (plainFor_of_name pn_4) ?_
  intro p e s m below meth c s₁ hx hby hml hown hnm hret hlocks hZ X0 e0
  have N0 := Fr.nil Z.heap.size
  have hsz : ∀ {Ls : Array Slot}, Ls.size = 4 → Ls.size = c.maxLocals := fun q => q.trans hml.symm
  have K0 := Keep.refl h0 [a1]
  refine goE (ef_rmCAA m (a1) ((1 : Int32)) (a3) (a4)) ?_
  show Goes p e below _ (s₁.setTop (mkF m 0 #[.val (.ref a1), .val (.int (1 : Int32)), .val (.ref a3), .val (.ref a4)] []))
  refine gAloadN X0 hx (hb hby d_prog_28_method_1_0) rfl rfl ?_
  refine goCallI X0 hx hZ rfl hown (hw _ (List.mem_of_getElem? (i := 10) rfl)) (hw _ (List.mem_of_getElem? (i := 11) rfl)) (hw _ (List.mem_of_getElem? (i := 13) rfl)) (hw _ (List.mem_of_getElem? (i := 14) rfl)) (by decide) (rmR l Z a0 hw a1 h0 O0) 0 (by decide) (by decide) e0 (hsz rfl) a1 [] [] pd_7 rfl rfl rfl (Nat.le_of_eq rfl) (hb hby d_prog_28_method_1_1) (by decide) (by decide) (fun Tt1 vt1 Lt1 Xt1 qt1 => ?_)
  obtain ⟨rfl, N2, et1⟩ := qt1
  have N3 := Fr.app N0 N2
  show Goes p e below _ (Tt1.setTop (mkF m 4 #[.val (.ref a1), .val (.int (1 : Int32)), .val (.ref a3), .val (.ref a4)] []))
  refine gAloadN Xt1 hx (hb hby d_prog_28_method_1_4) rfl rfl ?_
  refine gIloadN Xt1 hx (hb hby d_prog_28_method_1_5) rfl ?_
  obtain ⟨Tt4, ht4, Xt4, et4, Wt4, stt4⟩ := putF Xt1 hx hZ hown (host := "") (Or.inl (hw _ (List.mem_of_getElem? (i := 18) rfl))) Via.refl et1 F_admin E1 (Or.inr ⟨(hw _ (List.mem_of_getElem? (i := 19) rfl)), rfl, hnm⟩) (hw _ (List.mem_of_getElem? (i := 5) rfl)) (ty := .boolean) (by decide) rfl rfl (g := (mkF m 6 #[.val (.ref a1), .val (.int (1 : Int32)), .val (.ref a3), .val (.ref a4)] [(.int (1 : Int32)), (.ref a1)])) rfl rfl (hb hby d_prog_28_method_1_6)
  refine go stt4 ?_
  have N5 := Fr.snoc Xt4 N3 fr1
  replace F_admin := F_admin.same Wt4
  replace E1 := E1.wr Wt4
  replace F_system := F_system.other Wt4 (Or.inr (slot_ne (Or.inr (hw _ (List.mem_of_getElem? (i := 21) rfl))) (Or.inr (hw _ (List.mem_of_getElem? (i := 19) rfl))) (by decide) (t := (.object "java/lang/String")) (by decide) (t' := .boolean) (by decide)))
  replace F_user := F_user.other Wt4 (Or.inr (slot_ne (Or.inr (hw _ (List.mem_of_getElem? (i := 23) rfl))) (Or.inr (hw _ (List.mem_of_getElem? (i := 19) rfl))) (by decide) (t := (.object "java/lang/String")) (by decide) (t' := .boolean) (by decide)))
  have O6 : Ext Z.heap ht4 := extW O0 Wt4 fr1
  have K7 := K0.wr Wt4 (Or.inl (by simp))
  show Goes p e below _ (Tt4.setTop (mkF m 9 #[.val (.ref a1), .val (.int (1 : Int32)), .val (.ref a3), .val (.ref a4)] []))
  refine gAloadN Xt4 hx (hb hby d_prog_28_method_1_9) rfl rfl ?_
  refine gAloadN Xt4 hx (hb hby d_prog_28_method_1_10) rfl rfl ?_
  obtain ⟨Tt8, ht8, Xt8, et8, Wt8, stt8⟩ := putF Xt4 hx hZ hown (host := "") (Or.inl (hw _ (List.mem_of_getElem? (i := 20) rfl))) Via.refl et4 F_system E1 (Or.inr ⟨(hw _ (List.mem_of_getElem? (i := 21) rfl)), rfl, hnm⟩) (hw _ (List.mem_of_getElem? (i := 5) rfl)) (ty := (.object "java/lang/String")) (by decide) rfl rfl (g := (mkF m 11 #[.val (.ref a1), .val (.int (1 : Int32)), .val (.ref a3), .val (.ref a4)] [(.ref a3), (.ref a1)])) rfl rfl (hb hby d_prog_28_method_1_11)
  refine go stt8 ?_
  have N9 := Fr.snoc Xt8 N5 fr1
  replace F_system := F_system.same Wt8
  replace E1 := E1.wr Wt8
  replace F_admin := F_admin.other Wt8 (Or.inr (slot_ne (Or.inr (hw _ (List.mem_of_getElem? (i := 19) rfl))) (Or.inr (hw _ (List.mem_of_getElem? (i := 21) rfl))) (by decide) (t := .boolean) (by decide) (t' := (.object "java/lang/String")) (by decide)))
  replace F_user := F_user.other Wt8 (Or.inr (slot_ne (Or.inr (hw _ (List.mem_of_getElem? (i := 23) rfl))) (Or.inr (hw _ (List.mem_of_getElem? (i := 21) rfl))) (by decide) (t := (.object "java/lang/String")) (by decide) (t' := (.object "java/lang/String")) (by decide)))
  have O10 : Ext Z.heap ht8 := extW O6 Wt8 fr1
  have K11 := K7.wr Wt8 (Or.inl (by simp))
  show Goes p e below _ (Tt8.setTop (mkF m 14 #[.val (.ref a1), .val (.int (1 : Int32)), .val (.ref a3), .val (.ref a4)] []))
  refine gAloadN Xt8 hx (hb hby d_prog_28_method_1_14) rfl rfl ?_
  refine gAloadN Xt8 hx (hb hby d_prog_28_method_1_15) rfl rfl ?_
  obtain ⟨Tt12, ht12, Xt12, et12, Wt12, stt12⟩ := putF Xt8 hx hZ hown (host := "") (Or.inl (hw _ (List.mem_of_getElem? (i := 22) rfl))) Via.refl et8 F_user E1 (Or.inr ⟨(hw _ (List.mem_of_getElem? (i := 23) rfl)), rfl, hnm⟩) (hw _ (List.mem_of_getElem? (i := 5) rfl)) (ty := (.object "java/lang/String")) (by decide) rfl rfl (g := (mkF m 16 #[.val (.ref a1), .val (.int (1 : Int32)), .val (.ref a3), .val (.ref a4)] [(.ref a4), (.ref a1)])) rfl rfl (hb hby d_prog_28_method_1_16)
  refine go stt12 ?_
  have N13 := Fr.snoc Xt12 N9 fr1
  replace F_user := F_user.same Wt12
  replace E1 := E1.wr Wt12
  replace F_admin := F_admin.other Wt12 (Or.inr (slot_ne (Or.inr (hw _ (List.mem_of_getElem? (i := 19) rfl))) (Or.inr (hw _ (List.mem_of_getElem? (i := 23) rfl))) (by decide) (t := .boolean) (by decide) (t' := (.object "java/lang/String")) (by decide)))
  replace F_system := F_system.other Wt12 (Or.inr (slot_ne (Or.inr (hw _ (List.mem_of_getElem? (i := 21) rfl))) (Or.inr (hw _ (List.mem_of_getElem? (i := 23) rfl))) (by decide) (t := (.object "java/lang/String")) (by decide) (t' := (.object "java/lang/String")) (by decide)))
  have O14 : Ext Z.heap ht12 := extW O10 Wt12 fr1
  have K15 := K11.wr Wt12 (Or.inl (by simp))
  show Goes p e below _ (Tt12.setTop (mkF m 19 #[.val (.ref a1), .val (.int (1 : Int32)), .val (.ref a3), .val (.ref a4)] []))
  exact goRet0 Xt12 hx hret hlocks (hb hby d_prog_28_method_1_19) (by decide) (by decide) et12 (⟨rfl, N13, K15, F_admin⟩)
theorem d_prog_28_method_5_0 : decode prog_28_method_5_code 0 = .ok (.aload_n 0, 1) := by decide +kernel
theorem d_prog_28_method_5_1 : decode prog_28_method_5_code 1 = .ok (.getfield 7, 3) := by decide +kernel
theorem d_prog_28_method_5_4 : decode prog_28_method_5_code 4 = .ok (.ifCond .ne 9, 3) := by decide +kernel
theorem d_prog_28_method_5_13 : decode prog_28_method_5_code 13 = .ok (.return_, 1) := by decide +kernel
theorem ef_rmQ (m : MethodId) (x0 : Addr) : entryFrame m #[(.ref x0)] 1 = mkF m 0 #[.val (.ref x0)] [] := by first | (simp [entryFrame, mkF, argsToLocals, Value.category]; done) | rfl
set_option maxRecDepth 65536 in
set_option maxHeartbeats 40000000 in
theorem rmQ (l : Launch) (Z : State) (a0 : Array Value) (hw : ∀ d ∈ tables_1, d.before a0 Z = true)  (a1 : Addr) (h0 : Heap) (O0 : Ext Z.heap h0) (F1 : Fld Z h0 a1 "com/example/ambit/ambit/server/Caller" "admin" "Z" (.int (1 : Int32))) :
    Ctr l Z (⟨"com/example/ambit/ambit/server/Caller", "requireAdmin", "()V"⟩ : MethodName) prog_28_method_5_code 1 none [] ({ frames := 0, cells := 0, slots := 0, locals := 0 } : Room) #[(.ref a1)] h0 (fun v h L => v = none ∧ Fr Z.heap.size L ∧ h = h0) := by
  refine ctr (plainFor_of_name pn_4) ?_
  intro p e s m below meth c s₁ hx hby hml hown hnm hret hlocks hZ X0 e0
  have N0 := Fr.nil Z.heap.size
  have hsz : ∀ {Ls : Array Slot}, Ls.size = 1 → Ls.size = c.maxLocals := fun q => q.trans hml.symm
  refine goE (ef_rmQ m (a1)) ?_
  show Goes p e below _ (s₁.setTop (mkF m 0 #[.val (.ref a1)] []))
  refine gAloadN X0 hx (hb hby d_prog_28_method_5_0) rfl rfl ?_
  obtain ⟨Tt1, Xt1, et1, stt1⟩ := getF X0 hx hZ hown (host := "") (Or.inl (hw _ (List.mem_of_getElem? (i := 18) rfl))) Via.refl e0 F1 (g := (mkF m 1 #[.val (.ref a1)] [(.ref a1)])) rfl rfl (hb hby d_prog_28_method_5_1)
  refine go stt1 ?_
  show Goes p e below _ (Tt1.setTop (mkF m 4 #[.val (.ref a1)] [(.int (1 : Int32))]))
  refine gIfY Xt1 hx (hb hby d_prog_28_method_5_4) (pc' := 13) (XT.i0_ne_t (by decide)) (by decide) (by decide) ?_
  show Goes p e below _ (Tt1.setTop (mkF m 13 #[.val (.ref a1)] []))
  exact goRet0 Xt1 hx hret hlocks (hb hby d_prog_28_method_5_13) (by decide) (by decide) et1 (⟨rfl, N0, rfl⟩)
theorem d_prog_28_method_10_0 : decode prog_28_method_10_code 0 = .ok (.aload_n 0, 1) := by decide +kernel
theorem d_prog_28_method_10_1 : decode prog_28_method_10_code 1 = .ok (.getfield 7, 3) := by decide +kernel
theorem d_prog_28_method_10_4 : decode prog_28_method_10_code 4 = .ok (.ireturn, 1) := by decide +kernel
theorem ef_rmA (m : MethodId) (x0 : Addr) : entryFrame m #[(.ref x0)] 1 = mkF m 0 #[.val (.ref x0)] [] := by first | (simp [entryFrame, mkF, argsToLocals, Value.category]; done) | rfl
set_option maxRecDepth 65536 in
set_option maxHeartbeats 40000000 in
theorem rmA (l : Launch) (Z : State) (a0 : Array Value) (hw : ∀ d ∈ tables_1, d.before a0 Z = true)  (a1 : Addr) (h0 : Heap) (O0 : Ext Z.heap h0) (F1 : Fld Z h0 a1 "com/example/ambit/ambit/server/Caller" "admin" "Z" (.int (1 : Int32))) :
    Ctr l Z (⟨"com/example/ambit/ambit/server/Caller", "admin", "()Z"⟩ : MethodName) prog_28_method_10_code 1 (some .boolean) [] ({ frames := 0, cells := 0, slots := 0, locals := 0 } : Room) #[(.ref a1)] h0 (fun v h L => v = some (.int 1) ∧ Fr Z.heap.size L ∧ h = h0) := by
  refine ctr (plainFor_of_name pn_4) ?_
  intro p e s m below meth c s₁ hx hby hml hown hnm hret hlocks hZ X0 e0
  have N0 := Fr.nil Z.heap.size
  have hsz : ∀ {Ls : Array Slot}, Ls.size = 1 → Ls.size = c.maxLocals := fun q => q.trans hml.symm
  refine goE (ef_rmA m (a1)) ?_
  show Goes p e below _ (s₁.setTop (mkF m 0 #[.val (.ref a1)] []))
  refine gAloadN X0 hx (hb hby d_prog_28_method_10_0) rfl rfl ?_
  obtain ⟨Tt1, Xt1, et1, stt1⟩ := getF X0 hx hZ hown (host := "") (Or.inl (hw _ (List.mem_of_getElem? (i := 18) rfl))) Via.refl e0 F1 (g := (mkF m 1 #[.val (.ref a1)] [(.ref a1)])) rfl rfl (hb hby d_prog_28_method_10_1)
  refine go stt1 ?_
  show Goes p e below _ (Tt1.setTop (mkF m 4 #[.val (.ref a1)] [(.int (1 : Int32))]))
  exact goRetN Xt1 hx (t := .boolean) hret hlocks (by simp) (hb hby d_prog_28_method_10_4) (z' := (1 : Int32)) rfl (by decide) (by decide) et1 (⟨rfl, N0, rfl⟩)
theorem d_method_2_0 : decode method_2_code 0 = .ok (.iload_n 0, 1) := by decide +kernel
theorem d_method_2_1 : decode method_2_code 1 = .ok (.iconst 1, 1) := by decide +kernel
theorem d_method_2_2 : decode method_2_code 2 = .ok (.iand, 1) := by decide +kernel
theorem d_method_2_3 : decode method_2_code 3 = .ok (.ifCond .ne 5, 3) := by decide +kernel
theorem d_method_2_6 : decode method_2_code 6 = .ok (.aconst_null, 1) := by decide +kernel
theorem d_method_2_7 : decode method_2_code 7 = .ok (.areturn, 1) := by decide +kernel
theorem d_method_2_8 : decode method_2_code 8 = .ok (.iload_n 0, 1) := by decide +kernel
theorem d_method_2_9 : decode method_2_code 9 = .ok (.iconst 1, 1) := by decide +kernel
theorem d_method_2_10 : decode method_2_code 10 = .ok (.iushr, 1) := by decide +kernel
theorem d_method_2_11 : decode method_2_code 11 = .ok (.iconst 3, 1) := by decide +kernel
theorem d_method_2_12 : decode method_2_code 12 = .ok (.iand, 1) := by decide +kernel
theorem d_method_2_13 : decode method_2_code 13 = .ok (.istore_n 2, 1) := by decide +kernel
theorem d_method_2_14 : decode method_2_code 14 = .ok (.iload_n 2, 1) := by decide +kernel
theorem d_method_2_15 : decode method_2_code 15 = .ok (.ifCond .ne 14, 3) := by decide +kernel
theorem d_method_2_18 : decode method_2_code 18 = .ok (.new 7, 3) := by decide +kernel
theorem d_method_2_21 : decode method_2_code 21 = .ok (.dup, 1) := by decide +kernel
theorem d_method_2_22 : decode method_2_code 22 = .ok (.iconst 0, 1) := by decide +kernel
theorem d_method_2_23 : decode method_2_code 23 = .ok (.newarray .char, 2) := by decide +kernel
theorem pd_8 : parseMethodDescriptor "([C)V" = some ⟨[(.array .char)], none⟩ := by decide +kernel
theorem d_method_2_25 : decode method_2_code 25 = .ok (.invokespecial 9, 3) := by decide +kernel
theorem d_method_2_28 : decode method_2_code 28 = .ok (.areturn, 1) := by decide +kernel
theorem d_method_2_29 : decode method_2_code 29 = .ok (.iload_n 2, 1) := by decide +kernel
theorem d_method_2_30 : decode method_2_code 30 = .ok (.iconst 1, 1) := by decide +kernel
theorem d_method_2_31 : decode method_2_code 31 = .ok (.if_icmp .ne 13, 3) := by decide +kernel
theorem d_method_2_34 : decode method_2_code 34 = .ok (.iload_n 1, 1) := by decide +kernel
theorem d_method_2_35 : decode method_2_code 35 = .ok (.sipush 255, 3) := by decide +kernel
theorem d_method_2_38 : decode method_2_code 38 = .ok (.iand, 1) := by decide +kernel
theorem d_method_2_39 : decode method_2_code 39 = .ok (.i2c, 1) := by decide +kernel
theorem pd_9 : parseMethodDescriptor "(C)Ljava/lang/String;" = some ⟨[.char], some (.object "java/lang/String")⟩ := by decide +kernel
theorem d_method_2_40 : decode method_2_code 40 = .ok (.invokestatic 12, 3) := by decide +kernel
theorem d_method_2_43 : decode method_2_code 43 = .ok (.areturn, 1) := by decide +kernel
theorem d_method_2_44 : decode method_2_code 44 = .ok (.iload_n 2, 1) := by decide +kernel
theorem d_method_2_45 : decode method_2_code 45 = .ok (.iconst 2, 1) := by decide +kernel
theorem d_method_2_46 : decode method_2_code 46 = .ok (.if_icmp .ne 37, 3) := by decide +kernel
theorem d_method_2_49 : decode method_2_code 49 = .ok (.iconst 2, 1) := by decide +kernel
theorem d_method_2_50 : decode method_2_code 50 = .ok (.newarray .char, 2) := by decide +kernel
theorem d_method_2_52 : decode method_2_code 52 = .ok (.astore_n 3, 1) := by decide +kernel
theorem d_method_2_53 : decode method_2_code 53 = .ok (.aload_n 3, 1) := by decide +kernel
theorem d_method_2_54 : decode method_2_code 54 = .ok (.iconst 0, 1) := by decide +kernel
theorem d_method_2_55 : decode method_2_code 55 = .ok (.iload_n 1, 1) := by decide +kernel
theorem d_method_2_56 : decode method_2_code 56 = .ok (.sipush 255, 3) := by decide +kernel
theorem d_method_2_59 : decode method_2_code 59 = .ok (.iand, 1) := by decide +kernel
theorem d_method_2_60 : decode method_2_code 60 = .ok (.i2c, 1) := by decide +kernel
theorem d_method_2_61 : decode method_2_code 61 = .ok (.castore, 1) := by decide +kernel
theorem d_method_2_62 : decode method_2_code 62 = .ok (.aload_n 3, 1) := by decide +kernel
theorem d_method_2_63 : decode method_2_code 63 = .ok (.iconst 1, 1) := by decide +kernel
theorem d_method_2_64 : decode method_2_code 64 = .ok (.iload_n 1, 1) := by decide +kernel
theorem d_method_2_65 : decode method_2_code 65 = .ok (.bipush 8, 2) := by decide +kernel
theorem d_method_2_67 : decode method_2_code 67 = .ok (.iushr, 1) := by decide +kernel
theorem d_method_2_68 : decode method_2_code 68 = .ok (.sipush 255, 3) := by decide +kernel
theorem d_method_2_71 : decode method_2_code 71 = .ok (.iand, 1) := by decide +kernel
theorem d_method_2_72 : decode method_2_code 72 = .ok (.i2c, 1) := by decide +kernel
theorem d_method_2_73 : decode method_2_code 73 = .ok (.castore, 1) := by decide +kernel
theorem d_method_2_74 : decode method_2_code 74 = .ok (.new 7, 3) := by decide +kernel
theorem d_method_2_77 : decode method_2_code 77 = .ok (.dup, 1) := by decide +kernel
theorem d_method_2_78 : decode method_2_code 78 = .ok (.aload_n 3, 1) := by decide +kernel
theorem d_method_2_79 : decode method_2_code 79 = .ok (.invokespecial 9, 3) := by decide +kernel
theorem d_method_2_82 : decode method_2_code 82 = .ok (.areturn, 1) := by decide +kernel
theorem d_method_2_83 : decode method_2_code 83 = .ok (.iconst 3, 1) := by decide +kernel
theorem d_method_2_84 : decode method_2_code 84 = .ok (.newarray .char, 2) := by decide +kernel
theorem d_method_2_86 : decode method_2_code 86 = .ok (.astore_n 3, 1) := by decide +kernel
theorem d_method_2_87 : decode method_2_code 87 = .ok (.aload_n 3, 1) := by decide +kernel
theorem d_method_2_88 : decode method_2_code 88 = .ok (.iconst 0, 1) := by decide +kernel
theorem d_method_2_89 : decode method_2_code 89 = .ok (.iload_n 1, 1) := by decide +kernel
theorem d_method_2_90 : decode method_2_code 90 = .ok (.sipush 255, 3) := by decide +kernel
theorem d_method_2_93 : decode method_2_code 93 = .ok (.iand, 1) := by decide +kernel
theorem d_method_2_94 : decode method_2_code 94 = .ok (.i2c, 1) := by decide +kernel
theorem d_method_2_95 : decode method_2_code 95 = .ok (.castore, 1) := by decide +kernel
theorem d_method_2_96 : decode method_2_code 96 = .ok (.aload_n 3, 1) := by decide +kernel
theorem d_method_2_97 : decode method_2_code 97 = .ok (.iconst 1, 1) := by decide +kernel
theorem d_method_2_98 : decode method_2_code 98 = .ok (.iload_n 1, 1) := by decide +kernel
theorem d_method_2_99 : decode method_2_code 99 = .ok (.bipush 8, 2) := by decide +kernel
theorem d_method_2_101 : decode method_2_code 101 = .ok (.iushr, 1) := by decide +kernel
theorem d_method_2_102 : decode method_2_code 102 = .ok (.sipush 255, 3) := by decide +kernel
theorem d_method_2_105 : decode method_2_code 105 = .ok (.iand, 1) := by decide +kernel
theorem d_method_2_106 : decode method_2_code 106 = .ok (.i2c, 1) := by decide +kernel
theorem d_method_2_107 : decode method_2_code 107 = .ok (.castore, 1) := by decide +kernel
theorem d_method_2_108 : decode method_2_code 108 = .ok (.aload_n 3, 1) := by decide +kernel
theorem d_method_2_109 : decode method_2_code 109 = .ok (.iconst 2, 1) := by decide +kernel
theorem d_method_2_110 : decode method_2_code 110 = .ok (.iload_n 1, 1) := by decide +kernel
theorem d_method_2_111 : decode method_2_code 111 = .ok (.bipush 16, 2) := by decide +kernel
theorem d_method_2_113 : decode method_2_code 113 = .ok (.iushr, 1) := by decide +kernel
theorem d_method_2_114 : decode method_2_code 114 = .ok (.sipush 255, 3) := by decide +kernel
theorem d_method_2_117 : decode method_2_code 117 = .ok (.iand, 1) := by decide +kernel
theorem d_method_2_118 : decode method_2_code 118 = .ok (.i2c, 1) := by decide +kernel
theorem d_method_2_119 : decode method_2_code 119 = .ok (.castore, 1) := by decide +kernel
theorem d_method_2_120 : decode method_2_code 120 = .ok (.new 7, 3) := by decide +kernel
theorem d_method_2_123 : decode method_2_code 123 = .ok (.dup, 1) := by decide +kernel
theorem d_method_2_124 : decode method_2_code 124 = .ok (.aload_n 3, 1) := by decide +kernel
theorem d_method_2_125 : decode method_2_code 125 = .ok (.invokespecial 9, 3) := by decide +kernel
theorem d_method_2_128 : decode method_2_code 128 = .ok (.areturn, 1) := by decide +kernel
theorem pn_5 : plainName "com/example/ambit/ambit/server/CallerRequireAdminPinLaw" = true := by first | (simp [plainName, overriddenIn]; done) | decide +kernel
theorem ef_rmD (m : MethodId) (x0 : Int32) (x1 : Int32) : entryFrame m #[(.int x0), (.int x1)] 4 = mkF m 0 #[.val (.int x0), .val (.int x1), .unset, .unset] [] := by first | (simp [entryFrame, mkF, argsToLocals, Value.category]; done) | rfl
set_option maxRecDepth 65536 in
set_option maxHeartbeats 40000000 in
theorem rmD (l : Launch) (Z : State) (a0 : Array Value) (hw : ∀ d ∈ tables_1, d.before a0 Z = true) (cs : Int32) (p1 : Int32) (p2 : Int32) (h0 : Heap) (O0 : Ext Z.heap h0) (S_cs : Sta Z Z.heap "java/lang/String" "COMPACT_STRINGS" "Z" (.int cs)) (hcs : ¬ cs = 0) (hh : Jvm.Lit.constHeld Z "java/lang/String" 7) (hcw : Jvm.Lit.compactW.before a0 Z = true) :
    CtrW l Z (⟨"com/example/ambit/ambit/server/CallerRequireAdminPinLaw", "drawn", "(II)Ljava/lang/String;"⟩ : MethodName) method_2_code 4 (some (.object "java/lang/String")) [] ({ frames := 4, cells := 4, slots := 16, locals := 100 } : Room) #[(.int p1), (.int p2)] h0 (fun vm => own_Es Z h0 vm) (fun v h L vm => ∃ r : Value, v = some r ∧ Fr Z.heap.size L ∧ Keep h0 h [] ∧ r.isRef = true ∧ own_Es Z h vm) := by
  refine ctrW (plainFor_of_name pn_5) ?_
  intro p e s m below meth c s₁ vm0 hx hby hml hown hnm hret hlocks hZ X0 e0 hS hh0 hPv
  have N0 := Fr.nil Z.heap.size
  have hsz : ∀ {Ls : Array Slot}, Ls.size = 4 → Ls.size = c.maxLocals := fun q => q.trans hml.symm
  have K0 := Keep.refl h0 []
  refine goE (ef_rmD m (p1) (p2)) ?_
  show Goes p e below _ (s₁.setTop (mkF m 0 #[.val (.int p1), .val (.int p2), .unset, .unset] []))
  refine gIloadN X0 hx (hb hby d_method_2_0) rfl ?_
  refine gIconst X0 hx (hb hby d_method_2_1) (v := (1 : Int32)) rfl ?_
  refine gIand X0 hx (hb hby d_method_2_2) ?_
  by_cases g0 : (p1 &&& (1 : Int32)) = 0
  · refine gIfN X0 hx (hb hby d_method_2_3) (XT.i0_ne_f g0) ?_
    show Goes p e below _ (s₁.setTop (mkF m 6 #[.val (.int p1), .val (.int p2), .unset, .unset] []))
    refine gAnull X0 hx (hb hby d_method_2_6) ?_
    exact goRetAW X0 hx hS hret hlocks rfl rfl (hb hby d_method_2_7) (by decide) (by decide) e0 (⟨_, rfl, N0, K0, rfl, ((hPv.keep K0).warm X0.warmed)⟩)
  · refine gIfY X0 hx (hb hby d_method_2_3) (pc' := 8) (XT.i0_ne_t g0) (by decide) (by decide) ?_
    show Goes p e below _ (s₁.setTop (mkF m 8 #[.val (.int p1), .val (.int p2), .unset, .unset] []))
    refine gIloadN X0 hx (hb hby d_method_2_8) rfl ?_
    refine gIconst X0 hx (hb hby d_method_2_9) (v := (1 : Int32)) rfl ?_
    refine gIushr X0 hx (hb hby d_method_2_10) ?_
    refine gIconst X0 hx (hb hby d_method_2_11) (v := (3 : Int32)) rfl ?_
    refine gIand X0 hx (hb hby d_method_2_12) ?_
    refine gIstoreN X0 hx (hb hby d_method_2_13) (l' := #[.val (.int p1), .val (.int p2), .val (.int ((XT.ushr p1 (1 : Int32)) &&& (3 : Int32))), .unset]) rfl ?_
    refine gIloadN X0 hx (hb hby d_method_2_14) rfl ?_
    show Goes p e below _ (s₁.setTop (mkF m 15 #[.val (.int p1), .val (.int p2), .val (.int ((XT.ushr p1 (1 : Int32)) &&& (3 : Int32))), .unset] [(.int ((XT.ushr p1 (1 : Int32)) &&& (3 : Int32)))]))
    by_cases g1 : ((XT.ushr p1 (1 : Int32)) &&& (3 : Int32)) = 0
    · refine gIfN X0 hx (hb hby d_method_2_15) (XT.i0_ne_f g1) ?_
      show Goes p e below _ (s₁.setTop (mkF m 18 #[.val (.int p1), .val (.int p2), .val (.int ((XT.ushr p1 (1 : Int32)) &&& (3 : Int32))), .unset] []))
      obtain ⟨Tt1, ht1, Xt1, et1, Et1, At1, Dt1, -, stt1⟩ := newO X0 hx hZ hown (hw _ (List.mem_of_getElem? (i := 34) rfl)) (hw _ (List.mem_of_getElem? (i := 35) rfl)) (hw _ (List.mem_of_getElem? (i := 36) rfl)) e0 (g := (mkF m 18 #[.val (.int p1), .val (.int p2), .val (.int ((XT.ushr p1 (1 : Int32)) &&& (3 : Int32))), .unset] [])) rfl (hb hby d_method_2_18) (by decide) (by decide)
      obtain ⟨ob2, gob2⟩ : ∃ z, z = h0.size := ⟨_, rfl⟩
      rw [← gob2] at At1 Dt1 stt1
      refine go stt1 ?_
      have fr_ob2 : Z.heap.size ≤ ob2 := gob2 ▸ O0.1
      have pa_ob2 : h0.size ≤ ob2 := gob2 ▸ K0.1
      have O3 : Ext Z.heap ht1 := extT O0 Et1
      replace hS := hS.ext Et1
      have K4 := K0.ext Et1
      have F_value_ob2 : Fld Z ht1 ob2 "java/lang/String" "value" "[B" .null := Dt1 (Or.inr (hw _ (List.mem_of_getElem? (i := 48) rfl))) (ty := (.array .byte)) (by decide)
      have F_coder_ob2 : Fld Z ht1 ob2 "java/lang/String" "coder" "B" (.int (0 : Int32)) := Dt1 (Or.inr (hw _ (List.mem_of_getElem? (i := 49) rfl))) (ty := .byte) (by decide)
      show Goes p e below _ (Tt1.setTop (mkF m 21 #[.val (.int p1), .val (.int p2), .val (.int ((XT.ushr p1 (1 : Int32)) &&& (3 : Int32))), .unset] [(.ref ob2)]))
      refine gDup Xt1 hx (hb hby d_method_2_21) rfl ?_
      refine gIconst Xt1 hx (hb hby d_method_2_22) (v := (0 : Int32)) rfl ?_
      obtain ⟨Tt5, ht5, kt5, Xt5, et5, Et5, At5, stt5⟩ := newP Xt1 hx hZ (hw _ (List.mem_of_getElem? (i := 37) rfl)) et1 (g := (mkF m 23 #[.val (.int p1), .val (.int p2), .val (.int ((XT.ushr p1 (1 : Int32)) &&& (3 : Int32))), .unset] [(.int (0 : Int32)), (.ref ob2), (.ref ob2)])) rfl (hb hby d_method_2_23) rfl (by decide) (cap := 0) (by decide) (by decide) (by decide) (by decide)
      obtain ⟨ob6, gob6⟩ : ∃ z, z = ht1.size := ⟨_, rfl⟩
      rw [← gob6] at At5 stt5
      refine go stt5 ?_
      have ne_ob2_ob6 : ob2 ≠ ob6 := Nat.ne_of_lt (gob6 ▸ At1.lt)
      have fr_ob6 : Z.heap.size ≤ ob6 := gob6 ▸ O3.1
      have pa_ob6 : h0.size ≤ ob6 := gob6 ▸ K4.1
      replace At1 := At1.ext Et5
      replace F_value_ob2 := F_value_ob2.ext Et5
      replace F_coder_ob2 := F_coder_ob2.ext Et5
      have O7 : Ext Z.heap ht5 := extT O3 Et5
      replace hS := hS.ext Et5
      have K8 := K4.ext Et5
      have Y_ob6 : Ary Z ht5 ob6 .char [] := Ary.new At5 rfl (by decide)
      show Goes p e below _ (Tt5.setTop (mkF m 25 #[.val (.int p1), .val (.int p2), .val (.int ((XT.ushr p1 (1 : Int32)) &&& (3 : Int32))), .unset] [(.ref ob6), (.ref ob2), (.ref ob2)]))
      refine goCallIW Xt5 hx hZ hS rfl hown (hw _ (List.mem_of_getElem? (i := 38) rfl)) (hw _ (List.mem_of_getElem? (i := 39) rfl)) (hw _ (List.mem_of_getElem? (i := 36) rfl)) (hw _ (List.mem_of_getElem? (i := 40) rfl)) (by decide) (rmS0 l Z a0 hw ob2 ob6 ht5 O7 hh hcw At1 F_value_ob2 F_coder_ob2 Y_ob6 ne_ob2_ob6 fr_ob2) (fun _ w_ => (hPv.keep K8).warm w_) 1 (by decide) (by decide) et5 (hsz rfl) ob2 [(.ref ob6)] [(.ref ob2)] pd_8 rfl rfl rfl (Nat.le_of_eq rfl) (hb hby d_method_2_25) (by decide) (by decide) (fun Tt9 vt9 Lt9 Xt9 hZ hown hS wm_t9 qt9 => ?_)
      obtain ⟨ht9, et9⟩ : ∃ z, Tt9.heap = z := ⟨_, rfl⟩
      rw [et9] at qt9 hS
      obtain ⟨rfl, N10, Kct9, Es⟩ := qt9
      have N11 := Fr.app N0 N10
      replace At1 := At1.keep Kct9
      replace Y_ob6 := Y_ob6.keep Kct9 (ninS (Ne.symm ne_ob2_ob6) nin0)
      have O12 : Ext Z.heap ht9 := extK O7 Kct9 (allS fr_ob2 all0)
      have K13 := K8.trans Kct9 (allS (Or.inr pa_ob2) all0)
      show Goes p e below _ (Tt9.setTop (mkF m 28 #[.val (.int p1), .val (.int p2), .val (.int ((XT.ushr p1 (1 : Int32)) &&& (3 : Int32))), .unset] [(.ref ob2)]))
      exact goRetAW Xt9 hx hS hret hlocks rfl rfl (hb hby d_method_2_28) (by decide) (by decide) et9 (⟨_, rfl, N11, K13, rfl, Es⟩)
    · refine gIfY X0 hx (hb hby d_method_2_15) (pc' := 29) (XT.i0_ne_t g1) (by decide) (by decide) ?_
      show Goes p e below _ (s₁.setTop (mkF m 29 #[.val (.int p1), .val (.int p2), .val (.int ((XT.ushr p1 (1 : Int32)) &&& (3 : Int32))), .unset] []))
      refine gIloadN X0 hx (hb hby d_method_2_29) rfl ?_
      refine gIconst X0 hx (hb hby d_method_2_30) (v := (1 : Int32)) rfl ?_
      by_cases g2 : ((XT.ushr p1 (1 : Int32)) &&& (3 : Int32)) = (1 : Int32)
      · refine gIcmpN X0 hx (hb hby d_method_2_31) (XT.ii_ne_f g2) ?_
        show Goes p e below _ (s₁.setTop (mkF m 34 #[.val (.int p1), .val (.int p2), .val (.int ((XT.ushr p1 (1 : Int32)) &&& (3 : Int32))), .unset] []))
        refine gIloadN X0 hx (hb hby d_method_2_34) rfl ?_
        refine gSipush X0 hx (hb hby d_method_2_35) (v := (255 : Int32)) rfl ?_
        refine gIand X0 hx (hb hby d_method_2_38) ?_
        refine gI2c X0 hx (hb hby d_method_2_39) ?_
        show Goes p e below _ (s₁.setTop (mkF m 40 #[.val (.int p1), .val (.int p2), .val (.int ((XT.ushr p1 (1 : Int32)) &&& (3 : Int32))), .unset] [(.int ((p2 &&& (255 : Int32)).toUInt32.toUInt16.toUInt32.toInt32))]))
        obtain ⟨nc0, hc0⟩ := own_ch p2
        generalize ((p2 &&& (255 : Int32)).toUInt32.toUInt16.toUInt32.toInt32) = c0 at nc0 hc0 ⊢
        show Goes p e below _ (s₁.setTop (mkF m 40 #[.val (.int p1), .val (.int p2), .val (.int ((XT.ushr p1 (1 : Int32)) &&& (3 : Int32))), .unset] [(.int c0)]))
        refine goCallS X0 hx hZ hown (hw _ (List.mem_of_getElem? (i := 65) rfl)) (hw _ (List.mem_of_getElem? (i := 66) rfl)) (hw _ (List.mem_of_getElem? (i := 36) rfl)) (hw _ (List.mem_of_getElem? (i := 67) rfl)) (by decide) (rmV l Z a0 hw cs c0 h0 O0 S_cs hcs hc0) 0 (by decide) (by decide) e0 (hsz rfl) [(.int c0)] [] pd_9 rfl rfl rfl (Nat.le_of_eq rfl) (hb hby d_method_2_40) (by decide) (by decide) (fun Tt14 vt14 Lt14 Xt14 qt14 => ?_)
        obtain ⟨ht14, et14⟩ : ∃ z, Tt14.heap = z := ⟨_, rfl⟩
        rw [et14] at qt14
        obtain ⟨sb, rfl, N15, Kct14, psb, Esb, u_, pu_, Gv_, Gc_, Yu_⟩ := qt14
        have N16 := Fr.app N0 N15
        have O17 : Ext Z.heap ht14 := extK O0 Kct14 all0
        replace hS := hS.keep Kct14
        have K18 := K0.trans Kct14 all0
        show Goes p e below _ (Tt14.setTop (mkF m 43 #[.val (.int p1), .val (.int p2), .val (.int ((XT.ushr p1 (1 : Int32)) &&& (3 : Int32))), .unset] [(.ref sb)]))
        exact goRetAW Xt14 hx hS hret hlocks rfl rfl (hb hby d_method_2_43) (by decide) (by decide) et14 (⟨_, rfl, N16, K18, rfl, ((hPv.keep K18).warm Xt14.warmed)⟩)
      · refine gIcmpY X0 hx (hb hby d_method_2_31) (pc' := 44) (XT.ii_ne_t g2) (by decide) (by decide) ?_
        show Goes p e below _ (s₁.setTop (mkF m 44 #[.val (.int p1), .val (.int p2), .val (.int ((XT.ushr p1 (1 : Int32)) &&& (3 : Int32))), .unset] []))
        refine gIloadN X0 hx (hb hby d_method_2_44) rfl ?_
        refine gIconst X0 hx (hb hby d_method_2_45) (v := (2 : Int32)) rfl ?_
        by_cases g3 : ((XT.ushr p1 (1 : Int32)) &&& (3 : Int32)) = (2 : Int32)
        · refine gIcmpN X0 hx (hb hby d_method_2_46) (XT.ii_ne_f g3) ?_
          show Goes p e below _ (s₁.setTop (mkF m 49 #[.val (.int p1), .val (.int p2), .val (.int ((XT.ushr p1 (1 : Int32)) &&& (3 : Int32))), .unset] []))
          refine gIconst X0 hx (hb hby d_method_2_49) (v := (2 : Int32)) rfl ?_
          obtain ⟨Tt19, ht19, kt19, Xt19, et19, Et19, At19, stt19⟩ := newP X0 hx hZ (hw _ (List.mem_of_getElem? (i := 37) rfl)) e0 (g := (mkF m 50 #[.val (.int p1), .val (.int p2), .val (.int ((XT.ushr p1 (1 : Int32)) &&& (3 : Int32))), .unset] [(.int (2 : Int32))])) rfl (hb hby d_method_2_50) rfl (by decide) (cap := 2) (by decide) (by decide) (by decide) (by decide)
          obtain ⟨ob20, gob20⟩ : ∃ z, z = h0.size := ⟨_, rfl⟩
          rw [← gob20] at At19 stt19
          refine go stt19 ?_
          have fr_ob20 : Z.heap.size ≤ ob20 := gob20 ▸ O0.1
          have pa_ob20 : h0.size ≤ ob20 := gob20 ▸ K0.1
          have O21 : Ext Z.heap ht19 := extT O0 Et19
          replace hS := hS.ext Et19
          have K22 := K0.ext Et19
          have Y_ob20 : Ary Z ht19 ob20 .char [(.int (0 : Int32)), (.int (0 : Int32))] := Ary.new At19 rfl (by decide)
          show Goes p e below _ (Tt19.setTop (mkF m 52 #[.val (.int p1), .val (.int p2), .val (.int ((XT.ushr p1 (1 : Int32)) &&& (3 : Int32))), .unset] [(.ref ob20)]))
          refine gAstoreN Xt19 hx (hb hby d_method_2_52) rfl (l' := #[.val (.int p1), .val (.int p2), .val (.int ((XT.ushr p1 (1 : Int32)) &&& (3 : Int32))), .val (.ref ob20)]) rfl ?_
          refine gAloadN Xt19 hx (hb hby d_method_2_53) rfl rfl ?_
          refine gIconst Xt19 hx (hb hby d_method_2_54) (v := (0 : Int32)) rfl ?_
          refine gIloadN Xt19 hx (hb hby d_method_2_55) rfl ?_
          refine gSipush Xt19 hx (hb hby d_method_2_56) (v := (255 : Int32)) rfl ?_
          refine gIand Xt19 hx (hb hby d_method_2_59) ?_
          refine gI2c Xt19 hx (hb hby d_method_2_60) ?_
          show Goes p e below _ (Tt19.setTop (mkF m 61 #[.val (.int p1), .val (.int p2), .val (.int ((XT.ushr p1 (1 : Int32)) &&& (3 : Int32))), .val (.ref ob20)] [(.int ((p2 &&& (255 : Int32)).toUInt32.toUInt16.toUInt32.toInt32)), (.int (0 : Int32)), (.ref ob20)]))
          show Goes p e below _ (Tt19.setTop (mkF m 61 #[.val (.int p1), .val (.int p2), .val (.int ((XT.ushr p1 (1 : Int32)) &&& (3 : Int32))), .val (.ref ob20)] [(.int ((p2 &&& (255 : Int32)).toUInt32.toUInt16.toUInt32.toInt32)), (.int (0 : Int32)), (.ref ob20)]))
          obtain ⟨nc0, hc0⟩ := own_ch p2
          generalize ((p2 &&& (255 : Int32)).toUInt32.toUInt16.toUInt32.toInt32) = c0 at nc0 hc0 ⊢
          show Goes p e below _ (Tt19.setTop (mkF m 61 #[.val (.int p1), .val (.int p2), .val (.int ((XT.ushr p1 (1 : Int32)) &&& (3 : Int32))), .val (.ref ob20)] [(.int c0), (.int (0 : Int32)), (.ref ob20)]))
          refine goCastore Xt19 hx hZ et19 Y_ob20 (hb hby d_method_2_61) (by decide) rfl (fun Tt23 ht23 Xt23 et23 Wt23 => ?_)
          have N24 := Fr.snoc Xt23 N0 fr_ob20
          replace Y_ob20 : Ary Z ht23 ob20 .char [(.int c0), (.int (0 : Int32))] := Y_ob20.set Wt23 (by rw [nc0]; rfl)
          have O25 : Ext Z.heap ht23 := extW O21 Wt23 fr_ob20
          replace hS := hS.wr Wt23
          have K26 := K22.wr Wt23 (Or.inr pa_ob20)
          show Goes p e below _ (Tt23.setTop (mkF m 62 #[.val (.int p1), .val (.int p2), .val (.int ((XT.ushr p1 (1 : Int32)) &&& (3 : Int32))), .val (.ref ob20)] []))
          refine gAloadN Xt23 hx (hb hby d_method_2_62) rfl rfl ?_
          refine gIconst Xt23 hx (hb hby d_method_2_63) (v := (1 : Int32)) rfl ?_
          refine gIloadN Xt23 hx (hb hby d_method_2_64) rfl ?_
          refine gBipush Xt23 hx (hb hby d_method_2_65) (v := (8 : Int32)) rfl ?_
          refine gIushr Xt23 hx (hb hby d_method_2_67) ?_
          refine gSipush Xt23 hx (hb hby d_method_2_68) (v := (255 : Int32)) rfl ?_
          refine gIand Xt23 hx (hb hby d_method_2_71) ?_
          show Goes p e below _ (Tt23.setTop (mkF m 72 #[.val (.int p1), .val (.int p2), .val (.int ((XT.ushr p1 (1 : Int32)) &&& (3 : Int32))), .val (.ref ob20)] [(.int ((XT.ushr p2 (8 : Int32)) &&& (255 : Int32))), (.int (1 : Int32)), (.ref ob20)]))
          refine gI2c Xt23 hx (hb hby d_method_2_72) ?_
          show Goes p e below _ (Tt23.setTop (mkF m 73 #[.val (.int p1), .val (.int p2), .val (.int ((XT.ushr p1 (1 : Int32)) &&& (3 : Int32))), .val (.ref ob20)] [(.int (((XT.ushr p2 (8 : Int32)) &&& (255 : Int32)).toUInt32.toUInt16.toUInt32.toInt32)), (.int (1 : Int32)), (.ref ob20)]))
          obtain ⟨nc1, hc1⟩ := own_ch (XT.ushr p2 (8 : Int32))
          generalize (((XT.ushr p2 (8 : Int32)) &&& (255 : Int32)).toUInt32.toUInt16.toUInt32.toInt32) = c1 at nc1 hc1 ⊢
          show Goes p e below _ (Tt23.setTop (mkF m 73 #[.val (.int p1), .val (.int p2), .val (.int ((XT.ushr p1 (1 : Int32)) &&& (3 : Int32))), .val (.ref ob20)] [(.int c1), (.int (1 : Int32)), (.ref ob20)]))
          refine goCastore Xt23 hx hZ et23 Y_ob20 (hb hby d_method_2_73) (by decide) rfl (fun Tt27 ht27 Xt27 et27 Wt27 => ?_)
          have N28 := Fr.snoc Xt27 N24 fr_ob20
          replace Y_ob20 : Ary Z ht27 ob20 .char [(.int c0), (.int c1)] := Y_ob20.set Wt27 (by rw [nc1]; rfl)
          have O29 : Ext Z.heap ht27 := extW O25 Wt27 fr_ob20
          replace hS := hS.wr Wt27
          have K30 := K26.wr Wt27 (Or.inr pa_ob20)
          show Goes p e below _ (Tt27.setTop (mkF m 74 #[.val (.int p1), .val (.int p2), .val (.int ((XT.ushr p1 (1 : Int32)) &&& (3 : Int32))), .val (.ref ob20)] []))
          obtain ⟨Tt31, ht31, Xt31, et31, Et31, At31, Dt31, -, stt31⟩ := newO Xt27 hx hZ hown (hw _ (List.mem_of_getElem? (i := 34) rfl)) (hw _ (List.mem_of_getElem? (i := 35) rfl)) (hw _ (List.mem_of_getElem? (i := 36) rfl)) et27 (g := (mkF m 74 #[.val (.int p1), .val (.int p2), .val (.int ((XT.ushr p1 (1 : Int32)) &&& (3 : Int32))), .val (.ref ob20)] [])) rfl (hb hby d_method_2_74) (by decide) (by decide)
          obtain ⟨ob32, gob32⟩ : ∃ z, z = ht27.size := ⟨_, rfl⟩
          rw [← gob32] at At31 Dt31 stt31
          refine go stt31 ?_
          have ne_ob20_ob32 : ob20 ≠ ob32 := Nat.ne_of_lt (gob32 ▸ Y_ob20.lt)
          have fr_ob32 : Z.heap.size ≤ ob32 := gob32 ▸ O29.1
          have pa_ob32 : h0.size ≤ ob32 := gob32 ▸ K30.1
          replace Y_ob20 := Y_ob20.ext Et31
          have O33 : Ext Z.heap ht31 := extT O29 Et31
          replace hS := hS.ext Et31
          have K34 := K30.ext Et31
          have F_value_ob32 : Fld Z ht31 ob32 "java/lang/String" "value" "[B" .null := Dt31 (Or.inr (hw _ (List.mem_of_getElem? (i := 48) rfl))) (ty := (.array .byte)) (by decide)
          have F_coder_ob32 : Fld Z ht31 ob32 "java/lang/String" "coder" "B" (.int (0 : Int32)) := Dt31 (Or.inr (hw _ (List.mem_of_getElem? (i := 49) rfl))) (ty := .byte) (by decide)
          show Goes p e below _ (Tt31.setTop (mkF m 77 #[.val (.int p1), .val (.int p2), .val (.int ((XT.ushr p1 (1 : Int32)) &&& (3 : Int32))), .val (.ref ob20)] [(.ref ob32)]))
          refine gDup Xt31 hx (hb hby d_method_2_77) rfl ?_
          refine gAloadN Xt31 hx (hb hby d_method_2_78) rfl rfl ?_
          refine goCallI Xt31 hx hZ rfl hown (hw _ (List.mem_of_getElem? (i := 38) rfl)) (hw _ (List.mem_of_getElem? (i := 39) rfl)) (hw _ (List.mem_of_getElem? (i := 36) rfl)) (hw _ (List.mem_of_getElem? (i := 40) rfl)) (by decide) (rmS2 l Z a0 hw cs c0 c1 ob32 ob20 ht31 O33 S_cs hcs At31 F_value_ob32 F_coder_ob32 Y_ob20 (Ne.symm ne_ob20_ob32) fr_ob32 hc0 hc1) 1 (by decide) (by decide) et31 (hsz rfl) ob32 [(.ref ob20)] [(.ref ob32)] pd_8 rfl rfl rfl (Nat.le_of_eq rfl) (hb hby d_method_2_79) (by decide) (by decide) (fun Tt35 vt35 Lt35 Xt35 qt35 => ?_)
          obtain ⟨ht35, et35⟩ : ∃ z, Tt35.heap = z := ⟨_, rfl⟩
          rw [et35] at qt35
          obtain ⟨rfl, N36, Kct35, u, pu, Gv, Gc, Yu⟩ := qt35
          have N37 := Fr.app N28 N36
          replace Y_ob20 := Y_ob20.keep Kct35 (ninS ne_ob20_ob32 nin0)
          replace At31 := At31.keep Kct35
          have O38 : Ext Z.heap ht35 := extK O33 Kct35 (allS fr_ob32 all0)
          replace hS := hS.keep Kct35
          have K39 := K34.trans Kct35 (allS (Or.inr pa_ob32) all0)
          show Goes p e below _ (Tt35.setTop (mkF m 82 #[.val (.int p1), .val (.int p2), .val (.int ((XT.ushr p1 (1 : Int32)) &&& (3 : Int32))), .val (.ref ob20)] [(.ref ob32)]))
          exact goRetAW Xt35 hx hS hret hlocks rfl rfl (hb hby d_method_2_82) (by decide) (by decide) et35 (⟨_, rfl, N37, K39, rfl, ((hPv.keep K39).warm Xt35.warmed)⟩)
        · refine gIcmpY X0 hx (hb hby d_method_2_46) (pc' := 83) (XT.ii_ne_t g3) (by decide) (by decide) ?_
          show Goes p e below _ (s₁.setTop (mkF m 83 #[.val (.int p1), .val (.int p2), .val (.int ((XT.ushr p1 (1 : Int32)) &&& (3 : Int32))), .unset] []))
          refine gIconst X0 hx (hb hby d_method_2_83) (v := (3 : Int32)) rfl ?_
          obtain ⟨Tt40, ht40, kt40, Xt40, et40, Et40, At40, stt40⟩ := newP X0 hx hZ (hw _ (List.mem_of_getElem? (i := 37) rfl)) e0 (g := (mkF m 84 #[.val (.int p1), .val (.int p2), .val (.int ((XT.ushr p1 (1 : Int32)) &&& (3 : Int32))), .unset] [(.int (3 : Int32))])) rfl (hb hby d_method_2_84) rfl (by decide) (cap := 3) (by decide) (by decide) (by decide) (by decide)
          obtain ⟨ob41, gob41⟩ : ∃ z, z = h0.size := ⟨_, rfl⟩
          rw [← gob41] at At40 stt40
          refine go stt40 ?_
          have fr_ob41 : Z.heap.size ≤ ob41 := gob41 ▸ O0.1
          have pa_ob41 : h0.size ≤ ob41 := gob41 ▸ K0.1
          have O42 : Ext Z.heap ht40 := extT O0 Et40
          replace hS := hS.ext Et40
          have K43 := K0.ext Et40
          have Y_ob41 : Ary Z ht40 ob41 .char [(.int (0 : Int32)), (.int (0 : Int32)), (.int (0 : Int32))] := Ary.new At40 rfl (by decide)
          show Goes p e below _ (Tt40.setTop (mkF m 86 #[.val (.int p1), .val (.int p2), .val (.int ((XT.ushr p1 (1 : Int32)) &&& (3 : Int32))), .unset] [(.ref ob41)]))
          refine gAstoreN Xt40 hx (hb hby d_method_2_86) rfl (l' := #[.val (.int p1), .val (.int p2), .val (.int ((XT.ushr p1 (1 : Int32)) &&& (3 : Int32))), .val (.ref ob41)]) rfl ?_
          refine gAloadN Xt40 hx (hb hby d_method_2_87) rfl rfl ?_
          refine gIconst Xt40 hx (hb hby d_method_2_88) (v := (0 : Int32)) rfl ?_
          refine gIloadN Xt40 hx (hb hby d_method_2_89) rfl ?_
          refine gSipush Xt40 hx (hb hby d_method_2_90) (v := (255 : Int32)) rfl ?_
          refine gIand Xt40 hx (hb hby d_method_2_93) ?_
          refine gI2c Xt40 hx (hb hby d_method_2_94) ?_
          show Goes p e below _ (Tt40.setTop (mkF m 95 #[.val (.int p1), .val (.int p2), .val (.int ((XT.ushr p1 (1 : Int32)) &&& (3 : Int32))), .val (.ref ob41)] [(.int ((p2 &&& (255 : Int32)).toUInt32.toUInt16.toUInt32.toInt32)), (.int (0 : Int32)), (.ref ob41)]))
          show Goes p e below _ (Tt40.setTop (mkF m 95 #[.val (.int p1), .val (.int p2), .val (.int ((XT.ushr p1 (1 : Int32)) &&& (3 : Int32))), .val (.ref ob41)] [(.int ((p2 &&& (255 : Int32)).toUInt32.toUInt16.toUInt32.toInt32)), (.int (0 : Int32)), (.ref ob41)]))
          obtain ⟨nc0, hc0⟩ := own_ch p2
          generalize ((p2 &&& (255 : Int32)).toUInt32.toUInt16.toUInt32.toInt32) = c0 at nc0 hc0 ⊢
          show Goes p e below _ (Tt40.setTop (mkF m 95 #[.val (.int p1), .val (.int p2), .val (.int ((XT.ushr p1 (1 : Int32)) &&& (3 : Int32))), .val (.ref ob41)] [(.int c0), (.int (0 : Int32)), (.ref ob41)]))
          refine goCastore Xt40 hx hZ et40 Y_ob41 (hb hby d_method_2_95) (by decide) rfl (fun Tt44 ht44 Xt44 et44 Wt44 => ?_)
          have N45 := Fr.snoc Xt44 N0 fr_ob41
          replace Y_ob41 : Ary Z ht44 ob41 .char [(.int c0), (.int (0 : Int32)), (.int (0 : Int32))] := Y_ob41.set Wt44 (by rw [nc0]; rfl)
          have O46 : Ext Z.heap ht44 := extW O42 Wt44 fr_ob41
          replace hS := hS.wr Wt44
          have K47 := K43.wr Wt44 (Or.inr pa_ob41)
          show Goes p e below _ (Tt44.setTop (mkF m 96 #[.val (.int p1), .val (.int p2), .val (.int ((XT.ushr p1 (1 : Int32)) &&& (3 : Int32))), .val (.ref ob41)] []))
          refine gAloadN Xt44 hx (hb hby d_method_2_96) rfl rfl ?_
          refine gIconst Xt44 hx (hb hby d_method_2_97) (v := (1 : Int32)) rfl ?_
          refine gIloadN Xt44 hx (hb hby d_method_2_98) rfl ?_
          refine gBipush Xt44 hx (hb hby d_method_2_99) (v := (8 : Int32)) rfl ?_
          refine gIushr Xt44 hx (hb hby d_method_2_101) ?_
          refine gSipush Xt44 hx (hb hby d_method_2_102) (v := (255 : Int32)) rfl ?_
          refine gIand Xt44 hx (hb hby d_method_2_105) ?_
          show Goes p e below _ (Tt44.setTop (mkF m 106 #[.val (.int p1), .val (.int p2), .val (.int ((XT.ushr p1 (1 : Int32)) &&& (3 : Int32))), .val (.ref ob41)] [(.int ((XT.ushr p2 (8 : Int32)) &&& (255 : Int32))), (.int (1 : Int32)), (.ref ob41)]))
          refine gI2c Xt44 hx (hb hby d_method_2_106) ?_
          show Goes p e below _ (Tt44.setTop (mkF m 107 #[.val (.int p1), .val (.int p2), .val (.int ((XT.ushr p1 (1 : Int32)) &&& (3 : Int32))), .val (.ref ob41)] [(.int (((XT.ushr p2 (8 : Int32)) &&& (255 : Int32)).toUInt32.toUInt16.toUInt32.toInt32)), (.int (1 : Int32)), (.ref ob41)]))
          obtain ⟨nc1, hc1⟩ := own_ch (XT.ushr p2 (8 : Int32))
          generalize (((XT.ushr p2 (8 : Int32)) &&& (255 : Int32)).toUInt32.toUInt16.toUInt32.toInt32) = c1 at nc1 hc1 ⊢
          show Goes p e below _ (Tt44.setTop (mkF m 107 #[.val (.int p1), .val (.int p2), .val (.int ((XT.ushr p1 (1 : Int32)) &&& (3 : Int32))), .val (.ref ob41)] [(.int c1), (.int (1 : Int32)), (.ref ob41)]))
          refine goCastore Xt44 hx hZ et44 Y_ob41 (hb hby d_method_2_107) (by decide) rfl (fun Tt48 ht48 Xt48 et48 Wt48 => ?_)
          have N49 := Fr.snoc Xt48 N45 fr_ob41
          replace Y_ob41 : Ary Z ht48 ob41 .char [(.int c0), (.int c1), (.int (0 : Int32))] := Y_ob41.set Wt48 (by rw [nc1]; rfl)
          have O50 : Ext Z.heap ht48 := extW O46 Wt48 fr_ob41
          replace hS := hS.wr Wt48
          have K51 := K47.wr Wt48 (Or.inr pa_ob41)
          show Goes p e below _ (Tt48.setTop (mkF m 108 #[.val (.int p1), .val (.int p2), .val (.int ((XT.ushr p1 (1 : Int32)) &&& (3 : Int32))), .val (.ref ob41)] []))
          refine gAloadN Xt48 hx (hb hby d_method_2_108) rfl rfl ?_
          refine gIconst Xt48 hx (hb hby d_method_2_109) (v := (2 : Int32)) rfl ?_
          refine gIloadN Xt48 hx (hb hby d_method_2_110) rfl ?_
          refine gBipush Xt48 hx (hb hby d_method_2_111) (v := (16 : Int32)) rfl ?_
          refine gIushr Xt48 hx (hb hby d_method_2_113) ?_
          refine gSipush Xt48 hx (hb hby d_method_2_114) (v := (255 : Int32)) rfl ?_
          refine gIand Xt48 hx (hb hby d_method_2_117) ?_
          show Goes p e below _ (Tt48.setTop (mkF m 118 #[.val (.int p1), .val (.int p2), .val (.int ((XT.ushr p1 (1 : Int32)) &&& (3 : Int32))), .val (.ref ob41)] [(.int ((XT.ushr p2 (16 : Int32)) &&& (255 : Int32))), (.int (2 : Int32)), (.ref ob41)]))
          refine gI2c Xt48 hx (hb hby d_method_2_118) ?_
          show Goes p e below _ (Tt48.setTop (mkF m 119 #[.val (.int p1), .val (.int p2), .val (.int ((XT.ushr p1 (1 : Int32)) &&& (3 : Int32))), .val (.ref ob41)] [(.int (((XT.ushr p2 (16 : Int32)) &&& (255 : Int32)).toUInt32.toUInt16.toUInt32.toInt32)), (.int (2 : Int32)), (.ref ob41)]))
          obtain ⟨nc2, hc2⟩ := own_ch (XT.ushr p2 (16 : Int32))
          generalize (((XT.ushr p2 (16 : Int32)) &&& (255 : Int32)).toUInt32.toUInt16.toUInt32.toInt32) = c2 at nc2 hc2 ⊢
          show Goes p e below _ (Tt48.setTop (mkF m 119 #[.val (.int p1), .val (.int p2), .val (.int ((XT.ushr p1 (1 : Int32)) &&& (3 : Int32))), .val (.ref ob41)] [(.int c2), (.int (2 : Int32)), (.ref ob41)]))
          refine goCastore Xt48 hx hZ et48 Y_ob41 (hb hby d_method_2_119) (by decide) rfl (fun Tt52 ht52 Xt52 et52 Wt52 => ?_)
          have N53 := Fr.snoc Xt52 N49 fr_ob41
          replace Y_ob41 : Ary Z ht52 ob41 .char [(.int c0), (.int c1), (.int c2)] := Y_ob41.set Wt52 (by rw [nc2]; rfl)
          have O54 : Ext Z.heap ht52 := extW O50 Wt52 fr_ob41
          replace hS := hS.wr Wt52
          have K55 := K51.wr Wt52 (Or.inr pa_ob41)
          show Goes p e below _ (Tt52.setTop (mkF m 120 #[.val (.int p1), .val (.int p2), .val (.int ((XT.ushr p1 (1 : Int32)) &&& (3 : Int32))), .val (.ref ob41)] []))
          obtain ⟨Tt56, ht56, Xt56, et56, Et56, At56, Dt56, -, stt56⟩ := newO Xt52 hx hZ hown (hw _ (List.mem_of_getElem? (i := 34) rfl)) (hw _ (List.mem_of_getElem? (i := 35) rfl)) (hw _ (List.mem_of_getElem? (i := 36) rfl)) et52 (g := (mkF m 120 #[.val (.int p1), .val (.int p2), .val (.int ((XT.ushr p1 (1 : Int32)) &&& (3 : Int32))), .val (.ref ob41)] [])) rfl (hb hby d_method_2_120) (by decide) (by decide)
          obtain ⟨ob57, gob57⟩ : ∃ z, z = ht52.size := ⟨_, rfl⟩
          rw [← gob57] at At56 Dt56 stt56
          refine go stt56 ?_
          have ne_ob41_ob57 : ob41 ≠ ob57 := Nat.ne_of_lt (gob57 ▸ Y_ob41.lt)
          have fr_ob57 : Z.heap.size ≤ ob57 := gob57 ▸ O54.1
          have pa_ob57 : h0.size ≤ ob57 := gob57 ▸ K55.1
          replace Y_ob41 := Y_ob41.ext Et56
          have O58 : Ext Z.heap ht56 := extT O54 Et56
          replace hS := hS.ext Et56
          have K59 := K55.ext Et56
          have F_value_ob57 : Fld Z ht56 ob57 "java/lang/String" "value" "[B" .null := Dt56 (Or.inr (hw _ (List.mem_of_getElem? (i := 48) rfl))) (ty := (.array .byte)) (by decide)
          have F_coder_ob57 : Fld Z ht56 ob57 "java/lang/String" "coder" "B" (.int (0 : Int32)) := Dt56 (Or.inr (hw _ (List.mem_of_getElem? (i := 49) rfl))) (ty := .byte) (by decide)
          show Goes p e below _ (Tt56.setTop (mkF m 123 #[.val (.int p1), .val (.int p2), .val (.int ((XT.ushr p1 (1 : Int32)) &&& (3 : Int32))), .val (.ref ob41)] [(.ref ob57)]))
          refine gDup Xt56 hx (hb hby d_method_2_123) rfl ?_
          refine gAloadN Xt56 hx (hb hby d_method_2_124) rfl rfl ?_
          refine goCallI Xt56 hx hZ rfl hown (hw _ (List.mem_of_getElem? (i := 38) rfl)) (hw _ (List.mem_of_getElem? (i := 39) rfl)) (hw _ (List.mem_of_getElem? (i := 36) rfl)) (hw _ (List.mem_of_getElem? (i := 40) rfl)) (by decide) (rmS3 l Z a0 hw cs c0 c1 c2 ob57 ob41 ht56 O58 S_cs hcs At56 F_value_ob57 F_coder_ob57 Y_ob41 (Ne.symm ne_ob41_ob57) fr_ob57 hc0 hc1 hc2) 1 (by decide) (by decide) et56 (hsz rfl) ob57 [(.ref ob41)] [(.ref ob57)] pd_8 rfl rfl rfl (Nat.le_of_eq rfl) (hb hby d_method_2_125) (by decide) (by decide) (fun Tt60 vt60 Lt60 Xt60 qt60 => ?_)
          obtain ⟨ht60, et60⟩ : ∃ z, Tt60.heap = z := ⟨_, rfl⟩
          rw [et60] at qt60
          obtain ⟨rfl, N61, Kct60, u, pu, Gv, Gc, Yu⟩ := qt60
          have N62 := Fr.app N53 N61
          replace Y_ob41 := Y_ob41.keep Kct60 (ninS ne_ob41_ob57 nin0)
          replace At56 := At56.keep Kct60
          have O63 : Ext Z.heap ht60 := extK O58 Kct60 (allS fr_ob57 all0)
          replace hS := hS.keep Kct60
          have K64 := K59.trans Kct60 (allS (Or.inr pa_ob57) all0)
          show Goes p e below _ (Tt60.setTop (mkF m 128 #[.val (.int p1), .val (.int p2), .val (.int ((XT.ushr p1 (1 : Int32)) &&& (3 : Int32))), .val (.ref ob41)] [(.ref ob57)]))
          exact goRetAW Xt60 hx hS hret hlocks rfl rfl (hb hby d_method_2_128) (by decide) (by decide) et60 (⟨_, rfl, N62, K64, rfl, ((hPv.keep K64).warm Xt60.warmed)⟩)
theorem pd_10 : parseMethodDescriptor "(II)Ljava/lang/String;" = some ⟨[.int, .int], some (.object "java/lang/String")⟩ := by decide +kernel
theorem pd_11 : parseMethodDescriptor "(ZLjava/lang/String;Ljava/lang/String;)V" = some ⟨[.boolean, (.object "java/lang/String"), (.object "java/lang/String")], none⟩ := by decide +kernel
theorem pd_12 : parseMethodDescriptor "()Z" = some ⟨[], some .boolean⟩ := by decide +kernel
theorem ef_rm0 (m : MethodId) (x0 : Int32) (x1 : Int32) (x2 : Int32) : entryFrame m #[(.int x0), (.int x1), (.int x2)] maxLocals = mkF m 0 #[.val (.int x0), .val (.int x1), .val (.int x2), .unset, .unset, .unset] [] := by first | (simp [entryFrame, mkF, argsToLocals, Value.category, maxLocals]; done) | rfl
set_option maxRecDepth 65536 in
set_option maxHeartbeats 40000000 in
theorem rm0 (l : Launch) (Z : State) (a0 : Array Value) (hw : ∀ d ∈ tables_1, d.before a0 Z = true) (cs : Int32) (p0 : Int32) (p1 : Int32) (p2 : Int32) (h0 : Heap) (O0 : Ext Z.heap h0) (S_cs : Sta Z Z.heap "java/lang/String" "COMPACT_STRINGS" "Z" (.int cs)) (hcs : ¬ cs = 0) (hh : Jvm.Lit.constHeld Z "java/lang/String" 7) (hcw : Jvm.Lit.compactW.before a0 Z = true) :
    CtrW l Z x code maxLocals ret tables_1 room_1 #[(.int p0), (.int p1), (.int p2)] h0 (fun vm => own_Es Z h0 vm) (fun v h L vm => v = some (.int 1) ∧ Fr Z.heap.size L) := by
  refine ctrW (plainFor_of_name pn_5) ?_
  intro p e s m below meth c s₁ vm0 hx hby hml hown hnm hret hlocks hZ X0 e0 hS hh0 hPv
  have N0 := Fr.nil Z.heap.size
  have hsz : ∀ {Ls : Array Slot}, Ls.size = 6 → Ls.size = c.maxLocals := fun q => q.trans hml.symm
  refine goE (ef_rm0 m (p0) (p1) (p2)) ?_
  show Goes p e below _ (s₁.setTop (mkF m 0 #[.val (.int p0), .val (.int p1), .val (.int p2), .unset, .unset, .unset] []))
  refine gIloadN X0 hx (hb hby at_0) rfl ?_
  refine gIloadN X0 hx (hb hby at_1) rfl ?_
  refine goCallSW X0 hx hZ hS hown (hw _ (List.mem_of_getElem? (i := 0) rfl)) (hw _ (List.mem_of_getElem? (i := 1) rfl)) (hw _ (List.mem_of_getElem? (i := 2) rfl)) (hw _ (List.mem_of_getElem? (i := 3) rfl)) (by decide) (rmD l Z a0 hw cs p0 p1 h0 O0 S_cs hcs hh hcw) (fun _ w_ => hPv.warm w_) 0 (by decide) (by decide) e0 (hsz rfl) [(.int p0), (.int p1)] [] pd_10 rfl rfl rfl (Nat.le_of_eq rfl) (hb hby at_2) (by decide) (by decide) (fun Tt1 vt1 Lt1 Xt1 hZ hown hS wm_t1 qt1 => ?_)
  obtain ⟨ht1, et1⟩ : ∃ z, Tt1.heap = z := ⟨_, rfl⟩
  rw [et1] at qt1 hS
  obtain ⟨r1_, rfl, N2, Kct1, ir1, Es1⟩ := qt1
  have N3 := Fr.app N0 N2
  have O4 : Ext Z.heap ht1 := extK O0 Kct1 all0
  show Goes p e below _ (Tt1.setTop (mkF m 5 #[.val (.int p0), .val (.int p1), .val (.int p2), .unset, .unset, .unset] [r1_]))
  rcases ref_cases ir1 with rfl | ⟨sa1, rfl⟩
  · show Goes p e below _ (Tt1.setTop (mkF m 5 #[.val (.int p0), .val (.int p1), .val (.int p2), .unset, .unset, .unset] [.null]))
    refine gAstoreN Xt1 hx (hb hby at_5) rfl (l' := #[.val (.int p0), .val (.int p1), .val (.int p2), .val .null, .unset, .unset]) rfl ?_
    refine gIloadN Xt1 hx (hb hby at_6) rfl ?_
    refine gIconst Xt1 hx (hb hby at_7) (v := (3 : Int32)) rfl ?_
    refine gIushr Xt1 hx (hb hby at_8) ?_
    refine gIloadN Xt1 hx (hb hby at_9) rfl ?_
    refine goCallSW Xt1 hx hZ hS hown (hw _ (List.mem_of_getElem? (i := 0) rfl)) (hw _ (List.mem_of_getElem? (i := 1) rfl)) (hw _ (List.mem_of_getElem? (i := 2) rfl)) (hw _ (List.mem_of_getElem? (i := 3) rfl)) (by decide) (rmD l Z a0 hw cs (XT.ushr p0 (3 : Int32)) p2 ht1 O4 S_cs hcs hh hcw) (fun _ w_ => Es1.warm w_) 0 (by decide) (by decide) et1 (hsz rfl) [(.int (XT.ushr p0 (3 : Int32))), (.int p2)] [] pd_10 rfl rfl rfl (Nat.le_of_eq rfl) (hb hby at_10) (by decide) (by decide) (fun Tt5 vt5 Lt5 Xt5 hZ hown hS wm_t5 qt5 => ?_)
    obtain ⟨ht5, et5⟩ : ∃ z, Tt5.heap = z := ⟨_, rfl⟩
    rw [et5] at qt5 hS
    obtain ⟨r2_, rfl, N6, Kct5, ir2, Es2⟩ := qt5
    have N7 := Fr.app N3 N6
    have O8 : Ext Z.heap ht5 := extK O4 Kct5 all0
    show Goes p e below _ (Tt5.setTop (mkF m 13 #[.val (.int p0), .val (.int p1), .val (.int p2), .val .null, .unset, .unset] [r2_]))
    rcases ref_cases ir2 with rfl | ⟨sa2, rfl⟩
    · show Goes p e below _ (Tt5.setTop (mkF m 13 #[.val (.int p0), .val (.int p1), .val (.int p2), .val .null, .unset, .unset] [.null]))
      refine gAstore Xt5 hx (hb hby at_13) rfl (l' := #[.val (.int p0), .val (.int p1), .val (.int p2), .val .null, .val .null, .unset]) rfl ?_
      obtain ⟨Tt9, ht9, Xt9, et9, Et9, At9, Dt9, -, stt9⟩ := newO Xt5 hx hZ hown (hw _ (List.mem_of_getElem? (i := 4) rfl)) (hw _ (List.mem_of_getElem? (i := 5) rfl)) (hw _ (List.mem_of_getElem? (i := 6) rfl)) et5 (g := (mkF m 15 #[.val (.int p0), .val (.int p1), .val (.int p2), .val .null, .val .null, .unset] [])) rfl (hb hby at_15) (by decide) (by decide)
      obtain ⟨ob10, gob10⟩ : ∃ z, z = ht5.size := ⟨_, rfl⟩
      rw [← gob10] at At9 Dt9 stt9
      refine go stt9 ?_
      have fr_ob10 : Z.heap.size ≤ ob10 := gob10 ▸ O8.1
      have O11 : Ext Z.heap ht9 := extT O8 Et9
      replace hS := hS.ext Et9
      have F_admin_ob10 : Fld Z ht9 ob10 "com/example/ambit/ambit/server/Caller" "admin" "Z" (.int (0 : Int32)) := Dt9 (Or.inr (hw _ (List.mem_of_getElem? (i := 19) rfl))) (ty := .boolean) (by decide)
      have F_system_ob10 : Fld Z ht9 ob10 "com/example/ambit/ambit/server/Caller" "system" "Ljava/lang/String;" .null := Dt9 (Or.inr (hw _ (List.mem_of_getElem? (i := 21) rfl))) (ty := (.object "java/lang/String")) (by decide)
      have F_user_ob10 : Fld Z ht9 ob10 "com/example/ambit/ambit/server/Caller" "user" "Ljava/lang/String;" .null := Dt9 (Or.inr (hw _ (List.mem_of_getElem? (i := 23) rfl))) (ty := (.object "java/lang/String")) (by decide)
      show Goes p e below _ (Tt9.setTop (mkF m 18 #[.val (.int p0), .val (.int p1), .val (.int p2), .val .null, .val .null, .unset] [(.ref ob10)]))
      refine gDup Xt9 hx (hb hby at_18) rfl ?_
      refine gIconst Xt9 hx (hb hby at_19) (v := (1 : Int32)) rfl ?_
      refine gAloadN Xt9 hx (hb hby at_20) rfl rfl ?_
      refine gAload Xt9 hx (hb hby at_21) rfl rfl ?_
      refine goCallI Xt9 hx hZ rfl hown (hw _ (List.mem_of_getElem? (i := 7) rfl)) (hw _ (List.mem_of_getElem? (i := 8) rfl)) (hw _ (List.mem_of_getElem? (i := 6) rfl)) (hw _ (List.mem_of_getElem? (i := 9) rfl)) (by decide) (rmCNN l Z a0 hw ob10   ht9 O11 At9 F_admin_ob10 F_system_ob10 F_user_ob10 fr_ob10) 1 (by decide) (by decide) et9 (hsz rfl) ob10 [(.int (1 : Int32)), .null, .null] [(.ref ob10)] pd_11 rfl rfl rfl (Nat.le_of_eq rfl) (hb hby at_23) (by decide) (by decide) (fun Tt12 vt12 Lt12 Xt12 qt12 => ?_)
      obtain ⟨ht12, et12⟩ : ∃ z, Tt12.heap = z := ⟨_, rfl⟩
      rw [et12] at qt12
      obtain ⟨rfl, N13, Kct12, Fad⟩ := qt12
      have N14 := Fr.app N7 N13
      replace At9 := At9.keep Kct12
      have O15 : Ext Z.heap ht12 := extK O11 Kct12 (allS fr_ob10 all0)
      replace hS := hS.keep Kct12
      show Goes p e below _ (Tt12.setTop (mkF m 26 #[.val (.int p0), .val (.int p1), .val (.int p2), .val .null, .val .null, .unset] [(.ref ob10)]))
      refine gAstore Xt12 hx (hb hby at_26) rfl (l' := #[.val (.int p0), .val (.int p1), .val (.int p2), .val .null, .val .null, .val (.ref ob10)]) rfl ?_
      refine gAload Xt12 hx (hb hby at_28) rfl rfl ?_
      refine goCallV Xt12 hx hZ hown (hw _ (List.mem_of_getElem? (i := 24) rfl)) (hw _ (List.mem_of_getElem? (i := 25) rfl)) (hw _ (List.mem_of_getElem? (i := 27) rfl)) (hw _ (List.mem_of_getElem? (i := 26) rfl)) (hw _ (List.mem_of_getElem? (i := 6) rfl)) (hw _ (List.mem_of_getElem? (i := 28) rfl)) (by decide) (rmQ l Z a0 hw ob10 ht12 O15 Fad) 0 (by decide) (by decide) et12 At9 (hsz rfl) [] [] pd_7 rfl rfl rfl (Nat.le_of_eq rfl) (hb hby at_30) (by decide) (by decide) (fun Tt16 vt16 Lt16 Xt16 qt16 => ?_)
      obtain ⟨rfl, N17, et16⟩ := qt16
      have N18 := Fr.app N14 N17
      show Goes p e below _ (Tt16.setTop (mkF m 33 #[.val (.int p0), .val (.int p1), .val (.int p2), .val .null, .val .null, .val (.ref ob10)] []))
      refine gAload Xt16 hx (hb hby at_33) rfl rfl ?_
      refine goCallV Xt16 hx hZ hown (hw _ (List.mem_of_getElem? (i := 29) rfl)) (hw _ (List.mem_of_getElem? (i := 30) rfl)) (hw _ (List.mem_of_getElem? (i := 32) rfl)) (hw _ (List.mem_of_getElem? (i := 31) rfl)) (hw _ (List.mem_of_getElem? (i := 6) rfl)) (hw _ (List.mem_of_getElem? (i := 33) rfl)) (by decide) (rmA l Z a0 hw ob10 ht12 O15 Fad) 0 (by decide) (by decide) et16 At9 (hsz rfl) [] [] pd_12 rfl rfl rfl (Nat.le_of_eq rfl) (hb hby at_35) (by decide) (by decide) (fun Tt19 vt19 Lt19 Xt19 qt19 => ?_)
      obtain ⟨rfl, N20, et19⟩ := qt19
      have N21 := Fr.app N18 N20
      show Goes p e below _ (Tt19.setTop (mkF m 38 #[.val (.int p0), .val (.int p1), .val (.int p2), .val .null, .val .null, .val (.ref ob10)] [(.int (1 : Int32))]))
      exact goRetNW Xt19 hx hS (t := .boolean) hret hlocks (by simp) (hb hby at_38) (z' := (1 : Int32)) rfl (by decide) (by decide) et19 (⟨rfl, N21⟩)
    · show Goes p e below _ (Tt5.setTop (mkF m 13 #[.val (.int p0), .val (.int p1), .val (.int p2), .val .null, .unset, .unset] [(.ref sa2)]))
      refine gAstore Xt5 hx (hb hby at_13) rfl (l' := #[.val (.int p0), .val (.int p1), .val (.int p2), .val .null, .val (.ref sa2), .unset]) rfl ?_
      obtain ⟨Tt22, ht22, Xt22, et22, Et22, At22, Dt22, -, stt22⟩ := newO Xt5 hx hZ hown (hw _ (List.mem_of_getElem? (i := 4) rfl)) (hw _ (List.mem_of_getElem? (i := 5) rfl)) (hw _ (List.mem_of_getElem? (i := 6) rfl)) et5 (g := (mkF m 15 #[.val (.int p0), .val (.int p1), .val (.int p2), .val .null, .val (.ref sa2), .unset] [])) rfl (hb hby at_15) (by decide) (by decide)
      obtain ⟨ob23, gob23⟩ : ∃ z, z = ht5.size := ⟨_, rfl⟩
      rw [← gob23] at At22 Dt22 stt22
      refine go stt22 ?_
      have fr_ob23 : Z.heap.size ≤ ob23 := gob23 ▸ O8.1
      have O24 : Ext Z.heap ht22 := extT O8 Et22
      replace hS := hS.ext Et22
      have F_admin_ob23 : Fld Z ht22 ob23 "com/example/ambit/ambit/server/Caller" "admin" "Z" (.int (0 : Int32)) := Dt22 (Or.inr (hw _ (List.mem_of_getElem? (i := 19) rfl))) (ty := .boolean) (by decide)
      have F_system_ob23 : Fld Z ht22 ob23 "com/example/ambit/ambit/server/Caller" "system" "Ljava/lang/String;" .null := Dt22 (Or.inr (hw _ (List.mem_of_getElem? (i := 21) rfl))) (ty := (.object "java/lang/String")) (by decide)
      have F_user_ob23 : Fld Z ht22 ob23 "com/example/ambit/ambit/server/Caller" "user" "Ljava/lang/String;" .null := Dt22 (Or.inr (hw _ (List.mem_of_getElem? (i := 23) rfl))) (ty := (.object "java/lang/String")) (by decide)
      show Goes p e below _ (Tt22.setTop (mkF m 18 #[.val (.int p0), .val (.int p1), .val (.int p2), .val .null, .val (.ref sa2), .unset] [(.ref ob23)]))
      refine gDup Xt22 hx (hb hby at_18) rfl ?_
      refine gIconst Xt22 hx (hb hby at_19) (v := (1 : Int32)) rfl ?_
      refine gAloadN Xt22 hx (hb hby at_20) rfl rfl ?_
      refine gAload Xt22 hx (hb hby at_21) rfl rfl ?_
      refine goCallI Xt22 hx hZ rfl hown (hw _ (List.mem_of_getElem? (i := 7) rfl)) (hw _ (List.mem_of_getElem? (i := 8) rfl)) (hw _ (List.mem_of_getElem? (i := 6) rfl)) (hw _ (List.mem_of_getElem? (i := 9) rfl)) (by decide) (rmCNA l Z a0 hw ob23  sa2 ht22 O24 At22 F_admin_ob23 F_system_ob23 F_user_ob23 fr_ob23) 1 (by decide) (by decide) et22 (hsz rfl) ob23 [(.int (1 : Int32)), .null, (.ref sa2)] [(.ref ob23)] pd_11 rfl rfl rfl (Nat.le_of_eq rfl) (hb hby at_23) (by decide) (by decide) (fun Tt25 vt25 Lt25 Xt25 qt25 => ?_)
      obtain ⟨ht25, et25⟩ : ∃ z, Tt25.heap = z := ⟨_, rfl⟩
      rw [et25] at qt25
      obtain ⟨rfl, N26, Kct25, Fad⟩ := qt25
      have N27 := Fr.app N7 N26
      replace At22 := At22.keep Kct25
      have O28 : Ext Z.heap ht25 := extK O24 Kct25 (allS fr_ob23 all0)
      replace hS := hS.keep Kct25
      show Goes p e below _ (Tt25.setTop (mkF m 26 #[.val (.int p0), .val (.int p1), .val (.int p2), .val .null, .val (.ref sa2), .unset] [(.ref ob23)]))
      refine gAstore Xt25 hx (hb hby at_26) rfl (l' := #[.val (.int p0), .val (.int p1), .val (.int p2), .val .null, .val (.ref sa2), .val (.ref ob23)]) rfl ?_
      refine gAload Xt25 hx (hb hby at_28) rfl rfl ?_
      refine goCallV Xt25 hx hZ hown (hw _ (List.mem_of_getElem? (i := 24) rfl)) (hw _ (List.mem_of_getElem? (i := 25) rfl)) (hw _ (List.mem_of_getElem? (i := 27) rfl)) (hw _ (List.mem_of_getElem? (i := 26) rfl)) (hw _ (List.mem_of_getElem? (i := 6) rfl)) (hw _ (List.mem_of_getElem? (i := 28) rfl)) (by decide) (rmQ l Z a0 hw ob23 ht25 O28 Fad) 0 (by decide) (by decide) et25 At22 (hsz rfl) [] [] pd_7 rfl rfl rfl (Nat.le_of_eq rfl) (hb hby at_30) (by decide) (by decide) (fun Tt29 vt29 Lt29 Xt29 qt29 => ?_)
      obtain ⟨rfl, N30, et29⟩ := qt29
      have N31 := Fr.app N27 N30
      show Goes p e below _ (Tt29.setTop (mkF m 33 #[.val (.int p0), .val (.int p1), .val (.int p2), .val .null, .val (.ref sa2), .val (.ref ob23)] []))
      refine gAload Xt29 hx (hb hby at_33) rfl rfl ?_
      refine goCallV Xt29 hx hZ hown (hw _ (List.mem_of_getElem? (i := 29) rfl)) (hw _ (List.mem_of_getElem? (i := 30) rfl)) (hw _ (List.mem_of_getElem? (i := 32) rfl)) (hw _ (List.mem_of_getElem? (i := 31) rfl)) (hw _ (List.mem_of_getElem? (i := 6) rfl)) (hw _ (List.mem_of_getElem? (i := 33) rfl)) (by decide) (rmA l Z a0 hw ob23 ht25 O28 Fad) 0 (by decide) (by decide) et29 At22 (hsz rfl) [] [] pd_12 rfl rfl rfl (Nat.le_of_eq rfl) (hb hby at_35) (by decide) (by decide) (fun Tt32 vt32 Lt32 Xt32 qt32 => ?_)
      obtain ⟨rfl, N33, et32⟩ := qt32
      have N34 := Fr.app N31 N33
      show Goes p e below _ (Tt32.setTop (mkF m 38 #[.val (.int p0), .val (.int p1), .val (.int p2), .val .null, .val (.ref sa2), .val (.ref ob23)] [(.int (1 : Int32))]))
      exact goRetNW Xt32 hx hS (t := .boolean) hret hlocks (by simp) (hb hby at_38) (z' := (1 : Int32)) rfl (by decide) (by decide) et32 (⟨rfl, N34⟩)
  · show Goes p e below _ (Tt1.setTop (mkF m 5 #[.val (.int p0), .val (.int p1), .val (.int p2), .unset, .unset, .unset] [(.ref sa1)]))
    refine gAstoreN Xt1 hx (hb hby at_5) rfl (l' := #[.val (.int p0), .val (.int p1), .val (.int p2), .val (.ref sa1), .unset, .unset]) rfl ?_
    refine gIloadN Xt1 hx (hb hby at_6) rfl ?_
    refine gIconst Xt1 hx (hb hby at_7) (v := (3 : Int32)) rfl ?_
    refine gIushr Xt1 hx (hb hby at_8) ?_
    refine gIloadN Xt1 hx (hb hby at_9) rfl ?_
    refine goCallSW Xt1 hx hZ hS hown (hw _ (List.mem_of_getElem? (i := 0) rfl)) (hw _ (List.mem_of_getElem? (i := 1) rfl)) (hw _ (List.mem_of_getElem? (i := 2) rfl)) (hw _ (List.mem_of_getElem? (i := 3) rfl)) (by decide) (rmD l Z a0 hw cs (XT.ushr p0 (3 : Int32)) p2 ht1 O4 S_cs hcs hh hcw) (fun _ w_ => Es1.warm w_) 0 (by decide) (by decide) et1 (hsz rfl) [(.int (XT.ushr p0 (3 : Int32))), (.int p2)] [] pd_10 rfl rfl rfl (Nat.le_of_eq rfl) (hb hby at_10) (by decide) (by decide) (fun Tt35 vt35 Lt35 Xt35 hZ hown hS wm_t35 qt35 => ?_)
    obtain ⟨ht35, et35⟩ : ∃ z, Tt35.heap = z := ⟨_, rfl⟩
    rw [et35] at qt35 hS
    obtain ⟨r2_, rfl, N36, Kct35, ir2, Es2⟩ := qt35
    have N37 := Fr.app N3 N36
    have O38 : Ext Z.heap ht35 := extK O4 Kct35 all0
    show Goes p e below _ (Tt35.setTop (mkF m 13 #[.val (.int p0), .val (.int p1), .val (.int p2), .val (.ref sa1), .unset, .unset] [r2_]))
    rcases ref_cases ir2 with rfl | ⟨sa2, rfl⟩
    · show Goes p e below _ (Tt35.setTop (mkF m 13 #[.val (.int p0), .val (.int p1), .val (.int p2), .val (.ref sa1), .unset, .unset] [.null]))
      refine gAstore Xt35 hx (hb hby at_13) rfl (l' := #[.val (.int p0), .val (.int p1), .val (.int p2), .val (.ref sa1), .val .null, .unset]) rfl ?_
      obtain ⟨Tt39, ht39, Xt39, et39, Et39, At39, Dt39, -, stt39⟩ := newO Xt35 hx hZ hown (hw _ (List.mem_of_getElem? (i := 4) rfl)) (hw _ (List.mem_of_getElem? (i := 5) rfl)) (hw _ (List.mem_of_getElem? (i := 6) rfl)) et35 (g := (mkF m 15 #[.val (.int p0), .val (.int p1), .val (.int p2), .val (.ref sa1), .val .null, .unset] [])) rfl (hb hby at_15) (by decide) (by decide)
      obtain ⟨ob40, gob40⟩ : ∃ z, z = ht35.size := ⟨_, rfl⟩
      rw [← gob40] at At39 Dt39 stt39
      refine go stt39 ?_
      have fr_ob40 : Z.heap.size ≤ ob40 := gob40 ▸ O38.1
      have O41 : Ext Z.heap ht39 := extT O38 Et39
      replace hS := hS.ext Et39
      have F_admin_ob40 : Fld Z ht39 ob40 "com/example/ambit/ambit/server/Caller" "admin" "Z" (.int (0 : Int32)) := Dt39 (Or.inr (hw _ (List.mem_of_getElem? (i := 19) rfl))) (ty := .boolean) (by decide)
      have F_system_ob40 : Fld Z ht39 ob40 "com/example/ambit/ambit/server/Caller" "system" "Ljava/lang/String;" .null := Dt39 (Or.inr (hw _ (List.mem_of_getElem? (i := 21) rfl))) (ty := (.object "java/lang/String")) (by decide)
      have F_user_ob40 : Fld Z ht39 ob40 "com/example/ambit/ambit/server/Caller" "user" "Ljava/lang/String;" .null := Dt39 (Or.inr (hw _ (List.mem_of_getElem? (i := 23) rfl))) (ty := (.object "java/lang/String")) (by decide)
      show Goes p e below _ (Tt39.setTop (mkF m 18 #[.val (.int p0), .val (.int p1), .val (.int p2), .val (.ref sa1), .val .null, .unset] [(.ref ob40)]))
      refine gDup Xt39 hx (hb hby at_18) rfl ?_
      refine gIconst Xt39 hx (hb hby at_19) (v := (1 : Int32)) rfl ?_
      refine gAloadN Xt39 hx (hb hby at_20) rfl rfl ?_
      refine gAload Xt39 hx (hb hby at_21) rfl rfl ?_
      refine goCallI Xt39 hx hZ rfl hown (hw _ (List.mem_of_getElem? (i := 7) rfl)) (hw _ (List.mem_of_getElem? (i := 8) rfl)) (hw _ (List.mem_of_getElem? (i := 6) rfl)) (hw _ (List.mem_of_getElem? (i := 9) rfl)) (by decide) (rmCAN l Z a0 hw ob40 sa1  ht39 O41 At39 F_admin_ob40 F_system_ob40 F_user_ob40 fr_ob40) 1 (by decide) (by decide) et39 (hsz rfl) ob40 [(.int (1 : Int32)), (.ref sa1), .null] [(.ref ob40)] pd_11 rfl rfl rfl (Nat.le_of_eq rfl) (hb hby at_23) (by decide) (by decide) (fun Tt42 vt42 Lt42 Xt42 qt42 => ?_)
      obtain ⟨ht42, et42⟩ : ∃ z, Tt42.heap = z := ⟨_, rfl⟩
      rw [et42] at qt42
      obtain ⟨rfl, N43, Kct42, Fad⟩ := qt42
      have N44 := Fr.app N37 N43
      replace At39 := At39.keep Kct42
      have O45 : Ext Z.heap ht42 := extK O41 Kct42 (allS fr_ob40 all0)
      replace hS := hS.keep Kct42
      show Goes p e below _ (Tt42.setTop (mkF m 26 #[.val (.int p0), .val (.int p1), .val (.int p2), .val (.ref sa1), .val .null, .unset] [(.ref ob40)]))
      refine gAstore Xt42 hx (hb hby at_26) rfl (l' := #[.val (.int p0), .val (.int p1), .val (.int p2), .val (.ref sa1), .val .null, .val (.ref ob40)]) rfl ?_
      refine gAload Xt42 hx (hb hby at_28) rfl rfl ?_
      refine goCallV Xt42 hx hZ hown (hw _ (List.mem_of_getElem? (i := 24) rfl)) (hw _ (List.mem_of_getElem? (i := 25) rfl)) (hw _ (List.mem_of_getElem? (i := 27) rfl)) (hw _ (List.mem_of_getElem? (i := 26) rfl)) (hw _ (List.mem_of_getElem? (i := 6) rfl)) (hw _ (List.mem_of_getElem? (i := 28) rfl)) (by decide) (rmQ l Z a0 hw ob40 ht42 O45 Fad) 0 (by decide) (by decide) et42 At39 (hsz rfl) [] [] pd_7 rfl rfl rfl (Nat.le_of_eq rfl) (hb hby at_30) (by decide) (by decide) (fun Tt46 vt46 Lt46 Xt46 qt46 => ?_)
      obtain ⟨rfl, N47, et46⟩ := qt46
      have N48 := Fr.app N44 N47
      show Goes p e below _ (Tt46.setTop (mkF m 33 #[.val (.int p0), .val (.int p1), .val (.int p2), .val (.ref sa1), .val .null, .val (.ref ob40)] []))
      refine gAload Xt46 hx (hb hby at_33) rfl rfl ?_
      refine goCallV Xt46 hx hZ hown (hw _ (List.mem_of_getElem? (i := 29) rfl)) (hw _ (List.mem_of_getElem? (i := 30) rfl)) (hw _ (List.mem_of_getElem? (i := 32) rfl)) (hw _ (List.mem_of_getElem? (i := 31) rfl)) (hw _ (List.mem_of_getElem? (i := 6) rfl)) (hw _ (List.mem_of_getElem? (i := 33) rfl)) (by decide) (rmA l Z a0 hw ob40 ht42 O45 Fad) 0 (by decide) (by decide) et46 At39 (hsz rfl) [] [] pd_12 rfl rfl rfl (Nat.le_of_eq rfl) (hb hby at_35) (by decide) (by decide) (fun Tt49 vt49 Lt49 Xt49 qt49 => ?_)
      obtain ⟨rfl, N50, et49⟩ := qt49
      have N51 := Fr.app N48 N50
      show Goes p e below _ (Tt49.setTop (mkF m 38 #[.val (.int p0), .val (.int p1), .val (.int p2), .val (.ref sa1), .val .null, .val (.ref ob40)] [(.int (1 : Int32))]))
      exact goRetNW Xt49 hx hS (t := .boolean) hret hlocks (by simp) (hb hby at_38) (z' := (1 : Int32)) rfl (by decide) (by decide) et49 (⟨rfl, N51⟩)
    · show Goes p e below _ (Tt35.setTop (mkF m 13 #[.val (.int p0), .val (.int p1), .val (.int p2), .val (.ref sa1), .unset, .unset] [(.ref sa2)]))
      refine gAstore Xt35 hx (hb hby at_13) rfl (l' := #[.val (.int p0), .val (.int p1), .val (.int p2), .val (.ref sa1), .val (.ref sa2), .unset]) rfl ?_
      obtain ⟨Tt52, ht52, Xt52, et52, Et52, At52, Dt52, -, stt52⟩ := newO Xt35 hx hZ hown (hw _ (List.mem_of_getElem? (i := 4) rfl)) (hw _ (List.mem_of_getElem? (i := 5) rfl)) (hw _ (List.mem_of_getElem? (i := 6) rfl)) et35 (g := (mkF m 15 #[.val (.int p0), .val (.int p1), .val (.int p2), .val (.ref sa1), .val (.ref sa2), .unset] [])) rfl (hb hby at_15) (by decide) (by decide)
      obtain ⟨ob53, gob53⟩ : ∃ z, z = ht35.size := ⟨_, rfl⟩
      rw [← gob53] at At52 Dt52 stt52
      refine go stt52 ?_
      have fr_ob53 : Z.heap.size ≤ ob53 := gob53 ▸ O38.1
      have O54 : Ext Z.heap ht52 := extT O38 Et52
      replace hS := hS.ext Et52
      have F_admin_ob53 : Fld Z ht52 ob53 "com/example/ambit/ambit/server/Caller" "admin" "Z" (.int (0 : Int32)) := Dt52 (Or.inr (hw _ (List.mem_of_getElem? (i := 19) rfl))) (ty := .boolean) (by decide)
      have F_system_ob53 : Fld Z ht52 ob53 "com/example/ambit/ambit/server/Caller" "system" "Ljava/lang/String;" .null := Dt52 (Or.inr (hw _ (List.mem_of_getElem? (i := 21) rfl))) (ty := (.object "java/lang/String")) (by decide)
      have F_user_ob53 : Fld Z ht52 ob53 "com/example/ambit/ambit/server/Caller" "user" "Ljava/lang/String;" .null := Dt52 (Or.inr (hw _ (List.mem_of_getElem? (i := 23) rfl))) (ty := (.object "java/lang/String")) (by decide)
      show Goes p e below _ (Tt52.setTop (mkF m 18 #[.val (.int p0), .val (.int p1), .val (.int p2), .val (.ref sa1), .val (.ref sa2), .unset] [(.ref ob53)]))
      refine gDup Xt52 hx (hb hby at_18) rfl ?_
      refine gIconst Xt52 hx (hb hby at_19) (v := (1 : Int32)) rfl ?_
      refine gAloadN Xt52 hx (hb hby at_20) rfl rfl ?_
      refine gAload Xt52 hx (hb hby at_21) rfl rfl ?_
      refine goCallI Xt52 hx hZ rfl hown (hw _ (List.mem_of_getElem? (i := 7) rfl)) (hw _ (List.mem_of_getElem? (i := 8) rfl)) (hw _ (List.mem_of_getElem? (i := 6) rfl)) (hw _ (List.mem_of_getElem? (i := 9) rfl)) (by decide) (rmCAA l Z a0 hw ob53 sa1 sa2 ht52 O54 At52 F_admin_ob53 F_system_ob53 F_user_ob53 fr_ob53) 1 (by decide) (by decide) et52 (hsz rfl) ob53 [(.int (1 : Int32)), (.ref sa1), (.ref sa2)] [(.ref ob53)] pd_11 rfl rfl rfl (Nat.le_of_eq rfl) (hb hby at_23) (by decide) (by decide) (fun Tt55 vt55 Lt55 Xt55 qt55 => ?_)
      obtain ⟨ht55, et55⟩ : ∃ z, Tt55.heap = z := ⟨_, rfl⟩
      rw [et55] at qt55
      obtain ⟨rfl, N56, Kct55, Fad⟩ := qt55
      have N57 := Fr.app N37 N56
      replace At52 := At52.keep Kct55
      have O58 : Ext Z.heap ht55 := extK O54 Kct55 (allS fr_ob53 all0)
      replace hS := hS.keep Kct55
      show Goes p e below _ (Tt55.setTop (mkF m 26 #[.val (.int p0), .val (.int p1), .val (.int p2), .val (.ref sa1), .val (.ref sa2), .unset] [(.ref ob53)]))
      refine gAstore Xt55 hx (hb hby at_26) rfl (l' := #[.val (.int p0), .val (.int p1), .val (.int p2), .val (.ref sa1), .val (.ref sa2), .val (.ref ob53)]) rfl ?_
      refine gAload Xt55 hx (hb hby at_28) rfl rfl ?_
      refine goCallV Xt55 hx hZ hown (hw _ (List.mem_of_getElem? (i := 24) rfl)) (hw _ (List.mem_of_getElem? (i := 25) rfl)) (hw _ (List.mem_of_getElem? (i := 27) rfl)) (hw _ (List.mem_of_getElem? (i := 26) rfl)) (hw _ (List.mem_of_getElem? (i := 6) rfl)) (hw _ (List.mem_of_getElem? (i := 28) rfl)) (by decide) (rmQ l Z a0 hw ob53 ht55 O58 Fad) 0 (by decide) (by decide) et55 At52 (hsz rfl) [] [] pd_7 rfl rfl rfl (Nat.le_of_eq rfl) (hb hby at_30) (by decide) (by decide) (fun Tt59 vt59 Lt59 Xt59 qt59 => ?_)
      obtain ⟨rfl, N60, et59⟩ := qt59
      have N61 := Fr.app N57 N60
      show Goes p e below _ (Tt59.setTop (mkF m 33 #[.val (.int p0), .val (.int p1), .val (.int p2), .val (.ref sa1), .val (.ref sa2), .val (.ref ob53)] []))
      refine gAload Xt59 hx (hb hby at_33) rfl rfl ?_
      refine goCallV Xt59 hx hZ hown (hw _ (List.mem_of_getElem? (i := 29) rfl)) (hw _ (List.mem_of_getElem? (i := 30) rfl)) (hw _ (List.mem_of_getElem? (i := 32) rfl)) (hw _ (List.mem_of_getElem? (i := 31) rfl)) (hw _ (List.mem_of_getElem? (i := 6) rfl)) (hw _ (List.mem_of_getElem? (i := 33) rfl)) (by decide) (rmA l Z a0 hw ob53 ht55 O58 Fad) 0 (by decide) (by decide) et59 At52 (hsz rfl) [] [] pd_12 rfl rfl rfl (Nat.le_of_eq rfl) (hb hby at_35) (by decide) (by decide) (fun Tt62 vt62 Lt62 Xt62 qt62 => ?_)
      obtain ⟨rfl, N63, et62⟩ := qt62
      have N64 := Fr.app N61 N63
      show Goes p e below _ (Tt62.setTop (mkF m 38 #[.val (.int p0), .val (.int p1), .val (.int p2), .val (.ref sa1), .val (.ref sa2), .val (.ref ob53)] [(.int (1 : Int32))]))
      exact goRetNW Xt62 hx hS (t := .boolean) hret hlocks (by simp) (hb hby at_38) (z' := (1 : Int32)) rfl (by decide) (by decide) et62 (⟨rfl, N64⟩)
set_option maxRecDepth 65536 in
set_option maxHeartbeats 40000000 in
theorem comes_1 {Post : Tables → Env → Array Value → State → Outcome → State → Prop} (hpost : ∀ tb e args s v u, (limb_1_1.after args s (.returned v) u = true ∧ limb_1_2.after args s (.returned v) u = true ∧ True) → ReturnedEndW s (.returned v) u (Jvm.fieldLocs frame_1_writes args s ++ Jvm.arrayLocs frame_1_arrays args s ++ Jvm.staticLocs frame_1_statics s) 24 1152 → Post tb e args s (.returned v) u) :
    ArmFor flags0 classFile x code maxLocals ret World_1 tables_1 room_1 Calls_1 rest_1 Pre_1 Post := by
  intro l hfl _ _ p e ha hc hk s m args below hf hA hF happ hP
  obtain ⟨hcalls, hrest, hpre⟩ := hP
  obtain ⟨-, -, -, hnamed, -, -, -, hat⟩ := (Spec.applies_iff hf).mp happ
  obtain ⟨hg, hn⟩ := and_e (Cond.before_iff.mp (show (Jvm.Cond.and given_1 narrow_1).before args s = true from hpre))
  obtain ⟨hc0, r0⟩ := and_e hg
  obtain ⟨c0, r1⟩ := and_e r0
  obtain ⟨c1, r2⟩ := and_e r1
  have c2 := r2
  obtain ⟨w0, w1, w2, rfl⟩ : ∃ w0 w1 w2 : Value, args = #[w0, w1, w2] := by
    have hs : args.size = 3 := by simpa [Cond.value, given_1] using hc0
    obtain ⟨L⟩ := args
    match L, hs with
    | [w0, w1, w2], _ => exact ⟨w0, w1, w2, rfl⟩
  have hw := fun d (hd : d ∈ tables_1) => atoms_spec (ws := Jvm.Cond.code x code maxLocals ret :: tables_1) hat d (List.mem_cons_of_mem _ hd)
  obtain ⟨hsets, hown0⟩ := atoms_of _ (rest_1_c_eq ▸ (show rest_1_c.before _ s = true from hrest))
  have hfit : Fit s := fun {y c} hc i hi => by
    obtain ⟨ha, rfl⟩ := Array.getElem?_eq_some_iff.mp hc
    have q := List.all_eq_true.mp ((Array.all_eq_true_iff_forall_mem.mp hF) _ (Array.getElem_mem ha)) i (List.mem_range.mpr hi)
    simpa [Array.getElem?_eq_getElem hi] using q
  obtain ⟨x0, y0⟩ := is_v c0
  obtain rfl : w0 = (.int x0) := Option.some.inj y0
  obtain ⟨x1, y1⟩ := is_v c1
  obtain rfl : w1 = (.int x1) := Option.some.inj y1
  obtain ⟨x2, y2⟩ := is_v c2
  obtain rfl : w2 = (.int x2) := Option.some.inj y2
  have n5 := not_v (Cond.before_iff.mp (hsets _ (List.mem_of_getElem? (i := 2) rfl)))
  obtain ⟨cs, e10⟩ := is_v (Cond.before_iff.mp (hsets _ (List.mem_of_getElem? (i := 1) rfl)))
  have S_cs : Sta s s.heap "java/lang/String" "COMPACT_STRINGS" "Z" (.int cs) := Sta.start e10 (Or.inl (hsets _ (List.mem_of_getElem? (i := 0) rfl)))
  have hcs : ¬ (cs = (0 : Int32)) := gotF (Cond.eq_ints e10 (Term.int_eval (0))) n5
  have hcw : Jvm.Lit.compactW.before _ s = true := hsets _ (List.mem_of_getElem? (i := 2) rfl)
  have hh0 : Jvm.Lit.constHeld s "java/lang/String" 7 := hcalls.1 _ (List.mem_of_getElem? (i := 0) rfl)
  obtain ⟨n, o, h1, h2, h3, _, L, rfl, ⟨rfl, N⟩, hq⟩ := rm0 l s _ hw cs x0 x1 x2 s.heap ⟨Nat.le_refl _, fun _ _ q => q⟩ S_cs hcs hh0 hcw p e ha hc hk s m _ below hf ((Spec.applies_iff_loose hf).mp happ).1 ⟨rfl, State.Warmed39.refl s, rfl, Or.inl IB.start⟩ trivial
  refine ⟨n, _, h1, h2, h3, hpost _ _ _ _ _ _ ⟨Cond.after_iff.mpr rfl, Cond.after_iff.mpr (eq_i res_at (Term.int_eval (1)) rfl), trivial⟩ ⟨hq.1, hq.2.1, hq.2.2.1, (hq.2.2.2.sift fun y hy => Or.inr (N y hy)).mono (by decide) (by decide)⟩⟩
theorem main_1_1 : Claimed_1_1 := comes_1 fun _ _ _ _ _ _ h hF => ⟨h.1, hF⟩
theorem main_1_2 : Claimed_1_2 := comes_1 fun _ _ _ _ _ _ h hF => ⟨h.2.1, hF⟩
end Jvm.Pilot.@@N@@
namespace Jvm.Pilot.@@N@@
open Jvm Jvm.ClassFile Sem Op Lib Jvm.Free Jvm.Stand Jvm.Pilot.@@N@@.Jvm.D
/-! MADE BY PROGRAM (witnessworld.py) out of the Statement's table words and the real class files: 21 classes; the members and pool entries that the words name. The judged class is class 1, her method 2. -/
namespace start1
open Jvm.ClassFile
def u (s : String) : CpInfo := .utf8 (stringToUtf16 s)
/-- a pool by its gaps: so many unusable entries, then the entry; so many at the end -/
def gap : Nat → List CpInfo → List CpInfo
  | 0, r => r
  | n + 1, r => .unusable :: gap n r
def poolList (es : List (Nat × CpInfo)) (last : Nat) : List CpInfo := es.foldr (fun e r => gap e.1 (e.2 :: r)) (gap last [])
def pool (es : List (Nat × CpInfo)) (last : Nat) : Array CpInfo := ⟨poolList es last⟩
def fileOf (pool : Array CpInfo) (this : Nat) (attrs : Array Attribute := #[]) (ms : Array MethodInfo := #[]) (fl : Nat := 33) (sup : Nat := 0) (ifs : Array Nat := #[]) (fds : Array FieldInfo := #[]) : ClassFile where
  minorVersion := 0
  majorVersion := 65
  constantPool := pool
  accessFlags := fl
  thisClass := this
  superClass := sup
  interfaces := ifs
  fields := fds
  methods := ms
  attributes := attrs
def plain (name : String) (sup : Option ClassId) : Class where
  name := name
  kind := .ordinary
  loader := none
  accessFlags := 33
  super := sup
  interfaces := #[]
  cf := none
  fields := #[]
  methods := #[]
  instanceTypes := #[]
  staticTypes := #[]
  resolved := #[]
  callSites := []
  init := .initialized
  statics := none
  mirror := none

def pool0 : Array CpInfo := pool [(5, u "<init>"), (0, u "()V"), (1, .class_ 10), (1, u "java/lang/Object")] 113

def k0c0 : Code := { maxStack := 0, maxLocals := 1, code := object_method_1_code, exceptionTable := #[], attributes := #[] }
def k0m0 : Method := { name := "<init>", desc := "()V", sig := { parameters := [], returnType := none }, accessFlags := 1, code := some k0c0 }
/-- java/lang/Object -/
def k0 : Class := { plain "java/lang/Object" none with
  accessFlags := 33
  interfaces := #[]
  cf := some (fileOf pool0 8 #[] #[{ accessFlags := 1, nameIndex := 5, descriptorIndex := 6, attributes := #[] }] 33 0 #[] #[])
  fields := #[]
  methods := #[k0m0]
  instanceTypes := #[]
  staticTypes := #[]
  resolved := Array.replicate 124 none
  statics := none }

def pool1 : Array CpInfo := pool [(2, .class_ 4), (1, u "java/lang/Object"), (0, u "<init>"), (0, u "()V"), (0, .class_ 8), (0, u "java/lang/String"), (0, .methodref 7 10), (0, .nameAndType 5 11), (0, u "([C)V"), (0, .methodref 7 13), (0, .nameAndType 14 15), (0, u "valueOf"), (0, u "(C)Ljava/lang/String;"), (0, .methodref 17 18), (0, .class_ 19), (0, .nameAndType 20 21), (0, u "com/example/ambit/ambit/server/CallerRequireAdminPinLaw"), (0, u "drawn"), (0, u "(II)Ljava/lang/String;"), (0, .class_ 23), (0, u "com/example/ambit/ambit/server/Caller"), (0, .methodref 22 25), (0, .nameAndType 5 26), (0, u "(ZLjava/lang/String;Ljava/lang/String;)V"), (0, .methodref 22 28), (0, .nameAndType 29 6), (0, u "requireAdmin"), (0, .methodref 22 31), (0, .nameAndType 32 33), (0, u "admin"), (0, u "()Z"), (3, u "law"), (0, u "(III)Z")] 5

def k1m0 : Method := { name := "<init>", desc := "()V", sig := { parameters := [], returnType := none }, accessFlags := 1, code := none }
def k1c1 : Code := { maxStack := 4, maxLocals := 4, code := method_2_code, exceptionTable := #[], attributes := #[] }
def k1m1 : Method := { name := "drawn", desc := "(II)Ljava/lang/String;", sig := { parameters := [.int, .int], returnType := some (.object "java/lang/String") }, accessFlags := 10, code := some k1c1 }
def k1c2 : Code := { maxStack := 5, maxLocals := 6, code := code, exceptionTable := #[], attributes := #[] }
def k1m2 : Method := { name := "law", desc := "(III)Z", sig := { parameters := [.int, .int, .int], returnType := some .boolean }, accessFlags := 9, code := some k1c2 }
/-- com/example/ambit/ambit/server/CallerRequireAdminPinLaw -/
def k1 : Class := { plain "com/example/ambit/ambit/server/CallerRequireAdminPinLaw" (some 0) with
  accessFlags := 49
  interfaces := #[]
  cf := some (fileOf pool1 17 #[] #[{ accessFlags := 1, nameIndex := 5, descriptorIndex := 6, attributes := #[] }, { accessFlags := 10, nameIndex := 20, descriptorIndex := 21, attributes := #[] }, { accessFlags := 9, nameIndex := 37, descriptorIndex := 38, attributes := #[] }] 49 2 #[] #[])
  fields := #[]
  methods := #[k1m0, k1m1, k1m2]
  instanceTypes := #[]
  staticTypes := #[]
  resolved := Array.replicate 44 none
  statics := none }

def pool2 : Array CpInfo := pool [(1, .methodref 2 3), (0, .class_ 4), (0, .nameAndType 5 6), (0, u "java/lang/Object"), (0, u "<init>"), (0, u "()V"), (0, .class_ 8), (0, u "java/lang/Record")] 13

def k2c0 : Code := { maxStack := 1, maxLocals := 1, code := jdk_30_method_1_code, exceptionTable := #[], attributes := #[] }
def k2m0 : Method := { name := "<init>", desc := "()V", sig := { parameters := [], returnType := none }, accessFlags := 4, code := some k2c0 }
/-- java/lang/Record -/
def k2 : Class := { plain "java/lang/Record" (some 0) with
  accessFlags := 1057
  interfaces := #[]
  cf := some (fileOf pool2 7 #[] #[{ accessFlags := 4, nameIndex := 5, descriptorIndex := 6, attributes := #[] }] 1057 2 #[] #[])
  fields := #[]
  methods := #[k2m0]
  instanceTypes := #[]
  staticTypes := #[]
  resolved := Array.replicate 22 none
  statics := none }

def pool3 : Array CpInfo := pool [(1, .methodref 2 3), (0, .class_ 4), (0, .nameAndType 5 6), (0, u "java/lang/Record"), (0, u "<init>"), (0, u "()V"), (0, .fieldref 8 9), (0, .class_ 10), (0, .nameAndType 11 12), (0, u "com/example/ambit/ambit/server/Caller"), (0, u "admin"), (0, u "Z"), (0, .fieldref 8 14), (0, .nameAndType 15 16), (0, u "system"), (0, u "Ljava/lang/String;"), (0, .fieldref 8 18), (0, .nameAndType 19 16), (0, u "user"), (2, u "(ZLjava/lang/String;Ljava/lang/String;)V"), (37, u "requireAdmin"), (7, u "()Z")] 32

def k3c0 : Code := { maxStack := 2, maxLocals := 4, code := prog_28_method_1_code, exceptionTable := #[], attributes := #[] }
def k3m0 : Method := { name := "<init>", desc := "(ZLjava/lang/String;Ljava/lang/String;)V", sig := { parameters := [.boolean, (.object "java/lang/String"), (.object "java/lang/String")], returnType := none }, accessFlags := 0, code := some k3c0 }
def k3c1 : Code := { maxStack := 1, maxLocals := 1, code := prog_28_method_5_code, exceptionTable := #[], attributes := #[] }
def k3m1 : Method := { name := "requireAdmin", desc := "()V", sig := { parameters := [], returnType := none }, accessFlags := 0, code := some k3c1 }
def k3c2 : Code := { maxStack := 1, maxLocals := 1, code := prog_28_method_10_code, exceptionTable := #[], attributes := #[] }
def k3m2 : Method := { name := "admin", desc := "()Z", sig := { parameters := [], returnType := some .boolean }, accessFlags := 1, code := some k3c2 }
/-- com/example/ambit/ambit/server/Caller -/
def k3 : Class := { plain "com/example/ambit/ambit/server/Caller" (some 2) with
  accessFlags := 48
  interfaces := #[]
  cf := some (fileOf pool3 8 #[] #[{ accessFlags := 0, nameIndex := 5, descriptorIndex := 22, attributes := #[] }, { accessFlags := 0, nameIndex := 60, descriptorIndex := 6, attributes := #[] }, { accessFlags := 1, nameIndex := 11, descriptorIndex := 68, attributes := #[] }] 48 2 #[] #[{ accessFlags := 18, nameIndex := 11, descriptorIndex := 12, attributes := #[] }, { accessFlags := 18, nameIndex := 15, descriptorIndex := 16, attributes := #[] }, { accessFlags := 18, nameIndex := 19, descriptorIndex := 16, attributes := #[] }])
  fields := #[{ name := "admin", type := .boolean, accessFlags := 18, slot := 0, constantValue := 0 }, { name := "system", type := (.object "java/lang/String"), accessFlags := 18, slot := 1, constantValue := 0 }, { name := "user", type := (.object "java/lang/String"), accessFlags := 18, slot := 2, constantValue := 0 }]
  methods := #[k3m0, k3m1, k3m2]
  instanceTypes := #[.boolean, (.object "java/lang/String"), (.object "java/lang/String")]
  staticTypes := #[]
  resolved := Array.replicate 101 none
  statics := none }

def pool4 : Array CpInfo := pool [(1, .class_ 2), (0, u "java/io/Serializable"), (0, .class_ 4), (0, u "java/lang/Object")] 2

/-- java/io/Serializable -/
def k4 : Class := { plain "java/io/Serializable" (some 0) with
  accessFlags := 1537
  interfaces := #[]
  cf := some (fileOf pool4 1 #[] #[] 1537 3 #[] #[])
  fields := #[]
  methods := #[]
  instanceTypes := #[]
  staticTypes := #[]
  resolved := Array.replicate 7 none
  statics := none }

def pool5 : Array CpInfo := pool [(1, .class_ 2), (0, u "java/lang/Comparable"), (0, .class_ 4), (0, u "java/lang/Object")] 7

/-- java/lang/Comparable -/
def k5 : Class := { plain "java/lang/Comparable" (some 0) with
  accessFlags := 1537
  interfaces := #[]
  cf := some (fileOf pool5 1 #[] #[] 1537 3 #[] #[])
  fields := #[]
  methods := #[]
  instanceTypes := #[]
  staticTypes := #[]
  resolved := Array.replicate 12 none
  statics := none }

def pool6 : Array CpInfo := pool [(2, .class_ 4), (1, u "java/lang/CharSequence"), (42, .class_ 48), (0, u "java/lang/CharSequence$1CodePointIterator"), (10, .class_ 60), (0, u "java/lang/CharSequence$1CharIterator"), (5, .class_ 67), (0, u "java/lang/Object")] 63

/-- java/lang/CharSequence -/
def k6 : Class := { plain "java/lang/CharSequence" (some 0) with
  accessFlags := 1537
  interfaces := #[]
  cf := some (fileOf pool6 2 #[.nestMembers #[47, 59]] #[] 1537 66 #[] #[])
  fields := #[]
  methods := #[]
  instanceTypes := #[]
  staticTypes := #[]
  resolved := Array.replicate 131 none
  statics := none }

def pool7 : Array CpInfo := pool [(1, .class_ 2), (0, u "java/lang/constant/Constable"), (0, .class_ 4), (0, u "java/lang/Object")] 6

/-- java/lang/constant/Constable -/
def k7 : Class := { plain "java/lang/constant/Constable" (some 0) with
  accessFlags := 1537
  interfaces := #[]
  cf := some (fileOf pool7 1 #[] #[] 1537 3 #[] #[])
  fields := #[]
  methods := #[]
  instanceTypes := #[]
  staticTypes := #[]
  resolved := Array.replicate 11 none
  statics := none }

def pool8 : Array CpInfo := pool [(1, .class_ 2), (0, u "java/lang/constant/ConstantDesc"), (0, .class_ 4), (0, u "java/lang/Object")] 32

/-- java/lang/constant/ConstantDesc -/
def k8 : Class := { plain "java/lang/constant/ConstantDesc" (some 0) with
  accessFlags := 1537
  interfaces := #[]
  cf := some (fileOf pool8 1 #[] #[] 1537 3 #[] #[])
  fields := #[]
  methods := #[]
  instanceTypes := #[]
  staticTypes := #[]
  resolved := Array.replicate 37 none
  statics := none }

def pool9 : Array CpInfo := pool [(1, .methodref 2 3), (0, .class_ 4), (0, .nameAndType 5 6), (0, u "java/lang/Object"), (0, u "<init>"), (0, u "()V"), (0, .string 8), (0, u ""), (0, .fieldref 10 11), (0, .class_ 12), (0, .nameAndType 13 14), (0, u "java/lang/String"), (0, u "value"), (0, u "[B"), (0, .fieldref 10 16), (0, .nameAndType 17 18), (0, u "coder"), (0, u "B"), (2, u "hash"), (0, u "I"), (2, u "hashIsZero"), (0, u "Z"), (0, .methodref 10 28), (0, .nameAndType 5 29), (0, u "([CIILjava/lang/Void;)V"), (8, .fieldref 10 39), (0, .nameAndType 40 26), (0, u "COMPACT_STRINGS"), (1, .class_ 44), (1, u "java/lang/StringUTF16"), (0, u "compress"), (1, .methodref 42 48), (0, .nameAndType 49 50), (0, u "coderFromArrayLen"), (0, u "([BI)B"), (2, u "toBytes"), (53, .class_ 109), (1, u "java/lang/StringLatin1"), (67, .methodref 42 178), (0, .nameAndType 45 179), (0, u "([CII)[B"), (29, .methodref 10 210), (0, .nameAndType 5 211), (0, u "([BB)V"), (157, u "(C)Z"), (205, .class_ 576), (0, u "java/lang/CharSequence"), (22, u "CASE_INSENSITIVE_ORDER"), (0, u "Ljava/util/Comparator;"), (181, u "valueOf"), (0, u "(C)Ljava/lang/String;"), (226, u "([C)V"), (4, .methodref 107 1016), (0, .nameAndType 1017 369), (0, u "canEncode"), (0, .methodref 107 1019), (0, .nameAndType 53 1020), (0, u "(C)[B"), (80, u "serialPersistentFields"), (0, u "[Ljava/io/ObjectStreamField;"), (0, .class_ 1104), (0, u "java/lang/String$CaseInsensitiveComparator"), (1, .class_ 1107), (0, u "java/io/Serializable"), (0, .class_ 1109), (0, u "java/lang/Comparable"), (0, .class_ 1111), (0, u "java/lang/constant/Constable"), (0, .class_ 1113), (0, u "java/lang/constant/ConstantDesc"), (2, u "serialVersionUID"), (0, u "J"), (3, u "REPL"), (0, u "C"), (2, u "LATIN1"), (1, u "UTF16")] 323

def k9m0 : Method := { name := "<init>", desc := "()V", sig := { parameters := [], returnType := none }, accessFlags := 1, code := none }
def k9c1 : Code := { maxStack := 5, maxLocals := 2, code := jdk_42_method_3_code, exceptionTable := #[], attributes := #[] }
def k9m1 : Method := { name := "<init>", desc := "([C)V", sig := { parameters := [(.array .char)], returnType := none }, accessFlags := 1, code := some k9c1 }
def k9c2 : Code := { maxStack := 4, maxLocals := 1, code := jdk_42_method_139_code, exceptionTable := #[], attributes := #[] }
def k9m2 : Method := { name := "valueOf", desc := "(C)Ljava/lang/String;", sig := { parameters := [.char], returnType := some (.object "java/lang/String") }, accessFlags := 9, code := some k9c2 }
def k9c3 : Code := { maxStack := 4, maxLocals := 6, code := jdk_42_method_149_code, exceptionTable := #[], attributes := #[] }
def k9m3 : Method := { name := "<init>", desc := "([CIILjava/lang/Void;)V", sig := { parameters := [(.array .char), .int, .int, (.object "java/lang/Void")], returnType := none }, accessFlags := 2, code := some k9c3 }
def k9c4 : Code := { maxStack := 2, maxLocals := 3, code := jdk_42_method_151_code, exceptionTable := #[], attributes := #[] }
def k9m4 : Method := { name := "<init>", desc := "([BB)V", sig := { parameters := [(.array .byte), .byte], returnType := none }, accessFlags := 0, code := some k9c4 }
/-- java/lang/String -/
def k9 : Class := { plain "java/lang/String" (some 0) with
  accessFlags := 49
  interfaces := #[4, 5, 6, 7, 8]
  cf := some (fileOf pool9 10 #[.nestMembers #[1103]] #[{ accessFlags := 1, nameIndex := 5, descriptorIndex := 6, attributes := #[] }, { accessFlags := 1, nameIndex := 5, descriptorIndex := 1010, attributes := #[] }, { accessFlags := 9, nameIndex := 782, descriptorIndex := 783, attributes := #[] }, { accessFlags := 2, nameIndex := 5, descriptorIndex := 29, attributes := #[] }, { accessFlags := 0, nameIndex := 5, descriptorIndex := 211, attributes := #[] }] 49 2 #[1106, 1108, 575, 1110, 1112] #[{ accessFlags := 18, nameIndex := 13, descriptorIndex := 14, attributes := #[] }, { accessFlags := 18, nameIndex := 17, descriptorIndex := 18, attributes := #[] }, { accessFlags := 2, nameIndex := 21, descriptorIndex := 22, attributes := #[] }, { accessFlags := 2, nameIndex := 25, descriptorIndex := 26, attributes := #[] }, { accessFlags := 26, nameIndex := 1116, descriptorIndex := 1117, attributes := #[] }, { accessFlags := 24, nameIndex := 40, descriptorIndex := 26, attributes := #[] }, { accessFlags := 26, nameIndex := 1101, descriptorIndex := 1102, attributes := #[] }, { accessFlags := 26, nameIndex := 1121, descriptorIndex := 1122, attributes := #[] }, { accessFlags := 25, nameIndex := 599, descriptorIndex := 600, attributes := #[] }, { accessFlags := 24, nameIndex := 1125, descriptorIndex := 18, attributes := #[] }, { accessFlags := 24, nameIndex := 1127, descriptorIndex := 18, attributes := #[] }])
  fields := #[{ name := "value", type := (.array .byte), accessFlags := 18, slot := 0, constantValue := 0 }, { name := "coder", type := .byte, accessFlags := 18, slot := 1, constantValue := 0 }, { name := "hash", type := .int, accessFlags := 2, slot := 2, constantValue := 0 }, { name := "hashIsZero", type := .boolean, accessFlags := 2, slot := 3, constantValue := 0 }, { name := "serialVersionUID", type := .long, accessFlags := 26, slot := 0, constantValue := 0 }, { name := "COMPACT_STRINGS", type := .boolean, accessFlags := 24, slot := 1, constantValue := 0 }, { name := "serialPersistentFields", type := (.array (.object "java/io/ObjectStreamField")), accessFlags := 26, slot := 2, constantValue := 0 }, { name := "REPL", type := .char, accessFlags := 26, slot := 3, constantValue := 0 }, { name := "CASE_INSENSITIVE_ORDER", type := (.object "java/util/Comparator"), accessFlags := 25, slot := 4, constantValue := 0 }, { name := "LATIN1", type := .byte, accessFlags := 24, slot := 5, constantValue := 0 }, { name := "UTF16", type := .byte, accessFlags := 24, slot := 6, constantValue := 0 }]
  methods := #[k9m0, k9m1, k9m2, k9m3, k9m4]
  instanceTypes := #[(.array .byte), .byte, .int, .boolean]
  staticTypes := #[.long, .boolean, (.array (.object "java/io/ObjectStreamField")), .char, (.object "java/util/Comparator"), .byte, .byte]
  resolved := Array.replicate 1451 none
  statics := some 0 }

def pool10 : Array CpInfo := pool [(6, .class_ 8), (1, u "java/lang/Object"), (0, u "<init>"), (0, u "()V"), (1, .class_ 14), (1, u "java/lang/StringUTF16"), (31, u "$assertionsDisabled"), (0, u "Z"), (13, u "HI_BYTE_SHIFT"), (0, u "I"), (2, u "LO_BYTE_SHIFT"), (49, .methodref 12 116), (0, .nameAndType 117 118), (0, u "compress"), (0, u "([CI[BII)I"), (3, u "([CII)[B"), (138, u "coderFromArrayLen"), (0, u "([BI)B"), (106, .class_ 371), (1, u "java/lang/StringUTF16$LinesSpliterator"), (58, u "MAX_LENGTH"), (196, .class_ 628), (0, u "java/lang/StringUTF16$CodePointsSpliterator"), (0, .class_ 630), (0, u "java/lang/StringUTF16$CharsSpliterator")] 4

def k10m0 : Method := { name := "<init>", desc := "()V", sig := { parameters := [], returnType := none }, accessFlags := 0, code := none }
def k10c1 : Code := { maxStack := 2, maxLocals := 2, code := jdk_52_method_15_code, exceptionTable := #[], attributes := #[] }
def k10m1 : Method := { name := "coderFromArrayLen", desc := "([BI)B", sig := { parameters := [(.array .byte), .int], returnType := some .byte }, accessFlags := 8, code := some k10c1 }
def k10c2 : Code := { maxStack := 5, maxLocals := 6, code := jdk_52_method_16_code, exceptionTable := #[], attributes := #[] }
def k10m2 : Method := { name := "compress", desc := "([CII)[B", sig := { parameters := [(.array .char), .int, .int], returnType := some (.array .byte) }, accessFlags := 9, code := some k10c2 }
def k10c3 : Code := { maxStack := 3, maxLocals := 7, code := jdk_52_method_21_code, exceptionTable := #[], attributes := #[] }
def k10m3 : Method := { name := "compress", desc := "([CI[BII)I", sig := { parameters := [(.array .char), .int, (.array .byte), .int, .int], returnType := some .int }, accessFlags := 9, code := some k10c3 }
/-- java/lang/StringUTF16 -/
def k10 : Class := { plain "java/lang/StringUTF16" (some 0) with
  accessFlags := 48
  interfaces := #[]
  cf := some (fileOf pool10 12 #[.nestMembers #[627, 629, 369]] #[{ accessFlags := 0, nameIndex := 9, descriptorIndex := 10, attributes := #[] }, { accessFlags := 8, nameIndex := 261, descriptorIndex := 262, attributes := #[] }, { accessFlags := 9, nameIndex := 117, descriptorIndex := 122, attributes := #[] }, { accessFlags := 9, nameIndex := 117, descriptorIndex := 118, attributes := #[] }] 48 6 #[] #[{ accessFlags := 26, nameIndex := 61, descriptorIndex := 62, attributes := #[] }, { accessFlags := 26, nameIndex := 65, descriptorIndex := 62, attributes := #[] }, { accessFlags := 24, nameIndex := 430, descriptorIndex := 62, attributes := #[] }, { accessFlags := 4120, nameIndex := 46, descriptorIndex := 47, attributes := #[] }])
  fields := #[{ name := "HI_BYTE_SHIFT", type := .int, accessFlags := 26, slot := 0, constantValue := 0 }, { name := "LO_BYTE_SHIFT", type := .int, accessFlags := 26, slot := 1, constantValue := 0 }, { name := "MAX_LENGTH", type := .int, accessFlags := 24, slot := 2, constantValue := 0 }, { name := "$assertionsDisabled", type := .boolean, accessFlags := 4120, slot := 3, constantValue := 0 }]
  methods := #[k10m0, k10m1, k10m2, k10m3]
  instanceTypes := #[]
  staticTypes := #[.int, .int, .int, .boolean]
  resolved := Array.replicate 635 none
  statics := none }

def pool11 : Array CpInfo := pool [(4, .class_ 6), (1, u "java/lang/Object"), (0, u "<init>"), (0, u "()V"), (5, .class_ 16), (1, u "java/lang/StringLatin1"), (73, u "canEncode"), (14, u "(C)Z"), (15, u "$assertionsDisabled"), (0, u "Z"), (98, .class_ 223), (1, u "java/lang/StringLatin1$LinesSpliterator"), (156, u "toBytes"), (1, u "(C)[B"), (7, .class_ 391), (0, u "java/lang/StringLatin1$CharsSpliterator")] 3

def k11m0 : Method := { name := "<init>", desc := "()V", sig := { parameters := [], returnType := none }, accessFlags := 0, code := none }
def k11c1 : Code := { maxStack := 2, maxLocals := 1, code := jdk_43_method_3_code, exceptionTable := #[], attributes := #[] }
def k11m1 : Method := { name := "canEncode", desc := "(C)Z", sig := { parameters := [.char], returnType := some .boolean }, accessFlags := 9, code := some k11c1 }
def k11c2 : Code := { maxStack := 4, maxLocals := 1, code := jdk_43_method_46_code, exceptionTable := #[], attributes := #[] }
def k11m2 : Method := { name := "toBytes", desc := "(C)[B", sig := { parameters := [.char], returnType := some (.array .byte) }, accessFlags := 9, code := some k11c2 }
/-- java/lang/StringLatin1 -/
def k11 : Class := { plain "java/lang/StringLatin1" (some 0) with
  accessFlags := 48
  interfaces := #[]
  cf := some (fileOf pool11 14 #[.nestMembers #[390, 221]] #[{ accessFlags := 0, nameIndex := 7, descriptorIndex := 8, attributes := #[] }, { accessFlags := 9, nameIndex := 90, descriptorIndex := 105, attributes := #[] }, { accessFlags := 9, nameIndex := 380, descriptorIndex := 382, attributes := #[] }] 48 4 #[] #[{ accessFlags := 4120, nameIndex := 121, descriptorIndex := 122, attributes := #[] }])
  fields := #[{ name := "$assertionsDisabled", type := .boolean, accessFlags := 4120, slot := 0, constantValue := 0 }]
  methods := #[k11m0, k11m1, k11m2]
  instanceTypes := #[]
  staticTypes := #[.boolean]
  resolved := Array.replicate 395 none
  statics := none }

def pool12 : Array CpInfo := pool [(2, .class_ 4), (1, u "java/lang/Object"), (0, u "<init>"), (0, u "()V"), (17, .class_ 26), (1, u "jdk/internal/util/Preconditions"), (28, .class_ 56), (0, u "jdk/internal/util/Preconditions$4"), (57, .class_ 115), (0, u "jdk/internal/util/Preconditions$1"), (7, u "SIOOBE_FORMATTER"), (0, u "Ljava/util/function/BiFunction;"), (0, .class_ 126), (0, u "jdk/internal/util/Preconditions$2"), (3, u "AIOOBE_FORMATTER"), (0, .class_ 132), (0, u "jdk/internal/util/Preconditions$3"), (3, u "IOOBE_FORMATTER")] 57

def k12m0 : Method := { name := "<init>", desc := "()V", sig := { parameters := [], returnType := none }, accessFlags := 1, code := none }
/-- jdk/internal/util/Preconditions -/
def k12 : Class := { plain "jdk/internal/util/Preconditions" (some 0) with
  accessFlags := 33
  interfaces := #[]
  cf := some (fileOf pool12 24 #[.nestMembers #[55, 131, 125, 114]] #[{ accessFlags := 1, nameIndex := 5, descriptorIndex := 6, attributes := #[] }] 33 2 #[] #[{ accessFlags := 25, nameIndex := 123, descriptorIndex := 124, attributes := #[] }, { accessFlags := 25, nameIndex := 130, descriptorIndex := 124, attributes := #[] }, { accessFlags := 25, nameIndex := 136, descriptorIndex := 124, attributes := #[] }])
  fields := #[{ name := "SIOOBE_FORMATTER", type := (.object "java/util/function/BiFunction"), accessFlags := 25, slot := 0, constantValue := 0 }, { name := "AIOOBE_FORMATTER", type := (.object "java/util/function/BiFunction"), accessFlags := 25, slot := 1, constantValue := 0 }, { name := "IOOBE_FORMATTER", type := (.object "java/util/function/BiFunction"), accessFlags := 25, slot := 2, constantValue := 0 }]
  methods := #[k12m0]
  instanceTypes := #[]
  staticTypes := #[(.object "java/util/function/BiFunction"), (.object "java/util/function/BiFunction"), (.object "java/util/function/BiFunction")]
  resolved := Array.replicate 194 none
  statics := some 1 }

def pool13 : Array CpInfo := pool [(9, u "<init>"), (6, .class_ 18), (1, u "java/lang/Object"), (0, u "()V"), (1, .class_ 23), (1, u "jdk/internal/util/ArraysSupport"), (0, u "LOG2_ARRAY_LONG_INDEX_SCALE"), (0, u "I"), (2, u "U"), (0, u "Ljdk/internal/misc/Unsafe;"), (8, u "BIG_ENDIAN"), (0, u "Z"), (8, u "LOG2_BYTE_BIT_SIZE"), (4, u "LOG2_ARRAY_INT_INDEX_SCALE"), (54, u "JLA"), (0, u "Ljdk/internal/access/JavaLangAccess;"), (11, u "LOG2_ARRAY_BOOLEAN_INDEX_SCALE"), (9, u "LOG2_ARRAY_BYTE_INDEX_SCALE"), (5, u "LOG2_ARRAY_CHAR_INDEX_SCALE"), (5, u "LOG2_ARRAY_SHORT_INDEX_SCALE"), (18, u "LOG2_ARRAY_FLOAT_INDEX_SCALE"), (24, u "LOG2_ARRAY_DOUBLE_INDEX_SCALE"), (89, u "T_BOOLEAN"), (2, u "T_CHAR"), (1, u "T_FLOAT"), (1, u "T_DOUBLE"), (1, u "T_BYTE"), (1, u "T_SHORT"), (1, u "T_INT"), (1, u "T_LONG"), (1, u "SOFT_MAX_ARRAY_LENGTH")] 83

def k13m0 : Method := { name := "<init>", desc := "()V", sig := { parameters := [], returnType := none }, accessFlags := 2, code := none }
/-- jdk/internal/util/ArraysSupport -/
def k13 : Class := { plain "jdk/internal/util/ArraysSupport" (some 0) with
  accessFlags := 33
  interfaces := #[]
  cf := some (fileOf pool13 21 #[] #[{ accessFlags := 2, nameIndex := 9, descriptorIndex := 19, attributes := #[] }] 33 16 #[] #[{ accessFlags := 24, nameIndex := 28, descriptorIndex := 29, attributes := #[] }, { accessFlags := 26, nameIndex := 38, descriptorIndex := 39, attributes := #[] }, { accessFlags := 25, nameIndex := 121, descriptorIndex := 25, attributes := #[] }, { accessFlags := 25, nameIndex := 131, descriptorIndex := 25, attributes := #[] }, { accessFlags := 25, nameIndex := 137, descriptorIndex := 25, attributes := #[] }, { accessFlags := 25, nameIndex := 143, descriptorIndex := 25, attributes := #[] }, { accessFlags := 25, nameIndex := 53, descriptorIndex := 25, attributes := #[] }, { accessFlags := 25, nameIndex := 24, descriptorIndex := 25, attributes := #[] }, { accessFlags := 25, nameIndex := 162, descriptorIndex := 25, attributes := #[] }, { accessFlags := 25, nameIndex := 187, descriptorIndex := 25, attributes := #[] }, { accessFlags := 26, nameIndex := 48, descriptorIndex := 25, attributes := #[] }, { accessFlags := 25, nameIndex := 277, descriptorIndex := 25, attributes := #[] }, { accessFlags := 25, nameIndex := 280, descriptorIndex := 25, attributes := #[] }, { accessFlags := 25, nameIndex := 282, descriptorIndex := 25, attributes := #[] }, { accessFlags := 25, nameIndex := 284, descriptorIndex := 25, attributes := #[] }, { accessFlags := 25, nameIndex := 286, descriptorIndex := 25, attributes := #[] }, { accessFlags := 25, nameIndex := 288, descriptorIndex := 25, attributes := #[] }, { accessFlags := 25, nameIndex := 290, descriptorIndex := 25, attributes := #[] }, { accessFlags := 25, nameIndex := 292, descriptorIndex := 25, attributes := #[] }, { accessFlags := 26, nameIndex := 108, descriptorIndex := 109, attributes := #[] }, { accessFlags := 25, nameIndex := 294, descriptorIndex := 25, attributes := #[] }])
  fields := #[{ name := "U", type := (.object "jdk/internal/misc/Unsafe"), accessFlags := 24, slot := 0, constantValue := 0 }, { name := "BIG_ENDIAN", type := .boolean, accessFlags := 26, slot := 1, constantValue := 0 }, { name := "LOG2_ARRAY_BOOLEAN_INDEX_SCALE", type := .int, accessFlags := 25, slot := 2, constantValue := 0 }, { name := "LOG2_ARRAY_BYTE_INDEX_SCALE", type := .int, accessFlags := 25, slot := 3, constantValue := 0 }, { name := "LOG2_ARRAY_CHAR_INDEX_SCALE", type := .int, accessFlags := 25, slot := 4, constantValue := 0 }, { name := "LOG2_ARRAY_SHORT_INDEX_SCALE", type := .int, accessFlags := 25, slot := 5, constantValue := 0 }, { name := "LOG2_ARRAY_INT_INDEX_SCALE", type := .int, accessFlags := 25, slot := 6, constantValue := 0 }, { name := "LOG2_ARRAY_LONG_INDEX_SCALE", type := .int, accessFlags := 25, slot := 7, constantValue := 0 }, { name := "LOG2_ARRAY_FLOAT_INDEX_SCALE", type := .int, accessFlags := 25, slot := 8, constantValue := 0 }, { name := "LOG2_ARRAY_DOUBLE_INDEX_SCALE", type := .int, accessFlags := 25, slot := 9, constantValue := 0 }, { name := "LOG2_BYTE_BIT_SIZE", type := .int, accessFlags := 26, slot := 10, constantValue := 0 }, { name := "T_BOOLEAN", type := .int, accessFlags := 25, slot := 11, constantValue := 0 }, { name := "T_CHAR", type := .int, accessFlags := 25, slot := 12, constantValue := 0 }, { name := "T_FLOAT", type := .int, accessFlags := 25, slot := 13, constantValue := 0 }, { name := "T_DOUBLE", type := .int, accessFlags := 25, slot := 14, constantValue := 0 }, { name := "T_BYTE", type := .int, accessFlags := 25, slot := 15, constantValue := 0 }, { name := "T_SHORT", type := .int, accessFlags := 25, slot := 16, constantValue := 0 }, { name := "T_INT", type := .int, accessFlags := 25, slot := 17, constantValue := 0 }, { name := "T_LONG", type := .int, accessFlags := 25, slot := 18, constantValue := 0 }, { name := "JLA", type := (.object "jdk/internal/access/JavaLangAccess"), accessFlags := 26, slot := 19, constantValue := 0 }, { name := "SOFT_MAX_ARRAY_LENGTH", type := .int, accessFlags := 25, slot := 20, constantValue := 0 }]
  methods := #[k13m0]
  instanceTypes := #[]
  staticTypes := #[(.object "jdk/internal/misc/Unsafe"), .boolean, .int, .int, .int, .int, .int, .int, .int, .int, .int, .int, .int, .int, .int, .int, .int, .int, .int, (.object "jdk/internal/access/JavaLangAccess"), .int]
  resolved := Array.replicate 378 none
  statics := none }

def pool14 : Array CpInfo := pool [(1, u "java/lang/Cloneable"), (0, .class_ 1), (0, u "java/lang/Object"), (0, .class_ 3)] 3

/-- java/lang/Cloneable -/
def k14 : Class := { plain "java/lang/Cloneable" (some 0) with
  accessFlags := 1537
  interfaces := #[]
  cf := some (fileOf pool14 2 #[] #[] 1537 4 #[] #[])
  fields := #[]
  methods := #[]
  instanceTypes := #[]
  staticTypes := #[]
  resolved := Array.replicate 8 none
  statics := none }

/-- the primitive byte -/
def k15 : Class := { plain "byte" none with kind := .primitive 'B', accessFlags := 0x411 }
/-- [B -/
def k16 : Class := { plain "[B" (some 0) with kind := .array 15 .byte, interfaces := #[14, 4], accessFlags := 1041 }

/-- the primitive char -/
def k17 : Class := { plain "char" none with kind := .primitive 'C', accessFlags := 0x411 }
/-- [C -/
def k18 : Class := { plain "[C" (some 0) with kind := .array 17 .char, interfaces := #[14, 4], accessFlags := 1041 }

/-- the primitive int -/
def k19 : Class := { plain "int" none with kind := .primitive 'I', accessFlags := 0x411 }
/-- [I -/
def k20 : Class := { plain "[I" (some 0) with kind := .array 19 .int, interfaces := #[14, 4], accessFlags := 1041 }

def heap : Heap := #[{ cls := 9, slots := #[.long 0, .int 1, .null, .int 0, .null, .int 0, .int 0], vm := .statics 9 },
  { cls := 12, slots := #[.null, .null, .null], vm := .statics 12 }]
def classes : Array Class := #[k0, k1, k2, k3, k4, k5, k6, k7, k8, k9, k10, k11, k12, k13, k14, k15, k16, k17, k18, k19, k20]
def interned : List (Array UInt16 × Addr) := []
def slotsUsed : Nat := 10
def theMethod : MethodId := ⟨1, 2⟩
def args0 : Array Value := #[.int 5, .int 80, .int 3]
def aboutOver (below : List Frame) : State where
  vm := { classes := classes, interned := interned.toArray }
  heap := heap
  slotsUsed := slotsUsed
  threads := #[{ frames := .invoking theMethod args0 :: below }]
def below0 : List Frame := [.native { method := ⟨0, 0⟩, args := #[] }]
def about1 : State := aboutOver below0
def p0 : Program := .bare "" "" ""
def e0 : Env := launch0.env 0 0 0
theorem w_frames : about1.frames = Frame.invoking theMethod args0 :: below0 := rfl
set_option maxRecDepth 65536 in
theorem w_args : argsFit about1.vm theMethod args0 = true := by decide +kernel
set_option maxRecDepth 65536 in
theorem w_heap : heapFits about1 = true := by decide +kernel
set_option maxRecDepth 65536 in
theorem w_runnable : about1.curStatus? = some .runnable := by decide +kernel
set_option maxRecDepth 65536 in
theorem w_alone : about1.alone = true := by decide +kernel
set_option maxRecDepth 65536 in
theorem w_named : about1.methodNamed? x = some theMethod := by decide +kernel
set_option maxRecDepth 65536 in
theorem w_hears : about1.hears theMethod below0 = true := by decide +kernel
set_option maxRecDepth 65536 in
theorem w_ripe : about1.ripe theMethod args0 below0 = true := by decide +kernel
theorem w_running : about1.status = .running := rfl
set_option maxRecDepth 65536 in
theorem w_room : about1.hasRoom e0.platform room_1 = true :=
  launch0.hasRoom_least _ room_1 (by decide +kernel) (by decide +kernel) (by decide +kernel) (by decide +kernel) (by decide +kernel) (by decide +kernel)
theorem allAtoms_all (ts : List Jvm.Cond) (a : Array Jvm.Value) (st : Jvm.State) : (allAtoms ts).before a st = ts.all (fun c => c.before a st) := by
  induction ts with
  | nil => rfl
  | cons c t ih =>
    show (Jvm.Cond.and c (allAtoms t)).before a st = _
    rw [Jvm.Cond.before_and, ih, List.all_cons]
def words1 : List Jvm.Cond := Jvm.Cond.code x code maxLocals ret :: tables_1
/-- a 'code' word, met by the world's own term for the bytes: nothing is compared byte by byte -/
theorem code_word {y : MethodName} {bytes : ByteArray} {mx : Nat} {rt : Option FieldType} {a : Array Value} {s : State} {m : MethodId} {meth : Method} {c : Code} (h1 : s.methodNamed? y = some m) (h2 : s.vm.method? m = some meth) (h3 : meth.code = some c) (h4 : c.code = bytes)
    (h5 : (c.maxLocals == mx && c.exceptionTable.isEmpty && decide (c.maxStack ≤ mostOperands) && decide (meth.sig.returnType = rt) && !meth.locks && decide (parseMethodDescriptor y.desc = some meth.sig)) = true) : (Jvm.Cond.code y bytes mx rt).before a s = true := by
  simp only [Bool.and_eq_true, beq_iff_eq, Bool.not_eq_true', decide_eq_true_eq] at h5
  obtain ⟨⟨⟨⟨⟨g1, g2⟩, g3⟩, g4⟩, g5⟩, g6⟩ := h5
  simp [Cond.before, Cond.holds, Cond.value, h1, h2, h3, h4, g1, g2, g3, g4, g5, g6]
def isCode : Jvm.Cond → Bool
  | .code _ _ _ _ => true
  | _ => false
theorem all_split {L : List Jvm.Cond} {P : Jvm.Cond → Bool} (h1 : L.all (fun c => isCode c || P c) = true) (h2 : ∀ c ∈ L.filter isCode, P c = true) : L.all P = true := by
  refine List.all_eq_true.mpr fun c hc => ?_
  have h := List.all_eq_true.mp h1 c hc
  rcases Bool.eq_false_or_eq_true (isCode c) with hi | hi
  · exact h2 c (List.mem_filter.mpr ⟨hc, hi⟩)
  · simpa [hi] using h
set_option maxRecDepth 65536 in
theorem w_c0 : (Jvm.Cond.code x code maxLocals ret).before args0 about1 = true := code_word (m := ⟨1, 2⟩) (meth := k1m2) (c := k1c2) (by decide +kernel) rfl rfl rfl (by decide +kernel)
set_option maxRecDepth 65536 in
theorem w_c1 : (Jvm.Cond.code ({ cls := "com/example/ambit/ambit/server/CallerRequireAdminPinLaw", name := "drawn", desc := "(II)Ljava/lang/String;" } : Jvm.MethodName) method_2_code (4 : Nat) (Option.some (Jvm.ClassFile.FieldType.object "java/lang/String"))).before args0 about1 = true := code_word (m := ⟨1, 1⟩) (meth := k1m1) (c := k1c1) (by decide +kernel) rfl rfl rfl (by decide +kernel)
set_option maxRecDepth 65536 in
theorem w_c2 : (Jvm.Cond.code ({ cls := "com/example/ambit/ambit/server/Caller", name := "<init>", desc := "(ZLjava/lang/String;Ljava/lang/String;)V" } : Jvm.MethodName) prog_28_method_1_code (4 : Nat) (Option.none : Option Jvm.ClassFile.FieldType)).before args0 about1 = true := code_word (m := ⟨3, 0⟩) (meth := k3m0) (c := k3c0) (by decide +kernel) rfl rfl rfl (by decide +kernel)
set_option maxRecDepth 65536 in
theorem w_c3 : (Jvm.Cond.code ({ cls := "java/lang/Record", name := "<init>", desc := "()V" } : Jvm.MethodName) jdk_30_method_1_code (1 : Nat) (Option.none : Option Jvm.ClassFile.FieldType)).before args0 about1 = true := code_word (m := ⟨2, 0⟩) (meth := k2m0) (c := k2c0) (by decide +kernel) rfl rfl rfl (by decide +kernel)
set_option maxRecDepth 65536 in
theorem w_c4 : (Jvm.Cond.code ({ cls := "java/lang/Object", name := "<init>", desc := "()V" } : Jvm.MethodName) object_method_1_code (1 : Nat) (Option.none : Option Jvm.ClassFile.FieldType)).before args0 about1 = true := code_word (m := ⟨0, 0⟩) (meth := k0m0) (c := k0c0) (by decide +kernel) rfl rfl rfl (by decide +kernel)
set_option maxRecDepth 65536 in
theorem w_c5 : (Jvm.Cond.code ({ cls := "com/example/ambit/ambit/server/Caller", name := "requireAdmin", desc := "()V" } : Jvm.MethodName) prog_28_method_5_code (1 : Nat) (Option.none : Option Jvm.ClassFile.FieldType)).before args0 about1 = true := code_word (m := ⟨3, 1⟩) (meth := k3m1) (c := k3c1) (by decide +kernel) rfl rfl rfl (by decide +kernel)
set_option maxRecDepth 65536 in
theorem w_c6 : (Jvm.Cond.code ({ cls := "com/example/ambit/ambit/server/Caller", name := "admin", desc := "()Z" } : Jvm.MethodName) prog_28_method_10_code (1 : Nat) (Option.some Jvm.ClassFile.FieldType.boolean)).before args0 about1 = true := code_word (m := ⟨3, 2⟩) (meth := k3m2) (c := k3c2) (by decide +kernel) rfl rfl rfl (by decide +kernel)
set_option maxRecDepth 65536 in
theorem w_c7 : (Jvm.Cond.code ({ cls := "java/lang/String", name := "<init>", desc := "([C)V" } : Jvm.MethodName) jdk_42_method_3_code (2 : Nat) (Option.none : Option Jvm.ClassFile.FieldType)).before args0 about1 = true := code_word (m := ⟨9, 1⟩) (meth := k9m1) (c := k9c1) (by decide +kernel) rfl rfl rfl (by decide +kernel)
set_option maxRecDepth 65536 in
theorem w_c8 : (Jvm.Cond.code ({ cls := "java/lang/String", name := "<init>", desc := "([CIILjava/lang/Void;)V" } : Jvm.MethodName) jdk_42_method_149_code (6 : Nat) (Option.none : Option Jvm.ClassFile.FieldType)).before args0 about1 = true := code_word (m := ⟨9, 3⟩) (meth := k9m3) (c := k9c3) (by decide +kernel) rfl rfl rfl (by decide +kernel)
set_option maxRecDepth 65536 in
theorem w_c9 : (Jvm.Cond.code ({ cls := "java/lang/StringUTF16", name := "compress", desc := "([CII)[B" } : Jvm.MethodName) jdk_52_method_16_code (6 : Nat) (Option.some (Jvm.ClassFile.FieldType.array Jvm.ClassFile.FieldType.byte))).before args0 about1 = true := code_word (m := ⟨10, 2⟩) (meth := k10m2) (c := k10c2) (by decide +kernel) rfl rfl rfl (by decide +kernel)
set_option maxRecDepth 65536 in
theorem w_c10 : (Jvm.Cond.code ({ cls := "java/lang/StringUTF16", name := "compress", desc := "([CI[BII)I" } : Jvm.MethodName) jdk_52_method_21_code (7 : Nat) (Option.some Jvm.ClassFile.FieldType.int)).before args0 about1 = true := code_word (m := ⟨10, 3⟩) (meth := k10m3) (c := k10c3) (by decide +kernel) rfl rfl rfl (by decide +kernel)
set_option maxRecDepth 65536 in
theorem w_c11 : (Jvm.Cond.code ({ cls := "java/lang/StringUTF16", name := "coderFromArrayLen", desc := "([BI)B" } : Jvm.MethodName) jdk_52_method_15_code (2 : Nat) (Option.some Jvm.ClassFile.FieldType.byte)).before args0 about1 = true := code_word (m := ⟨10, 1⟩) (meth := k10m1) (c := k10c1) (by decide +kernel) rfl rfl rfl (by decide +kernel)
set_option maxRecDepth 65536 in
theorem w_c12 : (Jvm.Cond.code ({ cls := "java/lang/String", name := "valueOf", desc := "(C)Ljava/lang/String;" } : Jvm.MethodName) jdk_42_method_139_code (1 : Nat) (Option.some (Jvm.ClassFile.FieldType.object "java/lang/String"))).before args0 about1 = true := code_word (m := ⟨9, 2⟩) (meth := k9m2) (c := k9c2) (by decide +kernel) rfl rfl rfl (by decide +kernel)
set_option maxRecDepth 65536 in
theorem w_c13 : (Jvm.Cond.code ({ cls := "java/lang/StringLatin1", name := "canEncode", desc := "(C)Z" } : Jvm.MethodName) jdk_43_method_3_code (1 : Nat) (Option.some Jvm.ClassFile.FieldType.boolean)).before args0 about1 = true := code_word (m := ⟨11, 1⟩) (meth := k11m1) (c := k11c1) (by decide +kernel) rfl rfl rfl (by decide +kernel)
set_option maxRecDepth 65536 in
theorem w_c14 : (Jvm.Cond.code ({ cls := "java/lang/StringLatin1", name := "toBytes", desc := "(C)[B" } : Jvm.MethodName) jdk_43_method_46_code (1 : Nat) (Option.some (Jvm.ClassFile.FieldType.array Jvm.ClassFile.FieldType.byte))).before args0 about1 = true := code_word (m := ⟨11, 2⟩) (meth := k11m2) (c := k11c2) (by decide +kernel) rfl rfl rfl (by decide +kernel)
set_option maxRecDepth 65536 in
theorem w_c15 : (Jvm.Cond.code ({ cls := "java/lang/String", name := "<init>", desc := "([BB)V" } : Jvm.MethodName) jdk_42_method_151_code (3 : Nat) (Option.none : Option Jvm.ClassFile.FieldType)).before args0 about1 = true := code_word (m := ⟨9, 4⟩) (meth := k9m4) (c := k9c4) (by decide +kernel) rfl rfl rfl (by decide +kernel)
def codes1 : List Jvm.Cond := [Jvm.Cond.code x code maxLocals ret, Jvm.Cond.code ({ cls := "com/example/ambit/ambit/server/CallerRequireAdminPinLaw", name := "drawn", desc := "(II)Ljava/lang/String;" } : Jvm.MethodName) method_2_code (4 : Nat) (Option.some (Jvm.ClassFile.FieldType.object "java/lang/String")), Jvm.Cond.code ({ cls := "com/example/ambit/ambit/server/Caller", name := "<init>", desc := "(ZLjava/lang/String;Ljava/lang/String;)V" } : Jvm.MethodName) prog_28_method_1_code (4 : Nat) (Option.none : Option Jvm.ClassFile.FieldType), Jvm.Cond.code ({ cls := "java/lang/Record", name := "<init>", desc := "()V" } : Jvm.MethodName) jdk_30_method_1_code (1 : Nat) (Option.none : Option Jvm.ClassFile.FieldType), Jvm.Cond.code ({ cls := "java/lang/Object", name := "<init>", desc := "()V" } : Jvm.MethodName) object_method_1_code (1 : Nat) (Option.none : Option Jvm.ClassFile.FieldType), Jvm.Cond.code ({ cls := "com/example/ambit/ambit/server/Caller", name := "requireAdmin", desc := "()V" } : Jvm.MethodName) prog_28_method_5_code (1 : Nat) (Option.none : Option Jvm.ClassFile.FieldType), Jvm.Cond.code ({ cls := "com/example/ambit/ambit/server/Caller", name := "admin", desc := "()Z" } : Jvm.MethodName) prog_28_method_10_code (1 : Nat) (Option.some Jvm.ClassFile.FieldType.boolean), Jvm.Cond.code ({ cls := "java/lang/String", name := "<init>", desc := "([C)V" } : Jvm.MethodName) jdk_42_method_3_code (2 : Nat) (Option.none : Option Jvm.ClassFile.FieldType), Jvm.Cond.code ({ cls := "java/lang/String", name := "<init>", desc := "([CIILjava/lang/Void;)V" } : Jvm.MethodName) jdk_42_method_149_code (6 : Nat) (Option.none : Option Jvm.ClassFile.FieldType), Jvm.Cond.code ({ cls := "java/lang/StringUTF16", name := "compress", desc := "([CII)[B" } : Jvm.MethodName) jdk_52_method_16_code (6 : Nat) (Option.some (Jvm.ClassFile.FieldType.array Jvm.ClassFile.FieldType.byte)), Jvm.Cond.code ({ cls := "java/lang/StringUTF16", name := "compress", desc := "([CI[BII)I" } : Jvm.MethodName) jdk_52_method_21_code (7 : Nat) (Option.some Jvm.ClassFile.FieldType.int), Jvm.Cond.code ({ cls := "java/lang/StringUTF16", name := "coderFromArrayLen", desc := "([BI)B" } : Jvm.MethodName) jdk_52_method_15_code (2 : Nat) (Option.some Jvm.ClassFile.FieldType.byte), Jvm.Cond.code ({ cls := "java/lang/String", name := "valueOf", desc := "(C)Ljava/lang/String;" } : Jvm.MethodName) jdk_42_method_139_code (1 : Nat) (Option.some (Jvm.ClassFile.FieldType.object "java/lang/String")), Jvm.Cond.code ({ cls := "java/lang/StringLatin1", name := "canEncode", desc := "(C)Z" } : Jvm.MethodName) jdk_43_method_3_code (1 : Nat) (Option.some Jvm.ClassFile.FieldType.boolean), Jvm.Cond.code ({ cls := "java/lang/StringLatin1", name := "toBytes", desc := "(C)[B" } : Jvm.MethodName) jdk_43_method_46_code (1 : Nat) (Option.some (Jvm.ClassFile.FieldType.array Jvm.ClassFile.FieldType.byte)), Jvm.Cond.code ({ cls := "java/lang/String", name := "<init>", desc := "([BB)V" } : Jvm.MethodName) jdk_42_method_151_code (3 : Nat) (Option.none : Option Jvm.ClassFile.FieldType)]
set_option maxRecDepth 65536 in
theorem codes_eq : words1.filter isCode = codes1 := rfl
theorem w_codes : ∀ c ∈ words1.filter isCode, c.before args0 about1 = true := by
  rw [codes_eq]
  intro c hc
  simp only [codes1, List.mem_cons, List.not_mem_nil, or_false] at hc
  rcases hc with rfl | rfl | rfl | rfl | rfl | rfl | rfl | rfl | rfl | rfl | rfl | rfl | rfl | rfl | rfl | rfl
  · exact w_c0
  · exact w_c1
  · exact w_c2
  · exact w_c3
  · exact w_c4
  · exact w_c5
  · exact w_c6
  · exact w_c7
  · exact w_c8
  · exact w_c9
  · exact w_c10
  · exact w_c11
  · exact w_c12
  · exact w_c13
  · exact w_c14
  · exact w_c15
set_option maxRecDepth 65536 in
theorem w_t1 : (words1.take 24).all (fun c => isCode c || c.before args0 about1) = true := by decide +kernel
set_option maxRecDepth 65536 in
theorem w_t2 : ((words1.drop 24).take 24).all (fun c => isCode c || c.before args0 about1) = true := by decide +kernel
set_option maxRecDepth 65536 in
theorem w_t3 : (((words1.drop 24).drop 24).take 24).all (fun c => isCode c || c.before args0 about1) = true := by decide +kernel
set_option maxRecDepth 65536 in
theorem w_t4 : (((words1.drop 24).drop 24).drop 24).all (fun c => isCode c || c.before args0 about1) = true := by decide +kernel
theorem w_tables : (allAtoms (Jvm.Cond.code x code maxLocals ret :: tables_1)).before args0 about1 = true := by
  rw [allAtoms_all]
  show words1.all (fun c => c.before args0 about1) = true
  refine all_split ?_ w_codes
  rw [← List.take_append_drop 24 words1, List.all_append, w_t1, ← List.take_append_drop 24 (words1.drop 24), List.all_append, w_t2, ← List.take_append_drop 24 ((words1.drop 24).drop 24), List.all_append, w_t3, w_t4]
  rfl
set_option maxRecDepth 65536 in
theorem w_rest : rest_1_c.before args0 about1 = true := by decide +kernel
set_option maxRecDepth 65536 in
theorem w_case : (Jvm.Cond.and given_1 narrow_1).before args0 about1 = true := by decide +kernel
set_option maxRecDepth 65536 in
theorem w_consts : constsHeld consts_1 about1 := Jvm.Lit.constsHeldB_iff.mp (by decide +kernel)
theorem w_applies : (headSpec (Jvm.Cond.code x code maxLocals ret :: tables_1) room_1).applies x e0.platform about1 = true :=
  (Spec.applies_iff w_frames).mpr ⟨w_running, w_runnable, w_alone, w_named, w_hears, w_ripe, w_room, w_tables⟩
theorem atStart : AtStart classFile x code maxLocals ret World_1 tables_1 room_1 Calls_1 rest_1 Pre_1 launch0 p0 e0 about1 theMethod args0 below0 :=
  ⟨lists_1, trivial, launch0.admits_env _ _ _, launch0.least_env, fairChoices_fair.cas, fairChoices_fair.clock, w_frames, w_args, w_heap, w_applies, ⟨w_consts, trivial⟩, w_rest, w_case⟩
end start1
theorem witness_1 : WitnessClaimed_1 := ⟨start1.p0, start1.e0, start1.about1, start1.theMethod, start1.args0, start1.below0, start1.atStart⟩
end Jvm.Pilot.@@N@@
