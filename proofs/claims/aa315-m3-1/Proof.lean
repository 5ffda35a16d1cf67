import JvmDerived
import JvmDerived.Pilot.@@N@@Statement
import JvmDerived.Pilot.@@N@@Code
set_option linter.unusedVariables false
set_option linter.unusedSimpArgs false
namespace Jvm.OwnWalk
open Sem ClassFile Op Lib Jvm.Stand Jvm.Free Jvm.LawKit Jvm.RoadKit
section Own
variable {p : Program} {l : Launch} {e : Env} {R : Room} {s : State} {m : MethodId} {args : Array Value} {below : List Frame} {meth : Method} {c : Code} {T : State} {locs : List Loc} {cells slots : Nat} {Z : State} {a0 : Array Value} {h h' : Heap} {Q : Option Value → Heap → List Loc → Prop} {kc ks : Nat} {G : Outcome → State → Prop} {A B : State}
/-- from A the invocation comes to its end, and Q holds of what it returns, of the heap and of the places written -/
def Goes (p : Program) (e : Env) (below : List Frame) (G : Outcome → State → Prop) (A : State) : Prop :=
  ∃ s₂ o, Steps p.tables e below A s₂ ∧ s₂.status = .running ∧ Ended s₂ below o ∧ G o s₂
def EndN (s : State) (Q : Option Value → Heap → List Loc → Prop) (kc ks : Nat) (o : Outcome) (t : State) : Prop := ∃ v L, o = .returned v ∧ Q v t.heap L ∧ FrameEnd s o t L kc ks
theorem go (k : ∀ t, Steps p.tables e below B t → Steps p.tables e below A t) (g : Goes p e below G B) : Goes p e below G A := by
  obtain ⟨s₂, o, st, r⟩ := g
  exact ⟨s₂, o, k _ st, r⟩
theorem goE {g g' : JFrame} (q : g = g') (k : Goes p e below G (T.setTop g')) : Goes p e below G (T.setTop g) := q ▸ k
theorem goEnd (X : Stand p l e R s m args below meth c T locs cells slots) {v : Option Value} (hv : meth.sig.returnType = none → v = none) (hlocks : meth.locks = false) (hc : cells ≤ kc) (hs : slots ≤ ks) (eT : T.heap = h) (hq : Q v h locs)
    (k : ∀ fs, (∀ (f : JFrame) (acts : List Action), f.method = m → f.locked = none → f.entered = [] → (doReturn e (T.setTop f) acts v).1 = T.setFrames fs) → Steps p.tables e below A (T.setFrames fs)) : Goes p e below (EndN s Q kc ks) A := by
  obtain ⟨fs, hr, hrun, hended, hW, hsame⟩ := X.leave hv hlocks
  exact ⟨_, _, k fs hr, hrun, hended, _, _, rfl, (by show Q v T.heap locs; rw [eT]; exact hq), ⟨_, rfl⟩, hW, hsame.mono hc hs⟩
theorem goRetV (X : Stand p l e R s m args below meth c T locs cells slots) (hx : p.tables.exec = Jvm.exec) {pc : Nat} {Ls : Array Slot} {w : Value} {t : FieldType} {i : Instr} {rest : List Value} (hret : meth.sig.returnType = some t) (hlocks : meth.locks = false) (hd : decode c.code pc = .ok (i, 1)) (hn : narrow t w = w)
    (hi : (i = .ireturn ∧ (t = .int ∨ t = .boolean ∨ t = .byte ∨ t = .char ∨ t = .short) ∧ ∃ z, w = .int z) ∨ (i = .lreturn ∧ t = .long ∧ ∃ z, w = .long z) ∨ (i = .dreturn ∧ t = .double ∧ ∃ z, w = .double z) ∨ (i = .freturn ∧ t = .float ∧ ∃ z, w = .float z) ∨ (i = .areturn ∧ t.isReference = true ∧ w.isRef = true))
    (hc : cells ≤ kc) (hs : slots ≤ ks) (eT : T.heap = h) (hq : Q (some w) h locs) : Goes p e below (EndN s Q kc ks) (T.setTop (mkF m pc Ls (w :: rest))) :=
  goEnd X (v := some w) (fun q => by rw [hret] at q; cases q) hlocks hc hs eT hq fun fs hr => retOut X hx hret hn hi hd hr
theorem goRetI (X : Stand p l e R s m args below meth c T locs cells slots) (hx : p.tables.exec = Jvm.exec) {pc : Nat} {Ls : Array Slot} {z : Int32} {rest : List Value} (hret : meth.sig.returnType = some .int) (hlocks : meth.locks = false) (hd : decode c.code pc = .ok (.ireturn, 1))
    (hc : cells ≤ kc) (hs : slots ≤ ks) (eT : T.heap = h) (hq : Q (some (.int z)) h locs) : Goes p e below (EndN s Q kc ks) (T.setTop (mkF m pc Ls (.int z :: rest))) :=
  goRetV X hx hret hlocks hd rfl (Or.inl ⟨rfl, Or.inl rfl, _, rfl⟩) hc hs eT hq
theorem goRetJ (X : Stand p l e R s m args below meth c T locs cells slots) (hx : p.tables.exec = Jvm.exec) {pc : Nat} {Ls : Array Slot} {z : Int64} {rest : List Value} (hret : meth.sig.returnType = some .long) (hlocks : meth.locks = false) (hd : decode c.code pc = .ok (.lreturn, 1))
    (hc : cells ≤ kc) (hs : slots ≤ ks) (eT : T.heap = h) (hq : Q (some (.long z)) h locs) : Goes p e below (EndN s Q kc ks) (T.setTop (mkF m pc Ls (.long z :: rest))) :=
  goRetV X hx hret hlocks hd rfl (Or.inr (Or.inl ⟨rfl, rfl, _, rfl⟩)) hc hs eT hq
theorem goRetD (X : Stand p l e R s m args below meth c T locs cells slots) (hx : p.tables.exec = Jvm.exec) {pc : Nat} {Ls : Array Slot} {z : UInt64} {rest : List Value} (hret : meth.sig.returnType = some .double) (hlocks : meth.locks = false) (hd : decode c.code pc = .ok (.dreturn, 1))
    (hc : cells ≤ kc) (hs : slots ≤ ks) (eT : T.heap = h) (hq : Q (some (.double z)) h locs) : Goes p e below (EndN s Q kc ks) (T.setTop (mkF m pc Ls (.double z :: rest))) :=
  goRetV X hx hret hlocks hd rfl (Or.inr (Or.inr (Or.inl ⟨rfl, rfl, _, rfl⟩))) hc hs eT hq
theorem goRetA (X : Stand p l e R s m args below meth c T locs cells slots) (hx : p.tables.exec = Jvm.exec) {pc : Nat} {Ls : Array Slot} {w : Value} {t : FieldType} {rest : List Value} (hret : meth.sig.returnType = some t) (hlocks : meth.locks = false) (ht : t.isReference = true) (hw : w.isRef = true) (hd : decode c.code pc = .ok (.areturn, 1))
    (hc : cells ≤ kc) (hs : slots ≤ ks) (eT : T.heap = h) (hq : Q (some w) h locs) : Goes p e below (EndN s Q kc ks) (T.setTop (mkF m pc Ls (w :: rest))) :=
  goRetV X hx hret hlocks hd (by cases t <;> first | (cases ht; done) | rfl) (Or.inr (Or.inr (Or.inr (Or.inr ⟨rfl, ht, hw⟩)))) hc hs eT hq
theorem goRetN (X : Stand p l e R s m args below meth c T locs cells slots) (hx : p.tables.exec = Jvm.exec) {pc : Nat} {Ls : Array Slot} {z z' : Int32} {t : FieldType} {rest : List Value} (hret : meth.sig.returnType = some t) (hlocks : meth.locks = false) (ht : t = .boolean ∨ t = .byte ∨ t = .char ∨ t = .short) (hd : decode c.code pc = .ok (.ireturn, 1)) (hz : nar t z = z')
    (hc : cells ≤ kc) (hs : slots ≤ ks) (eT : T.heap = h) (hq : Q (some (.int z')) h locs) : Goes p e below (EndN s Q kc ks) (T.setTop (mkF m pc Ls (.int z :: rest))) := by
  subst hz
  exact goEnd X (v := some (.int (nar t z))) (fun q => by rw [hret] at q; cases q) hlocks hc hs eT hq fun fs hr => retN X hx hret ht hd hr
theorem goRet0 (X : Stand p l e R s m args below meth c T locs cells slots) (hx : p.tables.exec = Jvm.exec) {pc : Nat} {Ls : Array Slot} (hret : meth.sig.returnType = none) (hlocks : meth.locks = false) (hd : decode c.code pc = .ok (.return_, 1))
    (hc : cells ≤ kc) (hs : slots ≤ ks) (eT : T.heap = h) (hq : Q none h locs) : Goes p e below (EndN s Q kc ks) (T.setTop (mkF m pc Ls [])) :=
  goEnd X (v := none) (fun _ => rfl) hlocks hc hs eT hq fun fs hr => X.returnOut hx hret hd hr
/-- a body's contract: called with these arguments at this heap it returns, and Q holds -/
def Ctr (l : Launch) (Z : State) (y : MethodName) (bytes : ByteArray) (maxL : Nat) (ret : Option FieldType) (ws : List Cond) (rm : Room) (as : Array Value) (h0 : Heap) (Q : Option Value → Heap → List Loc → Prop) : Prop :=
  MetFree l y (head1 (Cond.code y bytes maxL ret :: ws) rm) (fun a U => a = as ∧ Z.Warmed39 U.vm ∧ U.heap = h0) (fun _ _ _ _ _ => True) (fun _ U o U' => ∃ v L, o = .returned v ∧ Q v U'.heap L ∧ FrameEnd U o U' L rm.cells rm.slots)
theorem ctr {y : MethodName} {bytes : ByteArray} {maxL : Nat} {ret : Option FieldType} {ws : List Cond} {rm : Room} {as : Array Value} {h0 : Heap} (hpn : plainFor y = true)
    (body : ∀ (p : Program) (e : Env) (s : State) (m : MethodId) (below : List Frame) (meth : Method) (c : Code) (s₁ : State), p.tables.exec = Jvm.exec → c.code = bytes → c.maxLocals = maxL → s.vm.findClass y.cls = some m.cls → meth.name = y.name → meth.sig.returnType = ret → meth.locks = false → Z.Warmed39 s.vm →
      Stand p l e rm s m as below meth c s₁ [] 0 0 → s₁.heap = h0 → Goes p e below (EndN s Q rm.cells rm.slots) (s₁.setTop (entryFrame m as maxL))) : Ctr l Z y bytes maxL ret ws rm as h0 Q := by
  refine MetFree.of_bodySF hpn hisR ?_
  intro p e s m args below meth c s₁ Bd hml0 hP hK
  obtain ⟨rfl, hZ, hh⟩ := hP
  exact body p e s m below meth c s₁ Bd.exec Bd.bytes hml0 (findClass_of_methodNamed Bd.named) (name_of_methodNamed Bd.named Bd.method).1 Bd.returns Bd.notSynchronized hZ (Stand.of_body Bd) (by rw [← hh, Bd.state]; rfl)
theorem goCallS (X : Stand p l e R s m args below meth c T locs cells slots) (hx : p.tables.exec = Jvm.exec) (hZ : Z.Warmed39 s.vm) {own : String} {index : Nat} {y : MethodName} {bytes : ByteArray} {maxL : Nat} {ret : Option FieldType} (hown : s.vm.findClass own = some m.cls)
    (w1 : (Cond.methodLink own index y).before a0 Z = true) (w2 : (Cond.static y).before a0 Z = true) (w3 : (Cond.initialized y.cls).before a0 Z = true) (w4 : (Cond.code y bytes maxL ret).before a0 Z = true) (hy : y.cls ≠ "java/lang/invoke/MethodHandle" ∧ y.cls ≠ "java/lang/invoke/VarHandle")
    {rm : Room} {as : Array Value} {Q' : Option Value → Heap → List Loc → Prop} (hM : Ctr l Z y bytes maxL ret [] rm as h Q') (W : Nat) (hf : rm.frames + 1 ≤ R.frames) (hl : W + (maxL + 11) + rm.locals ≤ R.locals) (eT : T.heap = h)
    {pc : Nat} {Ls : Array Slot} {st : List Value} (hsize : Ls.size = c.maxLocals) (argsL rest : List Value) {ps : List FieldType} {rt : Option FieldType} (hpd : parseMethodDescriptor y.desc = some ⟨ps, rt⟩) (hlen : argsL.length = ps.length) (hst : st = argsL.reverse ++ rest) (has : argsL.toArray = as) (hW : (rest.map fun v => v.category).sum ≤ W)
    (hd : decode c.code pc = .ok (.invokestatic index, 3)) (hc : cells + rm.cells ≤ R.cells) (hs : slots + rm.slots ≤ R.slots)
    (k : ∀ T' v L, Stand p l e R s m args below meth c T' (locs ++ L) (cells + rm.cells) (slots + rm.slots) → Q' v T'.heap L → Goes p e below G (T'.setTop (mkF m (pc + 3) Ls (v.toList ++ rest)))) : Goes p e below G (T.setTop (mkF m pc Ls st)) := by
  subst hst
  obtain ⟨v, _, ⟨T', L', k', n'⟩, -, X', ⟨L, hQ, l1, y1, z1⟩, st⟩ := Jvm.LawKit.callS X hx (y := y) hown (mvT hZ w1) (mvT hZ w2) (mvT hZ w3) (mvT hZ w4) hy (backOf (W := W) hM hZ w4 w3 hf hl) (g := mkF m pc Ls (argsL.reverse ++ rest)) rfl hsize (argsL := argsL) (rest := rest) (lenOf hpd hlen) rfl (by show 2 * 0 + _ ≤ _; omega) hd (fun _ _ => ⟨has, eT, hc, hs⟩)
  dsimp only [Pt.U, Pt.locs, Pt.cells, Pt.slots] at X' l1 y1 z1 st hQ
  subst l1 y1 z1
  exact go st (k T' v L X' hQ)
theorem goCallI (X : Stand p l e R s m args below meth c T locs cells slots) (hx : p.tables.exec = Jvm.exec) (hZ : Z.Warmed39 s.vm) {own : String} {index : Nat} {y : MethodName} {bytes : ByteArray} {maxL : Nat} (hy1 : y.name = "<init>") (hown : s.vm.findClass own = some m.cls)
    (w1 : (Cond.methodLink own index y).before a0 Z = true) (w2 : (Cond.instanceMethod y).before a0 Z = true) (w3 : (Cond.initialized y.cls).before a0 Z = true) (w4 : (Cond.code y bytes maxL none).before a0 Z = true) (hy : y.cls ≠ "java/lang/invoke/MethodHandle" ∧ y.cls ≠ "java/lang/invoke/VarHandle")
    {rm : Room} {as : Array Value} {Q' : Option Value → Heap → List Loc → Prop} (hM : Ctr l Z y bytes maxL none [] rm as h Q') (W : Nat) (hf : rm.frames + 1 ≤ R.frames) (hl : W + (maxL + 11) + rm.locals ≤ R.locals) (eT : T.heap = h)
    {pc : Nat} {Ls : Array Slot} {st : List Value} (hsize : Ls.size = c.maxLocals) (a : Addr) (argsL rest : List Value) {ps : List FieldType} {rt : Option FieldType} (hpd : parseMethodDescriptor y.desc = some ⟨ps, rt⟩) (hlen : argsL.length = ps.length) (hst : st = argsL.reverse ++ .ref a :: rest) (has : (.ref a :: argsL).toArray = as) (hW : (rest.map fun v => v.category).sum ≤ W)
    (hd : decode c.code pc = .ok (.invokespecial index, 3)) (hc : cells + rm.cells ≤ R.cells) (hs : slots + rm.slots ≤ R.slots)
    (k : ∀ T' v L, Stand p l e R s m args below meth c T' (locs ++ L) (cells + rm.cells) (slots + rm.slots) → Q' v T'.heap L → Goes p e below G (T'.setTop (mkF m (pc + 3) Ls (v.toList ++ rest)))) : Goes p e below G (T.setTop (mkF m pc Ls st)) := by
  subst hst
  obtain ⟨v, _, ⟨T', L', k', n'⟩, -, X', ⟨L, hQ, l1, y1, z1⟩, st⟩ := X.specialBack hx (y := y) hy1 hown (mvT hZ w1) (mvT hZ w2) (mvT hZ w4) hy (backOf (W := W) hM hZ w4 w3 hf hl) (g := mkF m pc Ls (argsL.reverse ++ .ref a :: rest)) rfl hsize (Steps.refl _) (a := a) (argsL := argsL) (rest := rest) (lenOf hpd hlen) rfl (by show 2 * 0 + _ ≤ _; omega) hd (fun _ _ => ⟨has, eT, hc, hs⟩)
  dsimp only [Pt.U, Pt.locs, Pt.cells, Pt.slots] at X' l1 y1 z1 st hQ
  subst l1 y1 z1
  exact go (fun _ => st.trans) (k T' v L X' hQ)
theorem goCallV (X : Stand p l e R s m args below meth c T locs cells slots) (hx : p.tables.exec = Jvm.exec) (hZ : Z.Warmed39 s.vm) {own C : String} {index : Nat} {y : MethodName} {bytes : ByteArray} {maxL : Nat} {ret : Option FieldType} (hown : s.vm.findClass own = some m.cls)
    (w1 : (Cond.methodLink own index y).before a0 Z = true) (w2 : (Cond.declares y).before a0 Z = true) (w5 : (Cond.selects C y y).before a0 Z = true) (w6 : (Cond.instanceMethod y).before a0 Z = true) (w3 : (Cond.initialized y.cls).before a0 Z = true) (w4 : (Cond.code y bytes maxL ret).before a0 Z = true) (hy : y.cls ≠ "java/lang/invoke/MethodHandle" ∧ y.cls ≠ "java/lang/invoke/VarHandle")
    {rm : Room} {as : Array Value} {Q' : Option Value → Heap → List Loc → Prop} (hM : Ctr l Z y bytes maxL ret [] rm as h Q') (W : Nat) (hf : rm.frames + 1 ≤ R.frames) (hl : W + (maxL + 11) + rm.locals ≤ R.locals) (eT : T.heap = h) {a : Addr} (E : Exa Z h a C)
    {pc : Nat} {Ls : Array Slot} {st : List Value} (hsize : Ls.size = c.maxLocals) (argsL rest : List Value) {ps : List FieldType} {rt : Option FieldType} (hpd : parseMethodDescriptor y.desc = some ⟨ps, rt⟩) (hlen : argsL.length = ps.length) (hst : st = argsL.reverse ++ .ref a :: rest) (has : (.ref a :: argsL).toArray = as) (hW : (rest.map fun v => v.category).sum ≤ W)
    (hd : decode c.code pc = .ok (.invokevirtual index, 3)) (hc : cells + rm.cells ≤ R.cells) (hs : slots + rm.slots ≤ R.slots)
    (k : ∀ T' v L, Stand p l e R s m args below meth c T' (locs ++ L) (cells + rm.cells) (slots + rm.slots) → Q' v T'.heap L → Goes p e below G (T'.setTop (mkF m (pc + 3) Ls (v.toList ++ rest)))) : Goes p e below G (T.setTop (mkF m pc Ls st)) := by
  subst hst
  obtain ⟨cq, kq, qa, qb, qc⟩ := isOf hZ eT E
  obtain ⟨v, _, ⟨T', L', k', n'⟩, -, X', ⟨L, hQ, l1, y1, z1⟩, st⟩ := X.virtualBack hx (y := y) (z := y) hown (mvT hZ w1) (mvT hZ w2) (notFace_of_selects (args := #[]) (mvT hZ w5)) (mvT hZ w5) (mvT hZ w6) hy (backOf (W := W) hM hZ w4 w3 hf hl) qa qc (g := mkF m pc Ls (argsL.reverse ++ .ref a :: rest)) rfl hsize (Steps.refl _) (argsL := argsL) (rest := rest) (lenOf hpd hlen) rfl (by show 2 * 0 + _ ≤ _; omega) hd (fun _ _ => ⟨has, eT, hc, hs⟩)
  dsimp only [Pt.U, Pt.locs, Pt.cells, Pt.slots] at X' l1 y1 z1 st hQ
  subst l1 y1 z1
  exact go (fun _ => st.trans) (k T' v L X' hQ)
theorem extT {h0 : Heap} (O : Ext h0 h) (E : Ext h h') : Ext h0 h' := ⟨Nat.le_trans O.1 E.1, fun x c q => E.2 x c (O.2 x c q)⟩
theorem extK {h0 : Heap} {ws : List Addr} (O : Ext h0 h) (K : Keep h h' ws) (q : ∀ x ∈ ws, h0.size ≤ x) : Ext h0 h' := ⟨Nat.le_trans O.1 K.1, fun x c r => K.2.1 x c (O.2 x c r) fun z => absurd (Array.getElem?_eq_some_iff.mp r).1 (Nat.not_lt.mpr (q x z))⟩
theorem extW {h0 : Heap} {a : Addr} {sl : Nat} {v : Value} (O : Ext h0 h) (W : Wr h h' a sl v) (q : h0.size ≤ a) : Ext h0 h' := extK O (Keep.of_wr W) (allS q all0)
theorem eqI_v {t : Term} {k : Int32} {first s : State} {o : Option Outcome} {idx : List Nat} {args : Array Value} (h : (Cond.eq t (.int k)).value args first o s idx = some true) : t.eval args first o idx s = some (.int k) := by
  simp only [Cond.value, Term.eval] at h
  cases ht : t.eval args first o idx s with
  | none => simp [ht] at h
  | some x => cases x <;> simp [ht] at h ⊢; exact h
/-- an array with these values -/
def Ary (Z : State) (h : Heap) (a : Addr) (ty : FieldType) (vs : List Value) : Prop := ∃ cl : Cell, Arr Z h a cl ty ∧ cl.slots.toList = vs ∧ vs.length < 2 ^ 31
variable {a b : Addr} {ty : FieldType} {vs : List Value}
theorem Ary.lt (F : Ary Z h a ty vs) : a < h.size := by obtain ⟨c, A, -⟩ := F; exact A.lt
theorem Ary.ext (F : Ary Z h a ty vs) (E : Ext h h') : Ary Z h' a ty vs := by obtain ⟨c, A, r⟩ := F; exact ⟨c, A.ext E, r⟩
theorem Ary.other (F : Ary Z h b ty vs) {sl : Nat} {v : Value} (W : Wr h h' a sl v) (q : b ≠ a) : Ary Z h' b ty vs := by obtain ⟨c, A, r⟩ := F; exact ⟨c, A.other W q, r⟩
theorem Ary.keep (F : Ary Z h a ty vs) {ws : List Addr} (K : Keep h h' ws) (q : a ∉ ws) : Ary Z h' a ty vs := by obtain ⟨c, A, r⟩ := F; exact ⟨c, ⟨K.2.1 a c A.1 q, A.2⟩, r⟩
theorem Ary.set (F : Ary Z h a ty vs) {j : Int32} {v : Value} (W : Wr h h' a j.toNatClampNeg v) {ws : List Value} (e : vs.set j.toNatClampNeg v = ws) : Ary Z h' a ty ws := by
  obtain ⟨c, A, r, q⟩ := F
  refine ⟨_, A.same W, ?_, ?_⟩
  · rw [← e, ← r]; simp [Cell.setSlot]
  · rw [← e, List.length_set]; exact q
theorem Ary.new {cA : ClassId} {n : Int32} (A : Arr Z h a (newA cA ty n) ty) (e : List.replicate n.toNatClampNeg (defaultValue ty) = vs) (q : vs.length < 2 ^ 31) : Ary Z h a ty vs := ⟨_, A, by rw [← e]; simp [newA], q⟩
theorem Ary.inb {cl : Cell} (r : cl.slots.toList = vs) {j : Int32} {v : Value} (hj : ¬ j < 0) (hv : vs[j.toNatClampNeg]? = some v) : ¬ (j < 0 ∨ cl.slots.size ≤ j.toNatClampNeg) := fun q => by
  rcases q with q | q
  · exact hj q
  · subst r
    have := (List.getElem?_eq_some_iff.mp hv).1
    rw [Array.length_toList] at this
    omega
theorem Ary.at {cl : Cell} (r : cl.slots.toList = vs) {j : Int32} {v : Value} (hv : vs[j.toNatClampNeg]? = some v) : cl.slots[j.toNatClampNeg]? = some v := by subst r; simpa using hv
theorem goIaload (X : Stand p l e R s m args below meth c T locs cells slots) (hx : p.tables.exec = Jvm.exec) (hZ : Z.Warmed39 s.vm) (eT : T.heap = h) {vs : List Value} (F : Ary Z h a .int vs) {j x : Int32} {pc : Nat} {Ls : Array Slot} {rest : List Value} (hd : decode c.code pc = .ok (.iaload, 1)) (hj : ¬ j < 0) (hv : vs[j.toNatClampNeg]? = some (.int x))
    (k : Goes p e below G (T.setTop (mkF m (pc + 1) Ls (.int x :: rest)))) : Goes p e below G (T.setTop (mkF m pc Ls (.int j :: .ref a :: rest))) := by
  obtain ⟨cl, A, r, q⟩ := F
  exact go (X.iaload hx (j := j) (v := .int x) (by rw [eT]; exact A.1) (State.isArrayOf_alike hZ.alike A.2.1) A.2.2 (Ary.inb r hj hv) (Ary.at r hv) (g := mkF m pc Ls (.int j :: .ref a :: rest)) rfl rfl hd) k
theorem goBaload (X : Stand p l e R s m args below meth c T locs cells slots) (hx : p.tables.exec = Jvm.exec) (hZ : Z.Warmed39 s.vm) (eT : T.heap = h) {vs : List Value} (F : Ary Z h a .byte vs) {j x : Int32} {pc : Nat} {Ls : Array Slot} {rest : List Value} (hd : decode c.code pc = .ok (.baload, 1)) (hj : ¬ j < 0) (hv : vs[j.toNatClampNeg]? = some (.int x))
    (k : Goes p e below G (T.setTop (mkF m (pc + 1) Ls (.int x :: rest)))) : Goes p e below G (T.setTop (mkF m pc Ls (.int j :: .ref a :: rest))) := by
  obtain ⟨cl, A, r, q⟩ := F
  exact go (X.baloadBytes hx (j := j) (v := .int x) (by rw [eT]; exact A.1) (State.isArrayOf_alike hZ.alike A.2.1) A.2.2 (Ary.inb r hj hv) (Ary.at r hv) (g := mkF m pc Ls (.int j :: .ref a :: rest)) rfl rfl hd) k
theorem goZaload (X : Stand p l e R s m args below meth c T locs cells slots) (hx : p.tables.exec = Jvm.exec) (hZ : Z.Warmed39 s.vm) (eT : T.heap = h) {vs : List Value} (F : Ary Z h a .boolean vs) {j x : Int32} {pc : Nat} {Ls : Array Slot} {rest : List Value} (hd : decode c.code pc = .ok (.baload, 1)) (hj : ¬ j < 0) (hv : vs[j.toNatClampNeg]? = some (.int x))
    (k : Goes p e below G (T.setTop (mkF m (pc + 1) Ls (.int x :: rest)))) : Goes p e below G (T.setTop (mkF m pc Ls (.int j :: .ref a :: rest))) := by
  obtain ⟨cl, A, r, q⟩ := F
  exact go (X.baloadBooleans hx (j := j) (v := .int x) (by rw [eT]; exact A.1) (State.isArrayOf_alike hZ.alike A.2.1) A.2.2 (Ary.inb r hj hv) (Ary.at r hv) (g := mkF m pc Ls (.int j :: .ref a :: rest)) rfl rfl hd) k
theorem goCaload (X : Stand p l e R s m args below meth c T locs cells slots) (hx : p.tables.exec = Jvm.exec) (hZ : Z.Warmed39 s.vm) (eT : T.heap = h) {vs : List Value} (F : Ary Z h a .char vs) {j x : Int32} {pc : Nat} {Ls : Array Slot} {rest : List Value} (hd : decode c.code pc = .ok (.caload, 1)) (hj : ¬ j < 0) (hv : vs[j.toNatClampNeg]? = some (.int x))
    (k : Goes p e below G (T.setTop (mkF m (pc + 1) Ls (.int x :: rest)))) : Goes p e below G (T.setTop (mkF m pc Ls (.int j :: .ref a :: rest))) := by
  obtain ⟨cl, A, r, q⟩ := F
  exact go (X.caload hx (j := j) (v := .int x) (by rw [eT]; exact A.1) (State.isArrayOf_alike hZ.alike A.2.1) A.2.2 (Ary.inb r hj hv) (Ary.at r hv) (g := mkF m pc Ls (.int j :: .ref a :: rest)) rfl rfl hd) k
theorem goAlen (X : Stand p l e R s m args below meth c T locs cells slots) (hx : p.tables.exec = Jvm.exec) (hZ : Z.Warmed39 s.vm) (eT : T.heap = h) {vs : List Value} (F : Ary Z h a ty vs) {n : Int32} {pc : Nat} {Ls : Array Slot} {rest : List Value} (hd : decode c.code pc = .ok (.arraylength, 1)) (hn : vs.length.toInt32 = n)
    (k : Goes p e below G (T.setTop (mkF m (pc + 1) Ls (.int n :: rest)))) : Goes p e below G (T.setTop (mkF m pc Ls (.ref a :: rest))) := by
  obtain ⟨cl, A, r, q⟩ := F
  have e1 : cl.slots.size.toInt32 = n := by rw [← hn, ← r, Array.length_toList]
  refine go (X.arraylength hx (cell := cl) (by rw [eT]; exact A.1) (State.isArrayOf_alike hZ.alike A.2.1) (g := mkF m pc Ls (.ref a :: rest)) rfl (rest := rest) rfl hd) ?_
  rw [e1]
  exact k
theorem goIastore (X : Stand p l e R s m args below meth c T locs cells slots) (hx : p.tables.exec = Jvm.exec) (hZ : Z.Warmed39 s.vm) (eT : T.heap = h) {vs : List Value} (F : Ary Z h a .int vs) {j x : Int32} {v : Value} {pc : Nat} {Ls : Array Slot} {rest : List Value} (hd : decode c.code pc = .ok (.iastore, 1)) (hj : ¬ j < 0) (hv : vs[j.toNatClampNeg]? = some v)
    (k : ∀ T' h', Stand p l e R s m args below meth c T' (locs ++ [⟨a, j.toNatClampNeg⟩]) cells slots → T'.heap = h' → Wr h h' a j.toNatClampNeg (.int x) → Goes p e below G (T'.setTop (mkF m (pc + 1) Ls rest))) : Goes p e below G (T.setTop (mkF m pc Ls (.int x :: .int j :: .ref a :: rest))) := by
  obtain ⟨cl, A, r, q⟩ := F
  obtain ⟨T', h', X', e', W', st⟩ := stI X hx hZ eT A (j := j) (x := x) (Ary.inb r hj hv) (g := mkF m pc Ls (.int x :: .int j :: .ref a :: rest)) rfl rfl hd
  exact go st (k T' h' X' e' W')
theorem goBastore (X : Stand p l e R s m args below meth c T locs cells slots) (hx : p.tables.exec = Jvm.exec) (hZ : Z.Warmed39 s.vm) (eT : T.heap = h) {vs : List Value} (F : Ary Z h a .byte vs) {j x : Int32} {v : Value} {pc : Nat} {Ls : Array Slot} {rest : List Value} (hd : decode c.code pc = .ok (.bastore, 1)) (hj : ¬ j < 0) (hv : vs[j.toNatClampNeg]? = some v)
    (k : ∀ T' h', Stand p l e R s m args below meth c T' (locs ++ [⟨a, j.toNatClampNeg⟩]) cells slots → T'.heap = h' → Wr h h' a j.toNatClampNeg (.int (nar .byte x)) → Goes p e below G (T'.setTop (mkF m (pc + 1) Ls rest))) : Goes p e below G (T.setTop (mkF m pc Ls (.int x :: .int j :: .ref a :: rest))) := by
  obtain ⟨cl, A, r, q⟩ := F
  obtain ⟨T', h', X', e', W', st⟩ := stB X hx hZ eT A (j := j) (x := x) (Ary.inb r hj hv) (g := mkF m pc Ls (.int x :: .int j :: .ref a :: rest)) rfl rfl hd
  exact go st (k T' h' X' e' W')
theorem goZastore (X : Stand p l e R s m args below meth c T locs cells slots) (hx : p.tables.exec = Jvm.exec) (hZ : Z.Warmed39 s.vm) (eT : T.heap = h) {vs : List Value} (F : Ary Z h a .boolean vs) {j x : Int32} {v : Value} {pc : Nat} {Ls : Array Slot} {rest : List Value} (hd : decode c.code pc = .ok (.bastore, 1)) (hj : ¬ j < 0) (hv : vs[j.toNatClampNeg]? = some v)
    (k : ∀ T' h', Stand p l e R s m args below meth c T' (locs ++ [⟨a, j.toNatClampNeg⟩]) cells slots → T'.heap = h' → Wr h h' a j.toNatClampNeg (.int (nar .boolean x)) → Goes p e below G (T'.setTop (mkF m (pc + 1) Ls rest))) : Goes p e below G (T.setTop (mkF m pc Ls (.int x :: .int j :: .ref a :: rest))) := by
  obtain ⟨cl, A, r, q⟩ := F
  obtain ⟨T', h', X', e', W', st⟩ := stZ X hx hZ eT A (j := j) (x := x) (Ary.inb r hj hv) (g := mkF m pc Ls (.int x :: .int j :: .ref a :: rest)) rfl rfl hd
  exact go st (k T' h' X' e' W')
theorem goCastore (X : Stand p l e R s m args below meth c T locs cells slots) (hx : p.tables.exec = Jvm.exec) (hZ : Z.Warmed39 s.vm) (eT : T.heap = h) {vs : List Value} (F : Ary Z h a .char vs) {j x : Int32} {v : Value} {pc : Nat} {Ls : Array Slot} {rest : List Value} (hd : decode c.code pc = .ok (.castore, 1)) (hj : ¬ j < 0) (hv : vs[j.toNatClampNeg]? = some v)
    (k : ∀ T' h', Stand p l e R s m args below meth c T' (locs ++ [⟨a, j.toNatClampNeg⟩]) cells slots → T'.heap = h' → Wr h h' a j.toNatClampNeg (.int (nar .char x)) → Goes p e below G (T'.setTop (mkF m (pc + 1) Ls rest))) : Goes p e below G (T.setTop (mkF m pc Ls (.int x :: .int j :: .ref a :: rest))) := by
  obtain ⟨cl, A, r, q⟩ := F
  obtain ⟨T', h', X', e', W', st⟩ := stC X hx hZ eT A (j := j) (x := x) (Ary.inb r hj hv) (g := mkF m pc Ls (.int x :: .int j :: .ref a :: rest)) rfl rfl hd
  exact go st (k T' h' X' e' W')
theorem narb (x : Int32) : nar .byte x.toInt8.toInt32 = x.toInt8.toInt32 := by simp [nar]
theorem narc (x : Int32) : nar .char x.toUInt32.toUInt16.toUInt32.toInt32 = x.toUInt32.toUInt16.toUInt32.toInt32 := by simp only [nar, UInt32.toUInt32_toInt32, UInt16.toUInt16_toUInt32]
theorem gIload (X : Stand p l e R s m args below meth c T locs cells slots) (hx : p.tables.exec = Jvm.exec) {pc : Nat} {Ls : Array Slot} {st : List Value} {k : Nat} {v : Int32} (hd : decode c.code pc = .ok (.iload k, 2)) (hl : Ls[k]? = some (.val (.int v))) (K : Goes p e below G (T.setTop (mkF m (pc + 2) Ls (.int v :: st)))) : Goes p e below G (T.setTop (mkF m pc Ls (st))) :=
  go (fun _ q => XS.iload (g := mkF m pc Ls (st)) X.here hx rfl hd hl q) K
theorem gIloadN (X : Stand p l e R s m args below meth c T locs cells slots) (hx : p.tables.exec = Jvm.exec) {pc : Nat} {Ls : Array Slot} {st : List Value} {k : Fin 4} {v : Int32} (hd : decode c.code pc = .ok (.iload_n k, 1)) (hl : Ls[k.val]? = some (.val (.int v))) (K : Goes p e below G (T.setTop (mkF m (pc + 1) Ls (.int v :: st)))) : Goes p e below G (T.setTop (mkF m pc Ls (st))) :=
  go (fun _ q => XS.iloadN (g := mkF m pc Ls (st)) X.here hx rfl hd hl q) K
theorem gIstore (X : Stand p l e R s m args below meth c T locs cells slots) (hx : p.tables.exec = Jvm.exec) {pc : Nat} {Ls : Array Slot} {st : List Value} {k : Nat} {v : Int32} {l' : Array Slot} (hd : decode c.code pc = .ok (.istore k, 2)) (hl : storeLocals Ls k (.int v) = some l') (K : Goes p e below G (T.setTop (mkF m (pc + 2) l' (st)))) : Goes p e below G (T.setTop (mkF m pc Ls (.int v :: st))) :=
  go (fun _ q => XS.istore (g := mkF m pc Ls (.int v :: st)) X.here hx rfl hd rfl hl q) K
theorem gIstoreN (X : Stand p l e R s m args below meth c T locs cells slots) (hx : p.tables.exec = Jvm.exec) {pc : Nat} {Ls : Array Slot} {st : List Value} {k : Fin 4} {v : Int32} {l' : Array Slot} (hd : decode c.code pc = .ok (.istore_n k, 1)) (hl : storeLocals Ls k.val (.int v) = some l') (K : Goes p e below G (T.setTop (mkF m (pc + 1) l' (st)))) : Goes p e below G (T.setTop (mkF m pc Ls (.int v :: st))) :=
  go (fun _ q => XS.istoreN (g := mkF m pc Ls (.int v :: st)) X.here hx rfl hd rfl hl q) K
theorem gLload (X : Stand p l e R s m args below meth c T locs cells slots) (hx : p.tables.exec = Jvm.exec) {pc : Nat} {Ls : Array Slot} {st : List Value} {k : Nat} {v : Int64} (hd : decode c.code pc = .ok (.lload k, 2)) (hl : Ls[k]? = some (.val (.long v))) (K : Goes p e below G (T.setTop (mkF m (pc + 2) Ls (.long v :: st)))) : Goes p e below G (T.setTop (mkF m pc Ls (st))) :=
  go (fun _ q => XT.lload (g := mkF m pc Ls (st)) X.here hx rfl hd hl q) K
theorem gLloadN (X : Stand p l e R s m args below meth c T locs cells slots) (hx : p.tables.exec = Jvm.exec) {pc : Nat} {Ls : Array Slot} {st : List Value} {k : Fin 4} {v : Int64} (hd : decode c.code pc = .ok (.lload_n k, 1)) (hl : Ls[k.val]? = some (.val (.long v))) (K : Goes p e below G (T.setTop (mkF m (pc + 1) Ls (.long v :: st)))) : Goes p e below G (T.setTop (mkF m pc Ls (st))) :=
  go (fun _ q => XT.lloadN (g := mkF m pc Ls (st)) X.here hx rfl hd hl q) K
theorem gLstore (X : Stand p l e R s m args below meth c T locs cells slots) (hx : p.tables.exec = Jvm.exec) {pc : Nat} {Ls : Array Slot} {st : List Value} {k : Nat} {v : Int64} {l' : Array Slot} (hd : decode c.code pc = .ok (.lstore k, 2)) (hl : storeLocals Ls k (.long v) = some l') (K : Goes p e below G (T.setTop (mkF m (pc + 2) l' (st)))) : Goes p e below G (T.setTop (mkF m pc Ls (.long v :: st))) :=
  go (fun _ q => XT.lstore (g := mkF m pc Ls (.long v :: st)) X.here hx rfl hd rfl hl q) K
theorem gLstoreN (X : Stand p l e R s m args below meth c T locs cells slots) (hx : p.tables.exec = Jvm.exec) {pc : Nat} {Ls : Array Slot} {st : List Value} {k : Fin 4} {v : Int64} {l' : Array Slot} (hd : decode c.code pc = .ok (.lstore_n k, 1)) (hl : storeLocals Ls k.val (.long v) = some l') (K : Goes p e below G (T.setTop (mkF m (pc + 1) l' (st)))) : Goes p e below G (T.setTop (mkF m pc Ls (.long v :: st))) :=
  go (fun _ q => XT.lstoreN (g := mkF m pc Ls (.long v :: st)) X.here hx rfl hd rfl hl q) K
theorem gDload (X : Stand p l e R s m args below meth c T locs cells slots) (hx : p.tables.exec = Jvm.exec) {pc : Nat} {Ls : Array Slot} {st : List Value} {k : Nat} {v : UInt64} (hd : decode c.code pc = .ok (.dload k, 2)) (hl : Ls[k]? = some (.val (.double v))) (K : Goes p e below G (T.setTop (mkF m (pc + 2) Ls (.double v :: st)))) : Goes p e below G (T.setTop (mkF m pc Ls (st))) :=
  go (fun _ q => XS.dload (g := mkF m pc Ls (st)) X.here hx rfl hd hl q) K
theorem gDloadN (X : Stand p l e R s m args below meth c T locs cells slots) (hx : p.tables.exec = Jvm.exec) {pc : Nat} {Ls : Array Slot} {st : List Value} {k : Fin 4} {v : UInt64} (hd : decode c.code pc = .ok (.dload_n k, 1)) (hl : Ls[k.val]? = some (.val (.double v))) (K : Goes p e below G (T.setTop (mkF m (pc + 1) Ls (.double v :: st)))) : Goes p e below G (T.setTop (mkF m pc Ls (st))) :=
  go (fun _ q => XS.dloadN (g := mkF m pc Ls (st)) X.here hx rfl hd hl q) K
theorem gDstore (X : Stand p l e R s m args below meth c T locs cells slots) (hx : p.tables.exec = Jvm.exec) {pc : Nat} {Ls : Array Slot} {st : List Value} {k : Nat} {v : UInt64} {l' : Array Slot} (hd : decode c.code pc = .ok (.dstore k, 2)) (hl : storeLocals Ls k (.double v) = some l') (K : Goes p e below G (T.setTop (mkF m (pc + 2) l' (st)))) : Goes p e below G (T.setTop (mkF m pc Ls (.double v :: st))) :=
  go (fun _ q => XS.dstore (g := mkF m pc Ls (.double v :: st)) X.here hx rfl hd rfl hl q) K
theorem gDstoreN (X : Stand p l e R s m args below meth c T locs cells slots) (hx : p.tables.exec = Jvm.exec) {pc : Nat} {Ls : Array Slot} {st : List Value} {k : Fin 4} {v : UInt64} {l' : Array Slot} (hd : decode c.code pc = .ok (.dstore_n k, 1)) (hl : storeLocals Ls k.val (.double v) = some l') (K : Goes p e below G (T.setTop (mkF m (pc + 1) l' (st)))) : Goes p e below G (T.setTop (mkF m pc Ls (.double v :: st))) :=
  go (fun _ q => XS.dstoreN (g := mkF m pc Ls (.double v :: st)) X.here hx rfl hd rfl hl q) K
theorem gAload (X : Stand p l e R s m args below meth c T locs cells slots) (hx : p.tables.exec = Jvm.exec) {pc : Nat} {Ls : Array Slot} {st : List Value} {k : Nat} {v : Value} (hd : decode c.code pc = .ok (.aload k, 2)) (hl : Ls[k]? = some (.val v)) (hv : v.isRef = true) (K : Goes p e below G (T.setTop (mkF m (pc + 2) Ls (v :: st)))) : Goes p e below G (T.setTop (mkF m pc Ls (st))) :=
  go (fun _ q => XS.aload (g := mkF m pc Ls (st)) X.here hx rfl hd hl hv q) K
theorem gAloadN (X : Stand p l e R s m args below meth c T locs cells slots) (hx : p.tables.exec = Jvm.exec) {pc : Nat} {Ls : Array Slot} {st : List Value} {k : Fin 4} {v : Value} (hd : decode c.code pc = .ok (.aload_n k, 1)) (hl : Ls[k.val]? = some (.val v)) (hv : v.isRef = true) (K : Goes p e below G (T.setTop (mkF m (pc + 1) Ls (v :: st)))) : Goes p e below G (T.setTop (mkF m pc Ls (st))) :=
  go (fun _ q => XS.aloadN (g := mkF m pc Ls (st)) X.here hx rfl hd hl hv q) K
theorem gAstore (X : Stand p l e R s m args below meth c T locs cells slots) (hx : p.tables.exec = Jvm.exec) {pc : Nat} {Ls : Array Slot} {st : List Value} {k : Nat} {v : Value} {l' : Array Slot} (hd : decode c.code pc = .ok (.astore k, 2)) (hv : v.isRef = true) (hl : storeLocals Ls k v = some l') (K : Goes p e below G (T.setTop (mkF m (pc + 2) l' (st)))) : Goes p e below G (T.setTop (mkF m pc Ls (v :: st))) :=
  go (fun _ q => XS.astore (g := mkF m pc Ls (v :: st)) X.here hx rfl hd rfl hv hl q) K
theorem gAstoreN (X : Stand p l e R s m args below meth c T locs cells slots) (hx : p.tables.exec = Jvm.exec) {pc : Nat} {Ls : Array Slot} {st : List Value} {k : Fin 4} {v : Value} {l' : Array Slot} (hd : decode c.code pc = .ok (.astore_n k, 1)) (hv : v.isRef = true) (hl : storeLocals Ls k.val v = some l') (K : Goes p e below G (T.setTop (mkF m (pc + 1) l' (st)))) : Goes p e below G (T.setTop (mkF m pc Ls (v :: st))) :=
  go (fun _ q => XS.astoreN (g := mkF m pc Ls (v :: st)) X.here hx rfl hd rfl hv hl q) K
theorem gIstoreS (X : Stand p l e R s m args below meth c T locs cells slots) (hx : p.tables.exec = Jvm.exec) {pc : Nat} {Ls : Array Slot} {st : List Value} {k : Nat} {v : Int32} {o : Slot} (hd : decode c.code pc = .ok (.istore k, 2)) (hold : Ls[k]? = some o) (ho : o = .unset ∨ ∃ w, o = .val w ∧ w.category = 1) (K : Goes p e below G (T.setTop (mkF m (pc + 2) (Ls.setIfInBounds k (.val (.int v))) (st)))) : Goes p e below G (T.setTop (mkF m pc Ls (.int v :: st))) :=
  go (fun _ q => XS.istoreS (g := mkF m pc Ls (.int v :: st)) X.here hx rfl hd rfl hold ho q) K
theorem gIconst (X : Stand p l e R s m args below meth c T locs cells slots) (hx : p.tables.exec = Jvm.exec) {pc : Nat} {Ls : Array Slot} {st : List Value} {i : Int} {v : Int32} (hd : decode c.code pc = .ok (.iconst i, 1)) (hv : Int32.ofInt i = v) (K : Goes p e below G (T.setTop (mkF m (pc + 1) Ls (.int v :: st)))) : Goes p e below G (T.setTop (mkF m pc Ls st)) := by
  subst hv
  exact go (fun _ q => XS.iconst (g := mkF m pc Ls st) X.here hx rfl hd q) K
theorem gBipush (X : Stand p l e R s m args below meth c T locs cells slots) (hx : p.tables.exec = Jvm.exec) {pc : Nat} {Ls : Array Slot} {st : List Value} {i : Int} {v : Int32} (hd : decode c.code pc = .ok (.bipush i, 2)) (hv : (Int8.ofInt i).toInt32 = v) (K : Goes p e below G (T.setTop (mkF m (pc + 2) Ls (.int v :: st)))) : Goes p e below G (T.setTop (mkF m pc Ls st)) := by
  subst hv
  exact go (fun _ q => XS.bipush (g := mkF m pc Ls st) X.here hx rfl hd q) K
theorem gSipush (X : Stand p l e R s m args below meth c T locs cells slots) (hx : p.tables.exec = Jvm.exec) {pc : Nat} {Ls : Array Slot} {st : List Value} {i : Int} {v : Int32} (hd : decode c.code pc = .ok (.sipush i, 3)) (hv : (Int16.ofInt i).toInt32 = v) (K : Goes p e below G (T.setTop (mkF m (pc + 3) Ls (.int v :: st)))) : Goes p e below G (T.setTop (mkF m pc Ls st)) := by
  subst hv
  exact go (fun _ q => XS.sipush (g := mkF m pc Ls st) X.here hx rfl hd q) K
theorem gLconst (X : Stand p l e R s m args below meth c T locs cells slots) (hx : p.tables.exec = Jvm.exec) {pc : Nat} {Ls : Array Slot} {st : List Value} {i : Fin 2} {v : Int64} (hd : decode c.code pc = .ok (.lconst i, 1)) (hv : Int64.ofNat i = v) (K : Goes p e below G (T.setTop (mkF m (pc + 1) Ls (.long v :: st)))) : Goes p e below G (T.setTop (mkF m pc Ls st)) := by
  subst hv
  exact go (fun _ q => XT.lconst (g := mkF m pc Ls st) X.here hx rfl hd q) K
theorem gAnull (X : Stand p l e R s m args below meth c T locs cells slots) (hx : p.tables.exec = Jvm.exec) {pc : Nat} {Ls : Array Slot} {st : List Value}  (hd : decode c.code pc = .ok (.aconst_null, 1))  (K : Goes p e below G (T.setTop (mkF m (pc + 1) Ls (.null :: st)))) : Goes p e below G (T.setTop (mkF m pc Ls (st))) :=
  go (fun _ q => XS.aconstNull (g := mkF m pc Ls (st)) X.here hx rfl hd  q) K
theorem gDconst0 (X : Stand p l e R s m args below meth c T locs cells slots) (hx : p.tables.exec = Jvm.exec) {pc : Nat} {Ls : Array Slot} {st : List Value}  (hd : decode c.code pc = .ok (.dconst 0, 1))  (K : Goes p e below G (T.setTop (mkF m (pc + 1) Ls (.double FP.dconst0 :: st)))) : Goes p e below G (T.setTop (mkF m pc Ls (st))) :=
  go (fun _ q => XS.dconst0 (g := mkF m pc Ls (st)) X.here hx rfl hd rfl q) K
theorem gDconst1 (X : Stand p l e R s m args below meth c T locs cells slots) (hx : p.tables.exec = Jvm.exec) {pc : Nat} {Ls : Array Slot} {st : List Value}  (hd : decode c.code pc = .ok (.dconst 1, 1))  (K : Goes p e below G (T.setTop (mkF m (pc + 1) Ls (.double FP.dconst1 :: st)))) : Goes p e below G (T.setTop (mkF m pc Ls (st))) :=
  go (fun _ q => XS.dconst1 (g := mkF m pc Ls (st)) X.here hx rfl hd rfl q) K
theorem gIadd (X : Stand p l e R s m args below meth c T locs cells slots) (hx : p.tables.exec = Jvm.exec) {pc : Nat} {Ls : Array Slot} {st : List Value} {x y : Int32} (hd : decode c.code pc = .ok (.iadd, 1))  (K : Goes p e below G (T.setTop (mkF m (pc + 1) Ls (.int (x + y) :: st)))) : Goes p e below G (T.setTop (mkF m pc Ls (.int y :: .int x :: st))) :=
  go (fun _ q => XS.iadd (g := mkF m pc Ls (.int y :: .int x :: st)) X.here hx rfl hd rfl q) K
theorem gIsub (X : Stand p l e R s m args below meth c T locs cells slots) (hx : p.tables.exec = Jvm.exec) {pc : Nat} {Ls : Array Slot} {st : List Value} {x y : Int32} (hd : decode c.code pc = .ok (.isub, 1))  (K : Goes p e below G (T.setTop (mkF m (pc + 1) Ls (.int (x - y) :: st)))) : Goes p e below G (T.setTop (mkF m pc Ls (.int y :: .int x :: st))) :=
  go (fun _ q => XS.isub (g := mkF m pc Ls (.int y :: .int x :: st)) X.here hx rfl hd rfl q) K
theorem gImul (X : Stand p l e R s m args below meth c T locs cells slots) (hx : p.tables.exec = Jvm.exec) {pc : Nat} {Ls : Array Slot} {st : List Value} {x y : Int32} (hd : decode c.code pc = .ok (.imul, 1))  (K : Goes p e below G (T.setTop (mkF m (pc + 1) Ls (.int (x * y) :: st)))) : Goes p e below G (T.setTop (mkF m pc Ls (.int y :: .int x :: st))) :=
  go (fun _ q => XS.imul (g := mkF m pc Ls (.int y :: .int x :: st)) X.here hx rfl hd rfl q) K
theorem gIand (X : Stand p l e R s m args below meth c T locs cells slots) (hx : p.tables.exec = Jvm.exec) {pc : Nat} {Ls : Array Slot} {st : List Value} {x y : Int32} (hd : decode c.code pc = .ok (.iand, 1))  (K : Goes p e below G (T.setTop (mkF m (pc + 1) Ls (.int (x &&& y) :: st)))) : Goes p e below G (T.setTop (mkF m pc Ls (.int y :: .int x :: st))) :=
  go (fun _ q => XS.iand (g := mkF m pc Ls (.int y :: .int x :: st)) X.here hx rfl hd rfl q) K
theorem gIor (X : Stand p l e R s m args below meth c T locs cells slots) (hx : p.tables.exec = Jvm.exec) {pc : Nat} {Ls : Array Slot} {st : List Value} {x y : Int32} (hd : decode c.code pc = .ok (.ior, 1))  (K : Goes p e below G (T.setTop (mkF m (pc + 1) Ls (.int (x ||| y) :: st)))) : Goes p e below G (T.setTop (mkF m pc Ls (.int y :: .int x :: st))) :=
  go (fun _ q => XT.ior (g := mkF m pc Ls (.int y :: .int x :: st)) X.here hx rfl hd rfl q) K
theorem gIxor (X : Stand p l e R s m args below meth c T locs cells slots) (hx : p.tables.exec = Jvm.exec) {pc : Nat} {Ls : Array Slot} {st : List Value} {x y : Int32} (hd : decode c.code pc = .ok (.ixor, 1))  (K : Goes p e below G (T.setTop (mkF m (pc + 1) Ls (.int (x ^^^ y) :: st)))) : Goes p e below G (T.setTop (mkF m pc Ls (.int y :: .int x :: st))) :=
  go (fun _ q => XT.ixor (g := mkF m pc Ls (.int y :: .int x :: st)) X.here hx rfl hd rfl q) K
theorem gIshl (X : Stand p l e R s m args below meth c T locs cells slots) (hx : p.tables.exec = Jvm.exec) {pc : Nat} {Ls : Array Slot} {st : List Value} {x y : Int32} (hd : decode c.code pc = .ok (.ishl, 1))  (K : Goes p e below G (T.setTop (mkF m (pc + 1) Ls (.int (x <<< (y &&& 31)) :: st)))) : Goes p e below G (T.setTop (mkF m pc Ls (.int y :: .int x :: st))) :=
  go (fun _ q => XT.ishl (g := mkF m pc Ls (.int y :: .int x :: st)) X.here hx rfl hd rfl q) K
theorem gIshr (X : Stand p l e R s m args below meth c T locs cells slots) (hx : p.tables.exec = Jvm.exec) {pc : Nat} {Ls : Array Slot} {st : List Value} {x y : Int32} (hd : decode c.code pc = .ok (.ishr, 1))  (K : Goes p e below G (T.setTop (mkF m (pc + 1) Ls (.int (x >>> (y &&& 31)) :: st)))) : Goes p e below G (T.setTop (mkF m pc Ls (.int y :: .int x :: st))) :=
  go (fun _ q => XT.ishr (g := mkF m pc Ls (.int y :: .int x :: st)) X.here hx rfl hd rfl q) K
theorem gIushr (X : Stand p l e R s m args below meth c T locs cells slots) (hx : p.tables.exec = Jvm.exec) {pc : Nat} {Ls : Array Slot} {st : List Value} {x y : Int32} (hd : decode c.code pc = .ok (.iushr, 1))  (K : Goes p e below G (T.setTop (mkF m (pc + 1) Ls (.int (XT.ushr x y) :: st)))) : Goes p e below G (T.setTop (mkF m pc Ls (.int y :: .int x :: st))) :=
  go (fun _ q => XT.iushr (g := mkF m pc Ls (.int y :: .int x :: st)) X.here hx rfl hd rfl q) K
theorem gLadd (X : Stand p l e R s m args below meth c T locs cells slots) (hx : p.tables.exec = Jvm.exec) {pc : Nat} {Ls : Array Slot} {st : List Value} {x y : Int64} (hd : decode c.code pc = .ok (.ladd, 1))  (K : Goes p e below G (T.setTop (mkF m (pc + 1) Ls (.long (x + y) :: st)))) : Goes p e below G (T.setTop (mkF m pc Ls (.long y :: .long x :: st))) :=
  go (fun _ q => XT.ladd (g := mkF m pc Ls (.long y :: .long x :: st)) X.here hx rfl hd rfl q) K
theorem gLsub (X : Stand p l e R s m args below meth c T locs cells slots) (hx : p.tables.exec = Jvm.exec) {pc : Nat} {Ls : Array Slot} {st : List Value} {x y : Int64} (hd : decode c.code pc = .ok (.lsub, 1))  (K : Goes p e below G (T.setTop (mkF m (pc + 1) Ls (.long (x - y) :: st)))) : Goes p e below G (T.setTop (mkF m pc Ls (.long y :: .long x :: st))) :=
  go (fun _ q => XT.lsub (g := mkF m pc Ls (.long y :: .long x :: st)) X.here hx rfl hd rfl q) K
theorem gLmul (X : Stand p l e R s m args below meth c T locs cells slots) (hx : p.tables.exec = Jvm.exec) {pc : Nat} {Ls : Array Slot} {st : List Value} {x y : Int64} (hd : decode c.code pc = .ok (.lmul, 1))  (K : Goes p e below G (T.setTop (mkF m (pc + 1) Ls (.long (x * y) :: st)))) : Goes p e below G (T.setTop (mkF m pc Ls (.long y :: .long x :: st))) :=
  go (fun _ q => XT.lmul (g := mkF m pc Ls (.long y :: .long x :: st)) X.here hx rfl hd rfl q) K
theorem gLand (X : Stand p l e R s m args below meth c T locs cells slots) (hx : p.tables.exec = Jvm.exec) {pc : Nat} {Ls : Array Slot} {st : List Value} {x y : Int64} (hd : decode c.code pc = .ok (.land, 1))  (K : Goes p e below G (T.setTop (mkF m (pc + 1) Ls (.long (x &&& y) :: st)))) : Goes p e below G (T.setTop (mkF m pc Ls (.long y :: .long x :: st))) :=
  go (fun _ q => XT.land (g := mkF m pc Ls (.long y :: .long x :: st)) X.here hx rfl hd rfl q) K
theorem gLor (X : Stand p l e R s m args below meth c T locs cells slots) (hx : p.tables.exec = Jvm.exec) {pc : Nat} {Ls : Array Slot} {st : List Value} {x y : Int64} (hd : decode c.code pc = .ok (.lor, 1))  (K : Goes p e below G (T.setTop (mkF m (pc + 1) Ls (.long (x ||| y) :: st)))) : Goes p e below G (T.setTop (mkF m pc Ls (.long y :: .long x :: st))) :=
  go (fun _ q => XT.lor (g := mkF m pc Ls (.long y :: .long x :: st)) X.here hx rfl hd rfl q) K
theorem gLxor (X : Stand p l e R s m args below meth c T locs cells slots) (hx : p.tables.exec = Jvm.exec) {pc : Nat} {Ls : Array Slot} {st : List Value} {x y : Int64} (hd : decode c.code pc = .ok (.lxor, 1))  (K : Goes p e below G (T.setTop (mkF m (pc + 1) Ls (.long (x ^^^ y) :: st)))) : Goes p e below G (T.setTop (mkF m pc Ls (.long y :: .long x :: st))) :=
  go (fun _ q => XT.lxor (g := mkF m pc Ls (.long y :: .long x :: st)) X.here hx rfl hd rfl q) K
theorem gLshl (X : Stand p l e R s m args below meth c T locs cells slots) (hx : p.tables.exec = Jvm.exec) {pc : Nat} {Ls : Array Slot} {st : List Value} {x : Int64} {y : Int32} (hd : decode c.code pc = .ok (.lshl, 1))  (K : Goes p e below G (T.setTop (mkF m (pc + 1) Ls (.long (x <<< (y.toInt64 &&& 63)) :: st)))) : Goes p e below G (T.setTop (mkF m pc Ls (.int y :: .long x :: st))) :=
  go (fun _ q => XT.lshl (g := mkF m pc Ls (.int y :: .long x :: st)) X.here hx rfl hd rfl q) K
theorem gLshr (X : Stand p l e R s m args below meth c T locs cells slots) (hx : p.tables.exec = Jvm.exec) {pc : Nat} {Ls : Array Slot} {st : List Value} {x : Int64} {y : Int32} (hd : decode c.code pc = .ok (.lshr, 1))  (K : Goes p e below G (T.setTop (mkF m (pc + 1) Ls (.long (x >>> (y.toInt64 &&& 63)) :: st)))) : Goes p e below G (T.setTop (mkF m pc Ls (.int y :: .long x :: st))) :=
  go (fun _ q => XT.lshr (g := mkF m pc Ls (.int y :: .long x :: st)) X.here hx rfl hd rfl q) K
theorem gLushr (X : Stand p l e R s m args below meth c T locs cells slots) (hx : p.tables.exec = Jvm.exec) {pc : Nat} {Ls : Array Slot} {st : List Value} {x : Int64} {y : Int32} (hd : decode c.code pc = .ok (.lushr, 1))  (K : Goes p e below G (T.setTop (mkF m (pc + 1) Ls (.long (XT.ushrL x y) :: st)))) : Goes p e below G (T.setTop (mkF m pc Ls (.int y :: .long x :: st))) :=
  go (fun _ q => XT.lushr (g := mkF m pc Ls (.int y :: .long x :: st)) X.here hx rfl hd rfl q) K
theorem gIneg (X : Stand p l e R s m args below meth c T locs cells slots) (hx : p.tables.exec = Jvm.exec) {pc : Nat} {Ls : Array Slot} {st : List Value} {x : Int32} (hd : decode c.code pc = .ok (.ineg, 1))  (K : Goes p e below G (T.setTop (mkF m (pc + 1) Ls (.int (-x) :: st)))) : Goes p e below G (T.setTop (mkF m pc Ls (.int x :: st))) :=
  go (fun _ q => XS.ineg (g := mkF m pc Ls (.int x :: st)) X.here hx rfl hd rfl q) K
theorem gI2l (X : Stand p l e R s m args below meth c T locs cells slots) (hx : p.tables.exec = Jvm.exec) {pc : Nat} {Ls : Array Slot} {st : List Value} {x : Int32} (hd : decode c.code pc = .ok (.i2l, 1))  (K : Goes p e below G (T.setTop (mkF m (pc + 1) Ls (.long (x.toInt64) :: st)))) : Goes p e below G (T.setTop (mkF m pc Ls (.int x :: st))) :=
  go (fun _ q => XT.i2l (g := mkF m pc Ls (.int x :: st)) X.here hx rfl hd rfl q) K
theorem gL2i (X : Stand p l e R s m args below meth c T locs cells slots) (hx : p.tables.exec = Jvm.exec) {pc : Nat} {Ls : Array Slot} {st : List Value} {x : Int64} (hd : decode c.code pc = .ok (.l2i, 1))  (K : Goes p e below G (T.setTop (mkF m (pc + 1) Ls (.int (x.toInt32) :: st)))) : Goes p e below G (T.setTop (mkF m pc Ls (.long x :: st))) :=
  go (fun _ q => XT.l2i (g := mkF m pc Ls (.long x :: st)) X.here hx rfl hd rfl q) K
theorem gI2b (X : Stand p l e R s m args below meth c T locs cells slots) (hx : p.tables.exec = Jvm.exec) {pc : Nat} {Ls : Array Slot} {st : List Value} {x : Int32} (hd : decode c.code pc = .ok (.i2b, 1))  (K : Goes p e below G (T.setTop (mkF m (pc + 1) Ls (.int (x.toInt8.toInt32) :: st)))) : Goes p e below G (T.setTop (mkF m pc Ls (.int x :: st))) :=
  go (fun _ q => XT.i2b (g := mkF m pc Ls (.int x :: st)) X.here hx rfl hd rfl q) K
theorem gI2c (X : Stand p l e R s m args below meth c T locs cells slots) (hx : p.tables.exec = Jvm.exec) {pc : Nat} {Ls : Array Slot} {st : List Value} {x : Int32} (hd : decode c.code pc = .ok (.i2c, 1))  (K : Goes p e below G (T.setTop (mkF m (pc + 1) Ls (.int (x.toUInt32.toUInt16.toUInt32.toInt32) :: st)))) : Goes p e below G (T.setTop (mkF m pc Ls (.int x :: st))) :=
  go (fun _ q => XT.i2c (g := mkF m pc Ls (.int x :: st)) X.here hx rfl hd rfl q) K
theorem gI2d (X : Stand p l e R s m args below meth c T locs cells slots) (hx : p.tables.exec = Jvm.exec) {pc : Nat} {Ls : Array Slot} {st : List Value} {x : Int32} (hd : decode c.code pc = .ok (.i2d, 1))  (K : Goes p e below G (T.setTop (mkF m (pc + 1) Ls (.double (FP.i2d x) :: st)))) : Goes p e below G (T.setTop (mkF m pc Ls (.int x :: st))) :=
  go (fun _ q => XS.i2dS (g := mkF m pc Ls (.int x :: st)) X.here hx rfl hd rfl rfl q) K
theorem gL2d (X : Stand p l e R s m args below meth c T locs cells slots) (hx : p.tables.exec = Jvm.exec) {pc : Nat} {Ls : Array Slot} {st : List Value} {x : Int64} (hd : decode c.code pc = .ok (.l2d, 1))  (K : Goes p e below G (T.setTop (mkF m (pc + 1) Ls (.double (FP.l2d x) :: st)))) : Goes p e below G (T.setTop (mkF m pc Ls (.long x :: st))) :=
  go (fun _ q => XS.l2dS (g := mkF m pc Ls (.long x :: st)) X.here hx rfl hd rfl rfl q) K
theorem gDadd (X : Stand p l e R s m args below meth c T locs cells slots) (hx : p.tables.exec = Jvm.exec) {pc : Nat} {Ls : Array Slot} {st : List Value} {x y : UInt64} (hd : decode c.code pc = .ok (.dadd, 1)) (hn : Jvm.Free.Fl.NoNaN64 (FP.dadd x y)) (K : Goes p e below G (T.setTop (mkF m (pc + 1) Ls (.double (FP.dadd x y) :: st)))) : Goes p e below G (T.setTop (mkF m pc Ls (.double y :: .double x :: st))) :=
  go (fun _ q => XS.daddS (g := mkF m pc Ls (.double y :: .double x :: st)) X.here hx rfl hd rfl hn rfl q) K
theorem gDsub (X : Stand p l e R s m args below meth c T locs cells slots) (hx : p.tables.exec = Jvm.exec) {pc : Nat} {Ls : Array Slot} {st : List Value} {x y : UInt64} (hd : decode c.code pc = .ok (.dsub, 1)) (hn : Jvm.Free.Fl.NoNaN64 (FP.dsub x y)) (K : Goes p e below G (T.setTop (mkF m (pc + 1) Ls (.double (FP.dsub x y) :: st)))) : Goes p e below G (T.setTop (mkF m pc Ls (.double y :: .double x :: st))) :=
  go (fun _ q => XS.dsubS (g := mkF m pc Ls (.double y :: .double x :: st)) X.here hx rfl hd rfl hn rfl q) K
theorem gDmul (X : Stand p l e R s m args below meth c T locs cells slots) (hx : p.tables.exec = Jvm.exec) {pc : Nat} {Ls : Array Slot} {st : List Value} {x y : UInt64} (hd : decode c.code pc = .ok (.dmul, 1)) (hn : Jvm.Free.Fl.NoNaN64 (FP.dmul x y)) (K : Goes p e below G (T.setTop (mkF m (pc + 1) Ls (.double (FP.dmul x y) :: st)))) : Goes p e below G (T.setTop (mkF m pc Ls (.double y :: .double x :: st))) :=
  go (fun _ q => XS.dmulS (g := mkF m pc Ls (.double y :: .double x :: st)) X.here hx rfl hd rfl hn rfl q) K
theorem gDdiv (X : Stand p l e R s m args below meth c T locs cells slots) (hx : p.tables.exec = Jvm.exec) {pc : Nat} {Ls : Array Slot} {st : List Value} {x y : UInt64} (hd : decode c.code pc = .ok (.ddiv, 1)) (hn : Jvm.Free.Fl.NoNaN64 (FP.ddiv x y)) (K : Goes p e below G (T.setTop (mkF m (pc + 1) Ls (.double (FP.ddiv x y) :: st)))) : Goes p e below G (T.setTop (mkF m pc Ls (.double y :: .double x :: st))) :=
  go (fun _ q => XS.ddivS (g := mkF m pc Ls (.double y :: .double x :: st)) X.here hx rfl hd rfl hn rfl q) K
theorem gDcmp (X : Stand p l e R s m args below meth c T locs cells slots) (hx : p.tables.exec = Jvm.exec) {pc : Nat} {Ls : Array Slot} {st : List Value} {o : CmpOp} {x y : UInt64} (hd : decode c.code pc = .ok (.dcmp o, 1))  (K : Goes p e below G (T.setTop (mkF m (pc + 1) Ls (.int (cmpValue (FP.dcmp x y) o) :: st)))) : Goes p e below G (T.setTop (mkF m pc Ls (.double y :: .double x :: st))) :=
  go (fun _ q => XS.dcmpS (g := mkF m pc Ls (.double y :: .double x :: st)) X.here hx rfl hd rfl rfl q) K
theorem gLcmp (X : Stand p l e R s m args below meth c T locs cells slots) (hx : p.tables.exec = Jvm.exec) {pc : Nat} {Ls : Array Slot} {st : List Value} {x y : Int64} (hd : decode c.code pc = .ok (.lcmp, 1))  (K : Goes p e below G (T.setTop (mkF m (pc + 1) Ls (.int (XT.cmpL x y) :: st)))) : Goes p e below G (T.setTop (mkF m pc Ls (.long y :: .long x :: st))) :=
  go (fun _ q => XT.lcmp (g := mkF m pc Ls (.long y :: .long x :: st)) X.here hx rfl hd rfl q) K
theorem gDup (X : Stand p l e R s m args below meth c T locs cells slots) (hx : p.tables.exec = Jvm.exec) {pc : Nat} {Ls : Array Slot} {st : List Value} {x : Value} (hd : decode c.code pc = .ok (.dup, 1)) (hc : x.category = 1) (K : Goes p e below G (T.setTop (mkF m (pc + 1) Ls (x :: x :: st)))) : Goes p e below G (T.setTop (mkF m pc Ls (x :: st))) :=
  go (fun _ q => XS.dup (g := mkF m pc Ls (x :: st)) X.here hx rfl hd rfl hc q) K
theorem gPop (X : Stand p l e R s m args below meth c T locs cells slots) (hx : p.tables.exec = Jvm.exec) {pc : Nat} {Ls : Array Slot} {st : List Value} {x : Value} (hd : decode c.code pc = .ok (.pop, 1)) (hc : x.category = 1) (K : Goes p e below G (T.setTop (mkF m (pc + 1) Ls (st)))) : Goes p e below G (T.setTop (mkF m pc Ls (x :: st))) :=
  go (fun _ q => XT.pop (g := mkF m pc Ls (x :: st)) X.here hx rfl hd rfl hc q) K
theorem gDupX1 (X : Stand p l e R s m args below meth c T locs cells slots) (hx : p.tables.exec = Jvm.exec) {pc : Nat} {Ls : Array Slot} {st : List Value} {x y : Value} (hd : decode c.code pc = .ok (.dup_x1, 1)) (hc : x.category = 1) (hc' : y.category = 1) (K : Goes p e below G (T.setTop (mkF m (pc + 1) Ls (x :: y :: x :: st)))) : Goes p e below G (T.setTop (mkF m pc Ls (x :: y :: st))) :=
  go (fun _ q => XT.dupX1 (g := mkF m pc Ls (x :: y :: st)) X.here hx rfl hd rfl hc hc' q) K
theorem gDup2 (X : Stand p l e R s m args below meth c T locs cells slots) (hx : p.tables.exec = Jvm.exec) {pc : Nat} {Ls : Array Slot} {st : List Value} {x y : Value} (hd : decode c.code pc = .ok (.dup2, 1)) (hc : x.category = 1) (hc' : y.category = 1) (K : Goes p e below G (T.setTop (mkF m (pc + 1) Ls (x :: y :: x :: y :: st)))) : Goes p e below G (T.setTop (mkF m pc Ls (x :: y :: st))) :=
  go (fun _ q => XT.dup2 (g := mkF m pc Ls (x :: y :: st)) X.here hx rfl hd rfl hc hc' q) K
theorem gIinc (X : Stand p l e R s m args below meth c T locs cells slots) (hx : p.tables.exec = Jvm.exec) {pc : Nat} {Ls : Array Slot} {st : List Value} {k : Nat} {i : Int} {x v : Int32} {l' : Array Slot} (hd : decode c.code pc = .ok (.iinc k i, 3)) (hv : x + Int32.ofInt i = v) (hl : Ls[k]? = some (.val (.int x))) (hl' : storeLocals Ls k (.int v) = some l') (K : Goes p e below G (T.setTop (mkF m (pc + 3) l' st))) : Goes p e below G (T.setTop (mkF m pc Ls st)) := by
  subst hv
  exact go (fun _ q => XS.iinc (g := mkF m pc Ls st) X.here hx rfl hd hl hl' q) K
theorem gIrem (X : Stand p l e R s m args below meth c T locs cells slots) (hx : p.tables.exec = Jvm.exec) {pc : Nat} {Ls : Array Slot} {st : List Value} {x y : Int32} (hd : decode c.code pc = .ok (.irem, 1)) (hy : y ≠ 0) (K : Goes p e below G (T.setTop (mkF m (pc + 1) Ls (.int (x % y) :: st)))) : Goes p e below G (T.setTop (mkF m pc Ls (.int y :: .int x :: st))) :=
  go (fun _ q => iremM X hx (g := mkF m pc Ls (.int y :: .int x :: st)) rfl hd rfl hy q) K
theorem gIdiv (X : Stand p l e R s m args below meth c T locs cells slots) (hx : p.tables.exec = Jvm.exec) {pc : Nat} {Ls : Array Slot} {st : List Value} {x y : Int32} (hd : decode c.code pc = .ok (.idiv, 1)) (hy : y ≠ 0) (K : Goes p e below G (T.setTop (mkF m (pc + 1) Ls (.int (x / y) :: st)))) : Goes p e below G (T.setTop (mkF m pc Ls (.int y :: .int x :: st))) :=
  go (fun _ q => XS.idiv (g := mkF m pc Ls (.int y :: .int x :: st)) X.here hx rfl hd rfl hy q) K
theorem gGoto (X : Stand p l e R s m args below meth c T locs cells slots) (hx : p.tables.exec = Jvm.exec) {pc : Nat} {Ls : Array Slot} {st : List Value} {o : Int} {pc' : Nat} (hd : decode c.code pc = .ok (.goto o, 3)) (ho : 0 ≤ (pc : Int) + o) (hp : ((pc : Int) + o).toNat = pc') (K : Goes p e below G (T.setTop (mkF m pc' Ls (st)))) : Goes p e below G (T.setTop (mkF m pc Ls (st))) :=
  go (fun _ q => XS.goto (g := mkF m pc Ls (st)) X.here hx rfl rfl hd ho hp q) K
theorem gIfY (X : Stand p l e R s m args below meth c T locs cells slots) (hx : p.tables.exec = Jvm.exec) {pc : Nat} {Ls : Array Slot} {st : List Value} {cd : ClassFile.Cond} {x : Int32} {o : Int} {pc' : Nat} (hd : decode c.code pc = .ok (.ifCond cd o, 3)) (hc : ifCond.holds cd x = true) (ho : 0 ≤ (pc : Int) + o) (hp : ((pc : Int) + o).toNat = pc') (K : Goes p e below G (T.setTop (mkF m pc' Ls (st)))) : Goes p e below G (T.setTop (mkF m pc Ls (.int x :: st))) :=
  go (fun _ q => XS.ifYes (g := mkF m pc Ls (.int x :: st)) X.here hx rfl rfl hd rfl hc ho hp q) K
theorem gIfN (X : Stand p l e R s m args below meth c T locs cells slots) (hx : p.tables.exec = Jvm.exec) {pc : Nat} {Ls : Array Slot} {st : List Value} {cd : ClassFile.Cond} {x : Int32} {o : Int} (hd : decode c.code pc = .ok (.ifCond cd o, 3)) (hc : ifCond.holds cd x = false) (K : Goes p e below G (T.setTop (mkF m (pc + 3) Ls (st)))) : Goes p e below G (T.setTop (mkF m pc Ls (.int x :: st))) :=
  go (fun _ q => XS.ifNo (g := mkF m pc Ls (.int x :: st)) X.here hx rfl hd rfl hc q) K
theorem gIcmpY (X : Stand p l e R s m args below meth c T locs cells slots) (hx : p.tables.exec = Jvm.exec) {pc : Nat} {Ls : Array Slot} {st : List Value} {cd : ClassFile.Cond} {x y : Int32} {o : Int} {pc' : Nat} (hd : decode c.code pc = .ok (.if_icmp cd o, 3)) (hc : if_icmp.holds cd x y = true) (ho : 0 ≤ (pc : Int) + o) (hp : ((pc : Int) + o).toNat = pc') (K : Goes p e below G (T.setTop (mkF m pc' Ls (st)))) : Goes p e below G (T.setTop (mkF m pc Ls (.int y :: .int x :: st))) :=
  go (fun _ q => XS.icmpYes (g := mkF m pc Ls (.int y :: .int x :: st)) X.here hx rfl rfl hd rfl hc ho hp q) K
theorem gIcmpN (X : Stand p l e R s m args below meth c T locs cells slots) (hx : p.tables.exec = Jvm.exec) {pc : Nat} {Ls : Array Slot} {st : List Value} {cd : ClassFile.Cond} {x y : Int32} {o : Int} (hd : decode c.code pc = .ok (.if_icmp cd o, 3)) (hc : if_icmp.holds cd x y = false) (K : Goes p e below G (T.setTop (mkF m (pc + 3) Ls (st)))) : Goes p e below G (T.setTop (mkF m pc Ls (.int y :: .int x :: st))) :=
  go (fun _ q => XS.icmpNo (g := mkF m pc Ls (.int y :: .int x :: st)) X.here hx rfl hd rfl hc q) K
theorem gAcmpY (X : Stand p l e R s m args below meth c T locs cells slots) (hx : p.tables.exec = Jvm.exec) {pc : Nat} {Ls : Array Slot} {st : List Value} {cd : ClassFile.ACond} {x y : Value} {o : Int} {pc' : Nat} (hd : decode c.code pc = .ok (.if_acmp cd o, 3)) (hx' : x.isRef = true) (hy' : y.isRef = true) (hc : XT.acmp cd x y = true) (ho : 0 ≤ (pc : Int) + o) (hp : ((pc : Int) + o).toNat = pc') (K : Goes p e below G (T.setTop (mkF m pc' Ls (st)))) : Goes p e below G (T.setTop (mkF m pc Ls (y :: x :: st))) :=
  go (fun _ q => XT.acmpYes (g := mkF m pc Ls (y :: x :: st)) X.here hx rfl rfl hd rfl hx' hy' hc ho hp q) K
theorem gAcmpN (X : Stand p l e R s m args below meth c T locs cells slots) (hx : p.tables.exec = Jvm.exec) {pc : Nat} {Ls : Array Slot} {st : List Value} {cd : ClassFile.ACond} {x y : Value} {o : Int} (hd : decode c.code pc = .ok (.if_acmp cd o, 3)) (hx' : x.isRef = true) (hy' : y.isRef = true) (hc : XT.acmp cd x y = false) (K : Goes p e below G (T.setTop (mkF m (pc + 3) Ls (st)))) : Goes p e below G (T.setTop (mkF m pc Ls (y :: x :: st))) :=
  go (fun _ q => XT.acmpNo (g := mkF m pc Ls (y :: x :: st)) X.here hx rfl hd rfl hx' hy' hc q) K
theorem gNullY (X : Stand p l e R s m args below meth c T locs cells slots) (hx : p.tables.exec = Jvm.exec) {pc : Nat} {Ls : Array Slot} {st : List Value} {o : Int} {pc' : Nat} (hd : decode c.code pc = .ok (.ifnull o, 3)) (ho : 0 ≤ (pc : Int) + o) (hp : ((pc : Int) + o).toNat = pc') (K : Goes p e below G (T.setTop (mkF m pc' Ls (st)))) : Goes p e below G (T.setTop (mkF m pc Ls (.null :: st))) :=
  go (fun _ q => XS.ifnullYes (g := mkF m pc Ls (.null :: st)) X.here hx rfl rfl hd rfl ho hp q) K
theorem gNullN (X : Stand p l e R s m args below meth c T locs cells slots) (hx : p.tables.exec = Jvm.exec) {pc : Nat} {Ls : Array Slot} {st : List Value} {b : Addr} {o : Int} (hd : decode c.code pc = .ok (.ifnull o, 3))  (K : Goes p e below G (T.setTop (mkF m (pc + 3) Ls (st)))) : Goes p e below G (T.setTop (mkF m pc Ls (.ref b :: st))) :=
  go (fun _ q => XS.ifnullNo (g := mkF m pc Ls (.ref b :: st)) X.here hx rfl hd rfl q) K
theorem gNonnullY (X : Stand p l e R s m args below meth c T locs cells slots) (hx : p.tables.exec = Jvm.exec) {pc : Nat} {Ls : Array Slot} {st : List Value} {b : Addr} {o : Int} {pc' : Nat} (hd : decode c.code pc = .ok (.ifnonnull o, 3)) (ho : 0 ≤ (pc : Int) + o) (hp : ((pc : Int) + o).toNat = pc') (K : Goes p e below G (T.setTop (mkF m pc' Ls (st)))) : Goes p e below G (T.setTop (mkF m pc Ls (.ref b :: st))) :=
  go (fun _ q => XT.ifnonnullYes (g := mkF m pc Ls (.ref b :: st)) X.here hx rfl rfl hd rfl ho hp q) K
theorem gNonnullN (X : Stand p l e R s m args below meth c T locs cells slots) (hx : p.tables.exec = Jvm.exec) {pc : Nat} {Ls : Array Slot} {st : List Value} {o : Int} (hd : decode c.code pc = .ok (.ifnonnull o, 3))  (K : Goes p e below G (T.setTop (mkF m (pc + 3) Ls (st)))) : Goes p e below G (T.setTop (mkF m pc Ls (.null :: st))) :=
  go (fun _ q => XT.ifnonnullNo (g := mkF m pc Ls (.null :: st)) X.here hx rfl hd rfl q) K
theorem gLdcI (X : Stand p l e R s m args below meth c T locs cells slots) (hx : p.tables.exec = Jvm.exec) {pc : Nat} {Ls : Array Slot} {st : List Value} (hZ : Z.Warmed39 s.vm) {own : String} (hown : s.vm.findClass own = some m.cls) {i : Nat} {v : Int32} (w : (Cond.constant own i v).before a0 Z = true) (hd : decode c.code pc = .ok (.ldc i, 2)) (K : Goes p e below G (T.setTop (mkF m (pc + 2) Ls (.int v :: st)))) : Goes p e below G (T.setTop (mkF m pc Ls st)) :=
  go (fun _ q => X.ldcI hx hown (mvT hZ w) (g := mkF m pc Ls st) rfl hd q) K
theorem gLdcWI (X : Stand p l e R s m args below meth c T locs cells slots) (hx : p.tables.exec = Jvm.exec) {pc : Nat} {Ls : Array Slot} {st : List Value} (hZ : Z.Warmed39 s.vm) {own : String} (hown : s.vm.findClass own = some m.cls) {i : Nat} {v : Int32} (w : (Cond.constant own i v).before a0 Z = true) (hd : decode c.code pc = .ok (.ldc_w i, 3)) (K : Goes p e below G (T.setTop (mkF m (pc + 3) Ls (.int v :: st)))) : Goes p e below G (T.setTop (mkF m pc Ls st)) :=
  go (fun _ q => X.ldcWI hx hown (mvT hZ w) (g := mkF m pc Ls st) rfl hd q) K
theorem gLdc2J (X : Stand p l e R s m args below meth c T locs cells slots) (hx : p.tables.exec = Jvm.exec) {pc : Nat} {Ls : Array Slot} {st : List Value} (hZ : Z.Warmed39 s.vm) {own : String} (hown : s.vm.findClass own = some m.cls) {i : Nat} {v : Int64} (w : (Cond.constantLong own i v).before a0 Z = true) (hd : decode c.code pc = .ok (.ldc2_w i, 3)) (K : Goes p e below G (T.setTop (mkF m (pc + 3) Ls (.long v :: st)))) : Goes p e below G (T.setTop (mkF m pc Ls st)) :=
  go (fun _ q => X.ldc2J hx hown (mvT hZ w) (g := mkF m pc Ls st) rfl hd q) K
theorem gLdc2D (X : Stand p l e R s m args below meth c T locs cells slots) (hx : p.tables.exec = Jvm.exec) {pc : Nat} {Ls : Array Slot} {st : List Value} (hZ : Z.Warmed39 s.vm) {own : String} (hown : s.vm.findClass own = some m.cls) {i : Nat} {v : UInt64} (w : (Cond.constantDouble own i v).before a0 Z = true) (hd : decode c.code pc = .ok (.ldc2_w i, 3)) (K : Goes p e below G (T.setTop (mkF m (pc + 3) Ls (.double v :: st)))) : Goes p e below G (T.setTop (mkF m pc Ls st)) :=
  go (fun _ q => X.ldc2DoubleC hx hown (mvT hZ w) (g := mkF m pc Ls st) rfl hd _ q) K
end Own
end Jvm.OwnWalk
namespace Jvm.Pilot.@@N@@
open Jvm Jvm.ClassFile Sem Op Lib Jvm.Free Jvm.Stand Jvm.LawKit Jvm.RoadKit Jvm.OwnWalk Bundle Jvm.Pilot.@@N@@.Jvm.D
theorem own_shl (x : Int64) : ((x <<< ((32 : Int32).toInt64 &&& 63)).toInt - x.toInt * 4294967296) % 18446744073709551616 = 0 := by
  have h := c_lshl x 32 32 (by decide)
  have q : ((32 : Int32) &&& 0x3f).toInt64 = (32 : Int32).toInt64 &&& 63 := by decide
  rw [q] at h
  exact h
theorem own_ushr (x : Int64) : (XT.ushrL x 32).toInt = (x.toInt % 18446744073709551616) / 4294967296 := by
  have h := c_lushr x 32 32 (by decide) (by decide)
  have q : ((32 : Int32) &&& 0x3f).toInt64.toUInt64 = ((32 : Int32).toInt64.toUInt64 &&& Int64.toUInt64 63) := by decide
  rw [q] at h
  exact h
theorem own_mask (x : Int64) : (x &&& (4294967295 : Int64)).toInt = x.toInt % 4294967296 := c_maskL x 4294967295 32 (by decide) (by decide)
theorem own_mb (x : Int64) : 0 ≤ (x &&& (4294967295 : Int64)).toInt ∧ (x &&& (4294967295 : Int64)).toInt < 4294967296 := by rw [own_mask]; omega
theorem own_pack (x y : Int64) (h0 : 0 ≤ y.toInt) (h1 : y.toInt < 4294967296) : (((x <<< ((32 : Int32).toInt64 &&& 63)) ||| y).toInt - (x.toInt * 4294967296 + y.toInt)) % 18446744073709551616 = 0 := by
  have a := own_shl x
  have b := c_orL (x <<< ((32 : Int32).toInt64 &&& 63)) y 32 (by decide) 4294967296 (by decide) (by omega) h0 h1
  omega
def own_fol (n p : Int64) : Int32 := if n = p + 1 then 1 else if XT.ushrL p 32 < XT.ushrL n 32 ∧ n &&& (4294967295 : Int64) = 1 then 1 else 0
theorem own_key (e1 c1 e2 c2 : Int64) (a0 : 0 ≤ e1.toInt) (a1 : e1.toInt < 4294967296) (b0 : 0 ≤ c1.toInt) (b1 : c1.toInt < 4294967296) (d0 : 0 ≤ e2.toInt) (d1 : e2.toInt < 4294967296) (f0 : 0 ≤ c2.toInt) (f1 : c2.toInt < 4294967296) (hz : ¬ c2 = 0) :
    own_fol ((e2 <<< ((32 : Int32).toInt64 &&& 63)) ||| c2) ((e1 <<< ((32 : Int32).toInt64 &&& 63)) ||| c1) = if (e2 = e1 ∧ c2 = c1 + 1) ∨ (e1 < e2 ∧ c2 = 1) then 1 else 0 := by
  have p1 := own_pack e1 c1 b0 b1
  have p2 := own_pack e2 c2 f0 f1
  generalize ((e2 <<< ((32 : Int32).toInt64 &&& 63)) ||| c2) = n at *
  generalize ((e1 <<< ((32 : Int32).toInt64 &&& 63)) ||| c1) = p at *
  have u1 := own_ushr n
  have u2 := own_ushr p
  have u3 := own_mask n
  have u4 := c_ladd p 1
  have u5 := c_ladd c1 1
  have o1 : (1 : Int64).toInt = 1 := by decide
  have r1 := rng64 n
  have r2 := rng64 p
  have r3 := rng64 (p + 1)
  have r4 := rng64 (c1 + 1)
  have z1 : ¬ c2.toInt = 0 := fun q => hz (Int64.toInt_inj.mp (q.trans (by decide)))
  rw [o1] at u4 u5
  unfold own_fol
  simp only [Int64.lt_iff_toInt_lt, ← Int64.toInt_inj, o1, u1, u2, u3]
  by_cases q1 : n.toInt = (p + 1).toInt
  · have k1 : e2.toInt = e1.toInt := by omega
    have k2 : c2.toInt = (c1 + 1).toInt := by omega
    simp [q1, k1, k2]
  · by_cases q2 : p.toInt % 18446744073709551616 / 4294967296 < n.toInt % 18446744073709551616 / 4294967296 ∧ n.toInt % 4294967296 = 1
    · have k1 : e1.toInt < e2.toInt := by omega
      have k2 : c2.toInt = 1 := by omega
      simp [q1, q2, k1, k2]
    · have k1 : ¬ (e2.toInt = e1.toInt ∧ c2.toInt = (c1 + 1).toInt) := by omega
      have k2 : ¬ (e1.toInt < e2.toInt ∧ c2.toInt = 1) := by omega
      simp only [q1, q2, k1, k2, if_false, or_self]
theorem d_prog_50_method_3_0 : decode prog_50_method_3_code 0 = .ok (.lload_n 0, 1) := by decide +kernel
theorem d_prog_50_method_3_1 : decode prog_50_method_3_code 1 = .ok (.bipush 32, 2) := by decide +kernel
theorem d_prog_50_method_3_3 : decode prog_50_method_3_code 3 = .ok (.lushr, 1) := by decide +kernel
theorem d_prog_50_method_3_4 : decode prog_50_method_3_code 4 = .ok (.lreturn, 1) := by decide +kernel
theorem pn_0 : plainName "com/example/fundur/fundur/server/Zxids" = true := by first | (simp [plainName, overriddenIn]; done) | decide +kernel
theorem ef_rm2 (m : MethodId) (x0 : Int64) : entryFrame m #[(.long x0)] 2 = mkF m 0 #[.val (.long x0), .second] [] := by first | (simp [entryFrame, mkF, argsToLocals, Value.category]; done) | rfl
set_option maxRecDepth 65536 in
set_option maxHeartbeats 40000000 in
theorem rm2 (l : Launch) (Z : State) (a0 : Array Value) (hw : ∀ d ∈ tables_1, d.before a0 Z = true)  (q1 : Int64) (h0 : Heap) (O0 : Ext Z.heap h0)  :
    Ctr l Z (⟨"com/example/fundur/fundur/server/Zxids", "epoch", "(J)J"⟩ : MethodName) prog_50_method_3_code 2 (some .long) [] ({ frames := 0, cells := 0, slots := 0, locals := 0 } : Room) #[(.long q1)] h0 (fun v h L => v = some (.long (XT.ushrL q1 32)) ∧ Fr Z.heap.size L ∧ h = h0) := by
  refine ctr (plainFor_of_name pn_0) ?_
  intro p e s m below meth c s₁ hx hby hml hown hnm hret hlocks hZ X0 e0
  have N0 := Fr.nil Z.heap.size
  have hsz : ∀ {Ls : Array Slot}, Ls.size = 2 → Ls.size = c.maxLocals := fun q => q.trans hml.symm
  refine goE (ef_rm2 m (q1)) ?_
  show Goes p e below _ (s₁.setTop (mkF m 0 #[.val (.long q1), .second] []))
  refine gLloadN X0 hx (hb hby d_prog_50_method_3_0) rfl ?_
  refine gBipush X0 hx (hb hby d_prog_50_method_3_1) (v := (32 : Int32)) rfl ?_
  refine gLushr X0 hx (hb hby d_prog_50_method_3_3) ?_
  exact goRetJ X0 hx hret hlocks (hb hby d_prog_50_method_3_4) (by decide) (by decide) e0 (⟨rfl, N0, rfl⟩)
theorem d_prog_50_method_4_0 : decode prog_50_method_4_code 0 = .ok (.lload_n 0, 1) := by decide +kernel
theorem d_prog_50_method_4_1 : decode prog_50_method_4_code 1 = .ok (.lload_n 2, 1) := by decide +kernel
theorem d_prog_50_method_4_2 : decode prog_50_method_4_code 2 = .ok (.lconst 1, 1) := by decide +kernel
theorem d_prog_50_method_4_3 : decode prog_50_method_4_code 3 = .ok (.ladd, 1) := by decide +kernel
theorem d_prog_50_method_4_4 : decode prog_50_method_4_code 4 = .ok (.lcmp, 1) := by decide +kernel
theorem d_prog_50_method_4_5 : decode prog_50_method_4_code 5 = .ok (.ifCond .eq 25, 3) := by decide +kernel
theorem d_prog_50_method_4_30 : decode prog_50_method_4_code 30 = .ok (.iconst 1, 1) := by decide +kernel
theorem d_prog_50_method_4_31 : decode prog_50_method_4_code 31 = .ok (.goto 4, 3) := by decide +kernel
theorem d_prog_50_method_4_35 : decode prog_50_method_4_code 35 = .ok (.ireturn, 1) := by decide +kernel
theorem d_prog_50_method_4_8 : decode prog_50_method_4_code 8 = .ok (.lload_n 0, 1) := by decide +kernel
theorem pd_0 : parseMethodDescriptor "(J)J" = some ⟨[.long], some .long⟩ := by decide +kernel
theorem d_prog_50_method_4_9 : decode prog_50_method_4_code 9 = .ok (.invokestatic 9, 3) := by decide +kernel
theorem d_prog_50_method_4_12 : decode prog_50_method_4_code 12 = .ok (.lload_n 2, 1) := by decide +kernel
theorem d_prog_50_method_4_13 : decode prog_50_method_4_code 13 = .ok (.invokestatic 9, 3) := by decide +kernel
theorem d_prog_50_method_4_16 : decode prog_50_method_4_code 16 = .ok (.lcmp, 1) := by decide +kernel
theorem d_prog_50_method_4_17 : decode prog_50_method_4_code 17 = .ok (.ifCond .le 17, 3) := by decide +kernel
theorem d_prog_50_method_4_34 : decode prog_50_method_4_code 34 = .ok (.iconst 0, 1) := by decide +kernel
theorem d_prog_50_method_4_20 : decode prog_50_method_4_code 20 = .ok (.lload_n 0, 1) := by decide +kernel
theorem d_prog_50_method_4_21 : decode prog_50_method_4_code 21 = .ok (.ldc2_w 13, 3) := by decide +kernel
theorem d_prog_50_method_4_24 : decode prog_50_method_4_code 24 = .ok (.land, 1) := by decide +kernel
theorem d_prog_50_method_4_25 : decode prog_50_method_4_code 25 = .ok (.lconst 1, 1) := by decide +kernel
theorem d_prog_50_method_4_26 : decode prog_50_method_4_code 26 = .ok (.lcmp, 1) := by decide +kernel
theorem d_prog_50_method_4_27 : decode prog_50_method_4_code 27 = .ok (.ifCond .ne 7, 3) := by decide +kernel
theorem ef_rm1 (m : MethodId) (x0 : Int64) (x1 : Int64) : entryFrame m #[(.long x0), (.long x1)] 4 = mkF m 0 #[.val (.long x0), .second, .val (.long x1), .second] [] := by first | (simp [entryFrame, mkF, argsToLocals, Value.category]; done) | rfl
set_option maxRecDepth 65536 in
set_option maxHeartbeats 40000000 in
theorem rm1 (l : Launch) (Z : State) (a0 : Array Value) (hw : ∀ d ∈ tables_1, d.before a0 Z = true)  (q1 : Int64) (q2 : Int64) (h0 : Heap) (O0 : Ext Z.heap h0)  :
    Ctr l Z (⟨"com/example/fundur/fundur/server/Zxids", "follows", "(JJ)Z"⟩ : MethodName) prog_50_method_4_code 4 (some .boolean) [] ({ frames := 1, cells := 0, slots := 0, locals := 15 } : Room) #[(.long q1), (.long q2)] h0 (fun v h L => v = some (.int (own_fol q1 q2)) ∧ Fr Z.heap.size L ∧ h = h0) := by
  refine ctr (plainFor_of_name pn_0) ?_
  intro p e s m below meth c s₁ hx hby hml hown hnm hret hlocks hZ X0 e0
  have N0 := Fr.nil Z.heap.size
  have hsz : ∀ {Ls : Array Slot}, Ls.size = 4 → Ls.size = c.maxLocals := fun q => q.trans hml.symm
  refine goE (ef_rm1 m (q1) (q2)) ?_
  show Goes p e below _ (s₁.setTop (mkF m 0 #[.val (.long q1), .second, .val (.long q2), .second] []))
  refine gLloadN X0 hx (hb hby d_prog_50_method_4_0) rfl ?_
  refine gLloadN X0 hx (hb hby d_prog_50_method_4_1) rfl ?_
  refine gLconst X0 hx (hb hby d_prog_50_method_4_2) (v := (1 : Int64)) rfl ?_
  refine gLadd X0 hx (hb hby d_prog_50_method_4_3) ?_
  refine gLcmp X0 hx (hb hby d_prog_50_method_4_4) ?_
  by_cases g1 : q1 = (q2 + (1 : Int64))
  · refine gIfY X0 hx (hb hby d_prog_50_method_4_5) (pc' := 30) (XT.ll_eq_t g1) (by decide) (by decide) ?_
    show Goes p e below _ (s₁.setTop (mkF m 30 #[.val (.long q1), .second, .val (.long q2), .second] []))
    refine gIconst X0 hx (hb hby d_prog_50_method_4_30) (v := (1 : Int32)) rfl ?_
    refine gGoto X0 hx (hb hby d_prog_50_method_4_31) (pc' := 35) (by decide) (by decide) ?_
    show Goes p e below _ (s₁.setTop (mkF m 35 #[.val (.long q1), .second, .val (.long q2), .second] [(.int (1 : Int32))]))
    exact goRetN X0 hx (t := .boolean) hret hlocks (by simp) (hb hby d_prog_50_method_4_35) (z' := (1 : Int32)) rfl (by decide) (by decide) e0 (⟨by simp [own_fol, g1], N0, rfl⟩)
  · refine gIfN X0 hx (hb hby d_prog_50_method_4_5) (XT.ll_eq_f g1) ?_
    show Goes p e below _ (s₁.setTop (mkF m 8 #[.val (.long q1), .second, .val (.long q2), .second] []))
    refine gLloadN X0 hx (hb hby d_prog_50_method_4_8) rfl ?_
    refine goCallS X0 hx hZ hown (hw _ (List.mem_of_getElem? (i := 5) rfl)) (hw _ (List.mem_of_getElem? (i := 6) rfl)) (hw _ (List.mem_of_getElem? (i := 3) rfl)) (hw _ (List.mem_of_getElem? (i := 7) rfl)) (by decide) (rm2 l Z a0 hw q1 h0 O0) 0 (by decide) (by decide) e0 (hsz rfl) [(.long q1)] [] pd_0 rfl rfl rfl (Nat.le_of_eq rfl) (hb hby d_prog_50_method_4_9) (by decide) (by decide) (fun Tt1 vt1 Lt1 Xt1 qt1 => ?_)
    obtain ⟨rfl, N2, et1⟩ := qt1
    have N3 := Fr.app N0 N2
    show Goes p e below _ (Tt1.setTop (mkF m 12 #[.val (.long q1), .second, .val (.long q2), .second] [(.long (XT.ushrL q1 32))]))
    refine gLloadN Xt1 hx (hb hby d_prog_50_method_4_12) rfl ?_
    refine goCallS Xt1 hx hZ hown (hw _ (List.mem_of_getElem? (i := 5) rfl)) (hw _ (List.mem_of_getElem? (i := 6) rfl)) (hw _ (List.mem_of_getElem? (i := 3) rfl)) (hw _ (List.mem_of_getElem? (i := 7) rfl)) (by decide) (rm2 l Z a0 hw q2 h0 O0) 2 (by decide) (by decide) et1 (hsz rfl) [(.long q2)] [(.long (XT.ushrL q1 32))] pd_0 rfl rfl rfl (Nat.le_of_eq rfl) (hb hby d_prog_50_method_4_13) (by decide) (by decide) (fun Tt4 vt4 Lt4 Xt4 qt4 => ?_)
    obtain ⟨rfl, N5, et4⟩ := qt4
    have N6 := Fr.app N3 N5
    show Goes p e below _ (Tt4.setTop (mkF m 16 #[.val (.long q1), .second, .val (.long q2), .second] [(.long (XT.ushrL q2 32)), (.long (XT.ushrL q1 32))]))
    refine gLcmp Xt4 hx (hb hby d_prog_50_method_4_16) ?_
    by_cases g2 : (XT.ushrL q2 32) < (XT.ushrL q1 32)
    · refine gIfN Xt4 hx (hb hby d_prog_50_method_4_17) (XT.ll_le_f g2) ?_
      show Goes p e below _ (Tt4.setTop (mkF m 20 #[.val (.long q1), .second, .val (.long q2), .second] []))
      refine gLloadN Xt4 hx (hb hby d_prog_50_method_4_20) rfl ?_
      refine gLdc2J Xt4 hx hZ hown (hw _ (List.mem_of_getElem? (i := 8) rfl)) (hb hby d_prog_50_method_4_21) ?_
      refine gLand Xt4 hx (hb hby d_prog_50_method_4_24) ?_
      refine gLconst Xt4 hx (hb hby d_prog_50_method_4_25) (v := (1 : Int64)) rfl ?_
      refine gLcmp Xt4 hx (hb hby d_prog_50_method_4_26) ?_
      by_cases g3 : (q1 &&& (4294967295 : Int64)) = (1 : Int64)
      · refine gIfN Xt4 hx (hb hby d_prog_50_method_4_27) (XT.ll_ne_f g3) ?_
        show Goes p e below _ (Tt4.setTop (mkF m 30 #[.val (.long q1), .second, .val (.long q2), .second] []))
        refine gIconst Xt4 hx (hb hby d_prog_50_method_4_30) (v := (1 : Int32)) rfl ?_
        refine gGoto Xt4 hx (hb hby d_prog_50_method_4_31) (pc' := 35) (by decide) (by decide) ?_
        show Goes p e below _ (Tt4.setTop (mkF m 35 #[.val (.long q1), .second, .val (.long q2), .second] [(.int (1 : Int32))]))
        exact goRetN Xt4 hx (t := .boolean) hret hlocks (by simp) (hb hby d_prog_50_method_4_35) (z' := (1 : Int32)) rfl (by decide) (by decide) et4 (⟨by simp [own_fol, g1, g2, g3], N6, rfl⟩)
      · refine gIfY Xt4 hx (hb hby d_prog_50_method_4_27) (pc' := 34) (XT.ll_ne_t g3) (by decide) (by decide) ?_
        show Goes p e below _ (Tt4.setTop (mkF m 34 #[.val (.long q1), .second, .val (.long q2), .second] []))
        refine gIconst Xt4 hx (hb hby d_prog_50_method_4_34) (v := (0 : Int32)) rfl ?_
        exact goRetN Xt4 hx (t := .boolean) hret hlocks (by simp) (hb hby d_prog_50_method_4_35) (z' := (0 : Int32)) rfl (by decide) (by decide) et4 (⟨by simp [own_fol, g1, g2, g3], N6, rfl⟩)
    · refine gIfY Xt4 hx (hb hby d_prog_50_method_4_17) (pc' := 34) (XT.ll_le_t g2) (by decide) (by decide) ?_
      show Goes p e below _ (Tt4.setTop (mkF m 34 #[.val (.long q1), .second, .val (.long q2), .second] []))
      refine gIconst Xt4 hx (hb hby d_prog_50_method_4_34) (v := (0 : Int32)) rfl ?_
      exact goRetN Xt4 hx (t := .boolean) hret hlocks (by simp) (hb hby d_prog_50_method_4_35) (z' := (0 : Int32)) rfl (by decide) (by decide) et4 (⟨by simp [own_fol, g1, g2], N6, rfl⟩)
theorem pd_1 : parseMethodDescriptor "(JJ)Z" = some ⟨[.long, .long], some .boolean⟩ := by decide +kernel
theorem pn_1 : plainName "com/example/fundur/fundur/server/ZxidsFollowsPinLaw" = true := by first | (simp [plainName, overriddenIn]; done) | decide +kernel
theorem ef_rm0 (m : MethodId) (x0 : Int32) (x1 : Int32) (x2 : Int32) (x3 : Int32) (x4 : Int32) : entryFrame m #[(.int x0), (.int x1), (.int x2), (.int x3), (.int x4)] maxLocals = mkF m 0 #[.val (.int x0), .val (.int x1), .val (.int x2), .val (.int x3), .val (.int x4), .unset, .unset, .unset, .unset, .unset, .unset, .unset, .unset, .unset, .unset, .unset, .unset, .unset, .unset, .unset, .unset, .unset, .unset, .unset] [] := by first | (simp [entryFrame, mkF, argsToLocals, Value.category, maxLocals]; done) | rfl
set_option maxRecDepth 65536 in
set_option maxHeartbeats 40000000 in
theorem rm0 (l : Launch) (Z : State) (a0 : Array Value) (hw : ∀ d ∈ tables_1, d.before a0 Z = true)  (p0 : Int32) (p1 : Int32) (p2 : Int32) (p3 : Int32) (p4 : Int32) (h0 : Heap) (O0 : Ext Z.heap h0)  :
    Ctr l Z x code maxLocals ret tables_1 room_1 #[(.int p0), (.int p1), (.int p2), (.int p3), (.int p4)] h0 (fun v h L => v = some (.int 1) ∧ Fr Z.heap.size L) := by
  refine ctr (plainFor_of_name pn_1) ?_
  intro p e s m below meth c s₁ hx hby hml hown hnm hret hlocks hZ X0 e0
  have N0 := Fr.nil Z.heap.size
  have hsz : ∀ {Ls : Array Slot}, Ls.size = 24 → Ls.size = c.maxLocals := fun q => q.trans hml.symm
  refine goE (ef_rm0 m (p0) (p1) (p2) (p3) (p4)) ?_
  show Goes p e below _ (s₁.setTop (mkF m 0 #[.val (.int p0), .val (.int p1), .val (.int p2), .val (.int p3), .val (.int p4), .unset, .unset, .unset, .unset, .unset, .unset, .unset, .unset, .unset, .unset, .unset, .unset, .unset, .unset, .unset, .unset, .unset, .unset, .unset] []))
  refine gLdc2J X0 hx hZ hown (hw _ (List.mem_of_getElem? (i := 0) rfl)) (hb hby at_0) ?_
  refine gLstore X0 hx (hb hby at_3) (l' := #[.val (.int p0), .val (.int p1), .val (.int p2), .val (.int p3), .val (.int p4), .val (.long (4294967295 : Int64)), .second, .unset, .unset, .unset, .unset, .unset, .unset, .unset, .unset, .unset, .unset, .unset, .unset, .unset, .unset, .unset, .unset, .unset]) rfl ?_
  refine gIloadN X0 hx (hb hby at_5) rfl ?_
  refine gI2l X0 hx (hb hby at_6) ?_
  refine gLload X0 hx (hb hby at_7) rfl ?_
  refine gLand X0 hx (hb hby at_9) ?_
  refine gLstore X0 hx (hb hby at_10) (l' := #[.val (.int p0), .val (.int p1), .val (.int p2), .val (.int p3), .val (.int p4), .val (.long (4294967295 : Int64)), .second, .val (.long ((p0.toInt64) &&& (4294967295 : Int64))), .second, .unset, .unset, .unset, .unset, .unset, .unset, .unset, .unset, .unset, .unset, .unset, .unset, .unset, .unset, .unset]) rfl ?_
  show Goes p e below _ (s₁.setTop (mkF m 12 #[.val (.int p0), .val (.int p1), .val (.int p2), .val (.int p3), .val (.int p4), .val (.long (4294967295 : Int64)), .second, .val (.long ((p0.toInt64) &&& (4294967295 : Int64))), .second, .unset, .unset, .unset, .unset, .unset, .unset, .unset, .unset, .unset, .unset, .unset, .unset, .unset, .unset, .unset] []))
  refine gIloadN X0 hx (hb hby at_12) rfl ?_
  refine gI2l X0 hx (hb hby at_13) ?_
  refine gLload X0 hx (hb hby at_14) rfl ?_
  refine gLand X0 hx (hb hby at_16) ?_
  refine gLstore X0 hx (hb hby at_17) (l' := #[.val (.int p0), .val (.int p1), .val (.int p2), .val (.int p3), .val (.int p4), .val (.long (4294967295 : Int64)), .second, .val (.long ((p0.toInt64) &&& (4294967295 : Int64))), .second, .val (.long ((p1.toInt64) &&& (4294967295 : Int64))), .second, .unset, .unset, .unset, .unset, .unset, .unset, .unset, .unset, .unset, .unset, .unset, .unset, .unset]) rfl ?_
  refine gIload X0 hx (hb hby at_19) rfl ?_
  refine gIconst X0 hx (hb hby at_21) (v := (3 : Int32)) rfl ?_
  show Goes p e below _ (s₁.setTop (mkF m 22 #[.val (.int p0), .val (.int p1), .val (.int p2), .val (.int p3), .val (.int p4), .val (.long (4294967295 : Int64)), .second, .val (.long ((p0.toInt64) &&& (4294967295 : Int64))), .second, .val (.long ((p1.toInt64) &&& (4294967295 : Int64))), .second, .unset, .unset, .unset, .unset, .unset, .unset, .unset, .unset, .unset, .unset, .unset, .unset, .unset] [(.int (3 : Int32)), (.int p4)]))
  refine gIand X0 hx (hb hby at_22) ?_
  refine gIstore X0 hx (hb hby at_23) (l' := #[.val (.int p0), .val (.int p1), .val (.int p2), .val (.int p3), .val (.int p4), .val (.long (4294967295 : Int64)), .second, .val (.long ((p0.toInt64) &&& (4294967295 : Int64))), .second, .val (.long ((p1.toInt64) &&& (4294967295 : Int64))), .second, .val (.int (p4 &&& (3 : Int32))), .unset, .unset, .unset, .unset, .unset, .unset, .unset, .unset, .unset, .unset, .unset, .unset]) rfl ?_
  refine gIload X0 hx (hb hby at_25) rfl ?_
  refine gIconst X0 hx (hb hby at_27) (v := (2 : Int32)) rfl ?_
  refine gIushr X0 hx (hb hby at_28) ?_
  refine gIconst X0 hx (hb hby at_29) (v := (3 : Int32)) rfl ?_
  refine gIand X0 hx (hb hby at_30) ?_
  show Goes p e below _ (s₁.setTop (mkF m 31 #[.val (.int p0), .val (.int p1), .val (.int p2), .val (.int p3), .val (.int p4), .val (.long (4294967295 : Int64)), .second, .val (.long ((p0.toInt64) &&& (4294967295 : Int64))), .second, .val (.long ((p1.toInt64) &&& (4294967295 : Int64))), .second, .val (.int (p4 &&& (3 : Int32))), .unset, .unset, .unset, .unset, .unset, .unset, .unset, .unset, .unset, .unset, .unset, .unset] [(.int ((XT.ushr p4 (2 : Int32)) &&& (3 : Int32)))]))
  refine gIstore X0 hx (hb hby at_31) (l' := #[.val (.int p0), .val (.int p1), .val (.int p2), .val (.int p3), .val (.int p4), .val (.long (4294967295 : Int64)), .second, .val (.long ((p0.toInt64) &&& (4294967295 : Int64))), .second, .val (.long ((p1.toInt64) &&& (4294967295 : Int64))), .second, .val (.int (p4 &&& (3 : Int32))), .val (.int ((XT.ushr p4 (2 : Int32)) &&& (3 : Int32))), .unset, .unset, .unset, .unset, .unset, .unset, .unset, .unset, .unset, .unset, .unset]) rfl ?_
  refine gIload X0 hx (hb hby at_33) rfl ?_
  have B1 := own_mb p0.toInt64
  have B2 := own_mb p1.toInt64
  have J1 : ∀ (y2 : Int64), 0 ≤ y2.toInt → y2.toInt < 4294967296 → Goes p e below (EndN s (fun v h L => v = some (.int 1) ∧ Fr Z.heap.size L) room_1.cells room_1.slots) (s₁.setTop (mkF m 88 #[.val (.int p0), .val (.int p1), .val (.int p2), .val (.int p3), .val (.int p4), .val (.long (4294967295 : Int64)), .second, .val (.long ((p0.toInt64) &&& (4294967295 : Int64))), .second, .val (.long ((p1.toInt64) &&& (4294967295 : Int64))), .second, .val (.int (p4 &&& (3 : Int32))), .val (.int ((XT.ushr p4 (2 : Int32)) &&& (3 : Int32))), .val (.long y2), .second, .unset, .unset, .unset, .unset, .unset, .unset, .unset, .unset, .unset] [])) := by
    intro y2 d0 d1
    have J2 : ∀ (k2 : Int64), 0 ≤ k2.toInt → k2.toInt < 4294967296 → Goes p e below (EndN s (fun v h L => v = some (.int 1) ∧ Fr Z.heap.size L) room_1.cells room_1.slots) (s₁.setTop (mkF m 137 #[.val (.int p0), .val (.int p1), .val (.int p2), .val (.int p3), .val (.int p4), .val (.long (4294967295 : Int64)), .second, .val (.long ((p0.toInt64) &&& (4294967295 : Int64))), .second, .val (.long ((p1.toInt64) &&& (4294967295 : Int64))), .second, .val (.int (p4 &&& (3 : Int32))), .val (.int ((XT.ushr p4 (2 : Int32)) &&& (3 : Int32))), .val (.long y2), .second, .val (.long k2), .second, .unset, .unset, .unset, .unset, .unset, .unset, .unset] [])) := by
      intro k2 f0 f1
      refine gLload X0 hx (hb hby at_137) rfl ?_
      refine gLconst X0 hx (hb hby at_139) (v := (0 : Int64)) rfl ?_
      refine gLcmp X0 hx (hb hby at_140) ?_
      by_cases hz : k2 = (0 : Int64)
      · refine gIfN X0 hx (hb hby at_141) (XT.ll_ne_f hz) ?_
        show Goes p e below _ (s₁.setTop (mkF m 144 #[.val (.int p0), .val (.int p1), .val (.int p2), .val (.int p3), .val (.int p4), .val (.long (4294967295 : Int64)), .second, .val (.long ((p0.toInt64) &&& (4294967295 : Int64))), .second, .val (.long ((p1.toInt64) &&& (4294967295 : Int64))), .second, .val (.int (p4 &&& (3 : Int32))), .val (.int ((XT.ushr p4 (2 : Int32)) &&& (3 : Int32))), .val (.long y2), .second, .val (.long k2), .second, .unset, .unset, .unset, .unset, .unset, .unset, .unset] []))
        refine gIconst X0 hx (hb hby at_144) (v := (1 : Int32)) rfl ?_
        exact goRetN X0 hx (t := .boolean) hret hlocks (by simp) (hb hby at_145) (z' := (1 : Int32)) rfl (by decide) (by decide) e0 (⟨rfl, N0⟩)
      · refine gIfY X0 hx (hb hby at_141) (pc' := 146) (XT.ll_ne_t hz) (by decide) (by decide) ?_
        show Goes p e below _ (s₁.setTop (mkF m 146 #[.val (.int p0), .val (.int p1), .val (.int p2), .val (.int p3), .val (.int p4), .val (.long (4294967295 : Int64)), .second, .val (.long ((p0.toInt64) &&& (4294967295 : Int64))), .second, .val (.long ((p1.toInt64) &&& (4294967295 : Int64))), .second, .val (.int (p4 &&& (3 : Int32))), .val (.int ((XT.ushr p4 (2 : Int32)) &&& (3 : Int32))), .val (.long y2), .second, .val (.long k2), .second, .unset, .unset, .unset, .unset, .unset, .unset, .unset] []))
        refine gLload X0 hx (hb hby at_146) rfl ?_
        refine gBipush X0 hx (hb hby at_148) (v := (32 : Int32)) rfl ?_
        refine gLshl X0 hx (hb hby at_150) ?_
        refine gLload X0 hx (hb hby at_151) rfl ?_
        refine gLor X0 hx (hb hby at_153) ?_
        refine gLstore X0 hx (hb hby at_154) (l' := #[.val (.int p0), .val (.int p1), .val (.int p2), .val (.int p3), .val (.int p4), .val (.long (4294967295 : Int64)), .second, .val (.long ((p0.toInt64) &&& (4294967295 : Int64))), .second, .val (.long ((p1.toInt64) &&& (4294967295 : Int64))), .second, .val (.int (p4 &&& (3 : Int32))), .val (.int ((XT.ushr p4 (2 : Int32)) &&& (3 : Int32))), .val (.long y2), .second, .val (.long k2), .second, .val (.long ((((p0.toInt64) &&& (4294967295 : Int64)) <<< ((32 : Int32).toInt64 &&& 63)) ||| ((p1.toInt64) &&& (4294967295 : Int64)))), .second, .unset, .unset, .unset, .unset, .unset]) rfl ?_
        refine gLload X0 hx (hb hby at_156) rfl ?_
        show Goes p e below _ (s₁.setTop (mkF m 158 #[.val (.int p0), .val (.int p1), .val (.int p2), .val (.int p3), .val (.int p4), .val (.long (4294967295 : Int64)), .second, .val (.long ((p0.toInt64) &&& (4294967295 : Int64))), .second, .val (.long ((p1.toInt64) &&& (4294967295 : Int64))), .second, .val (.int (p4 &&& (3 : Int32))), .val (.int ((XT.ushr p4 (2 : Int32)) &&& (3 : Int32))), .val (.long y2), .second, .val (.long k2), .second, .val (.long ((((p0.toInt64) &&& (4294967295 : Int64)) <<< ((32 : Int32).toInt64 &&& 63)) ||| ((p1.toInt64) &&& (4294967295 : Int64)))), .second, .unset, .unset, .unset, .unset, .unset] [(.long y2)]))
        refine gBipush X0 hx (hb hby at_158) (v := (32 : Int32)) rfl ?_
        refine gLshl X0 hx (hb hby at_160) ?_
        refine gLload X0 hx (hb hby at_161) rfl ?_
        refine gLor X0 hx (hb hby at_163) ?_
        refine gLstore X0 hx (hb hby at_164) (l' := #[.val (.int p0), .val (.int p1), .val (.int p2), .val (.int p3), .val (.int p4), .val (.long (4294967295 : Int64)), .second, .val (.long ((p0.toInt64) &&& (4294967295 : Int64))), .second, .val (.long ((p1.toInt64) &&& (4294967295 : Int64))), .second, .val (.int (p4 &&& (3 : Int32))), .val (.int ((XT.ushr p4 (2 : Int32)) &&& (3 : Int32))), .val (.long y2), .second, .val (.long k2), .second, .val (.long ((((p0.toInt64) &&& (4294967295 : Int64)) <<< ((32 : Int32).toInt64 &&& 63)) ||| ((p1.toInt64) &&& (4294967295 : Int64)))), .second, .val (.long ((y2 <<< ((32 : Int32).toInt64 &&& 63)) ||| k2)), .second, .unset, .unset, .unset]) rfl ?_
        refine gLload X0 hx (hb hby at_166) rfl ?_
        refine gLload X0 hx (hb hby at_168) rfl ?_
        show Goes p e below _ (s₁.setTop (mkF m 170 #[.val (.int p0), .val (.int p1), .val (.int p2), .val (.int p3), .val (.int p4), .val (.long (4294967295 : Int64)), .second, .val (.long ((p0.toInt64) &&& (4294967295 : Int64))), .second, .val (.long ((p1.toInt64) &&& (4294967295 : Int64))), .second, .val (.int (p4 &&& (3 : Int32))), .val (.int ((XT.ushr p4 (2 : Int32)) &&& (3 : Int32))), .val (.long y2), .second, .val (.long k2), .second, .val (.long ((((p0.toInt64) &&& (4294967295 : Int64)) <<< ((32 : Int32).toInt64 &&& 63)) ||| ((p1.toInt64) &&& (4294967295 : Int64)))), .second, .val (.long ((y2 <<< ((32 : Int32).toInt64 &&& 63)) ||| k2)), .second, .unset, .unset, .unset] [(.long ((p0.toInt64) &&& (4294967295 : Int64))), (.long y2)]))
        refine gLcmp X0 hx (hb hby at_170) ?_
        have key := own_key ((p0.toInt64) &&& (4294967295 : Int64)) ((p1.toInt64) &&& (4294967295 : Int64)) y2 k2 B1.1 B1.2 B2.1 B2.2 d0 d1 f0 f1 hz
        by_cases s1 : y2 = ((p0.toInt64) &&& (4294967295 : Int64))
        · refine gIfN X0 hx (hb hby at_171) (XT.ll_ne_f s1) ?_
          show Goes p e below _ (s₁.setTop (mkF m 174 #[.val (.int p0), .val (.int p1), .val (.int p2), .val (.int p3), .val (.int p4), .val (.long (4294967295 : Int64)), .second, .val (.long ((p0.toInt64) &&& (4294967295 : Int64))), .second, .val (.long ((p1.toInt64) &&& (4294967295 : Int64))), .second, .val (.int (p4 &&& (3 : Int32))), .val (.int ((XT.ushr p4 (2 : Int32)) &&& (3 : Int32))), .val (.long y2), .second, .val (.long k2), .second, .val (.long ((((p0.toInt64) &&& (4294967295 : Int64)) <<< ((32 : Int32).toInt64 &&& 63)) ||| ((p1.toInt64) &&& (4294967295 : Int64)))), .second, .val (.long ((y2 <<< ((32 : Int32).toInt64 &&& 63)) ||| k2)), .second, .unset, .unset, .unset] []))
          refine gLload X0 hx (hb hby at_174) rfl ?_
          refine gLload X0 hx (hb hby at_176) rfl ?_
          refine gLconst X0 hx (hb hby at_178) (v := (1 : Int64)) rfl ?_
          refine gLadd X0 hx (hb hby at_179) ?_
          refine gLcmp X0 hx (hb hby at_180) ?_
          by_cases s2 : k2 = (((p1.toInt64) &&& (4294967295 : Int64)) + (1 : Int64))
          · refine gIfN X0 hx (hb hby at_181) (XT.ll_ne_f s2) ?_
            show Goes p e below _ (s₁.setTop (mkF m 184 #[.val (.int p0), .val (.int p1), .val (.int p2), .val (.int p3), .val (.int p4), .val (.long (4294967295 : Int64)), .second, .val (.long ((p0.toInt64) &&& (4294967295 : Int64))), .second, .val (.long ((p1.toInt64) &&& (4294967295 : Int64))), .second, .val (.int (p4 &&& (3 : Int32))), .val (.int ((XT.ushr p4 (2 : Int32)) &&& (3 : Int32))), .val (.long y2), .second, .val (.long k2), .second, .val (.long ((((p0.toInt64) &&& (4294967295 : Int64)) <<< ((32 : Int32).toInt64 &&& 63)) ||| ((p1.toInt64) &&& (4294967295 : Int64)))), .second, .val (.long ((y2 <<< ((32 : Int32).toInt64 &&& 63)) ||| k2)), .second, .unset, .unset, .unset] []))
            refine gIconst X0 hx (hb hby at_184) (v := (1 : Int32)) rfl ?_
            refine gGoto X0 hx (hb hby at_185) (pc' := 189) (by decide) (by decide) ?_
            show Goes p e below _ (s₁.setTop (mkF m 189 #[.val (.int p0), .val (.int p1), .val (.int p2), .val (.int p3), .val (.int p4), .val (.long (4294967295 : Int64)), .second, .val (.long ((p0.toInt64) &&& (4294967295 : Int64))), .second, .val (.long ((p1.toInt64) &&& (4294967295 : Int64))), .second, .val (.int (p4 &&& (3 : Int32))), .val (.int ((XT.ushr p4 (2 : Int32)) &&& (3 : Int32))), .val (.long y2), .second, .val (.long k2), .second, .val (.long ((((p0.toInt64) &&& (4294967295 : Int64)) <<< ((32 : Int32).toInt64 &&& 63)) ||| ((p1.toInt64) &&& (4294967295 : Int64)))), .second, .val (.long ((y2 <<< ((32 : Int32).toInt64 &&& 63)) ||| k2)), .second, .unset, .unset, .unset] [(.int (1 : Int32))]))
            refine gIstore X0 hx (hb hby at_189) (l' := #[.val (.int p0), .val (.int p1), .val (.int p2), .val (.int p3), .val (.int p4), .val (.long (4294967295 : Int64)), .second, .val (.long ((p0.toInt64) &&& (4294967295 : Int64))), .second, .val (.long ((p1.toInt64) &&& (4294967295 : Int64))), .second, .val (.int (p4 &&& (3 : Int32))), .val (.int ((XT.ushr p4 (2 : Int32)) &&& (3 : Int32))), .val (.long y2), .second, .val (.long k2), .second, .val (.long ((((p0.toInt64) &&& (4294967295 : Int64)) <<< ((32 : Int32).toInt64 &&& 63)) ||| ((p1.toInt64) &&& (4294967295 : Int64)))), .second, .val (.long ((y2 <<< ((32 : Int32).toInt64 &&& 63)) ||| k2)), .second, .val (.int (1 : Int32)), .unset, .unset]) rfl ?_
            refine gLload X0 hx (hb hby at_191) rfl ?_
            refine gLload X0 hx (hb hby at_193) rfl ?_
            refine gLcmp X0 hx (hb hby at_195) ?_
            by_cases s3 : ((p0.toInt64) &&& (4294967295 : Int64)) < y2
            · refine gIfN X0 hx (hb hby at_196) (XT.ll_le_f s3) ?_
              show Goes p e below _ (s₁.setTop (mkF m 199 #[.val (.int p0), .val (.int p1), .val (.int p2), .val (.int p3), .val (.int p4), .val (.long (4294967295 : Int64)), .second, .val (.long ((p0.toInt64) &&& (4294967295 : Int64))), .second, .val (.long ((p1.toInt64) &&& (4294967295 : Int64))), .second, .val (.int (p4 &&& (3 : Int32))), .val (.int ((XT.ushr p4 (2 : Int32)) &&& (3 : Int32))), .val (.long y2), .second, .val (.long k2), .second, .val (.long ((((p0.toInt64) &&& (4294967295 : Int64)) <<< ((32 : Int32).toInt64 &&& 63)) ||| ((p1.toInt64) &&& (4294967295 : Int64)))), .second, .val (.long ((y2 <<< ((32 : Int32).toInt64 &&& 63)) ||| k2)), .second, .val (.int (1 : Int32)), .unset, .unset] []))
              refine gLload X0 hx (hb hby at_199) rfl ?_
              refine gLconst X0 hx (hb hby at_201) (v := (1 : Int64)) rfl ?_
              refine gLcmp X0 hx (hb hby at_202) ?_
              by_cases s4 : k2 = (1 : Int64)
              · refine gIfN X0 hx (hb hby at_203) (XT.ll_ne_f s4) ?_
                show Goes p e below _ (s₁.setTop (mkF m 206 #[.val (.int p0), .val (.int p1), .val (.int p2), .val (.int p3), .val (.int p4), .val (.long (4294967295 : Int64)), .second, .val (.long ((p0.toInt64) &&& (4294967295 : Int64))), .second, .val (.long ((p1.toInt64) &&& (4294967295 : Int64))), .second, .val (.int (p4 &&& (3 : Int32))), .val (.int ((XT.ushr p4 (2 : Int32)) &&& (3 : Int32))), .val (.long y2), .second, .val (.long k2), .second, .val (.long ((((p0.toInt64) &&& (4294967295 : Int64)) <<< ((32 : Int32).toInt64 &&& 63)) ||| ((p1.toInt64) &&& (4294967295 : Int64)))), .second, .val (.long ((y2 <<< ((32 : Int32).toInt64 &&& 63)) ||| k2)), .second, .val (.int (1 : Int32)), .unset, .unset] []))
                refine gIconst X0 hx (hb hby at_206) (v := (1 : Int32)) rfl ?_
                refine gGoto X0 hx (hb hby at_207) (pc' := 211) (by decide) (by decide) ?_
                show Goes p e below _ (s₁.setTop (mkF m 211 #[.val (.int p0), .val (.int p1), .val (.int p2), .val (.int p3), .val (.int p4), .val (.long (4294967295 : Int64)), .second, .val (.long ((p0.toInt64) &&& (4294967295 : Int64))), .second, .val (.long ((p1.toInt64) &&& (4294967295 : Int64))), .second, .val (.int (p4 &&& (3 : Int32))), .val (.int ((XT.ushr p4 (2 : Int32)) &&& (3 : Int32))), .val (.long y2), .second, .val (.long k2), .second, .val (.long ((((p0.toInt64) &&& (4294967295 : Int64)) <<< ((32 : Int32).toInt64 &&& 63)) ||| ((p1.toInt64) &&& (4294967295 : Int64)))), .second, .val (.long ((y2 <<< ((32 : Int32).toInt64 &&& 63)) ||| k2)), .second, .val (.int (1 : Int32)), .unset, .unset] [(.int (1 : Int32))]))
                refine gIstore X0 hx (hb hby at_211) (l' := #[.val (.int p0), .val (.int p1), .val (.int p2), .val (.int p3), .val (.int p4), .val (.long (4294967295 : Int64)), .second, .val (.long ((p0.toInt64) &&& (4294967295 : Int64))), .second, .val (.long ((p1.toInt64) &&& (4294967295 : Int64))), .second, .val (.int (p4 &&& (3 : Int32))), .val (.int ((XT.ushr p4 (2 : Int32)) &&& (3 : Int32))), .val (.long y2), .second, .val (.long k2), .second, .val (.long ((((p0.toInt64) &&& (4294967295 : Int64)) <<< ((32 : Int32).toInt64 &&& 63)) ||| ((p1.toInt64) &&& (4294967295 : Int64)))), .second, .val (.long ((y2 <<< ((32 : Int32).toInt64 &&& 63)) ||| k2)), .second, .val (.int (1 : Int32)), .val (.int (1 : Int32)), .unset]) rfl ?_
                refine gIload X0 hx (hb hby at_213) rfl ?_
                refine gIfY X0 hx (hb hby at_215) (pc' := 223) (XT.i0_ne_t (by decide)) (by decide) (by decide) ?_
                show Goes p e below _ (s₁.setTop (mkF m 223 #[.val (.int p0), .val (.int p1), .val (.int p2), .val (.int p3), .val (.int p4), .val (.long (4294967295 : Int64)), .second, .val (.long ((p0.toInt64) &&& (4294967295 : Int64))), .second, .val (.long ((p1.toInt64) &&& (4294967295 : Int64))), .second, .val (.int (p4 &&& (3 : Int32))), .val (.int ((XT.ushr p4 (2 : Int32)) &&& (3 : Int32))), .val (.long y2), .second, .val (.long k2), .second, .val (.long ((((p0.toInt64) &&& (4294967295 : Int64)) <<< ((32 : Int32).toInt64 &&& 63)) ||| ((p1.toInt64) &&& (4294967295 : Int64)))), .second, .val (.long ((y2 <<< ((32 : Int32).toInt64 &&& 63)) ||| k2)), .second, .val (.int (1 : Int32)), .val (.int (1 : Int32)), .unset] []))
                refine gIconst X0 hx (hb hby at_223) (v := (1 : Int32)) rfl ?_
                refine gGoto X0 hx (hb hby at_224) (pc' := 228) (by decide) (by decide) ?_
                show Goes p e below _ (s₁.setTop (mkF m 228 #[.val (.int p0), .val (.int p1), .val (.int p2), .val (.int p3), .val (.int p4), .val (.long (4294967295 : Int64)), .second, .val (.long ((p0.toInt64) &&& (4294967295 : Int64))), .second, .val (.long ((p1.toInt64) &&& (4294967295 : Int64))), .second, .val (.int (p4 &&& (3 : Int32))), .val (.int ((XT.ushr p4 (2 : Int32)) &&& (3 : Int32))), .val (.long y2), .second, .val (.long k2), .second, .val (.long ((((p0.toInt64) &&& (4294967295 : Int64)) <<< ((32 : Int32).toInt64 &&& 63)) ||| ((p1.toInt64) &&& (4294967295 : Int64)))), .second, .val (.long ((y2 <<< ((32 : Int32).toInt64 &&& 63)) ||| k2)), .second, .val (.int (1 : Int32)), .val (.int (1 : Int32)), .unset] [(.int (1 : Int32))]))
                refine gIstore X0 hx (hb hby at_228) (l' := #[.val (.int p0), .val (.int p1), .val (.int p2), .val (.int p3), .val (.int p4), .val (.long (4294967295 : Int64)), .second, .val (.long ((p0.toInt64) &&& (4294967295 : Int64))), .second, .val (.long ((p1.toInt64) &&& (4294967295 : Int64))), .second, .val (.int (p4 &&& (3 : Int32))), .val (.int ((XT.ushr p4 (2 : Int32)) &&& (3 : Int32))), .val (.long y2), .second, .val (.long k2), .second, .val (.long ((((p0.toInt64) &&& (4294967295 : Int64)) <<< ((32 : Int32).toInt64 &&& 63)) ||| ((p1.toInt64) &&& (4294967295 : Int64)))), .second, .val (.long ((y2 <<< ((32 : Int32).toInt64 &&& 63)) ||| k2)), .second, .val (.int (1 : Int32)), .val (.int (1 : Int32)), .val (.int (1 : Int32))]) rfl ?_
                refine gLload X0 hx (hb hby at_230) rfl ?_
                refine gLload X0 hx (hb hby at_232) rfl ?_
                refine goCallS X0 hx hZ hown (hw _ (List.mem_of_getElem? (i := 1) rfl)) (hw _ (List.mem_of_getElem? (i := 2) rfl)) (hw _ (List.mem_of_getElem? (i := 3) rfl)) (hw _ (List.mem_of_getElem? (i := 4) rfl)) (by decide) (rm1 l Z a0 hw ((y2 <<< ((32 : Int32).toInt64 &&& 63)) ||| k2) ((((p0.toInt64) &&& (4294967295 : Int64)) <<< ((32 : Int32).toInt64 &&& 63)) ||| ((p1.toInt64) &&& (4294967295 : Int64))) h0 O0) 0 (by decide) (by decide) e0 (hsz rfl) [(.long ((y2 <<< ((32 : Int32).toInt64 &&& 63)) ||| k2)), (.long ((((p0.toInt64) &&& (4294967295 : Int64)) <<< ((32 : Int32).toInt64 &&& 63)) ||| ((p1.toInt64) &&& (4294967295 : Int64))))] [] pd_1 rfl rfl rfl (Nat.le_of_eq rfl) (hb hby at_234) (by decide) (by decide) (fun Tt1 vt1 Lt1 Xt1 qt1 => ?_)
                obtain ⟨rfl, N2, et1⟩ := qt1
                have N3 := Fr.app N0 N2
                show Goes p e below _ (Tt1.setTop (mkF m 237 #[.val (.int p0), .val (.int p1), .val (.int p2), .val (.int p3), .val (.int p4), .val (.long (4294967295 : Int64)), .second, .val (.long ((p0.toInt64) &&& (4294967295 : Int64))), .second, .val (.long ((p1.toInt64) &&& (4294967295 : Int64))), .second, .val (.int (p4 &&& (3 : Int32))), .val (.int ((XT.ushr p4 (2 : Int32)) &&& (3 : Int32))), .val (.long y2), .second, .val (.long k2), .second, .val (.long ((((p0.toInt64) &&& (4294967295 : Int64)) <<< ((32 : Int32).toInt64 &&& 63)) ||| ((p1.toInt64) &&& (4294967295 : Int64)))), .second, .val (.long ((y2 <<< ((32 : Int32).toInt64 &&& 63)) ||| k2)), .second, .val (.int (1 : Int32)), .val (.int (1 : Int32)), .val (.int (1 : Int32))] [(.int (own_fol ((y2 <<< ((32 : Int32).toInt64 &&& 63)) ||| k2) ((((p0.toInt64) &&& (4294967295 : Int64)) <<< ((32 : Int32).toInt64 &&& 63)) ||| ((p1.toInt64) &&& (4294967295 : Int64)))))]))
                refine gIload Xt1 hx (hb hby at_237) rfl ?_
                refine gIcmpN Xt1 hx (hb hby at_239) (XT.ii_ne_f (key.trans (if_pos (Or.inl ⟨s1, s2⟩)))) ?_
                show Goes p e below _ (Tt1.setTop (mkF m 242 #[.val (.int p0), .val (.int p1), .val (.int p2), .val (.int p3), .val (.int p4), .val (.long (4294967295 : Int64)), .second, .val (.long ((p0.toInt64) &&& (4294967295 : Int64))), .second, .val (.long ((p1.toInt64) &&& (4294967295 : Int64))), .second, .val (.int (p4 &&& (3 : Int32))), .val (.int ((XT.ushr p4 (2 : Int32)) &&& (3 : Int32))), .val (.long y2), .second, .val (.long k2), .second, .val (.long ((((p0.toInt64) &&& (4294967295 : Int64)) <<< ((32 : Int32).toInt64 &&& 63)) ||| ((p1.toInt64) &&& (4294967295 : Int64)))), .second, .val (.long ((y2 <<< ((32 : Int32).toInt64 &&& 63)) ||| k2)), .second, .val (.int (1 : Int32)), .val (.int (1 : Int32)), .val (.int (1 : Int32))] []))
                refine gIconst Xt1 hx (hb hby at_242) (v := (1 : Int32)) rfl ?_
                refine gGoto Xt1 hx (hb hby at_243) (pc' := 247) (by decide) (by decide) ?_
                show Goes p e below _ (Tt1.setTop (mkF m 247 #[.val (.int p0), .val (.int p1), .val (.int p2), .val (.int p3), .val (.int p4), .val (.long (4294967295 : Int64)), .second, .val (.long ((p0.toInt64) &&& (4294967295 : Int64))), .second, .val (.long ((p1.toInt64) &&& (4294967295 : Int64))), .second, .val (.int (p4 &&& (3 : Int32))), .val (.int ((XT.ushr p4 (2 : Int32)) &&& (3 : Int32))), .val (.long y2), .second, .val (.long k2), .second, .val (.long ((((p0.toInt64) &&& (4294967295 : Int64)) <<< ((32 : Int32).toInt64 &&& 63)) ||| ((p1.toInt64) &&& (4294967295 : Int64)))), .second, .val (.long ((y2 <<< ((32 : Int32).toInt64 &&& 63)) ||| k2)), .second, .val (.int (1 : Int32)), .val (.int (1 : Int32)), .val (.int (1 : Int32))] [(.int (1 : Int32))]))
                exact goRetN Xt1 hx (t := .boolean) hret hlocks (by simp) (hb hby at_247) (z' := (1 : Int32)) rfl (by decide) (by decide) et1 (⟨rfl, N3⟩)
              · refine gIfY X0 hx (hb hby at_203) (pc' := 210) (XT.ll_ne_t s4) (by decide) (by decide) ?_
                show Goes p e below _ (s₁.setTop (mkF m 210 #[.val (.int p0), .val (.int p1), .val (.int p2), .val (.int p3), .val (.int p4), .val (.long (4294967295 : Int64)), .second, .val (.long ((p0.toInt64) &&& (4294967295 : Int64))), .second, .val (.long ((p1.toInt64) &&& (4294967295 : Int64))), .second, .val (.int (p4 &&& (3 : Int32))), .val (.int ((XT.ushr p4 (2 : Int32)) &&& (3 : Int32))), .val (.long y2), .second, .val (.long k2), .second, .val (.long ((((p0.toInt64) &&& (4294967295 : Int64)) <<< ((32 : Int32).toInt64 &&& 63)) ||| ((p1.toInt64) &&& (4294967295 : Int64)))), .second, .val (.long ((y2 <<< ((32 : Int32).toInt64 &&& 63)) ||| k2)), .second, .val (.int (1 : Int32)), .unset, .unset] []))
                refine gIconst X0 hx (hb hby at_210) (v := (0 : Int32)) rfl ?_
                refine gIstore X0 hx (hb hby at_211) (l' := #[.val (.int p0), .val (.int p1), .val (.int p2), .val (.int p3), .val (.int p4), .val (.long (4294967295 : Int64)), .second, .val (.long ((p0.toInt64) &&& (4294967295 : Int64))), .second, .val (.long ((p1.toInt64) &&& (4294967295 : Int64))), .second, .val (.int (p4 &&& (3 : Int32))), .val (.int ((XT.ushr p4 (2 : Int32)) &&& (3 : Int32))), .val (.long y2), .second, .val (.long k2), .second, .val (.long ((((p0.toInt64) &&& (4294967295 : Int64)) <<< ((32 : Int32).toInt64 &&& 63)) ||| ((p1.toInt64) &&& (4294967295 : Int64)))), .second, .val (.long ((y2 <<< ((32 : Int32).toInt64 &&& 63)) ||| k2)), .second, .val (.int (1 : Int32)), .val (.int (0 : Int32)), .unset]) rfl ?_
                refine gIload X0 hx (hb hby at_213) rfl ?_
                refine gIfY X0 hx (hb hby at_215) (pc' := 223) (XT.i0_ne_t (by decide)) (by decide) (by decide) ?_
                show Goes p e below _ (s₁.setTop (mkF m 223 #[.val (.int p0), .val (.int p1), .val (.int p2), .val (.int p3), .val (.int p4), .val (.long (4294967295 : Int64)), .second, .val (.long ((p0.toInt64) &&& (4294967295 : Int64))), .second, .val (.long ((p1.toInt64) &&& (4294967295 : Int64))), .second, .val (.int (p4 &&& (3 : Int32))), .val (.int ((XT.ushr p4 (2 : Int32)) &&& (3 : Int32))), .val (.long y2), .second, .val (.long k2), .second, .val (.long ((((p0.toInt64) &&& (4294967295 : Int64)) <<< ((32 : Int32).toInt64 &&& 63)) ||| ((p1.toInt64) &&& (4294967295 : Int64)))), .second, .val (.long ((y2 <<< ((32 : Int32).toInt64 &&& 63)) ||| k2)), .second, .val (.int (1 : Int32)), .val (.int (0 : Int32)), .unset] []))
                refine gIconst X0 hx (hb hby at_223) (v := (1 : Int32)) rfl ?_
                refine gGoto X0 hx (hb hby at_224) (pc' := 228) (by decide) (by decide) ?_
                show Goes p e below _ (s₁.setTop (mkF m 228 #[.val (.int p0), .val (.int p1), .val (.int p2), .val (.int p3), .val (.int p4), .val (.long (4294967295 : Int64)), .second, .val (.long ((p0.toInt64) &&& (4294967295 : Int64))), .second, .val (.long ((p1.toInt64) &&& (4294967295 : Int64))), .second, .val (.int (p4 &&& (3 : Int32))), .val (.int ((XT.ushr p4 (2 : Int32)) &&& (3 : Int32))), .val (.long y2), .second, .val (.long k2), .second, .val (.long ((((p0.toInt64) &&& (4294967295 : Int64)) <<< ((32 : Int32).toInt64 &&& 63)) ||| ((p1.toInt64) &&& (4294967295 : Int64)))), .second, .val (.long ((y2 <<< ((32 : Int32).toInt64 &&& 63)) ||| k2)), .second, .val (.int (1 : Int32)), .val (.int (0 : Int32)), .unset] [(.int (1 : Int32))]))
                refine gIstore X0 hx (hb hby at_228) (l' := #[.val (.int p0), .val (.int p1), .val (.int p2), .val (.int p3), .val (.int p4), .val (.long (4294967295 : Int64)), .second, .val (.long ((p0.toInt64) &&& (4294967295 : Int64))), .second, .val (.long ((p1.toInt64) &&& (4294967295 : Int64))), .second, .val (.int (p4 &&& (3 : Int32))), .val (.int ((XT.ushr p4 (2 : Int32)) &&& (3 : Int32))), .val (.long y2), .second, .val (.long k2), .second, .val (.long ((((p0.toInt64) &&& (4294967295 : Int64)) <<< ((32 : Int32).toInt64 &&& 63)) ||| ((p1.toInt64) &&& (4294967295 : Int64)))), .second, .val (.long ((y2 <<< ((32 : Int32).toInt64 &&& 63)) ||| k2)), .second, .val (.int (1 : Int32)), .val (.int (0 : Int32)), .val (.int (1 : Int32))]) rfl ?_
                refine gLload X0 hx (hb hby at_230) rfl ?_
                refine gLload X0 hx (hb hby at_232) rfl ?_
                refine goCallS X0 hx hZ hown (hw _ (List.mem_of_getElem? (i := 1) rfl)) (hw _ (List.mem_of_getElem? (i := 2) rfl)) (hw _ (List.mem_of_getElem? (i := 3) rfl)) (hw _ (List.mem_of_getElem? (i := 4) rfl)) (by decide) (rm1 l Z a0 hw ((y2 <<< ((32 : Int32).toInt64 &&& 63)) ||| k2) ((((p0.toInt64) &&& (4294967295 : Int64)) <<< ((32 : Int32).toInt64 &&& 63)) ||| ((p1.toInt64) &&& (4294967295 : Int64))) h0 O0) 0 (by decide) (by decide) e0 (hsz rfl) [(.long ((y2 <<< ((32 : Int32).toInt64 &&& 63)) ||| k2)), (.long ((((p0.toInt64) &&& (4294967295 : Int64)) <<< ((32 : Int32).toInt64 &&& 63)) ||| ((p1.toInt64) &&& (4294967295 : Int64))))] [] pd_1 rfl rfl rfl (Nat.le_of_eq rfl) (hb hby at_234) (by decide) (by decide) (fun Tt4 vt4 Lt4 Xt4 qt4 => ?_)
                obtain ⟨rfl, N5, et4⟩ := qt4
                have N6 := Fr.app N0 N5
                show Goes p e below _ (Tt4.setTop (mkF m 237 #[.val (.int p0), .val (.int p1), .val (.int p2), .val (.int p3), .val (.int p4), .val (.long (4294967295 : Int64)), .second, .val (.long ((p0.toInt64) &&& (4294967295 : Int64))), .second, .val (.long ((p1.toInt64) &&& (4294967295 : Int64))), .second, .val (.int (p4 &&& (3 : Int32))), .val (.int ((XT.ushr p4 (2 : Int32)) &&& (3 : Int32))), .val (.long y2), .second, .val (.long k2), .second, .val (.long ((((p0.toInt64) &&& (4294967295 : Int64)) <<< ((32 : Int32).toInt64 &&& 63)) ||| ((p1.toInt64) &&& (4294967295 : Int64)))), .second, .val (.long ((y2 <<< ((32 : Int32).toInt64 &&& 63)) ||| k2)), .second, .val (.int (1 : Int32)), .val (.int (0 : Int32)), .val (.int (1 : Int32))] [(.int (own_fol ((y2 <<< ((32 : Int32).toInt64 &&& 63)) ||| k2) ((((p0.toInt64) &&& (4294967295 : Int64)) <<< ((32 : Int32).toInt64 &&& 63)) ||| ((p1.toInt64) &&& (4294967295 : Int64)))))]))
                refine gIload Xt4 hx (hb hby at_237) rfl ?_
                refine gIcmpN Xt4 hx (hb hby at_239) (XT.ii_ne_f (key.trans (if_pos (Or.inl ⟨s1, s2⟩)))) ?_
                show Goes p e below _ (Tt4.setTop (mkF m 242 #[.val (.int p0), .val (.int p1), .val (.int p2), .val (.int p3), .val (.int p4), .val (.long (4294967295 : Int64)), .second, .val (.long ((p0.toInt64) &&& (4294967295 : Int64))), .second, .val (.long ((p1.toInt64) &&& (4294967295 : Int64))), .second, .val (.int (p4 &&& (3 : Int32))), .val (.int ((XT.ushr p4 (2 : Int32)) &&& (3 : Int32))), .val (.long y2), .second, .val (.long k2), .second, .val (.long ((((p0.toInt64) &&& (4294967295 : Int64)) <<< ((32 : Int32).toInt64 &&& 63)) ||| ((p1.toInt64) &&& (4294967295 : Int64)))), .second, .val (.long ((y2 <<< ((32 : Int32).toInt64 &&& 63)) ||| k2)), .second, .val (.int (1 : Int32)), .val (.int (0 : Int32)), .val (.int (1 : Int32))] []))
                refine gIconst Xt4 hx (hb hby at_242) (v := (1 : Int32)) rfl ?_
                refine gGoto Xt4 hx (hb hby at_243) (pc' := 247) (by decide) (by decide) ?_
                show Goes p e below _ (Tt4.setTop (mkF m 247 #[.val (.int p0), .val (.int p1), .val (.int p2), .val (.int p3), .val (.int p4), .val (.long (4294967295 : Int64)), .second, .val (.long ((p0.toInt64) &&& (4294967295 : Int64))), .second, .val (.long ((p1.toInt64) &&& (4294967295 : Int64))), .second, .val (.int (p4 &&& (3 : Int32))), .val (.int ((XT.ushr p4 (2 : Int32)) &&& (3 : Int32))), .val (.long y2), .second, .val (.long k2), .second, .val (.long ((((p0.toInt64) &&& (4294967295 : Int64)) <<< ((32 : Int32).toInt64 &&& 63)) ||| ((p1.toInt64) &&& (4294967295 : Int64)))), .second, .val (.long ((y2 <<< ((32 : Int32).toInt64 &&& 63)) ||| k2)), .second, .val (.int (1 : Int32)), .val (.int (0 : Int32)), .val (.int (1 : Int32))] [(.int (1 : Int32))]))
                exact goRetN Xt4 hx (t := .boolean) hret hlocks (by simp) (hb hby at_247) (z' := (1 : Int32)) rfl (by decide) (by decide) et4 (⟨rfl, N6⟩)
            · refine gIfY X0 hx (hb hby at_196) (pc' := 210) (XT.ll_le_t s3) (by decide) (by decide) ?_
              show Goes p e below _ (s₁.setTop (mkF m 210 #[.val (.int p0), .val (.int p1), .val (.int p2), .val (.int p3), .val (.int p4), .val (.long (4294967295 : Int64)), .second, .val (.long ((p0.toInt64) &&& (4294967295 : Int64))), .second, .val (.long ((p1.toInt64) &&& (4294967295 : Int64))), .second, .val (.int (p4 &&& (3 : Int32))), .val (.int ((XT.ushr p4 (2 : Int32)) &&& (3 : Int32))), .val (.long y2), .second, .val (.long k2), .second, .val (.long ((((p0.toInt64) &&& (4294967295 : Int64)) <<< ((32 : Int32).toInt64 &&& 63)) ||| ((p1.toInt64) &&& (4294967295 : Int64)))), .second, .val (.long ((y2 <<< ((32 : Int32).toInt64 &&& 63)) ||| k2)), .second, .val (.int (1 : Int32)), .unset, .unset] []))
              refine gIconst X0 hx (hb hby at_210) (v := (0 : Int32)) rfl ?_
              refine gIstore X0 hx (hb hby at_211) (l' := #[.val (.int p0), .val (.int p1), .val (.int p2), .val (.int p3), .val (.int p4), .val (.long (4294967295 : Int64)), .second, .val (.long ((p0.toInt64) &&& (4294967295 : Int64))), .second, .val (.long ((p1.toInt64) &&& (4294967295 : Int64))), .second, .val (.int (p4 &&& (3 : Int32))), .val (.int ((XT.ushr p4 (2 : Int32)) &&& (3 : Int32))), .val (.long y2), .second, .val (.long k2), .second, .val (.long ((((p0.toInt64) &&& (4294967295 : Int64)) <<< ((32 : Int32).toInt64 &&& 63)) ||| ((p1.toInt64) &&& (4294967295 : Int64)))), .second, .val (.long ((y2 <<< ((32 : Int32).toInt64 &&& 63)) ||| k2)), .second, .val (.int (1 : Int32)), .val (.int (0 : Int32)), .unset]) rfl ?_
              refine gIload X0 hx (hb hby at_213) rfl ?_
              refine gIfY X0 hx (hb hby at_215) (pc' := 223) (XT.i0_ne_t (by decide)) (by decide) (by decide) ?_
              show Goes p e below _ (s₁.setTop (mkF m 223 #[.val (.int p0), .val (.int p1), .val (.int p2), .val (.int p3), .val (.int p4), .val (.long (4294967295 : Int64)), .second, .val (.long ((p0.toInt64) &&& (4294967295 : Int64))), .second, .val (.long ((p1.toInt64) &&& (4294967295 : Int64))), .second, .val (.int (p4 &&& (3 : Int32))), .val (.int ((XT.ushr p4 (2 : Int32)) &&& (3 : Int32))), .val (.long y2), .second, .val (.long k2), .second, .val (.long ((((p0.toInt64) &&& (4294967295 : Int64)) <<< ((32 : Int32).toInt64 &&& 63)) ||| ((p1.toInt64) &&& (4294967295 : Int64)))), .second, .val (.long ((y2 <<< ((32 : Int32).toInt64 &&& 63)) ||| k2)), .second, .val (.int (1 : Int32)), .val (.int (0 : Int32)), .unset] []))
              refine gIconst X0 hx (hb hby at_223) (v := (1 : Int32)) rfl ?_
              refine gGoto X0 hx (hb hby at_224) (pc' := 228) (by decide) (by decide) ?_
              show Goes p e below _ (s₁.setTop (mkF m 228 #[.val (.int p0), .val (.int p1), .val (.int p2), .val (.int p3), .val (.int p4), .val (.long (4294967295 : Int64)), .second, .val (.long ((p0.toInt64) &&& (4294967295 : Int64))), .second, .val (.long ((p1.toInt64) &&& (4294967295 : Int64))), .second, .val (.int (p4 &&& (3 : Int32))), .val (.int ((XT.ushr p4 (2 : Int32)) &&& (3 : Int32))), .val (.long y2), .second, .val (.long k2), .second, .val (.long ((((p0.toInt64) &&& (4294967295 : Int64)) <<< ((32 : Int32).toInt64 &&& 63)) ||| ((p1.toInt64) &&& (4294967295 : Int64)))), .second, .val (.long ((y2 <<< ((32 : Int32).toInt64 &&& 63)) ||| k2)), .second, .val (.int (1 : Int32)), .val (.int (0 : Int32)), .unset] [(.int (1 : Int32))]))
              refine gIstore X0 hx (hb hby at_228) (l' := #[.val (.int p0), .val (.int p1), .val (.int p2), .val (.int p3), .val (.int p4), .val (.long (4294967295 : Int64)), .second, .val (.long ((p0.toInt64) &&& (4294967295 : Int64))), .second, .val (.long ((p1.toInt64) &&& (4294967295 : Int64))), .second, .val (.int (p4 &&& (3 : Int32))), .val (.int ((XT.ushr p4 (2 : Int32)) &&& (3 : Int32))), .val (.long y2), .second, .val (.long k2), .second, .val (.long ((((p0.toInt64) &&& (4294967295 : Int64)) <<< ((32 : Int32).toInt64 &&& 63)) ||| ((p1.toInt64) &&& (4294967295 : Int64)))), .second, .val (.long ((y2 <<< ((32 : Int32).toInt64 &&& 63)) ||| k2)), .second, .val (.int (1 : Int32)), .val (.int (0 : Int32)), .val (.int (1 : Int32))]) rfl ?_
              refine gLload X0 hx (hb hby at_230) rfl ?_
              refine gLload X0 hx (hb hby at_232) rfl ?_
              refine goCallS X0 hx hZ hown (hw _ (List.mem_of_getElem? (i := 1) rfl)) (hw _ (List.mem_of_getElem? (i := 2) rfl)) (hw _ (List.mem_of_getElem? (i := 3) rfl)) (hw _ (List.mem_of_getElem? (i := 4) rfl)) (by decide) (rm1 l Z a0 hw ((y2 <<< ((32 : Int32).toInt64 &&& 63)) ||| k2) ((((p0.toInt64) &&& (4294967295 : Int64)) <<< ((32 : Int32).toInt64 &&& 63)) ||| ((p1.toInt64) &&& (4294967295 : Int64))) h0 O0) 0 (by decide) (by decide) e0 (hsz rfl) [(.long ((y2 <<< ((32 : Int32).toInt64 &&& 63)) ||| k2)), (.long ((((p0.toInt64) &&& (4294967295 : Int64)) <<< ((32 : Int32).toInt64 &&& 63)) ||| ((p1.toInt64) &&& (4294967295 : Int64))))] [] pd_1 rfl rfl rfl (Nat.le_of_eq rfl) (hb hby at_234) (by decide) (by decide) (fun Tt7 vt7 Lt7 Xt7 qt7 => ?_)
              obtain ⟨rfl, N8, et7⟩ := qt7
              have N9 := Fr.app N0 N8
              show Goes p e below _ (Tt7.setTop (mkF m 237 #[.val (.int p0), .val (.int p1), .val (.int p2), .val (.int p3), .val (.int p4), .val (.long (4294967295 : Int64)), .second, .val (.long ((p0.toInt64) &&& (4294967295 : Int64))), .second, .val (.long ((p1.toInt64) &&& (4294967295 : Int64))), .second, .val (.int (p4 &&& (3 : Int32))), .val (.int ((XT.ushr p4 (2 : Int32)) &&& (3 : Int32))), .val (.long y2), .second, .val (.long k2), .second, .val (.long ((((p0.toInt64) &&& (4294967295 : Int64)) <<< ((32 : Int32).toInt64 &&& 63)) ||| ((p1.toInt64) &&& (4294967295 : Int64)))), .second, .val (.long ((y2 <<< ((32 : Int32).toInt64 &&& 63)) ||| k2)), .second, .val (.int (1 : Int32)), .val (.int (0 : Int32)), .val (.int (1 : Int32))] [(.int (own_fol ((y2 <<< ((32 : Int32).toInt64 &&& 63)) ||| k2) ((((p0.toInt64) &&& (4294967295 : Int64)) <<< ((32 : Int32).toInt64 &&& 63)) ||| ((p1.toInt64) &&& (4294967295 : Int64)))))]))
              refine gIload Xt7 hx (hb hby at_237) rfl ?_
              refine gIcmpN Xt7 hx (hb hby at_239) (XT.ii_ne_f (key.trans (if_pos (Or.inl ⟨s1, s2⟩)))) ?_
              show Goes p e below _ (Tt7.setTop (mkF m 242 #[.val (.int p0), .val (.int p1), .val (.int p2), .val (.int p3), .val (.int p4), .val (.long (4294967295 : Int64)), .second, .val (.long ((p0.toInt64) &&& (4294967295 : Int64))), .second, .val (.long ((p1.toInt64) &&& (4294967295 : Int64))), .second, .val (.int (p4 &&& (3 : Int32))), .val (.int ((XT.ushr p4 (2 : Int32)) &&& (3 : Int32))), .val (.long y2), .second, .val (.long k2), .second, .val (.long ((((p0.toInt64) &&& (4294967295 : Int64)) <<< ((32 : Int32).toInt64 &&& 63)) ||| ((p1.toInt64) &&& (4294967295 : Int64)))), .second, .val (.long ((y2 <<< ((32 : Int32).toInt64 &&& 63)) ||| k2)), .second, .val (.int (1 : Int32)), .val (.int (0 : Int32)), .val (.int (1 : Int32))] []))
              refine gIconst Xt7 hx (hb hby at_242) (v := (1 : Int32)) rfl ?_
              refine gGoto Xt7 hx (hb hby at_243) (pc' := 247) (by decide) (by decide) ?_
              show Goes p e below _ (Tt7.setTop (mkF m 247 #[.val (.int p0), .val (.int p1), .val (.int p2), .val (.int p3), .val (.int p4), .val (.long (4294967295 : Int64)), .second, .val (.long ((p0.toInt64) &&& (4294967295 : Int64))), .second, .val (.long ((p1.toInt64) &&& (4294967295 : Int64))), .second, .val (.int (p4 &&& (3 : Int32))), .val (.int ((XT.ushr p4 (2 : Int32)) &&& (3 : Int32))), .val (.long y2), .second, .val (.long k2), .second, .val (.long ((((p0.toInt64) &&& (4294967295 : Int64)) <<< ((32 : Int32).toInt64 &&& 63)) ||| ((p1.toInt64) &&& (4294967295 : Int64)))), .second, .val (.long ((y2 <<< ((32 : Int32).toInt64 &&& 63)) ||| k2)), .second, .val (.int (1 : Int32)), .val (.int (0 : Int32)), .val (.int (1 : Int32))] [(.int (1 : Int32))]))
              exact goRetN Xt7 hx (t := .boolean) hret hlocks (by simp) (hb hby at_247) (z' := (1 : Int32)) rfl (by decide) (by decide) et7 (⟨rfl, N9⟩)
          · refine gIfY X0 hx (hb hby at_181) (pc' := 188) (XT.ll_ne_t s2) (by decide) (by decide) ?_
            show Goes p e below _ (s₁.setTop (mkF m 188 #[.val (.int p0), .val (.int p1), .val (.int p2), .val (.int p3), .val (.int p4), .val (.long (4294967295 : Int64)), .second, .val (.long ((p0.toInt64) &&& (4294967295 : Int64))), .second, .val (.long ((p1.toInt64) &&& (4294967295 : Int64))), .second, .val (.int (p4 &&& (3 : Int32))), .val (.int ((XT.ushr p4 (2 : Int32)) &&& (3 : Int32))), .val (.long y2), .second, .val (.long k2), .second, .val (.long ((((p0.toInt64) &&& (4294967295 : Int64)) <<< ((32 : Int32).toInt64 &&& 63)) ||| ((p1.toInt64) &&& (4294967295 : Int64)))), .second, .val (.long ((y2 <<< ((32 : Int32).toInt64 &&& 63)) ||| k2)), .second, .unset, .unset, .unset] []))
            refine gIconst X0 hx (hb hby at_188) (v := (0 : Int32)) rfl ?_
            refine gIstore X0 hx (hb hby at_189) (l' := #[.val (.int p0), .val (.int p1), .val (.int p2), .val (.int p3), .val (.int p4), .val (.long (4294967295 : Int64)), .second, .val (.long ((p0.toInt64) &&& (4294967295 : Int64))), .second, .val (.long ((p1.toInt64) &&& (4294967295 : Int64))), .second, .val (.int (p4 &&& (3 : Int32))), .val (.int ((XT.ushr p4 (2 : Int32)) &&& (3 : Int32))), .val (.long y2), .second, .val (.long k2), .second, .val (.long ((((p0.toInt64) &&& (4294967295 : Int64)) <<< ((32 : Int32).toInt64 &&& 63)) ||| ((p1.toInt64) &&& (4294967295 : Int64)))), .second, .val (.long ((y2 <<< ((32 : Int32).toInt64 &&& 63)) ||| k2)), .second, .val (.int (0 : Int32)), .unset, .unset]) rfl ?_
            refine gLload X0 hx (hb hby at_191) rfl ?_
            refine gLload X0 hx (hb hby at_193) rfl ?_
            refine gLcmp X0 hx (hb hby at_195) ?_
            by_cases s5 : ((p0.toInt64) &&& (4294967295 : Int64)) < y2
            · refine gIfN X0 hx (hb hby at_196) (XT.ll_le_f s5) ?_
              show Goes p e below _ (s₁.setTop (mkF m 199 #[.val (.int p0), .val (.int p1), .val (.int p2), .val (.int p3), .val (.int p4), .val (.long (4294967295 : Int64)), .second, .val (.long ((p0.toInt64) &&& (4294967295 : Int64))), .second, .val (.long ((p1.toInt64) &&& (4294967295 : Int64))), .second, .val (.int (p4 &&& (3 : Int32))), .val (.int ((XT.ushr p4 (2 : Int32)) &&& (3 : Int32))), .val (.long y2), .second, .val (.long k2), .second, .val (.long ((((p0.toInt64) &&& (4294967295 : Int64)) <<< ((32 : Int32).toInt64 &&& 63)) ||| ((p1.toInt64) &&& (4294967295 : Int64)))), .second, .val (.long ((y2 <<< ((32 : Int32).toInt64 &&& 63)) ||| k2)), .second, .val (.int (0 : Int32)), .unset, .unset] []))
              refine gLload X0 hx (hb hby at_199) rfl ?_
              refine gLconst X0 hx (hb hby at_201) (v := (1 : Int64)) rfl ?_
              refine gLcmp X0 hx (hb hby at_202) ?_
              by_cases s6 : k2 = (1 : Int64)
              · refine gIfN X0 hx (hb hby at_203) (XT.ll_ne_f s6) ?_
                show Goes p e below _ (s₁.setTop (mkF m 206 #[.val (.int p0), .val (.int p1), .val (.int p2), .val (.int p3), .val (.int p4), .val (.long (4294967295 : Int64)), .second, .val (.long ((p0.toInt64) &&& (4294967295 : Int64))), .second, .val (.long ((p1.toInt64) &&& (4294967295 : Int64))), .second, .val (.int (p4 &&& (3 : Int32))), .val (.int ((XT.ushr p4 (2 : Int32)) &&& (3 : Int32))), .val (.long y2), .second, .val (.long k2), .second, .val (.long ((((p0.toInt64) &&& (4294967295 : Int64)) <<< ((32 : Int32).toInt64 &&& 63)) ||| ((p1.toInt64) &&& (4294967295 : Int64)))), .second, .val (.long ((y2 <<< ((32 : Int32).toInt64 &&& 63)) ||| k2)), .second, .val (.int (0 : Int32)), .unset, .unset] []))
                refine gIconst X0 hx (hb hby at_206) (v := (1 : Int32)) rfl ?_
                refine gGoto X0 hx (hb hby at_207) (pc' := 211) (by decide) (by decide) ?_
                show Goes p e below _ (s₁.setTop (mkF m 211 #[.val (.int p0), .val (.int p1), .val (.int p2), .val (.int p3), .val (.int p4), .val (.long (4294967295 : Int64)), .second, .val (.long ((p0.toInt64) &&& (4294967295 : Int64))), .second, .val (.long ((p1.toInt64) &&& (4294967295 : Int64))), .second, .val (.int (p4 &&& (3 : Int32))), .val (.int ((XT.ushr p4 (2 : Int32)) &&& (3 : Int32))), .val (.long y2), .second, .val (.long k2), .second, .val (.long ((((p0.toInt64) &&& (4294967295 : Int64)) <<< ((32 : Int32).toInt64 &&& 63)) ||| ((p1.toInt64) &&& (4294967295 : Int64)))), .second, .val (.long ((y2 <<< ((32 : Int32).toInt64 &&& 63)) ||| k2)), .second, .val (.int (0 : Int32)), .unset, .unset] [(.int (1 : Int32))]))
                refine gIstore X0 hx (hb hby at_211) (l' := #[.val (.int p0), .val (.int p1), .val (.int p2), .val (.int p3), .val (.int p4), .val (.long (4294967295 : Int64)), .second, .val (.long ((p0.toInt64) &&& (4294967295 : Int64))), .second, .val (.long ((p1.toInt64) &&& (4294967295 : Int64))), .second, .val (.int (p4 &&& (3 : Int32))), .val (.int ((XT.ushr p4 (2 : Int32)) &&& (3 : Int32))), .val (.long y2), .second, .val (.long k2), .second, .val (.long ((((p0.toInt64) &&& (4294967295 : Int64)) <<< ((32 : Int32).toInt64 &&& 63)) ||| ((p1.toInt64) &&& (4294967295 : Int64)))), .second, .val (.long ((y2 <<< ((32 : Int32).toInt64 &&& 63)) ||| k2)), .second, .val (.int (0 : Int32)), .val (.int (1 : Int32)), .unset]) rfl ?_
                refine gIload X0 hx (hb hby at_213) rfl ?_
                refine gIfN X0 hx (hb hby at_215) (XT.i0_ne_f (by decide)) ?_
                show Goes p e below _ (s₁.setTop (mkF m 218 #[.val (.int p0), .val (.int p1), .val (.int p2), .val (.int p3), .val (.int p4), .val (.long (4294967295 : Int64)), .second, .val (.long ((p0.toInt64) &&& (4294967295 : Int64))), .second, .val (.long ((p1.toInt64) &&& (4294967295 : Int64))), .second, .val (.int (p4 &&& (3 : Int32))), .val (.int ((XT.ushr p4 (2 : Int32)) &&& (3 : Int32))), .val (.long y2), .second, .val (.long k2), .second, .val (.long ((((p0.toInt64) &&& (4294967295 : Int64)) <<< ((32 : Int32).toInt64 &&& 63)) ||| ((p1.toInt64) &&& (4294967295 : Int64)))), .second, .val (.long ((y2 <<< ((32 : Int32).toInt64 &&& 63)) ||| k2)), .second, .val (.int (0 : Int32)), .val (.int (1 : Int32)), .unset] []))
                refine gIload X0 hx (hb hby at_218) rfl ?_
                refine gIfN X0 hx (hb hby at_220) (XT.i0_eq_f (by decide)) ?_
                show Goes p e below _ (s₁.setTop (mkF m 223 #[.val (.int p0), .val (.int p1), .val (.int p2), .val (.int p3), .val (.int p4), .val (.long (4294967295 : Int64)), .second, .val (.long ((p0.toInt64) &&& (4294967295 : Int64))), .second, .val (.long ((p1.toInt64) &&& (4294967295 : Int64))), .second, .val (.int (p4 &&& (3 : Int32))), .val (.int ((XT.ushr p4 (2 : Int32)) &&& (3 : Int32))), .val (.long y2), .second, .val (.long k2), .second, .val (.long ((((p0.toInt64) &&& (4294967295 : Int64)) <<< ((32 : Int32).toInt64 &&& 63)) ||| ((p1.toInt64) &&& (4294967295 : Int64)))), .second, .val (.long ((y2 <<< ((32 : Int32).toInt64 &&& 63)) ||| k2)), .second, .val (.int (0 : Int32)), .val (.int (1 : Int32)), .unset] []))
                refine gIconst X0 hx (hb hby at_223) (v := (1 : Int32)) rfl ?_
                refine gGoto X0 hx (hb hby at_224) (pc' := 228) (by decide) (by decide) ?_
                show Goes p e below _ (s₁.setTop (mkF m 228 #[.val (.int p0), .val (.int p1), .val (.int p2), .val (.int p3), .val (.int p4), .val (.long (4294967295 : Int64)), .second, .val (.long ((p0.toInt64) &&& (4294967295 : Int64))), .second, .val (.long ((p1.toInt64) &&& (4294967295 : Int64))), .second, .val (.int (p4 &&& (3 : Int32))), .val (.int ((XT.ushr p4 (2 : Int32)) &&& (3 : Int32))), .val (.long y2), .second, .val (.long k2), .second, .val (.long ((((p0.toInt64) &&& (4294967295 : Int64)) <<< ((32 : Int32).toInt64 &&& 63)) ||| ((p1.toInt64) &&& (4294967295 : Int64)))), .second, .val (.long ((y2 <<< ((32 : Int32).toInt64 &&& 63)) ||| k2)), .second, .val (.int (0 : Int32)), .val (.int (1 : Int32)), .unset] [(.int (1 : Int32))]))
                refine gIstore X0 hx (hb hby at_228) (l' := #[.val (.int p0), .val (.int p1), .val (.int p2), .val (.int p3), .val (.int p4), .val (.long (4294967295 : Int64)), .second, .val (.long ((p0.toInt64) &&& (4294967295 : Int64))), .second, .val (.long ((p1.toInt64) &&& (4294967295 : Int64))), .second, .val (.int (p4 &&& (3 : Int32))), .val (.int ((XT.ushr p4 (2 : Int32)) &&& (3 : Int32))), .val (.long y2), .second, .val (.long k2), .second, .val (.long ((((p0.toInt64) &&& (4294967295 : Int64)) <<< ((32 : Int32).toInt64 &&& 63)) ||| ((p1.toInt64) &&& (4294967295 : Int64)))), .second, .val (.long ((y2 <<< ((32 : Int32).toInt64 &&& 63)) ||| k2)), .second, .val (.int (0 : Int32)), .val (.int (1 : Int32)), .val (.int (1 : Int32))]) rfl ?_
                refine gLload X0 hx (hb hby at_230) rfl ?_
                refine gLload X0 hx (hb hby at_232) rfl ?_
                refine goCallS X0 hx hZ hown (hw _ (List.mem_of_getElem? (i := 1) rfl)) (hw _ (List.mem_of_getElem? (i := 2) rfl)) (hw _ (List.mem_of_getElem? (i := 3) rfl)) (hw _ (List.mem_of_getElem? (i := 4) rfl)) (by decide) (rm1 l Z a0 hw ((y2 <<< ((32 : Int32).toInt64 &&& 63)) ||| k2) ((((p0.toInt64) &&& (4294967295 : Int64)) <<< ((32 : Int32).toInt64 &&& 63)) ||| ((p1.toInt64) &&& (4294967295 : Int64))) h0 O0) 0 (by decide) (by decide) e0 (hsz rfl) [(.long ((y2 <<< ((32 : Int32).toInt64 &&& 63)) ||| k2)), (.long ((((p0.toInt64) &&& (4294967295 : Int64)) <<< ((32 : Int32).toInt64 &&& 63)) ||| ((p1.toInt64) &&& (4294967295 : Int64))))] [] pd_1 rfl rfl rfl (Nat.le_of_eq rfl) (hb hby at_234) (by decide) (by decide) (fun Tt10 vt10 Lt10 Xt10 qt10 => ?_)
                obtain ⟨rfl, N11, et10⟩ := qt10
                have N12 := Fr.app N0 N11
                show Goes p e below _ (Tt10.setTop (mkF m 237 #[.val (.int p0), .val (.int p1), .val (.int p2), .val (.int p3), .val (.int p4), .val (.long (4294967295 : Int64)), .second, .val (.long ((p0.toInt64) &&& (4294967295 : Int64))), .second, .val (.long ((p1.toInt64) &&& (4294967295 : Int64))), .second, .val (.int (p4 &&& (3 : Int32))), .val (.int ((XT.ushr p4 (2 : Int32)) &&& (3 : Int32))), .val (.long y2), .second, .val (.long k2), .second, .val (.long ((((p0.toInt64) &&& (4294967295 : Int64)) <<< ((32 : Int32).toInt64 &&& 63)) ||| ((p1.toInt64) &&& (4294967295 : Int64)))), .second, .val (.long ((y2 <<< ((32 : Int32).toInt64 &&& 63)) ||| k2)), .second, .val (.int (0 : Int32)), .val (.int (1 : Int32)), .val (.int (1 : Int32))] [(.int (own_fol ((y2 <<< ((32 : Int32).toInt64 &&& 63)) ||| k2) ((((p0.toInt64) &&& (4294967295 : Int64)) <<< ((32 : Int32).toInt64 &&& 63)) ||| ((p1.toInt64) &&& (4294967295 : Int64)))))]))
                refine gIload Xt10 hx (hb hby at_237) rfl ?_
                refine gIcmpN Xt10 hx (hb hby at_239) (XT.ii_ne_f (key.trans (if_pos (Or.inr ⟨s5, s6⟩)))) ?_
                show Goes p e below _ (Tt10.setTop (mkF m 242 #[.val (.int p0), .val (.int p1), .val (.int p2), .val (.int p3), .val (.int p4), .val (.long (4294967295 : Int64)), .second, .val (.long ((p0.toInt64) &&& (4294967295 : Int64))), .second, .val (.long ((p1.toInt64) &&& (4294967295 : Int64))), .second, .val (.int (p4 &&& (3 : Int32))), .val (.int ((XT.ushr p4 (2 : Int32)) &&& (3 : Int32))), .val (.long y2), .second, .val (.long k2), .second, .val (.long ((((p0.toInt64) &&& (4294967295 : Int64)) <<< ((32 : Int32).toInt64 &&& 63)) ||| ((p1.toInt64) &&& (4294967295 : Int64)))), .second, .val (.long ((y2 <<< ((32 : Int32).toInt64 &&& 63)) ||| k2)), .second, .val (.int (0 : Int32)), .val (.int (1 : Int32)), .val (.int (1 : Int32))] []))
                refine gIconst Xt10 hx (hb hby at_242) (v := (1 : Int32)) rfl ?_
                refine gGoto Xt10 hx (hb hby at_243) (pc' := 247) (by decide) (by decide) ?_
                show Goes p e below _ (Tt10.setTop (mkF m 247 #[.val (.int p0), .val (.int p1), .val (.int p2), .val (.int p3), .val (.int p4), .val (.long (4294967295 : Int64)), .second, .val (.long ((p0.toInt64) &&& (4294967295 : Int64))), .second, .val (.long ((p1.toInt64) &&& (4294967295 : Int64))), .second, .val (.int (p4 &&& (3 : Int32))), .val (.int ((XT.ushr p4 (2 : Int32)) &&& (3 : Int32))), .val (.long y2), .second, .val (.long k2), .second, .val (.long ((((p0.toInt64) &&& (4294967295 : Int64)) <<< ((32 : Int32).toInt64 &&& 63)) ||| ((p1.toInt64) &&& (4294967295 : Int64)))), .second, .val (.long ((y2 <<< ((32 : Int32).toInt64 &&& 63)) ||| k2)), .second, .val (.int (0 : Int32)), .val (.int (1 : Int32)), .val (.int (1 : Int32))] [(.int (1 : Int32))]))
                exact goRetN Xt10 hx (t := .boolean) hret hlocks (by simp) (hb hby at_247) (z' := (1 : Int32)) rfl (by decide) (by decide) et10 (⟨rfl, N12⟩)
              · refine gIfY X0 hx (hb hby at_203) (pc' := 210) (XT.ll_ne_t s6) (by decide) (by decide) ?_
                show Goes p e below _ (s₁.setTop (mkF m 210 #[.val (.int p0), .val (.int p1), .val (.int p2), .val (.int p3), .val (.int p4), .val (.long (4294967295 : Int64)), .second, .val (.long ((p0.toInt64) &&& (4294967295 : Int64))), .second, .val (.long ((p1.toInt64) &&& (4294967295 : Int64))), .second, .val (.int (p4 &&& (3 : Int32))), .val (.int ((XT.ushr p4 (2 : Int32)) &&& (3 : Int32))), .val (.long y2), .second, .val (.long k2), .second, .val (.long ((((p0.toInt64) &&& (4294967295 : Int64)) <<< ((32 : Int32).toInt64 &&& 63)) ||| ((p1.toInt64) &&& (4294967295 : Int64)))), .second, .val (.long ((y2 <<< ((32 : Int32).toInt64 &&& 63)) ||| k2)), .second, .val (.int (0 : Int32)), .unset, .unset] []))
                refine gIconst X0 hx (hb hby at_210) (v := (0 : Int32)) rfl ?_
                refine gIstore X0 hx (hb hby at_211) (l' := #[.val (.int p0), .val (.int p1), .val (.int p2), .val (.int p3), .val (.int p4), .val (.long (4294967295 : Int64)), .second, .val (.long ((p0.toInt64) &&& (4294967295 : Int64))), .second, .val (.long ((p1.toInt64) &&& (4294967295 : Int64))), .second, .val (.int (p4 &&& (3 : Int32))), .val (.int ((XT.ushr p4 (2 : Int32)) &&& (3 : Int32))), .val (.long y2), .second, .val (.long k2), .second, .val (.long ((((p0.toInt64) &&& (4294967295 : Int64)) <<< ((32 : Int32).toInt64 &&& 63)) ||| ((p1.toInt64) &&& (4294967295 : Int64)))), .second, .val (.long ((y2 <<< ((32 : Int32).toInt64 &&& 63)) ||| k2)), .second, .val (.int (0 : Int32)), .val (.int (0 : Int32)), .unset]) rfl ?_
                refine gIload X0 hx (hb hby at_213) rfl ?_
                refine gIfN X0 hx (hb hby at_215) (XT.i0_ne_f (by decide)) ?_
                show Goes p e below _ (s₁.setTop (mkF m 218 #[.val (.int p0), .val (.int p1), .val (.int p2), .val (.int p3), .val (.int p4), .val (.long (4294967295 : Int64)), .second, .val (.long ((p0.toInt64) &&& (4294967295 : Int64))), .second, .val (.long ((p1.toInt64) &&& (4294967295 : Int64))), .second, .val (.int (p4 &&& (3 : Int32))), .val (.int ((XT.ushr p4 (2 : Int32)) &&& (3 : Int32))), .val (.long y2), .second, .val (.long k2), .second, .val (.long ((((p0.toInt64) &&& (4294967295 : Int64)) <<< ((32 : Int32).toInt64 &&& 63)) ||| ((p1.toInt64) &&& (4294967295 : Int64)))), .second, .val (.long ((y2 <<< ((32 : Int32).toInt64 &&& 63)) ||| k2)), .second, .val (.int (0 : Int32)), .val (.int (0 : Int32)), .unset] []))
                refine gIload X0 hx (hb hby at_218) rfl ?_
                refine gIfY X0 hx (hb hby at_220) (pc' := 227) (XT.i0_eq_t (by decide)) (by decide) (by decide) ?_
                show Goes p e below _ (s₁.setTop (mkF m 227 #[.val (.int p0), .val (.int p1), .val (.int p2), .val (.int p3), .val (.int p4), .val (.long (4294967295 : Int64)), .second, .val (.long ((p0.toInt64) &&& (4294967295 : Int64))), .second, .val (.long ((p1.toInt64) &&& (4294967295 : Int64))), .second, .val (.int (p4 &&& (3 : Int32))), .val (.int ((XT.ushr p4 (2 : Int32)) &&& (3 : Int32))), .val (.long y2), .second, .val (.long k2), .second, .val (.long ((((p0.toInt64) &&& (4294967295 : Int64)) <<< ((32 : Int32).toInt64 &&& 63)) ||| ((p1.toInt64) &&& (4294967295 : Int64)))), .second, .val (.long ((y2 <<< ((32 : Int32).toInt64 &&& 63)) ||| k2)), .second, .val (.int (0 : Int32)), .val (.int (0 : Int32)), .unset] []))
                refine gIconst X0 hx (hb hby at_227) (v := (0 : Int32)) rfl ?_
                refine gIstore X0 hx (hb hby at_228) (l' := #[.val (.int p0), .val (.int p1), .val (.int p2), .val (.int p3), .val (.int p4), .val (.long (4294967295 : Int64)), .second, .val (.long ((p0.toInt64) &&& (4294967295 : Int64))), .second, .val (.long ((p1.toInt64) &&& (4294967295 : Int64))), .second, .val (.int (p4 &&& (3 : Int32))), .val (.int ((XT.ushr p4 (2 : Int32)) &&& (3 : Int32))), .val (.long y2), .second, .val (.long k2), .second, .val (.long ((((p0.toInt64) &&& (4294967295 : Int64)) <<< ((32 : Int32).toInt64 &&& 63)) ||| ((p1.toInt64) &&& (4294967295 : Int64)))), .second, .val (.long ((y2 <<< ((32 : Int32).toInt64 &&& 63)) ||| k2)), .second, .val (.int (0 : Int32)), .val (.int (0 : Int32)), .val (.int (0 : Int32))]) rfl ?_
                refine gLload X0 hx (hb hby at_230) rfl ?_
                refine gLload X0 hx (hb hby at_232) rfl ?_
                refine goCallS X0 hx hZ hown (hw _ (List.mem_of_getElem? (i := 1) rfl)) (hw _ (List.mem_of_getElem? (i := 2) rfl)) (hw _ (List.mem_of_getElem? (i := 3) rfl)) (hw _ (List.mem_of_getElem? (i := 4) rfl)) (by decide) (rm1 l Z a0 hw ((y2 <<< ((32 : Int32).toInt64 &&& 63)) ||| k2) ((((p0.toInt64) &&& (4294967295 : Int64)) <<< ((32 : Int32).toInt64 &&& 63)) ||| ((p1.toInt64) &&& (4294967295 : Int64))) h0 O0) 0 (by decide) (by decide) e0 (hsz rfl) [(.long ((y2 <<< ((32 : Int32).toInt64 &&& 63)) ||| k2)), (.long ((((p0.toInt64) &&& (4294967295 : Int64)) <<< ((32 : Int32).toInt64 &&& 63)) ||| ((p1.toInt64) &&& (4294967295 : Int64))))] [] pd_1 rfl rfl rfl (Nat.le_of_eq rfl) (hb hby at_234) (by decide) (by decide) (fun Tt13 vt13 Lt13 Xt13 qt13 => ?_)
                obtain ⟨rfl, N14, et13⟩ := qt13
                have N15 := Fr.app N0 N14
                show Goes p e below _ (Tt13.setTop (mkF m 237 #[.val (.int p0), .val (.int p1), .val (.int p2), .val (.int p3), .val (.int p4), .val (.long (4294967295 : Int64)), .second, .val (.long ((p0.toInt64) &&& (4294967295 : Int64))), .second, .val (.long ((p1.toInt64) &&& (4294967295 : Int64))), .second, .val (.int (p4 &&& (3 : Int32))), .val (.int ((XT.ushr p4 (2 : Int32)) &&& (3 : Int32))), .val (.long y2), .second, .val (.long k2), .second, .val (.long ((((p0.toInt64) &&& (4294967295 : Int64)) <<< ((32 : Int32).toInt64 &&& 63)) ||| ((p1.toInt64) &&& (4294967295 : Int64)))), .second, .val (.long ((y2 <<< ((32 : Int32).toInt64 &&& 63)) ||| k2)), .second, .val (.int (0 : Int32)), .val (.int (0 : Int32)), .val (.int (0 : Int32))] [(.int (own_fol ((y2 <<< ((32 : Int32).toInt64 &&& 63)) ||| k2) ((((p0.toInt64) &&& (4294967295 : Int64)) <<< ((32 : Int32).toInt64 &&& 63)) ||| ((p1.toInt64) &&& (4294967295 : Int64)))))]))
                refine gIload Xt13 hx (hb hby at_237) rfl ?_
                refine gIcmpN Xt13 hx (hb hby at_239) (XT.ii_ne_f (key.trans (if_neg (fun q => q.elim (fun z => s2 z.2) (fun z => s6 z.2))))) ?_
                show Goes p e below _ (Tt13.setTop (mkF m 242 #[.val (.int p0), .val (.int p1), .val (.int p2), .val (.int p3), .val (.int p4), .val (.long (4294967295 : Int64)), .second, .val (.long ((p0.toInt64) &&& (4294967295 : Int64))), .second, .val (.long ((p1.toInt64) &&& (4294967295 : Int64))), .second, .val (.int (p4 &&& (3 : Int32))), .val (.int ((XT.ushr p4 (2 : Int32)) &&& (3 : Int32))), .val (.long y2), .second, .val (.long k2), .second, .val (.long ((((p0.toInt64) &&& (4294967295 : Int64)) <<< ((32 : Int32).toInt64 &&& 63)) ||| ((p1.toInt64) &&& (4294967295 : Int64)))), .second, .val (.long ((y2 <<< ((32 : Int32).toInt64 &&& 63)) ||| k2)), .second, .val (.int (0 : Int32)), .val (.int (0 : Int32)), .val (.int (0 : Int32))] []))
                refine gIconst Xt13 hx (hb hby at_242) (v := (1 : Int32)) rfl ?_
                refine gGoto Xt13 hx (hb hby at_243) (pc' := 247) (by decide) (by decide) ?_
                show Goes p e below _ (Tt13.setTop (mkF m 247 #[.val (.int p0), .val (.int p1), .val (.int p2), .val (.int p3), .val (.int p4), .val (.long (4294967295 : Int64)), .second, .val (.long ((p0.toInt64) &&& (4294967295 : Int64))), .second, .val (.long ((p1.toInt64) &&& (4294967295 : Int64))), .second, .val (.int (p4 &&& (3 : Int32))), .val (.int ((XT.ushr p4 (2 : Int32)) &&& (3 : Int32))), .val (.long y2), .second, .val (.long k2), .second, .val (.long ((((p0.toInt64) &&& (4294967295 : Int64)) <<< ((32 : Int32).toInt64 &&& 63)) ||| ((p1.toInt64) &&& (4294967295 : Int64)))), .second, .val (.long ((y2 <<< ((32 : Int32).toInt64 &&& 63)) ||| k2)), .second, .val (.int (0 : Int32)), .val (.int (0 : Int32)), .val (.int (0 : Int32))] [(.int (1 : Int32))]))
                exact goRetN Xt13 hx (t := .boolean) hret hlocks (by simp) (hb hby at_247) (z' := (1 : Int32)) rfl (by decide) (by decide) et13 (⟨rfl, N15⟩)
            · refine gIfY X0 hx (hb hby at_196) (pc' := 210) (XT.ll_le_t s5) (by decide) (by decide) ?_
              show Goes p e below _ (s₁.setTop (mkF m 210 #[.val (.int p0), .val (.int p1), .val (.int p2), .val (.int p3), .val (.int p4), .val (.long (4294967295 : Int64)), .second, .val (.long ((p0.toInt64) &&& (4294967295 : Int64))), .second, .val (.long ((p1.toInt64) &&& (4294967295 : Int64))), .second, .val (.int (p4 &&& (3 : Int32))), .val (.int ((XT.ushr p4 (2 : Int32)) &&& (3 : Int32))), .val (.long y2), .second, .val (.long k2), .second, .val (.long ((((p0.toInt64) &&& (4294967295 : Int64)) <<< ((32 : Int32).toInt64 &&& 63)) ||| ((p1.toInt64) &&& (4294967295 : Int64)))), .second, .val (.long ((y2 <<< ((32 : Int32).toInt64 &&& 63)) ||| k2)), .second, .val (.int (0 : Int32)), .unset, .unset] []))
              refine gIconst X0 hx (hb hby at_210) (v := (0 : Int32)) rfl ?_
              refine gIstore X0 hx (hb hby at_211) (l' := #[.val (.int p0), .val (.int p1), .val (.int p2), .val (.int p3), .val (.int p4), .val (.long (4294967295 : Int64)), .second, .val (.long ((p0.toInt64) &&& (4294967295 : Int64))), .second, .val (.long ((p1.toInt64) &&& (4294967295 : Int64))), .second, .val (.int (p4 &&& (3 : Int32))), .val (.int ((XT.ushr p4 (2 : Int32)) &&& (3 : Int32))), .val (.long y2), .second, .val (.long k2), .second, .val (.long ((((p0.toInt64) &&& (4294967295 : Int64)) <<< ((32 : Int32).toInt64 &&& 63)) ||| ((p1.toInt64) &&& (4294967295 : Int64)))), .second, .val (.long ((y2 <<< ((32 : Int32).toInt64 &&& 63)) ||| k2)), .second, .val (.int (0 : Int32)), .val (.int (0 : Int32)), .unset]) rfl ?_
              refine gIload X0 hx (hb hby at_213) rfl ?_
              refine gIfN X0 hx (hb hby at_215) (XT.i0_ne_f (by decide)) ?_
              show Goes p e below _ (s₁.setTop (mkF m 218 #[.val (.int p0), .val (.int p1), .val (.int p2), .val (.int p3), .val (.int p4), .val (.long (4294967295 : Int64)), .second, .val (.long ((p0.toInt64) &&& (4294967295 : Int64))), .second, .val (.long ((p1.toInt64) &&& (4294967295 : Int64))), .second, .val (.int (p4 &&& (3 : Int32))), .val (.int ((XT.ushr p4 (2 : Int32)) &&& (3 : Int32))), .val (.long y2), .second, .val (.long k2), .second, .val (.long ((((p0.toInt64) &&& (4294967295 : Int64)) <<< ((32 : Int32).toInt64 &&& 63)) ||| ((p1.toInt64) &&& (4294967295 : Int64)))), .second, .val (.long ((y2 <<< ((32 : Int32).toInt64 &&& 63)) ||| k2)), .second, .val (.int (0 : Int32)), .val (.int (0 : Int32)), .unset] []))
              refine gIload X0 hx (hb hby at_218) rfl ?_
              refine gIfY X0 hx (hb hby at_220) (pc' := 227) (XT.i0_eq_t (by decide)) (by decide) (by decide) ?_
              show Goes p e below _ (s₁.setTop (mkF m 227 #[.val (.int p0), .val (.int p1), .val (.int p2), .val (.int p3), .val (.int p4), .val (.long (4294967295 : Int64)), .second, .val (.long ((p0.toInt64) &&& (4294967295 : Int64))), .second, .val (.long ((p1.toInt64) &&& (4294967295 : Int64))), .second, .val (.int (p4 &&& (3 : Int32))), .val (.int ((XT.ushr p4 (2 : Int32)) &&& (3 : Int32))), .val (.long y2), .second, .val (.long k2), .second, .val (.long ((((p0.toInt64) &&& (4294967295 : Int64)) <<< ((32 : Int32).toInt64 &&& 63)) ||| ((p1.toInt64) &&& (4294967295 : Int64)))), .second, .val (.long ((y2 <<< ((32 : Int32).toInt64 &&& 63)) ||| k2)), .second, .val (.int (0 : Int32)), .val (.int (0 : Int32)), .unset] []))
              refine gIconst X0 hx (hb hby at_227) (v := (0 : Int32)) rfl ?_
              refine gIstore X0 hx (hb hby at_228) (l' := #[.val (.int p0), .val (.int p1), .val (.int p2), .val (.int p3), .val (.int p4), .val (.long (4294967295 : Int64)), .second, .val (.long ((p0.toInt64) &&& (4294967295 : Int64))), .second, .val (.long ((p1.toInt64) &&& (4294967295 : Int64))), .second, .val (.int (p4 &&& (3 : Int32))), .val (.int ((XT.ushr p4 (2 : Int32)) &&& (3 : Int32))), .val (.long y2), .second, .val (.long k2), .second, .val (.long ((((p0.toInt64) &&& (4294967295 : Int64)) <<< ((32 : Int32).toInt64 &&& 63)) ||| ((p1.toInt64) &&& (4294967295 : Int64)))), .second, .val (.long ((y2 <<< ((32 : Int32).toInt64 &&& 63)) ||| k2)), .second, .val (.int (0 : Int32)), .val (.int (0 : Int32)), .val (.int (0 : Int32))]) rfl ?_
              refine gLload X0 hx (hb hby at_230) rfl ?_
              refine gLload X0 hx (hb hby at_232) rfl ?_
              refine goCallS X0 hx hZ hown (hw _ (List.mem_of_getElem? (i := 1) rfl)) (hw _ (List.mem_of_getElem? (i := 2) rfl)) (hw _ (List.mem_of_getElem? (i := 3) rfl)) (hw _ (List.mem_of_getElem? (i := 4) rfl)) (by decide) (rm1 l Z a0 hw ((y2 <<< ((32 : Int32).toInt64 &&& 63)) ||| k2) ((((p0.toInt64) &&& (4294967295 : Int64)) <<< ((32 : Int32).toInt64 &&& 63)) ||| ((p1.toInt64) &&& (4294967295 : Int64))) h0 O0) 0 (by decide) (by decide) e0 (hsz rfl) [(.long ((y2 <<< ((32 : Int32).toInt64 &&& 63)) ||| k2)), (.long ((((p0.toInt64) &&& (4294967295 : Int64)) <<< ((32 : Int32).toInt64 &&& 63)) ||| ((p1.toInt64) &&& (4294967295 : Int64))))] [] pd_1 rfl rfl rfl (Nat.le_of_eq rfl) (hb hby at_234) (by decide) (by decide) (fun Tt16 vt16 Lt16 Xt16 qt16 => ?_)
              obtain ⟨rfl, N17, et16⟩ := qt16
              have N18 := Fr.app N0 N17
              show Goes p e below _ (Tt16.setTop (mkF m 237 #[.val (.int p0), .val (.int p1), .val (.int p2), .val (.int p3), .val (.int p4), .val (.long (4294967295 : Int64)), .second, .val (.long ((p0.toInt64) &&& (4294967295 : Int64))), .second, .val (.long ((p1.toInt64) &&& (4294967295 : Int64))), .second, .val (.int (p4 &&& (3 : Int32))), .val (.int ((XT.ushr p4 (2 : Int32)) &&& (3 : Int32))), .val (.long y2), .second, .val (.long k2), .second, .val (.long ((((p0.toInt64) &&& (4294967295 : Int64)) <<< ((32 : Int32).toInt64 &&& 63)) ||| ((p1.toInt64) &&& (4294967295 : Int64)))), .second, .val (.long ((y2 <<< ((32 : Int32).toInt64 &&& 63)) ||| k2)), .second, .val (.int (0 : Int32)), .val (.int (0 : Int32)), .val (.int (0 : Int32))] [(.int (own_fol ((y2 <<< ((32 : Int32).toInt64 &&& 63)) ||| k2) ((((p0.toInt64) &&& (4294967295 : Int64)) <<< ((32 : Int32).toInt64 &&& 63)) ||| ((p1.toInt64) &&& (4294967295 : Int64)))))]))
              refine gIload Xt16 hx (hb hby at_237) rfl ?_
              refine gIcmpN Xt16 hx (hb hby at_239) (XT.ii_ne_f (key.trans (if_neg (fun q => q.elim (fun z => s2 z.2) (fun z => s5 z.1))))) ?_
              show Goes p e below _ (Tt16.setTop (mkF m 242 #[.val (.int p0), .val (.int p1), .val (.int p2), .val (.int p3), .val (.int p4), .val (.long (4294967295 : Int64)), .second, .val (.long ((p0.toInt64) &&& (4294967295 : Int64))), .second, .val (.long ((p1.toInt64) &&& (4294967295 : Int64))), .second, .val (.int (p4 &&& (3 : Int32))), .val (.int ((XT.ushr p4 (2 : Int32)) &&& (3 : Int32))), .val (.long y2), .second, .val (.long k2), .second, .val (.long ((((p0.toInt64) &&& (4294967295 : Int64)) <<< ((32 : Int32).toInt64 &&& 63)) ||| ((p1.toInt64) &&& (4294967295 : Int64)))), .second, .val (.long ((y2 <<< ((32 : Int32).toInt64 &&& 63)) ||| k2)), .second, .val (.int (0 : Int32)), .val (.int (0 : Int32)), .val (.int (0 : Int32))] []))
              refine gIconst Xt16 hx (hb hby at_242) (v := (1 : Int32)) rfl ?_
              refine gGoto Xt16 hx (hb hby at_243) (pc' := 247) (by decide) (by decide) ?_
              show Goes p e below _ (Tt16.setTop (mkF m 247 #[.val (.int p0), .val (.int p1), .val (.int p2), .val (.int p3), .val (.int p4), .val (.long (4294967295 : Int64)), .second, .val (.long ((p0.toInt64) &&& (4294967295 : Int64))), .second, .val (.long ((p1.toInt64) &&& (4294967295 : Int64))), .second, .val (.int (p4 &&& (3 : Int32))), .val (.int ((XT.ushr p4 (2 : Int32)) &&& (3 : Int32))), .val (.long y2), .second, .val (.long k2), .second, .val (.long ((((p0.toInt64) &&& (4294967295 : Int64)) <<< ((32 : Int32).toInt64 &&& 63)) ||| ((p1.toInt64) &&& (4294967295 : Int64)))), .second, .val (.long ((y2 <<< ((32 : Int32).toInt64 &&& 63)) ||| k2)), .second, .val (.int (0 : Int32)), .val (.int (0 : Int32)), .val (.int (0 : Int32))] [(.int (1 : Int32))]))
              exact goRetN Xt16 hx (t := .boolean) hret hlocks (by simp) (hb hby at_247) (z' := (1 : Int32)) rfl (by decide) (by decide) et16 (⟨rfl, N18⟩)
        · refine gIfY X0 hx (hb hby at_171) (pc' := 188) (XT.ll_ne_t s1) (by decide) (by decide) ?_
          show Goes p e below _ (s₁.setTop (mkF m 188 #[.val (.int p0), .val (.int p1), .val (.int p2), .val (.int p3), .val (.int p4), .val (.long (4294967295 : Int64)), .second, .val (.long ((p0.toInt64) &&& (4294967295 : Int64))), .second, .val (.long ((p1.toInt64) &&& (4294967295 : Int64))), .second, .val (.int (p4 &&& (3 : Int32))), .val (.int ((XT.ushr p4 (2 : Int32)) &&& (3 : Int32))), .val (.long y2), .second, .val (.long k2), .second, .val (.long ((((p0.toInt64) &&& (4294967295 : Int64)) <<< ((32 : Int32).toInt64 &&& 63)) ||| ((p1.toInt64) &&& (4294967295 : Int64)))), .second, .val (.long ((y2 <<< ((32 : Int32).toInt64 &&& 63)) ||| k2)), .second, .unset, .unset, .unset] []))
          refine gIconst X0 hx (hb hby at_188) (v := (0 : Int32)) rfl ?_
          refine gIstore X0 hx (hb hby at_189) (l' := #[.val (.int p0), .val (.int p1), .val (.int p2), .val (.int p3), .val (.int p4), .val (.long (4294967295 : Int64)), .second, .val (.long ((p0.toInt64) &&& (4294967295 : Int64))), .second, .val (.long ((p1.toInt64) &&& (4294967295 : Int64))), .second, .val (.int (p4 &&& (3 : Int32))), .val (.int ((XT.ushr p4 (2 : Int32)) &&& (3 : Int32))), .val (.long y2), .second, .val (.long k2), .second, .val (.long ((((p0.toInt64) &&& (4294967295 : Int64)) <<< ((32 : Int32).toInt64 &&& 63)) ||| ((p1.toInt64) &&& (4294967295 : Int64)))), .second, .val (.long ((y2 <<< ((32 : Int32).toInt64 &&& 63)) ||| k2)), .second, .val (.int (0 : Int32)), .unset, .unset]) rfl ?_
          refine gLload X0 hx (hb hby at_191) rfl ?_
          refine gLload X0 hx (hb hby at_193) rfl ?_
          refine gLcmp X0 hx (hb hby at_195) ?_
          by_cases s7 : ((p0.toInt64) &&& (4294967295 : Int64)) < y2
          · refine gIfN X0 hx (hb hby at_196) (XT.ll_le_f s7) ?_
            show Goes p e below _ (s₁.setTop (mkF m 199 #[.val (.int p0), .val (.int p1), .val (.int p2), .val (.int p3), .val (.int p4), .val (.long (4294967295 : Int64)), .second, .val (.long ((p0.toInt64) &&& (4294967295 : Int64))), .second, .val (.long ((p1.toInt64) &&& (4294967295 : Int64))), .second, .val (.int (p4 &&& (3 : Int32))), .val (.int ((XT.ushr p4 (2 : Int32)) &&& (3 : Int32))), .val (.long y2), .second, .val (.long k2), .second, .val (.long ((((p0.toInt64) &&& (4294967295 : Int64)) <<< ((32 : Int32).toInt64 &&& 63)) ||| ((p1.toInt64) &&& (4294967295 : Int64)))), .second, .val (.long ((y2 <<< ((32 : Int32).toInt64 &&& 63)) ||| k2)), .second, .val (.int (0 : Int32)), .unset, .unset] []))
            refine gLload X0 hx (hb hby at_199) rfl ?_
            refine gLconst X0 hx (hb hby at_201) (v := (1 : Int64)) rfl ?_
            refine gLcmp X0 hx (hb hby at_202) ?_
            by_cases s8 : k2 = (1 : Int64)
            · refine gIfN X0 hx (hb hby at_203) (XT.ll_ne_f s8) ?_
              show Goes p e below _ (s₁.setTop (mkF m 206 #[.val (.int p0), .val (.int p1), .val (.int p2), .val (.int p3), .val (.int p4), .val (.long (4294967295 : Int64)), .second, .val (.long ((p0.toInt64) &&& (4294967295 : Int64))), .second, .val (.long ((p1.toInt64) &&& (4294967295 : Int64))), .second, .val (.int (p4 &&& (3 : Int32))), .val (.int ((XT.ushr p4 (2 : Int32)) &&& (3 : Int32))), .val (.long y2), .second, .val (.long k2), .second, .val (.long ((((p0.toInt64) &&& (4294967295 : Int64)) <<< ((32 : Int32).toInt64 &&& 63)) ||| ((p1.toInt64) &&& (4294967295 : Int64)))), .second, .val (.long ((y2 <<< ((32 : Int32).toInt64 &&& 63)) ||| k2)), .second, .val (.int (0 : Int32)), .unset, .unset] []))
              refine gIconst X0 hx (hb hby at_206) (v := (1 : Int32)) rfl ?_
              refine gGoto X0 hx (hb hby at_207) (pc' := 211) (by decide) (by decide) ?_
              show Goes p e below _ (s₁.setTop (mkF m 211 #[.val (.int p0), .val (.int p1), .val (.int p2), .val (.int p3), .val (.int p4), .val (.long (4294967295 : Int64)), .second, .val (.long ((p0.toInt64) &&& (4294967295 : Int64))), .second, .val (.long ((p1.toInt64) &&& (4294967295 : Int64))), .second, .val (.int (p4 &&& (3 : Int32))), .val (.int ((XT.ushr p4 (2 : Int32)) &&& (3 : Int32))), .val (.long y2), .second, .val (.long k2), .second, .val (.long ((((p0.toInt64) &&& (4294967295 : Int64)) <<< ((32 : Int32).toInt64 &&& 63)) ||| ((p1.toInt64) &&& (4294967295 : Int64)))), .second, .val (.long ((y2 <<< ((32 : Int32).toInt64 &&& 63)) ||| k2)), .second, .val (.int (0 : Int32)), .unset, .unset] [(.int (1 : Int32))]))
              refine gIstore X0 hx (hb hby at_211) (l' := #[.val (.int p0), .val (.int p1), .val (.int p2), .val (.int p3), .val (.int p4), .val (.long (4294967295 : Int64)), .second, .val (.long ((p0.toInt64) &&& (4294967295 : Int64))), .second, .val (.long ((p1.toInt64) &&& (4294967295 : Int64))), .second, .val (.int (p4 &&& (3 : Int32))), .val (.int ((XT.ushr p4 (2 : Int32)) &&& (3 : Int32))), .val (.long y2), .second, .val (.long k2), .second, .val (.long ((((p0.toInt64) &&& (4294967295 : Int64)) <<< ((32 : Int32).toInt64 &&& 63)) ||| ((p1.toInt64) &&& (4294967295 : Int64)))), .second, .val (.long ((y2 <<< ((32 : Int32).toInt64 &&& 63)) ||| k2)), .second, .val (.int (0 : Int32)), .val (.int (1 : Int32)), .unset]) rfl ?_
              refine gIload X0 hx (hb hby at_213) rfl ?_
              refine gIfN X0 hx (hb hby at_215) (XT.i0_ne_f (by decide)) ?_
              show Goes p e below _ (s₁.setTop (mkF m 218 #[.val (.int p0), .val (.int p1), .val (.int p2), .val (.int p3), .val (.int p4), .val (.long (4294967295 : Int64)), .second, .val (.long ((p0.toInt64) &&& (4294967295 : Int64))), .second, .val (.long ((p1.toInt64) &&& (4294967295 : Int64))), .second, .val (.int (p4 &&& (3 : Int32))), .val (.int ((XT.ushr p4 (2 : Int32)) &&& (3 : Int32))), .val (.long y2), .second, .val (.long k2), .second, .val (.long ((((p0.toInt64) &&& (4294967295 : Int64)) <<< ((32 : Int32).toInt64 &&& 63)) ||| ((p1.toInt64) &&& (4294967295 : Int64)))), .second, .val (.long ((y2 <<< ((32 : Int32).toInt64 &&& 63)) ||| k2)), .second, .val (.int (0 : Int32)), .val (.int (1 : Int32)), .unset] []))
              refine gIload X0 hx (hb hby at_218) rfl ?_
              refine gIfN X0 hx (hb hby at_220) (XT.i0_eq_f (by decide)) ?_
              show Goes p e below _ (s₁.setTop (mkF m 223 #[.val (.int p0), .val (.int p1), .val (.int p2), .val (.int p3), .val (.int p4), .val (.long (4294967295 : Int64)), .second, .val (.long ((p0.toInt64) &&& (4294967295 : Int64))), .second, .val (.long ((p1.toInt64) &&& (4294967295 : Int64))), .second, .val (.int (p4 &&& (3 : Int32))), .val (.int ((XT.ushr p4 (2 : Int32)) &&& (3 : Int32))), .val (.long y2), .second, .val (.long k2), .second, .val (.long ((((p0.toInt64) &&& (4294967295 : Int64)) <<< ((32 : Int32).toInt64 &&& 63)) ||| ((p1.toInt64) &&& (4294967295 : Int64)))), .second, .val (.long ((y2 <<< ((32 : Int32).toInt64 &&& 63)) ||| k2)), .second, .val (.int (0 : Int32)), .val (.int (1 : Int32)), .unset] []))
              refine gIconst X0 hx (hb hby at_223) (v := (1 : Int32)) rfl ?_
              refine gGoto X0 hx (hb hby at_224) (pc' := 228) (by decide) (by decide) ?_
              show Goes p e below _ (s₁.setTop (mkF m 228 #[.val (.int p0), .val (.int p1), .val (.int p2), .val (.int p3), .val (.int p4), .val (.long (4294967295 : Int64)), .second, .val (.long ((p0.toInt64) &&& (4294967295 : Int64))), .second, .val (.long ((p1.toInt64) &&& (4294967295 : Int64))), .second, .val (.int (p4 &&& (3 : Int32))), .val (.int ((XT.ushr p4 (2 : Int32)) &&& (3 : Int32))), .val (.long y2), .second, .val (.long k2), .second, .val (.long ((((p0.toInt64) &&& (4294967295 : Int64)) <<< ((32 : Int32).toInt64 &&& 63)) ||| ((p1.toInt64) &&& (4294967295 : Int64)))), .second, .val (.long ((y2 <<< ((32 : Int32).toInt64 &&& 63)) ||| k2)), .second, .val (.int (0 : Int32)), .val (.int (1 : Int32)), .unset] [(.int (1 : Int32))]))
              refine gIstore X0 hx (hb hby at_228) (l' := #[.val (.int p0), .val (.int p1), .val (.int p2), .val (.int p3), .val (.int p4), .val (.long (4294967295 : Int64)), .second, .val (.long ((p0.toInt64) &&& (4294967295 : Int64))), .second, .val (.long ((p1.toInt64) &&& (4294967295 : Int64))), .second, .val (.int (p4 &&& (3 : Int32))), .val (.int ((XT.ushr p4 (2 : Int32)) &&& (3 : Int32))), .val (.long y2), .second, .val (.long k2), .second, .val (.long ((((p0.toInt64) &&& (4294967295 : Int64)) <<< ((32 : Int32).toInt64 &&& 63)) ||| ((p1.toInt64) &&& (4294967295 : Int64)))), .second, .val (.long ((y2 <<< ((32 : Int32).toInt64 &&& 63)) ||| k2)), .second, .val (.int (0 : Int32)), .val (.int (1 : Int32)), .val (.int (1 : Int32))]) rfl ?_
              refine gLload X0 hx (hb hby at_230) rfl ?_
              refine gLload X0 hx (hb hby at_232) rfl ?_
              refine goCallS X0 hx hZ hown (hw _ (List.mem_of_getElem? (i := 1) rfl)) (hw _ (List.mem_of_getElem? (i := 2) rfl)) (hw _ (List.mem_of_getElem? (i := 3) rfl)) (hw _ (List.mem_of_getElem? (i := 4) rfl)) (by decide) (rm1 l Z a0 hw ((y2 <<< ((32 : Int32).toInt64 &&& 63)) ||| k2) ((((p0.toInt64) &&& (4294967295 : Int64)) <<< ((32 : Int32).toInt64 &&& 63)) ||| ((p1.toInt64) &&& (4294967295 : Int64))) h0 O0) 0 (by decide) (by decide) e0 (hsz rfl) [(.long ((y2 <<< ((32 : Int32).toInt64 &&& 63)) ||| k2)), (.long ((((p0.toInt64) &&& (4294967295 : Int64)) <<< ((32 : Int32).toInt64 &&& 63)) ||| ((p1.toInt64) &&& (4294967295 : Int64))))] [] pd_1 rfl rfl rfl (Nat.le_of_eq rfl) (hb hby at_234) (by decide) (by decide) (fun Tt19 vt19 Lt19 Xt19 qt19 => ?_)
              obtain ⟨rfl, N20, et19⟩ := qt19
              have N21 := Fr.app N0 N20
              show Goes p e below _ (Tt19.setTop (mkF m 237 #[.val (.int p0), .val (.int p1), .val (.int p2), .val (.int p3), .val (.int p4), .val (.long (4294967295 : Int64)), .second, .val (.long ((p0.toInt64) &&& (4294967295 : Int64))), .second, .val (.long ((p1.toInt64) &&& (4294967295 : Int64))), .second, .val (.int (p4 &&& (3 : Int32))), .val (.int ((XT.ushr p4 (2 : Int32)) &&& (3 : Int32))), .val (.long y2), .second, .val (.long k2), .second, .val (.long ((((p0.toInt64) &&& (4294967295 : Int64)) <<< ((32 : Int32).toInt64 &&& 63)) ||| ((p1.toInt64) &&& (4294967295 : Int64)))), .second, .val (.long ((y2 <<< ((32 : Int32).toInt64 &&& 63)) ||| k2)), .second, .val (.int (0 : Int32)), .val (.int (1 : Int32)), .val (.int (1 : Int32))] [(.int (own_fol ((y2 <<< ((32 : Int32).toInt64 &&& 63)) ||| k2) ((((p0.toInt64) &&& (4294967295 : Int64)) <<< ((32 : Int32).toInt64 &&& 63)) ||| ((p1.toInt64) &&& (4294967295 : Int64)))))]))
              refine gIload Xt19 hx (hb hby at_237) rfl ?_
              refine gIcmpN Xt19 hx (hb hby at_239) (XT.ii_ne_f (key.trans (if_pos (Or.inr ⟨s7, s8⟩)))) ?_
              show Goes p e below _ (Tt19.setTop (mkF m 242 #[.val (.int p0), .val (.int p1), .val (.int p2), .val (.int p3), .val (.int p4), .val (.long (4294967295 : Int64)), .second, .val (.long ((p0.toInt64) &&& (4294967295 : Int64))), .second, .val (.long ((p1.toInt64) &&& (4294967295 : Int64))), .second, .val (.int (p4 &&& (3 : Int32))), .val (.int ((XT.ushr p4 (2 : Int32)) &&& (3 : Int32))), .val (.long y2), .second, .val (.long k2), .second, .val (.long ((((p0.toInt64) &&& (4294967295 : Int64)) <<< ((32 : Int32).toInt64 &&& 63)) ||| ((p1.toInt64) &&& (4294967295 : Int64)))), .second, .val (.long ((y2 <<< ((32 : Int32).toInt64 &&& 63)) ||| k2)), .second, .val (.int (0 : Int32)), .val (.int (1 : Int32)), .val (.int (1 : Int32))] []))
              refine gIconst Xt19 hx (hb hby at_242) (v := (1 : Int32)) rfl ?_
              refine gGoto Xt19 hx (hb hby at_243) (pc' := 247) (by decide) (by decide) ?_
              show Goes p e below _ (Tt19.setTop (mkF m 247 #[.val (.int p0), .val (.int p1), .val (.int p2), .val (.int p3), .val (.int p4), .val (.long (4294967295 : Int64)), .second, .val (.long ((p0.toInt64) &&& (4294967295 : Int64))), .second, .val (.long ((p1.toInt64) &&& (4294967295 : Int64))), .second, .val (.int (p4 &&& (3 : Int32))), .val (.int ((XT.ushr p4 (2 : Int32)) &&& (3 : Int32))), .val (.long y2), .second, .val (.long k2), .second, .val (.long ((((p0.toInt64) &&& (4294967295 : Int64)) <<< ((32 : Int32).toInt64 &&& 63)) ||| ((p1.toInt64) &&& (4294967295 : Int64)))), .second, .val (.long ((y2 <<< ((32 : Int32).toInt64 &&& 63)) ||| k2)), .second, .val (.int (0 : Int32)), .val (.int (1 : Int32)), .val (.int (1 : Int32))] [(.int (1 : Int32))]))
              exact goRetN Xt19 hx (t := .boolean) hret hlocks (by simp) (hb hby at_247) (z' := (1 : Int32)) rfl (by decide) (by decide) et19 (⟨rfl, N21⟩)
            · refine gIfY X0 hx (hb hby at_203) (pc' := 210) (XT.ll_ne_t s8) (by decide) (by decide) ?_
              show Goes p e below _ (s₁.setTop (mkF m 210 #[.val (.int p0), .val (.int p1), .val (.int p2), .val (.int p3), .val (.int p4), .val (.long (4294967295 : Int64)), .second, .val (.long ((p0.toInt64) &&& (4294967295 : Int64))), .second, .val (.long ((p1.toInt64) &&& (4294967295 : Int64))), .second, .val (.int (p4 &&& (3 : Int32))), .val (.int ((XT.ushr p4 (2 : Int32)) &&& (3 : Int32))), .val (.long y2), .second, .val (.long k2), .second, .val (.long ((((p0.toInt64) &&& (4294967295 : Int64)) <<< ((32 : Int32).toInt64 &&& 63)) ||| ((p1.toInt64) &&& (4294967295 : Int64)))), .second, .val (.long ((y2 <<< ((32 : Int32).toInt64 &&& 63)) ||| k2)), .second, .val (.int (0 : Int32)), .unset, .unset] []))
              refine gIconst X0 hx (hb hby at_210) (v := (0 : Int32)) rfl ?_
              refine gIstore X0 hx (hb hby at_211) (l' := #[.val (.int p0), .val (.int p1), .val (.int p2), .val (.int p3), .val (.int p4), .val (.long (4294967295 : Int64)), .second, .val (.long ((p0.toInt64) &&& (4294967295 : Int64))), .second, .val (.long ((p1.toInt64) &&& (4294967295 : Int64))), .second, .val (.int (p4 &&& (3 : Int32))), .val (.int ((XT.ushr p4 (2 : Int32)) &&& (3 : Int32))), .val (.long y2), .second, .val (.long k2), .second, .val (.long ((((p0.toInt64) &&& (4294967295 : Int64)) <<< ((32 : Int32).toInt64 &&& 63)) ||| ((p1.toInt64) &&& (4294967295 : Int64)))), .second, .val (.long ((y2 <<< ((32 : Int32).toInt64 &&& 63)) ||| k2)), .second, .val (.int (0 : Int32)), .val (.int (0 : Int32)), .unset]) rfl ?_
              refine gIload X0 hx (hb hby at_213) rfl ?_
              refine gIfN X0 hx (hb hby at_215) (XT.i0_ne_f (by decide)) ?_
              show Goes p e below _ (s₁.setTop (mkF m 218 #[.val (.int p0), .val (.int p1), .val (.int p2), .val (.int p3), .val (.int p4), .val (.long (4294967295 : Int64)), .second, .val (.long ((p0.toInt64) &&& (4294967295 : Int64))), .second, .val (.long ((p1.toInt64) &&& (4294967295 : Int64))), .second, .val (.int (p4 &&& (3 : Int32))), .val (.int ((XT.ushr p4 (2 : Int32)) &&& (3 : Int32))), .val (.long y2), .second, .val (.long k2), .second, .val (.long ((((p0.toInt64) &&& (4294967295 : Int64)) <<< ((32 : Int32).toInt64 &&& 63)) ||| ((p1.toInt64) &&& (4294967295 : Int64)))), .second, .val (.long ((y2 <<< ((32 : Int32).toInt64 &&& 63)) ||| k2)), .second, .val (.int (0 : Int32)), .val (.int (0 : Int32)), .unset] []))
              refine gIload X0 hx (hb hby at_218) rfl ?_
              refine gIfY X0 hx (hb hby at_220) (pc' := 227) (XT.i0_eq_t (by decide)) (by decide) (by decide) ?_
              show Goes p e below _ (s₁.setTop (mkF m 227 #[.val (.int p0), .val (.int p1), .val (.int p2), .val (.int p3), .val (.int p4), .val (.long (4294967295 : Int64)), .second, .val (.long ((p0.toInt64) &&& (4294967295 : Int64))), .second, .val (.long ((p1.toInt64) &&& (4294967295 : Int64))), .second, .val (.int (p4 &&& (3 : Int32))), .val (.int ((XT.ushr p4 (2 : Int32)) &&& (3 : Int32))), .val (.long y2), .second, .val (.long k2), .second, .val (.long ((((p0.toInt64) &&& (4294967295 : Int64)) <<< ((32 : Int32).toInt64 &&& 63)) ||| ((p1.toInt64) &&& (4294967295 : Int64)))), .second, .val (.long ((y2 <<< ((32 : Int32).toInt64 &&& 63)) ||| k2)), .second, .val (.int (0 : Int32)), .val (.int (0 : Int32)), .unset] []))
              refine gIconst X0 hx (hb hby at_227) (v := (0 : Int32)) rfl ?_
              refine gIstore X0 hx (hb hby at_228) (l' := #[.val (.int p0), .val (.int p1), .val (.int p2), .val (.int p3), .val (.int p4), .val (.long (4294967295 : Int64)), .second, .val (.long ((p0.toInt64) &&& (4294967295 : Int64))), .second, .val (.long ((p1.toInt64) &&& (4294967295 : Int64))), .second, .val (.int (p4 &&& (3 : Int32))), .val (.int ((XT.ushr p4 (2 : Int32)) &&& (3 : Int32))), .val (.long y2), .second, .val (.long k2), .second, .val (.long ((((p0.toInt64) &&& (4294967295 : Int64)) <<< ((32 : Int32).toInt64 &&& 63)) ||| ((p1.toInt64) &&& (4294967295 : Int64)))), .second, .val (.long ((y2 <<< ((32 : Int32).toInt64 &&& 63)) ||| k2)), .second, .val (.int (0 : Int32)), .val (.int (0 : Int32)), .val (.int (0 : Int32))]) rfl ?_
              refine gLload X0 hx (hb hby at_230) rfl ?_
              refine gLload X0 hx (hb hby at_232) rfl ?_
              refine goCallS X0 hx hZ hown (hw _ (List.mem_of_getElem? (i := 1) rfl)) (hw _ (List.mem_of_getElem? (i := 2) rfl)) (hw _ (List.mem_of_getElem? (i := 3) rfl)) (hw _ (List.mem_of_getElem? (i := 4) rfl)) (by decide) (rm1 l Z a0 hw ((y2 <<< ((32 : Int32).toInt64 &&& 63)) ||| k2) ((((p0.toInt64) &&& (4294967295 : Int64)) <<< ((32 : Int32).toInt64 &&& 63)) ||| ((p1.toInt64) &&& (4294967295 : Int64))) h0 O0) 0 (by decide) (by decide) e0 (hsz rfl) [(.long ((y2 <<< ((32 : Int32).toInt64 &&& 63)) ||| k2)), (.long ((((p0.toInt64) &&& (4294967295 : Int64)) <<< ((32 : Int32).toInt64 &&& 63)) ||| ((p1.toInt64) &&& (4294967295 : Int64))))] [] pd_1 rfl rfl rfl (Nat.le_of_eq rfl) (hb hby at_234) (by decide) (by decide) (fun Tt22 vt22 Lt22 Xt22 qt22 => ?_)
              obtain ⟨rfl, N23, et22⟩ := qt22
              have N24 := Fr.app N0 N23
              show Goes p e below _ (Tt22.setTop (mkF m 237 #[.val (.int p0), .val (.int p1), .val (.int p2), .val (.int p3), .val (.int p4), .val (.long (4294967295 : Int64)), .second, .val (.long ((p0.toInt64) &&& (4294967295 : Int64))), .second, .val (.long ((p1.toInt64) &&& (4294967295 : Int64))), .second, .val (.int (p4 &&& (3 : Int32))), .val (.int ((XT.ushr p4 (2 : Int32)) &&& (3 : Int32))), .val (.long y2), .second, .val (.long k2), .second, .val (.long ((((p0.toInt64) &&& (4294967295 : Int64)) <<< ((32 : Int32).toInt64 &&& 63)) ||| ((p1.toInt64) &&& (4294967295 : Int64)))), .second, .val (.long ((y2 <<< ((32 : Int32).toInt64 &&& 63)) ||| k2)), .second, .val (.int (0 : Int32)), .val (.int (0 : Int32)), .val (.int (0 : Int32))] [(.int (own_fol ((y2 <<< ((32 : Int32).toInt64 &&& 63)) ||| k2) ((((p0.toInt64) &&& (4294967295 : Int64)) <<< ((32 : Int32).toInt64 &&& 63)) ||| ((p1.toInt64) &&& (4294967295 : Int64)))))]))
              refine gIload Xt22 hx (hb hby at_237) rfl ?_
              refine gIcmpN Xt22 hx (hb hby at_239) (XT.ii_ne_f (key.trans (if_neg (fun q => q.elim (fun z => s1 z.1) (fun z => s8 z.2))))) ?_
              show Goes p e below _ (Tt22.setTop (mkF m 242 #[.val (.int p0), .val (.int p1), .val (.int p2), .val (.int p3), .val (.int p4), .val (.long (4294967295 : Int64)), .second, .val (.long ((p0.toInt64) &&& (4294967295 : Int64))), .second, .val (.long ((p1.toInt64) &&& (4294967295 : Int64))), .second, .val (.int (p4 &&& (3 : Int32))), .val (.int ((XT.ushr p4 (2 : Int32)) &&& (3 : Int32))), .val (.long y2), .second, .val (.long k2), .second, .val (.long ((((p0.toInt64) &&& (4294967295 : Int64)) <<< ((32 : Int32).toInt64 &&& 63)) ||| ((p1.toInt64) &&& (4294967295 : Int64)))), .second, .val (.long ((y2 <<< ((32 : Int32).toInt64 &&& 63)) ||| k2)), .second, .val (.int (0 : Int32)), .val (.int (0 : Int32)), .val (.int (0 : Int32))] []))
              refine gIconst Xt22 hx (hb hby at_242) (v := (1 : Int32)) rfl ?_
              refine gGoto Xt22 hx (hb hby at_243) (pc' := 247) (by decide) (by decide) ?_
              show Goes p e below _ (Tt22.setTop (mkF m 247 #[.val (.int p0), .val (.int p1), .val (.int p2), .val (.int p3), .val (.int p4), .val (.long (4294967295 : Int64)), .second, .val (.long ((p0.toInt64) &&& (4294967295 : Int64))), .second, .val (.long ((p1.toInt64) &&& (4294967295 : Int64))), .second, .val (.int (p4 &&& (3 : Int32))), .val (.int ((XT.ushr p4 (2 : Int32)) &&& (3 : Int32))), .val (.long y2), .second, .val (.long k2), .second, .val (.long ((((p0.toInt64) &&& (4294967295 : Int64)) <<< ((32 : Int32).toInt64 &&& 63)) ||| ((p1.toInt64) &&& (4294967295 : Int64)))), .second, .val (.long ((y2 <<< ((32 : Int32).toInt64 &&& 63)) ||| k2)), .second, .val (.int (0 : Int32)), .val (.int (0 : Int32)), .val (.int (0 : Int32))] [(.int (1 : Int32))]))
              exact goRetN Xt22 hx (t := .boolean) hret hlocks (by simp) (hb hby at_247) (z' := (1 : Int32)) rfl (by decide) (by decide) et22 (⟨rfl, N24⟩)
          · refine gIfY X0 hx (hb hby at_196) (pc' := 210) (XT.ll_le_t s7) (by decide) (by decide) ?_
            show Goes p e below _ (s₁.setTop (mkF m 210 #[.val (.int p0), .val (.int p1), .val (.int p2), .val (.int p3), .val (.int p4), .val (.long (4294967295 : Int64)), .second, .val (.long ((p0.toInt64) &&& (4294967295 : Int64))), .second, .val (.long ((p1.toInt64) &&& (4294967295 : Int64))), .second, .val (.int (p4 &&& (3 : Int32))), .val (.int ((XT.ushr p4 (2 : Int32)) &&& (3 : Int32))), .val (.long y2), .second, .val (.long k2), .second, .val (.long ((((p0.toInt64) &&& (4294967295 : Int64)) <<< ((32 : Int32).toInt64 &&& 63)) ||| ((p1.toInt64) &&& (4294967295 : Int64)))), .second, .val (.long ((y2 <<< ((32 : Int32).toInt64 &&& 63)) ||| k2)), .second, .val (.int (0 : Int32)), .unset, .unset] []))
            refine gIconst X0 hx (hb hby at_210) (v := (0 : Int32)) rfl ?_
            refine gIstore X0 hx (hb hby at_211) (l' := #[.val (.int p0), .val (.int p1), .val (.int p2), .val (.int p3), .val (.int p4), .val (.long (4294967295 : Int64)), .second, .val (.long ((p0.toInt64) &&& (4294967295 : Int64))), .second, .val (.long ((p1.toInt64) &&& (4294967295 : Int64))), .second, .val (.int (p4 &&& (3 : Int32))), .val (.int ((XT.ushr p4 (2 : Int32)) &&& (3 : Int32))), .val (.long y2), .second, .val (.long k2), .second, .val (.long ((((p0.toInt64) &&& (4294967295 : Int64)) <<< ((32 : Int32).toInt64 &&& 63)) ||| ((p1.toInt64) &&& (4294967295 : Int64)))), .second, .val (.long ((y2 <<< ((32 : Int32).toInt64 &&& 63)) ||| k2)), .second, .val (.int (0 : Int32)), .val (.int (0 : Int32)), .unset]) rfl ?_
            refine gIload X0 hx (hb hby at_213) rfl ?_
            refine gIfN X0 hx (hb hby at_215) (XT.i0_ne_f (by decide)) ?_
            show Goes p e below _ (s₁.setTop (mkF m 218 #[.val (.int p0), .val (.int p1), .val (.int p2), .val (.int p3), .val (.int p4), .val (.long (4294967295 : Int64)), .second, .val (.long ((p0.toInt64) &&& (4294967295 : Int64))), .second, .val (.long ((p1.toInt64) &&& (4294967295 : Int64))), .second, .val (.int (p4 &&& (3 : Int32))), .val (.int ((XT.ushr p4 (2 : Int32)) &&& (3 : Int32))), .val (.long y2), .second, .val (.long k2), .second, .val (.long ((((p0.toInt64) &&& (4294967295 : Int64)) <<< ((32 : Int32).toInt64 &&& 63)) ||| ((p1.toInt64) &&& (4294967295 : Int64)))), .second, .val (.long ((y2 <<< ((32 : Int32).toInt64 &&& 63)) ||| k2)), .second, .val (.int (0 : Int32)), .val (.int (0 : Int32)), .unset] []))
            refine gIload X0 hx (hb hby at_218) rfl ?_
            refine gIfY X0 hx (hb hby at_220) (pc' := 227) (XT.i0_eq_t (by decide)) (by decide) (by decide) ?_
            show Goes p e below _ (s₁.setTop (mkF m 227 #[.val (.int p0), .val (.int p1), .val (.int p2), .val (.int p3), .val (.int p4), .val (.long (4294967295 : Int64)), .second, .val (.long ((p0.toInt64) &&& (4294967295 : Int64))), .second, .val (.long ((p1.toInt64) &&& (4294967295 : Int64))), .second, .val (.int (p4 &&& (3 : Int32))), .val (.int ((XT.ushr p4 (2 : Int32)) &&& (3 : Int32))), .val (.long y2), .second, .val (.long k2), .second, .val (.long ((((p0.toInt64) &&& (4294967295 : Int64)) <<< ((32 : Int32).toInt64 &&& 63)) ||| ((p1.toInt64) &&& (4294967295 : Int64)))), .second, .val (.long ((y2 <<< ((32 : Int32).toInt64 &&& 63)) ||| k2)), .second, .val (.int (0 : Int32)), .val (.int (0 : Int32)), .unset] []))
            refine gIconst X0 hx (hb hby at_227) (v := (0 : Int32)) rfl ?_
            refine gIstore X0 hx (hb hby at_228) (l' := #[.val (.int p0), .val (.int p1), .val (.int p2), .val (.int p3), .val (.int p4), .val (.long (4294967295 : Int64)), .second, .val (.long ((p0.toInt64) &&& (4294967295 : Int64))), .second, .val (.long ((p1.toInt64) &&& (4294967295 : Int64))), .second, .val (.int (p4 &&& (3 : Int32))), .val (.int ((XT.ushr p4 (2 : Int32)) &&& (3 : Int32))), .val (.long y2), .second, .val (.long k2), .second, .val (.long ((((p0.toInt64) &&& (4294967295 : Int64)) <<< ((32 : Int32).toInt64 &&& 63)) ||| ((p1.toInt64) &&& (4294967295 : Int64)))), .second, .val (.long ((y2 <<< ((32 : Int32).toInt64 &&& 63)) ||| k2)), .second, .val (.int (0 : Int32)), .val (.int (0 : Int32)), .val (.int (0 : Int32))]) rfl ?_
            refine gLload X0 hx (hb hby at_230) rfl ?_
            refine gLload X0 hx (hb hby at_232) rfl ?_
            refine goCallS X0 hx hZ hown (hw _ (List.mem_of_getElem? (i := 1) rfl)) (hw _ (List.mem_of_getElem? (i := 2) rfl)) (hw _ (List.mem_of_getElem? (i := 3) rfl)) (hw _ (List.mem_of_getElem? (i := 4) rfl)) (by decide) (rm1 l Z a0 hw ((y2 <<< ((32 : Int32).toInt64 &&& 63)) ||| k2) ((((p0.toInt64) &&& (4294967295 : Int64)) <<< ((32 : Int32).toInt64 &&& 63)) ||| ((p1.toInt64) &&& (4294967295 : Int64))) h0 O0) 0 (by decide) (by decide) e0 (hsz rfl) [(.long ((y2 <<< ((32 : Int32).toInt64 &&& 63)) ||| k2)), (.long ((((p0.toInt64) &&& (4294967295 : Int64)) <<< ((32 : Int32).toInt64 &&& 63)) ||| ((p1.toInt64) &&& (4294967295 : Int64))))] [] pd_1 rfl rfl rfl (Nat.le_of_eq rfl) (hb hby at_234) (by decide) (by decide) (fun Tt25 vt25 Lt25 Xt25 qt25 => ?_)
            obtain ⟨rfl, N26, et25⟩ := qt25
            have N27 := Fr.app N0 N26
            show Goes p e below _ (Tt25.setTop (mkF m 237 #[.val (.int p0), .val (.int p1), .val (.int p2), .val (.int p3), .val (.int p4), .val (.long (4294967295 : Int64)), .second, .val (.long ((p0.toInt64) &&& (4294967295 : Int64))), .second, .val (.long ((p1.toInt64) &&& (4294967295 : Int64))), .second, .val (.int (p4 &&& (3 : Int32))), .val (.int ((XT.ushr p4 (2 : Int32)) &&& (3 : Int32))), .val (.long y2), .second, .val (.long k2), .second, .val (.long ((((p0.toInt64) &&& (4294967295 : Int64)) <<< ((32 : Int32).toInt64 &&& 63)) ||| ((p1.toInt64) &&& (4294967295 : Int64)))), .second, .val (.long ((y2 <<< ((32 : Int32).toInt64 &&& 63)) ||| k2)), .second, .val (.int (0 : Int32)), .val (.int (0 : Int32)), .val (.int (0 : Int32))] [(.int (own_fol ((y2 <<< ((32 : Int32).toInt64 &&& 63)) ||| k2) ((((p0.toInt64) &&& (4294967295 : Int64)) <<< ((32 : Int32).toInt64 &&& 63)) ||| ((p1.toInt64) &&& (4294967295 : Int64)))))]))
            refine gIload Xt25 hx (hb hby at_237) rfl ?_
            refine gIcmpN Xt25 hx (hb hby at_239) (XT.ii_ne_f (key.trans (if_neg (fun q => q.elim (fun z => s1 z.1) (fun z => s7 z.1))))) ?_
            show Goes p e below _ (Tt25.setTop (mkF m 242 #[.val (.int p0), .val (.int p1), .val (.int p2), .val (.int p3), .val (.int p4), .val (.long (4294967295 : Int64)), .second, .val (.long ((p0.toInt64) &&& (4294967295 : Int64))), .second, .val (.long ((p1.toInt64) &&& (4294967295 : Int64))), .second, .val (.int (p4 &&& (3 : Int32))), .val (.int ((XT.ushr p4 (2 : Int32)) &&& (3 : Int32))), .val (.long y2), .second, .val (.long k2), .second, .val (.long ((((p0.toInt64) &&& (4294967295 : Int64)) <<< ((32 : Int32).toInt64 &&& 63)) ||| ((p1.toInt64) &&& (4294967295 : Int64)))), .second, .val (.long ((y2 <<< ((32 : Int32).toInt64 &&& 63)) ||| k2)), .second, .val (.int (0 : Int32)), .val (.int (0 : Int32)), .val (.int (0 : Int32))] []))
            refine gIconst Xt25 hx (hb hby at_242) (v := (1 : Int32)) rfl ?_
            refine gGoto Xt25 hx (hb hby at_243) (pc' := 247) (by decide) (by decide) ?_
            show Goes p e below _ (Tt25.setTop (mkF m 247 #[.val (.int p0), .val (.int p1), .val (.int p2), .val (.int p3), .val (.int p4), .val (.long (4294967295 : Int64)), .second, .val (.long ((p0.toInt64) &&& (4294967295 : Int64))), .second, .val (.long ((p1.toInt64) &&& (4294967295 : Int64))), .second, .val (.int (p4 &&& (3 : Int32))), .val (.int ((XT.ushr p4 (2 : Int32)) &&& (3 : Int32))), .val (.long y2), .second, .val (.long k2), .second, .val (.long ((((p0.toInt64) &&& (4294967295 : Int64)) <<< ((32 : Int32).toInt64 &&& 63)) ||| ((p1.toInt64) &&& (4294967295 : Int64)))), .second, .val (.long ((y2 <<< ((32 : Int32).toInt64 &&& 63)) ||| k2)), .second, .val (.int (0 : Int32)), .val (.int (0 : Int32)), .val (.int (0 : Int32))] [(.int (1 : Int32))]))
            exact goRetN Xt25 hx (t := .boolean) hret hlocks (by simp) (hb hby at_247) (z' := (1 : Int32)) rfl (by decide) (by decide) et25 (⟨rfl, N27⟩)
    refine gIload X0 hx (hb hby at_88) rfl ?_
    by_cases m9 : ((XT.ushr p4 (2 : Int32)) &&& (3 : Int32)) = 0
    · refine gIfN X0 hx (hb hby at_90) (XT.i0_ne_f m9) ?_
      show Goes p e below _ (s₁.setTop (mkF m 93 #[.val (.int p0), .val (.int p1), .val (.int p2), .val (.int p3), .val (.int p4), .val (.long (4294967295 : Int64)), .second, .val (.long ((p0.toInt64) &&& (4294967295 : Int64))), .second, .val (.long ((p1.toInt64) &&& (4294967295 : Int64))), .second, .val (.int (p4 &&& (3 : Int32))), .val (.int ((XT.ushr p4 (2 : Int32)) &&& (3 : Int32))), .val (.long y2), .second, .unset, .unset, .unset, .unset, .unset, .unset, .unset, .unset, .unset] []))
      refine gLload X0 hx (hb hby at_93) rfl ?_
      refine gLconst X0 hx (hb hby at_95) (v := (1 : Int64)) rfl ?_
      refine gLadd X0 hx (hb hby at_96) ?_
      refine gLload X0 hx (hb hby at_97) rfl ?_
      refine gLand X0 hx (hb hby at_99) ?_
      refine gLstore X0 hx (hb hby at_100) (l' := #[.val (.int p0), .val (.int p1), .val (.int p2), .val (.int p3), .val (.int p4), .val (.long (4294967295 : Int64)), .second, .val (.long ((p0.toInt64) &&& (4294967295 : Int64))), .second, .val (.long ((p1.toInt64) &&& (4294967295 : Int64))), .second, .val (.int (p4 &&& (3 : Int32))), .val (.int ((XT.ushr p4 (2 : Int32)) &&& (3 : Int32))), .val (.long y2), .second, .val (.long ((((p1.toInt64) &&& (4294967295 : Int64)) + (1 : Int64)) &&& (4294967295 : Int64))), .second, .unset, .unset, .unset, .unset, .unset, .unset, .unset]) rfl ?_
      refine gGoto X0 hx (hb hby at_102) (pc' := 137) (by decide) (by decide) ?_
      show Goes p e below _ (s₁.setTop (mkF m 137 #[.val (.int p0), .val (.int p1), .val (.int p2), .val (.int p3), .val (.int p4), .val (.long (4294967295 : Int64)), .second, .val (.long ((p0.toInt64) &&& (4294967295 : Int64))), .second, .val (.long ((p1.toInt64) &&& (4294967295 : Int64))), .second, .val (.int (p4 &&& (3 : Int32))), .val (.int ((XT.ushr p4 (2 : Int32)) &&& (3 : Int32))), .val (.long y2), .second, .val (.long ((((p1.toInt64) &&& (4294967295 : Int64)) + (1 : Int64)) &&& (4294967295 : Int64))), .second, .unset, .unset, .unset, .unset, .unset, .unset, .unset] []))
      exact J2 _ (own_mb _).1 (own_mb _).2
    · refine gIfY X0 hx (hb hby at_90) (pc' := 105) (XT.i0_ne_t m9) (by decide) (by decide) ?_
      show Goes p e below _ (s₁.setTop (mkF m 105 #[.val (.int p0), .val (.int p1), .val (.int p2), .val (.int p3), .val (.int p4), .val (.long (4294967295 : Int64)), .second, .val (.long ((p0.toInt64) &&& (4294967295 : Int64))), .second, .val (.long ((p1.toInt64) &&& (4294967295 : Int64))), .second, .val (.int (p4 &&& (3 : Int32))), .val (.int ((XT.ushr p4 (2 : Int32)) &&& (3 : Int32))), .val (.long y2), .second, .unset, .unset, .unset, .unset, .unset, .unset, .unset, .unset, .unset] []))
      refine gIload X0 hx (hb hby at_105) rfl ?_
      refine gIconst X0 hx (hb hby at_107) (v := (1 : Int32)) rfl ?_
      by_cases m10 : ((XT.ushr p4 (2 : Int32)) &&& (3 : Int32)) = (1 : Int32)
      · refine gIcmpN X0 hx (hb hby at_108) (XT.ii_ne_f m10) ?_
        show Goes p e below _ (s₁.setTop (mkF m 111 #[.val (.int p0), .val (.int p1), .val (.int p2), .val (.int p3), .val (.int p4), .val (.long (4294967295 : Int64)), .second, .val (.long ((p0.toInt64) &&& (4294967295 : Int64))), .second, .val (.long ((p1.toInt64) &&& (4294967295 : Int64))), .second, .val (.int (p4 &&& (3 : Int32))), .val (.int ((XT.ushr p4 (2 : Int32)) &&& (3 : Int32))), .val (.long y2), .second, .unset, .unset, .unset, .unset, .unset, .unset, .unset, .unset, .unset] []))
        refine gLconst X0 hx (hb hby at_111) (v := (1 : Int64)) rfl ?_
        refine gLstore X0 hx (hb hby at_112) (l' := #[.val (.int p0), .val (.int p1), .val (.int p2), .val (.int p3), .val (.int p4), .val (.long (4294967295 : Int64)), .second, .val (.long ((p0.toInt64) &&& (4294967295 : Int64))), .second, .val (.long ((p1.toInt64) &&& (4294967295 : Int64))), .second, .val (.int (p4 &&& (3 : Int32))), .val (.int ((XT.ushr p4 (2 : Int32)) &&& (3 : Int32))), .val (.long y2), .second, .val (.long (1 : Int64)), .second, .unset, .unset, .unset, .unset, .unset, .unset, .unset]) rfl ?_
        refine gGoto X0 hx (hb hby at_114) (pc' := 137) (by decide) (by decide) ?_
        show Goes p e below _ (s₁.setTop (mkF m 137 #[.val (.int p0), .val (.int p1), .val (.int p2), .val (.int p3), .val (.int p4), .val (.long (4294967295 : Int64)), .second, .val (.long ((p0.toInt64) &&& (4294967295 : Int64))), .second, .val (.long ((p1.toInt64) &&& (4294967295 : Int64))), .second, .val (.int (p4 &&& (3 : Int32))), .val (.int ((XT.ushr p4 (2 : Int32)) &&& (3 : Int32))), .val (.long y2), .second, .val (.long (1 : Int64)), .second, .unset, .unset, .unset, .unset, .unset, .unset, .unset] []))
        exact J2 _ (by decide) (by decide)
      · refine gIcmpY X0 hx (hb hby at_108) (pc' := 117) (XT.ii_ne_t m10) (by decide) (by decide) ?_
        show Goes p e below _ (s₁.setTop (mkF m 117 #[.val (.int p0), .val (.int p1), .val (.int p2), .val (.int p3), .val (.int p4), .val (.long (4294967295 : Int64)), .second, .val (.long ((p0.toInt64) &&& (4294967295 : Int64))), .second, .val (.long ((p1.toInt64) &&& (4294967295 : Int64))), .second, .val (.int (p4 &&& (3 : Int32))), .val (.int ((XT.ushr p4 (2 : Int32)) &&& (3 : Int32))), .val (.long y2), .second, .unset, .unset, .unset, .unset, .unset, .unset, .unset, .unset, .unset] []))
        refine gIload X0 hx (hb hby at_117) rfl ?_
        refine gIconst X0 hx (hb hby at_119) (v := (2 : Int32)) rfl ?_
        by_cases m11 : ((XT.ushr p4 (2 : Int32)) &&& (3 : Int32)) = (2 : Int32)
        · refine gIcmpN X0 hx (hb hby at_120) (XT.ii_ne_f m11) ?_
          show Goes p e below _ (s₁.setTop (mkF m 123 #[.val (.int p0), .val (.int p1), .val (.int p2), .val (.int p3), .val (.int p4), .val (.long (4294967295 : Int64)), .second, .val (.long ((p0.toInt64) &&& (4294967295 : Int64))), .second, .val (.long ((p1.toInt64) &&& (4294967295 : Int64))), .second, .val (.int (p4 &&& (3 : Int32))), .val (.int ((XT.ushr p4 (2 : Int32)) &&& (3 : Int32))), .val (.long y2), .second, .unset, .unset, .unset, .unset, .unset, .unset, .unset, .unset, .unset] []))
          refine gLload X0 hx (hb hby at_123) rfl ?_
          refine gLstore X0 hx (hb hby at_125) (l' := #[.val (.int p0), .val (.int p1), .val (.int p2), .val (.int p3), .val (.int p4), .val (.long (4294967295 : Int64)), .second, .val (.long ((p0.toInt64) &&& (4294967295 : Int64))), .second, .val (.long ((p1.toInt64) &&& (4294967295 : Int64))), .second, .val (.int (p4 &&& (3 : Int32))), .val (.int ((XT.ushr p4 (2 : Int32)) &&& (3 : Int32))), .val (.long y2), .second, .val (.long ((p1.toInt64) &&& (4294967295 : Int64))), .second, .unset, .unset, .unset, .unset, .unset, .unset, .unset]) rfl ?_
          refine gGoto X0 hx (hb hby at_127) (pc' := 137) (by decide) (by decide) ?_
          show Goes p e below _ (s₁.setTop (mkF m 137 #[.val (.int p0), .val (.int p1), .val (.int p2), .val (.int p3), .val (.int p4), .val (.long (4294967295 : Int64)), .second, .val (.long ((p0.toInt64) &&& (4294967295 : Int64))), .second, .val (.long ((p1.toInt64) &&& (4294967295 : Int64))), .second, .val (.int (p4 &&& (3 : Int32))), .val (.int ((XT.ushr p4 (2 : Int32)) &&& (3 : Int32))), .val (.long y2), .second, .val (.long ((p1.toInt64) &&& (4294967295 : Int64))), .second, .unset, .unset, .unset, .unset, .unset, .unset, .unset] []))
          exact J2 _ B2.1 B2.2
        · refine gIcmpY X0 hx (hb hby at_120) (pc' := 130) (XT.ii_ne_t m11) (by decide) (by decide) ?_
          show Goes p e below _ (s₁.setTop (mkF m 130 #[.val (.int p0), .val (.int p1), .val (.int p2), .val (.int p3), .val (.int p4), .val (.long (4294967295 : Int64)), .second, .val (.long ((p0.toInt64) &&& (4294967295 : Int64))), .second, .val (.long ((p1.toInt64) &&& (4294967295 : Int64))), .second, .val (.int (p4 &&& (3 : Int32))), .val (.int ((XT.ushr p4 (2 : Int32)) &&& (3 : Int32))), .val (.long y2), .second, .unset, .unset, .unset, .unset, .unset, .unset, .unset, .unset, .unset] []))
          refine gIloadN X0 hx (hb hby at_130) rfl ?_
          refine gI2l X0 hx (hb hby at_131) ?_
          refine gLload X0 hx (hb hby at_132) rfl ?_
          refine gLand X0 hx (hb hby at_134) ?_
          refine gLstore X0 hx (hb hby at_135) (l' := #[.val (.int p0), .val (.int p1), .val (.int p2), .val (.int p3), .val (.int p4), .val (.long (4294967295 : Int64)), .second, .val (.long ((p0.toInt64) &&& (4294967295 : Int64))), .second, .val (.long ((p1.toInt64) &&& (4294967295 : Int64))), .second, .val (.int (p4 &&& (3 : Int32))), .val (.int ((XT.ushr p4 (2 : Int32)) &&& (3 : Int32))), .val (.long y2), .second, .val (.long ((p3.toInt64) &&& (4294967295 : Int64))), .second, .unset, .unset, .unset, .unset, .unset, .unset, .unset]) rfl ?_
          exact J2 _ (own_mb _).1 (own_mb _).2
  by_cases m12 : (p4 &&& (3 : Int32)) = 0
  · refine gIfN X0 hx (hb hby at_35) (XT.i0_ne_f m12) ?_
    show Goes p e below _ (s₁.setTop (mkF m 38 #[.val (.int p0), .val (.int p1), .val (.int p2), .val (.int p3), .val (.int p4), .val (.long (4294967295 : Int64)), .second, .val (.long ((p0.toInt64) &&& (4294967295 : Int64))), .second, .val (.long ((p1.toInt64) &&& (4294967295 : Int64))), .second, .val (.int (p4 &&& (3 : Int32))), .val (.int ((XT.ushr p4 (2 : Int32)) &&& (3 : Int32))), .unset, .unset, .unset, .unset, .unset, .unset, .unset, .unset, .unset, .unset, .unset] []))
    refine gLload X0 hx (hb hby at_38) rfl ?_
    refine gLstore X0 hx (hb hby at_40) (l' := #[.val (.int p0), .val (.int p1), .val (.int p2), .val (.int p3), .val (.int p4), .val (.long (4294967295 : Int64)), .second, .val (.long ((p0.toInt64) &&& (4294967295 : Int64))), .second, .val (.long ((p1.toInt64) &&& (4294967295 : Int64))), .second, .val (.int (p4 &&& (3 : Int32))), .val (.int ((XT.ushr p4 (2 : Int32)) &&& (3 : Int32))), .val (.long ((p0.toInt64) &&& (4294967295 : Int64))), .second, .unset, .unset, .unset, .unset, .unset, .unset, .unset, .unset, .unset]) rfl ?_
    refine gGoto X0 hx (hb hby at_42) (pc' := 88) (by decide) (by decide) ?_
    show Goes p e below _ (s₁.setTop (mkF m 88 #[.val (.int p0), .val (.int p1), .val (.int p2), .val (.int p3), .val (.int p4), .val (.long (4294967295 : Int64)), .second, .val (.long ((p0.toInt64) &&& (4294967295 : Int64))), .second, .val (.long ((p1.toInt64) &&& (4294967295 : Int64))), .second, .val (.int (p4 &&& (3 : Int32))), .val (.int ((XT.ushr p4 (2 : Int32)) &&& (3 : Int32))), .val (.long ((p0.toInt64) &&& (4294967295 : Int64))), .second, .unset, .unset, .unset, .unset, .unset, .unset, .unset, .unset, .unset] []))
    exact J1 _ B1.1 B1.2
  · refine gIfY X0 hx (hb hby at_35) (pc' := 45) (XT.i0_ne_t m12) (by decide) (by decide) ?_
    show Goes p e below _ (s₁.setTop (mkF m 45 #[.val (.int p0), .val (.int p1), .val (.int p2), .val (.int p3), .val (.int p4), .val (.long (4294967295 : Int64)), .second, .val (.long ((p0.toInt64) &&& (4294967295 : Int64))), .second, .val (.long ((p1.toInt64) &&& (4294967295 : Int64))), .second, .val (.int (p4 &&& (3 : Int32))), .val (.int ((XT.ushr p4 (2 : Int32)) &&& (3 : Int32))), .unset, .unset, .unset, .unset, .unset, .unset, .unset, .unset, .unset, .unset, .unset] []))
    refine gIload X0 hx (hb hby at_45) rfl ?_
    refine gIconst X0 hx (hb hby at_47) (v := (1 : Int32)) rfl ?_
    by_cases m13 : (p4 &&& (3 : Int32)) = (1 : Int32)
    · refine gIcmpN X0 hx (hb hby at_48) (XT.ii_ne_f m13) ?_
      show Goes p e below _ (s₁.setTop (mkF m 51 #[.val (.int p0), .val (.int p1), .val (.int p2), .val (.int p3), .val (.int p4), .val (.long (4294967295 : Int64)), .second, .val (.long ((p0.toInt64) &&& (4294967295 : Int64))), .second, .val (.long ((p1.toInt64) &&& (4294967295 : Int64))), .second, .val (.int (p4 &&& (3 : Int32))), .val (.int ((XT.ushr p4 (2 : Int32)) &&& (3 : Int32))), .unset, .unset, .unset, .unset, .unset, .unset, .unset, .unset, .unset, .unset, .unset] []))
      refine gLload X0 hx (hb hby at_51) rfl ?_
      refine gLconst X0 hx (hb hby at_53) (v := (1 : Int64)) rfl ?_
      refine gLadd X0 hx (hb hby at_54) ?_
      refine gLload X0 hx (hb hby at_55) rfl ?_
      refine gLand X0 hx (hb hby at_57) ?_
      refine gLstore X0 hx (hb hby at_58) (l' := #[.val (.int p0), .val (.int p1), .val (.int p2), .val (.int p3), .val (.int p4), .val (.long (4294967295 : Int64)), .second, .val (.long ((p0.toInt64) &&& (4294967295 : Int64))), .second, .val (.long ((p1.toInt64) &&& (4294967295 : Int64))), .second, .val (.int (p4 &&& (3 : Int32))), .val (.int ((XT.ushr p4 (2 : Int32)) &&& (3 : Int32))), .val (.long ((((p0.toInt64) &&& (4294967295 : Int64)) + (1 : Int64)) &&& (4294967295 : Int64))), .second, .unset, .unset, .unset, .unset, .unset, .unset, .unset, .unset, .unset]) rfl ?_
      refine gGoto X0 hx (hb hby at_60) (pc' := 88) (by decide) (by decide) ?_
      show Goes p e below _ (s₁.setTop (mkF m 88 #[.val (.int p0), .val (.int p1), .val (.int p2), .val (.int p3), .val (.int p4), .val (.long (4294967295 : Int64)), .second, .val (.long ((p0.toInt64) &&& (4294967295 : Int64))), .second, .val (.long ((p1.toInt64) &&& (4294967295 : Int64))), .second, .val (.int (p4 &&& (3 : Int32))), .val (.int ((XT.ushr p4 (2 : Int32)) &&& (3 : Int32))), .val (.long ((((p0.toInt64) &&& (4294967295 : Int64)) + (1 : Int64)) &&& (4294967295 : Int64))), .second, .unset, .unset, .unset, .unset, .unset, .unset, .unset, .unset, .unset] []))
      exact J1 _ (own_mb _).1 (own_mb _).2
    · refine gIcmpY X0 hx (hb hby at_48) (pc' := 63) (XT.ii_ne_t m13) (by decide) (by decide) ?_
      show Goes p e below _ (s₁.setTop (mkF m 63 #[.val (.int p0), .val (.int p1), .val (.int p2), .val (.int p3), .val (.int p4), .val (.long (4294967295 : Int64)), .second, .val (.long ((p0.toInt64) &&& (4294967295 : Int64))), .second, .val (.long ((p1.toInt64) &&& (4294967295 : Int64))), .second, .val (.int (p4 &&& (3 : Int32))), .val (.int ((XT.ushr p4 (2 : Int32)) &&& (3 : Int32))), .unset, .unset, .unset, .unset, .unset, .unset, .unset, .unset, .unset, .unset, .unset] []))
      refine gIload X0 hx (hb hby at_63) rfl ?_
      refine gIconst X0 hx (hb hby at_65) (v := (2 : Int32)) rfl ?_
      by_cases m14 : (p4 &&& (3 : Int32)) = (2 : Int32)
      · refine gIcmpN X0 hx (hb hby at_66) (XT.ii_ne_f m14) ?_
        show Goes p e below _ (s₁.setTop (mkF m 69 #[.val (.int p0), .val (.int p1), .val (.int p2), .val (.int p3), .val (.int p4), .val (.long (4294967295 : Int64)), .second, .val (.long ((p0.toInt64) &&& (4294967295 : Int64))), .second, .val (.long ((p1.toInt64) &&& (4294967295 : Int64))), .second, .val (.int (p4 &&& (3 : Int32))), .val (.int ((XT.ushr p4 (2 : Int32)) &&& (3 : Int32))), .unset, .unset, .unset, .unset, .unset, .unset, .unset, .unset, .unset, .unset, .unset] []))
        refine gLload X0 hx (hb hby at_69) rfl ?_
        refine gLconst X0 hx (hb hby at_71) (v := (1 : Int64)) rfl ?_
        refine gLsub X0 hx (hb hby at_72) ?_
        refine gLload X0 hx (hb hby at_73) rfl ?_
        refine gLand X0 hx (hb hby at_75) ?_
        refine gLstore X0 hx (hb hby at_76) (l' := #[.val (.int p0), .val (.int p1), .val (.int p2), .val (.int p3), .val (.int p4), .val (.long (4294967295 : Int64)), .second, .val (.long ((p0.toInt64) &&& (4294967295 : Int64))), .second, .val (.long ((p1.toInt64) &&& (4294967295 : Int64))), .second, .val (.int (p4 &&& (3 : Int32))), .val (.int ((XT.ushr p4 (2 : Int32)) &&& (3 : Int32))), .val (.long ((((p0.toInt64) &&& (4294967295 : Int64)) - (1 : Int64)) &&& (4294967295 : Int64))), .second, .unset, .unset, .unset, .unset, .unset, .unset, .unset, .unset, .unset]) rfl ?_
        refine gGoto X0 hx (hb hby at_78) (pc' := 88) (by decide) (by decide) ?_
        show Goes p e below _ (s₁.setTop (mkF m 88 #[.val (.int p0), .val (.int p1), .val (.int p2), .val (.int p3), .val (.int p4), .val (.long (4294967295 : Int64)), .second, .val (.long ((p0.toInt64) &&& (4294967295 : Int64))), .second, .val (.long ((p1.toInt64) &&& (4294967295 : Int64))), .second, .val (.int (p4 &&& (3 : Int32))), .val (.int ((XT.ushr p4 (2 : Int32)) &&& (3 : Int32))), .val (.long ((((p0.toInt64) &&& (4294967295 : Int64)) - (1 : Int64)) &&& (4294967295 : Int64))), .second, .unset, .unset, .unset, .unset, .unset, .unset, .unset, .unset, .unset] []))
        exact J1 _ (own_mb _).1 (own_mb _).2
      · refine gIcmpY X0 hx (hb hby at_66) (pc' := 81) (XT.ii_ne_t m14) (by decide) (by decide) ?_
        show Goes p e below _ (s₁.setTop (mkF m 81 #[.val (.int p0), .val (.int p1), .val (.int p2), .val (.int p3), .val (.int p4), .val (.long (4294967295 : Int64)), .second, .val (.long ((p0.toInt64) &&& (4294967295 : Int64))), .second, .val (.long ((p1.toInt64) &&& (4294967295 : Int64))), .second, .val (.int (p4 &&& (3 : Int32))), .val (.int ((XT.ushr p4 (2 : Int32)) &&& (3 : Int32))), .unset, .unset, .unset, .unset, .unset, .unset, .unset, .unset, .unset, .unset, .unset] []))
        refine gIloadN X0 hx (hb hby at_81) rfl ?_
        refine gI2l X0 hx (hb hby at_82) ?_
        refine gLload X0 hx (hb hby at_83) rfl ?_
        refine gLand X0 hx (hb hby at_85) ?_
        refine gLstore X0 hx (hb hby at_86) (l' := #[.val (.int p0), .val (.int p1), .val (.int p2), .val (.int p3), .val (.int p4), .val (.long (4294967295 : Int64)), .second, .val (.long ((p0.toInt64) &&& (4294967295 : Int64))), .second, .val (.long ((p1.toInt64) &&& (4294967295 : Int64))), .second, .val (.int (p4 &&& (3 : Int32))), .val (.int ((XT.ushr p4 (2 : Int32)) &&& (3 : Int32))), .val (.long ((p2.toInt64) &&& (4294967295 : Int64))), .second, .unset, .unset, .unset, .unset, .unset, .unset, .unset, .unset, .unset]) rfl ?_
        exact J1 _ (own_mb _).1 (own_mb _).2
set_option maxRecDepth 65536 in
set_option maxHeartbeats 40000000 in
theorem comes_1 {Post : Tables → Env → Array Value → State → Outcome → State → Prop} (hpost : ∀ tb e args s v u, (limb_1_1.after args s (.returned v) u = true ∧ limb_1_2.after args s (.returned v) u = true ∧ True) → FrameEnd s (.returned v) u (Jvm.fieldLocs frame_1_writes args s ++ Jvm.arrayLocs frame_1_arrays args s ++ Jvm.staticLocs frame_1_statics s) 0 0 → Post tb e args s (.returned v) u) :
    ArmFor flags0 classFile x code maxLocals ret World_1 tables_1 room_1 Calls_1 rest_1 Pre_1 Post := by
  intro l hfl _ _ p e ha hc hk s m args below hf hA hF happ hP
  obtain ⟨hcalls, hrest, hpre⟩ := hP
  obtain ⟨-, -, -, hnamed, -, -, -, hat⟩ := (Spec.applies_iff hf).mp happ
  obtain ⟨hg, hn⟩ := and_e (Cond.before_iff.mp (show (Jvm.Cond.and given_1 narrow_1).before args s = true from hpre))
  obtain ⟨hc0, r0⟩ := and_e hg
  obtain ⟨c0, r1⟩ := and_e r0
  obtain ⟨c1, r2⟩ := and_e r1
  obtain ⟨c2, r3⟩ := and_e r2
  obtain ⟨c3, r4⟩ := and_e r3
  have c4 := r4
  obtain ⟨w0, w1, w2, w3, w4, rfl⟩ : ∃ w0 w1 w2 w3 w4 : Value, args = #[w0, w1, w2, w3, w4] := by
    have hs : args.size = 5 := by simpa [Cond.value, given_1] using hc0
    obtain ⟨L⟩ := args
    match L, hs with
    | [w0, w1, w2, w3, w4], _ => exact ⟨w0, w1, w2, w3, w4, rfl⟩
  have hw := fun d (hd : d ∈ tables_1) => atoms_spec (ws := Jvm.Cond.code x code maxLocals ret :: tables_1) hat d (List.mem_cons_of_mem _ hd)
  have hfit : Fit s := fun {y c} hc i hi => by
    obtain ⟨ha, rfl⟩ := Array.getElem?_eq_some_iff.mp hc
    have q := List.all_eq_true.mp ((Array.all_eq_true_iff_forall_mem.mp hF) _ (Array.getElem_mem ha)) i (List.mem_range.mpr hi)
    simpa [Array.getElem?_eq_getElem hi] using q
  obtain ⟨x0, y0⟩ := is_v c0
  obtain rfl : w0 = (.int x0) := Option.some.inj y0
  obtain ⟨x1, y1⟩ := is_v c1
  obtain rfl : w1 = (.int x1) := Option.some.inj y1
  obtain ⟨x2, y2⟩ := is_v c2
  obtain rfl : w2 = (.int x2) := Option.some.inj y2
  obtain ⟨x3, y3⟩ := is_v c3
  obtain rfl : w3 = (.int x3) := Option.some.inj y3
  obtain ⟨x4, y4⟩ := is_v c4
  obtain rfl : w4 = (.int x4) := Option.some.inj y4
  obtain ⟨n, o, h1, h2, h3, _, L, rfl, ⟨rfl, N⟩, hq⟩ := rm0 l s _ hw x0 x1 x2 x3 x4 s.heap ⟨Nat.le_refl _, fun _ _ q => q⟩  p e ha hc hk s m _ below hf ((Spec.applies_iff_loose hf).mp happ).1 ⟨rfl, State.Warmed39.refl s, rfl⟩ trivial
  refine ⟨n, _, h1, h2, h3, hpost _ _ _ _ _ _ ⟨Cond.after_iff.mpr rfl, Cond.after_iff.mpr (eq_i res_at (Term.int_eval (1)) rfl), trivial⟩ ⟨hq.1, hq.2.1, (hq.2.2.sift fun y hy => Or.inr (N y hy)).mono (by decide) (by decide)⟩⟩
theorem main_1_1 : Claimed_1_1 := comes_1 fun _ _ _ _ _ _ h hF => ⟨h.1, hF⟩
theorem main_1_2 : Claimed_1_2 := comes_1 fun _ _ _ _ _ _ h hF => ⟨h.2.1, hF⟩
end Jvm.Pilot.@@N@@
namespace Jvm.Pilot.@@N@@
open Jvm Jvm.ClassFile Sem Op Lib Jvm.Free Jvm.Stand Jvm.Pilot.@@N@@.Jvm.D
/-! MADE BY PROGRAM (witnessworld.py) out of the Statement's table words and the real class files: 9 classes; the members and pool entries that the words name. The judged class is class 1, her method 1. -/
namespace start1
open Jvm.ClassFile
def u (s : String) : CpInfo := .utf8 (stringToUtf16 s)
/-- a pool by its gaps: so many unusable entries, then the entry; so many at the end -/
def gap : Nat → List CpInfo → List CpInfo
  | 0, r => r
  | n + 1, r => .unusable :: gap n r
def poolList (es : List (Nat × CpInfo)) (last : Nat) : List CpInfo := es.foldr (fun e r => gap e.1 (e.2 :: r)) (gap last [])
def pool (es : List (Nat × CpInfo)) (last : Nat) : Array CpInfo := ⟨poolList es last⟩
def fileOf (pool : Array CpInfo) (this : Nat) (attrs : Array Attribute := #[]) (ms : Array MethodInfo := #[]) (fl : Nat := 33) (sup : Nat := 0) (ifs : Array Nat := #[]) (fds : Array FieldInfo := #[]) : ClassFile where
  minorVersion := 0
  majorVersion := 65
  constantPool := pool
  accessFlags := fl
  thisClass := this
  superClass := sup
  interfaces := ifs
  fields := fds
  methods := ms
  attributes := attrs
def plain (name : String) (sup : Option ClassId) : Class where
  name := name
  kind := .ordinary
  loader := none
  accessFlags := 33
  super := sup
  interfaces := #[]
  cf := none
  fields := #[]
  methods := #[]
  instanceTypes := #[]
  staticTypes := #[]
  resolved := #[]
  callSites := []
  init := .initialized
  statics := none
  mirror := none

def pool0 : Array CpInfo := pool [(5, u "<init>"), (0, u "()V"), (1, .class_ 10), (1, u "java/lang/Object")] 113

def k0m0 : Method := { name := "<init>", desc := "()V", sig := { parameters := [], returnType := none }, accessFlags := 1, code := none }
/-- java/lang/Object -/
def k0 : Class := { plain "java/lang/Object" none with
  accessFlags := 33
  interfaces := #[]
  cf := some (fileOf pool0 8 #[] #[{ accessFlags := 1, nameIndex := 5, descriptorIndex := 6, attributes := #[] }] 33 0 #[] #[])
  fields := #[]
  methods := #[k0m0]
  instanceTypes := #[]
  staticTypes := #[]
  resolved := Array.replicate 124 none
  statics := none }

def pool1 : Array CpInfo := pool [(2, .class_ 4), (1, u "java/lang/Object"), (0, u "<init>"), (0, u "()V"), (0, .long 4294967295), (1, .methodref 10 11), (0, .class_ 12), (0, .nameAndType 13 14), (0, u "com/example/fundur/fundur/server/Zxids"), (0, u "follows"), (0, u "(JJ)Z"), (0, .class_ 16), (0, u "com/example/fundur/fundur/server/ZxidsFollowsPinLaw"), (2, u "law"), (0, u "(IIIII)Z")] 3

def k1m0 : Method := { name := "<init>", desc := "()V", sig := { parameters := [], returnType := none }, accessFlags := 2, code := none }
def k1c1 : Code := { maxStack := 6, maxLocals := 24, code := code, exceptionTable := #[], attributes := #[] }
def k1m1 : Method := { name := "law", desc := "(IIIII)Z", sig := { parameters := [.int, .int, .int, .int, .int], returnType := some .boolean }, accessFlags := 9, code := some k1c1 }
/-- com/example/fundur/fundur/server/ZxidsFollowsPinLaw -/
def k1 : Class := { plain "com/example/fundur/fundur/server/ZxidsFollowsPinLaw" (some 0) with
  accessFlags := 49
  interfaces := #[]
  cf := some (fileOf pool1 15 #[] #[{ accessFlags := 2, nameIndex := 5, descriptorIndex := 6, attributes := #[] }, { accessFlags := 9, nameIndex := 19, descriptorIndex := 20, attributes := #[] }] 49 2 #[] #[])
  fields := #[]
  methods := #[k1m0, k1m1]
  instanceTypes := #[]
  staticTypes := #[]
  resolved := Array.replicate 24 none
  statics := none }

def pool2 : Array CpInfo := pool [(1, .class_ 2), (0, u "com/example/fundur/fundur/server/Zxids"), (1, .class_ 6), (1, u "java/lang/Object"), (0, u "<init>"), (0, u "()V"), (0, .methodref 1 10), (0, .nameAndType 11 12), (0, u "epoch"), (0, u "(J)J"), (0, .long 4294967295), (1, u "COUNTER_BITS"), (0, u "I"), (2, u "COUNTER_MASK"), (0, u "J"), (4, u "follows"), (0, u "(JJ)Z")] 3

def k2m0 : Method := { name := "<init>", desc := "()V", sig := { parameters := [], returnType := none }, accessFlags := 2, code := none }
def k2c1 : Code := { maxStack := 3, maxLocals := 2, code := prog_50_method_3_code, exceptionTable := #[], attributes := #[] }
def k2m1 : Method := { name := "epoch", desc := "(J)J", sig := { parameters := [.long], returnType := some .long }, accessFlags := 8, code := some k2c1 }
def k2c2 : Code := { maxStack := 6, maxLocals := 4, code := prog_50_method_4_code, exceptionTable := #[], attributes := #[] }
def k2m2 : Method := { name := "follows", desc := "(JJ)Z", sig := { parameters := [.long, .long], returnType := some .boolean }, accessFlags := 8, code := some k2c2 }
/-- com/example/fundur/fundur/server/Zxids -/
def k2 : Class := { plain "com/example/fundur/fundur/server/Zxids" (some 0) with
  accessFlags := 48
  interfaces := #[]
  cf := some (fileOf pool2 1 #[] #[{ accessFlags := 2, nameIndex := 7, descriptorIndex := 8, attributes := #[] }, { accessFlags := 8, nameIndex := 11, descriptorIndex := 12, attributes := #[] }, { accessFlags := 8, nameIndex := 25, descriptorIndex := 26, attributes := #[] }] 48 4 #[] #[{ accessFlags := 26, nameIndex := 15, descriptorIndex := 16, attributes := #[] }, { accessFlags := 26, nameIndex := 19, descriptorIndex := 20, attributes := #[] }])
  fields := #[{ name := "COUNTER_BITS", type := .int, accessFlags := 26, slot := 0, constantValue := 0 }, { name := "COUNTER_MASK", type := .long, accessFlags := 26, slot := 1, constantValue := 0 }]
  methods := #[k2m0, k2m1, k2m2]
  instanceTypes := #[]
  staticTypes := #[.int, .long]
  resolved := Array.replicate 30 none
  statics := none }

def pool3 : Array CpInfo := pool [(1, u "java/lang/Cloneable"), (0, .class_ 1), (0, u "java/lang/Object"), (0, .class_ 3)] 3

/-- java/lang/Cloneable -/
def k3 : Class := { plain "java/lang/Cloneable" (some 0) with
  accessFlags := 1537
  interfaces := #[]
  cf := some (fileOf pool3 2 #[] #[] 1537 4 #[] #[])
  fields := #[]
  methods := #[]
  instanceTypes := #[]
  staticTypes := #[]
  resolved := Array.replicate 8 none
  statics := none }

def pool4 : Array CpInfo := pool [(1, u "java/io/Serializable"), (0, .class_ 1), (0, u "java/lang/Object"), (0, .class_ 3)] 3

/-- java/io/Serializable -/
def k4 : Class := { plain "java/io/Serializable" (some 0) with
  accessFlags := 1537
  interfaces := #[]
  cf := some (fileOf pool4 2 #[] #[] 1537 4 #[] #[])
  fields := #[]
  methods := #[]
  instanceTypes := #[]
  staticTypes := #[]
  resolved := Array.replicate 8 none
  statics := none }

/-- the primitive byte -/
def k5 : Class := { plain "byte" none with kind := .primitive 'B', accessFlags := 0x411 }
/-- [B -/
def k6 : Class := { plain "[B" (some 0) with kind := .array 5 .byte, interfaces := #[3, 4], accessFlags := 1041 }

/-- the primitive int -/
def k7 : Class := { plain "int" none with kind := .primitive 'I', accessFlags := 0x411 }
/-- [I -/
def k8 : Class := { plain "[I" (some 0) with kind := .array 7 .int, interfaces := #[3, 4], accessFlags := 1041 }

def heap : Heap := #[]
def classes : Array Class := #[k0, k1, k2, k3, k4, k5, k6, k7, k8]
def interned : List (Array UInt16 × Addr) := []
def slotsUsed : Nat := 0
def theMethod : MethodId := ⟨1, 1⟩
def args0 : Array Value := #[.int 5, .int 80, .int 3, .int 9, .int 1]
def aboutOver (below : List Frame) : State where
  vm := { classes := classes, interned := interned.toArray }
  heap := heap
  slotsUsed := slotsUsed
  threads := #[{ frames := .invoking theMethod args0 :: below }]
def below0 : List Frame := [.native { method := ⟨0, 0⟩, args := #[] }]
def about1 : State := aboutOver below0
def p0 : Program := .bare "" "" ""
def e0 : Env := launch0.env 0 0 0
theorem w_frames : about1.frames = Frame.invoking theMethod args0 :: below0 := rfl
set_option maxRecDepth 65536 in
theorem w_args : argsFit about1.vm theMethod args0 = true := by decide +kernel
set_option maxRecDepth 65536 in
theorem w_heap : heapFits about1 = true := by decide +kernel
set_option maxRecDepth 65536 in
theorem w_runnable : about1.curStatus? = some .runnable := by decide +kernel
set_option maxRecDepth 65536 in
theorem w_alone : about1.alone = true := by decide +kernel
set_option maxRecDepth 65536 in
theorem w_named : about1.methodNamed? x = some theMethod := by decide +kernel
set_option maxRecDepth 65536 in
theorem w_hears : about1.hears theMethod below0 = true := by decide +kernel
set_option maxRecDepth 65536 in
theorem w_ripe : about1.ripe theMethod args0 below0 = true := by decide +kernel
theorem w_running : about1.status = .running := rfl
set_option maxRecDepth 65536 in
theorem w_room : about1.hasRoom e0.platform room_1 = true :=
  launch0.hasRoom_least _ room_1 (by decide +kernel) (by decide +kernel) (by decide +kernel) (by decide +kernel) (by decide +kernel) (by decide +kernel)
theorem allAtoms_all (ts : List Jvm.Cond) (a : Array Jvm.Value) (st : Jvm.State) : (allAtoms ts).before a st = ts.all (fun c => c.before a st) := by
  induction ts with
  | nil => rfl
  | cons c t ih =>
    show (Jvm.Cond.and c (allAtoms t)).before a st = _
    rw [Jvm.Cond.before_and, ih, List.all_cons]
def words1 : List Jvm.Cond := Jvm.Cond.code x code maxLocals ret :: tables_1
/-- a 'code' word, met by the world's own term for the bytes: nothing is compared byte by byte -/
theorem code_word {y : MethodName} {bytes : ByteArray} {mx : Nat} {rt : Option FieldType} {a : Array Value} {s : State} {m : MethodId} {meth : Method} {c : Code} (h1 : s.methodNamed? y = some m) (h2 : s.vm.method? m = some meth) (h3 : meth.code = some c) (h4 : c.code = bytes)
    (h5 : (c.maxLocals == mx && c.exceptionTable.isEmpty && decide (c.maxStack ≤ mostOperands) && decide (meth.sig.returnType = rt) && !meth.locks && decide (parseMethodDescriptor y.desc = some meth.sig)) = true) : (Jvm.Cond.code y bytes mx rt).before a s = true := by
  simp only [Bool.and_eq_true, beq_iff_eq, Bool.not_eq_true', decide_eq_true_eq] at h5
  obtain ⟨⟨⟨⟨⟨g1, g2⟩, g3⟩, g4⟩, g5⟩, g6⟩ := h5
  simp [Cond.before, Cond.holds, Cond.value, h1, h2, h3, h4, g1, g2, g3, g4, g5, g6]
def isCode : Jvm.Cond → Bool
  | .code _ _ _ _ => true
  | _ => false
theorem all_split {L : List Jvm.Cond} {P : Jvm.Cond → Bool} (h1 : L.all (fun c => isCode c || P c) = true) (h2 : ∀ c ∈ L.filter isCode, P c = true) : L.all P = true := by
  refine List.all_eq_true.mpr fun c hc => ?_
  have h := List.all_eq_true.mp h1 c hc
  rcases Bool.eq_false_or_eq_true (isCode c) with hi | hi
  · exact h2 c (List.mem_filter.mpr ⟨hc, hi⟩)
  · simpa [hi] using h
set_option maxRecDepth 65536 in
theorem w_c0 : (Jvm.Cond.code x code maxLocals ret).before args0 about1 = true := code_word (m := ⟨1, 1⟩) (meth := k1m1) (c := k1c1) (by decide +kernel) rfl rfl rfl (by decide +kernel)
set_option maxRecDepth 65536 in
theorem w_c1 : (Jvm.Cond.code ({ cls := "com/example/fundur/fundur/server/Zxids", name := "follows", desc := "(JJ)Z" } : Jvm.MethodName) prog_50_method_4_code (4 : Nat) (Option.some Jvm.ClassFile.FieldType.boolean)).before args0 about1 = true := code_word (m := ⟨2, 2⟩) (meth := k2m2) (c := k2c2) (by decide +kernel) rfl rfl rfl (by decide +kernel)
set_option maxRecDepth 65536 in
theorem w_c2 : (Jvm.Cond.code ({ cls := "com/example/fundur/fundur/server/Zxids", name := "epoch", desc := "(J)J" } : Jvm.MethodName) prog_50_method_3_code (2 : Nat) (Option.some Jvm.ClassFile.FieldType.long)).before args0 about1 = true := code_word (m := ⟨2, 1⟩) (meth := k2m1) (c := k2c1) (by decide +kernel) rfl rfl rfl (by decide +kernel)
def codes1 : List Jvm.Cond := [Jvm.Cond.code x code maxLocals ret, Jvm.Cond.code ({ cls := "com/example/fundur/fundur/server/Zxids", name := "follows", desc := "(JJ)Z" } : Jvm.MethodName) prog_50_method_4_code (4 : Nat) (Option.some Jvm.ClassFile.FieldType.boolean), Jvm.Cond.code ({ cls := "com/example/fundur/fundur/server/Zxids", name := "epoch", desc := "(J)J" } : Jvm.MethodName) prog_50_method_3_code (2 : Nat) (Option.some Jvm.ClassFile.FieldType.long)]
set_option maxRecDepth 65536 in
theorem codes_eq : words1.filter isCode = codes1 := rfl
theorem w_codes : ∀ c ∈ words1.filter isCode, c.before args0 about1 = true := by
  rw [codes_eq]
  intro c hc
  simp only [codes1, List.mem_cons, List.not_mem_nil, or_false] at hc
  rcases hc with rfl | rfl | rfl
  · exact w_c0
  · exact w_c1
  · exact w_c2
set_option maxRecDepth 65536 in
theorem w_t1 : words1.all (fun c => isCode c || c.before args0 about1) = true := by decide +kernel
theorem w_tables : (allAtoms (Jvm.Cond.code x code maxLocals ret :: tables_1)).before args0 about1 = true := by
  rw [allAtoms_all]
  show words1.all (fun c => c.before args0 about1) = true
  refine all_split ?_ w_codes
  rw [w_t1]
set_option maxRecDepth 65536 in
theorem w_case : (Jvm.Cond.and given_1 narrow_1).before args0 about1 = true := by decide +kernel
theorem w_applies : (headSpec (Jvm.Cond.code x code maxLocals ret :: tables_1) room_1).applies x e0.platform about1 = true :=
  (Spec.applies_iff w_frames).mpr ⟨w_running, w_runnable, w_alone, w_named, w_hears, w_ripe, w_room, w_tables⟩
theorem atStart : AtStart classFile x code maxLocals ret World_1 tables_1 room_1 Calls_1 rest_1 Pre_1 launch0 p0 e0 about1 theMethod args0 below0 :=
  ⟨lists_1, trivial, launch0.admits_env _ _ _, launch0.least_env, fairChoices_fair.cas, fairChoices_fair.clock, w_frames, w_args, w_heap, w_applies, trivial, trivial, w_case⟩
end start1
theorem witness_1 : WitnessClaimed_1 := ⟨start1.p0, start1.e0, start1.about1, start1.theMethod, start1.args0, start1.below0, start1.atStart⟩
end Jvm.Pilot.@@N@@
