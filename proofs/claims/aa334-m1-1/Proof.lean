import JvmDerived
import JvmDerived.Pilot.@@N@@Statement
import JvmDerived.Pilot.@@N@@Code
set_option linter.unusedVariables false
set_option linter.unusedSimpArgs false
namespace Jvm.OwnWalk
open Sem ClassFile Op Lib Jvm.Stand Jvm.Free Jvm.LawKit Jvm.RoadKit
section Own
variable {p : Program} {l : Launch} {e : Env} {R : Room} {s : State} {m : MethodId} {args : Array Value} {below : List Frame} {meth : Method} {c : Code} {T : State} {locs : List Loc} {cells slots : Nat} {Z : State} {a0 : Array Value} {h h' : Heap} {Q : Option Value → Heap → List Loc → Prop} {kc ks : Nat} {G : Outcome → State → Prop} {A B : State}
/-- from A the invocation comes to its end, and Q holds of what it returns, of the heap and of the places written -/
def Goes (p : Program) (e : Env) (below : List Frame) (G : Outcome → State → Prop) (A : State) : Prop :=
  ∃ s₂ o, Steps p.tables e below A s₂ ∧ s₂.status = .running ∧ Ended s₂ below o ∧ G o s₂
def EndN (s : State) (Q : Option Value → Heap → List Loc → Prop) (kc ks : Nat) (o : Outcome) (t : State) : Prop := ∃ v L, o = .returned v ∧ Q v t.heap L ∧ FrameEnd s o t L kc ks
theorem go (k : ∀ t, Steps p.tables e below B t → Steps p.tables e below A t) (g : Goes p e below G B) : Goes p e below G A := by
  obtain ⟨s₂, o, st, r⟩ := g
  exact ⟨s₂, o, k _ st, r⟩
theorem goE {g g' : JFrame} (q : g = g') (k : Goes p e below G (T.setTop g')) : Goes p e below G (T.setTop g) := q ▸ k
theorem goEnd (X : Stand p l e R s m args below meth c T locs cells slots) {v : Option Value} (hv : meth.sig.returnType = none → v = none) (hlocks : meth.locks = false) (hc : cells ≤ kc) (hs : slots ≤ ks) (eT : T.heap = h) (hq : Q v h locs)
    (k : ∀ fs, (∀ (f : JFrame) (acts : List Action), f.method = m → f.locked = none → f.entered = [] → (doReturn e (T.setTop f) acts v).1 = T.setFrames fs) → Steps p.tables e below A (T.setFrames fs)) : Goes p e below (EndN s Q kc ks) A := by
  obtain ⟨fs, hr, hrun, hended, hW, hsame⟩ := X.leave hv hlocks
  exact ⟨_, _, k fs hr, hrun, hended, _, _, rfl, (by show Q v T.heap locs; rw [eT]; exact hq), ⟨_, rfl⟩, hW, hsame.mono hc hs⟩
theorem goRetV (X : Stand p l e R s m args below meth c T locs cells slots) (hx : p.tables.exec = Jvm.exec) {pc : Nat} {Ls : Array Slot} {w : Value} {t : FieldType} {i : Instr} {rest : List Value} (hret : meth.sig.returnType = some t) (hlocks : meth.locks = false) (hd : decode c.code pc = .ok (i, 1)) (hn : narrow t w = w)
    (hi : (i = .ireturn ∧ (t = .int ∨ t = .boolean ∨ t = .byte ∨ t = .char ∨ t = .short) ∧ ∃ z, w = .int z) ∨ (i = .lreturn ∧ t = .long ∧ ∃ z, w = .long z) ∨ (i = .dreturn ∧ t = .double ∧ ∃ z, w = .double z) ∨ (i = .freturn ∧ t = .float ∧ ∃ z, w = .float z) ∨ (i = .areturn ∧ t.isReference = true ∧ w.isRef = true))
    (hc : cells ≤ kc) (hs : slots ≤ ks) (eT : T.heap = h) (hq : Q (some w) h locs) : Goes p e below (EndN s Q kc ks) (T.setTop (mkF m pc Ls (w :: rest))) :=
  goEnd X (v := some w) (fun q => by rw [hret] at q; cases q) hlocks hc hs eT hq fun fs hr => retOut X hx hret hn hi hd hr
theorem goRetI (X : Stand p l e R s m args below meth c T locs cells slots) (hx : p.tables.exec = Jvm.exec) {pc : Nat} {Ls : Array Slot} {z : Int32} {rest : List Value} (hret : meth.sig.returnType = some .int) (hlocks : meth.locks = false) (hd : decode c.code pc = .ok (.ireturn, 1))
    (hc : cells ≤ kc) (hs : slots ≤ ks) (eT : T.heap = h) (hq : Q (some (.int z)) h locs) : Goes p e below (EndN s Q kc ks) (T.setTop (mkF m pc Ls (.int z :: rest))) :=
  goRetV X hx hret hlocks hd rfl (Or.inl ⟨rfl, Or.inl rfl, _, rfl⟩) hc hs eT hq
theorem goRetJ (X : Stand p l e R s m args below meth c T locs cells slots) (hx : p.tables.exec = Jvm.exec) {pc : Nat} {Ls : Array Slot} {z : Int64} {rest : List Value} (hret : meth.sig.returnType = some .long) (hlocks : meth.locks = false) (hd : decode c.code pc = .ok (.lreturn, 1))
    (hc : cells ≤ kc) (hs : slots ≤ ks) (eT : T.heap = h) (hq : Q (some (.long z)) h locs) : Goes p e below (EndN s Q kc ks) (T.setTop (mkF m pc Ls (.long z :: rest))) :=
  goRetV X hx hret hlocks hd rfl (Or.inr (Or.inl ⟨rfl, rfl, _, rfl⟩)) hc hs eT hq
theorem goRetD (X : Stand p l e R s m args below meth c T locs cells slots) (hx : p.tables.exec = Jvm.exec) {pc : Nat} {Ls : Array Slot} {z : UInt64} {rest : List Value} (hret : meth.sig.returnType = some .double) (hlocks : meth.locks = false) (hd : decode c.code pc = .ok (.dreturn, 1))
    (hc : cells ≤ kc) (hs : slots ≤ ks) (eT : T.heap = h) (hq : Q (some (.double z)) h locs) : Goes p e below (EndN s Q kc ks) (T.setTop (mkF m pc Ls (.double z :: rest))) :=
  goRetV X hx hret hlocks hd rfl (Or.inr (Or.inr (Or.inl ⟨rfl, rfl, _, rfl⟩))) hc hs eT hq
theorem goRetA (X : Stand p l e R s m args below meth c T locs cells slots) (hx : p.tables.exec = Jvm.exec) {pc : Nat} {Ls : Array Slot} {w : Value} {t : FieldType} {rest : List Value} (hret : meth.sig.returnType = some t) (hlocks : meth.locks = false) (ht : t.isReference = true) (hw : w.isRef = true) (hd : decode c.code pc = .ok (.areturn, 1))
    (hc : cells ≤ kc) (hs : slots ≤ ks) (eT : T.heap = h) (hq : Q (some w) h locs) : Goes p e below (EndN s Q kc ks) (T.setTop (mkF m pc Ls (w :: rest))) :=
  goRetV X hx hret hlocks hd (by cases t <;> first | (cases ht; done) | rfl) (Or.inr (Or.inr (Or.inr (Or.inr ⟨rfl, ht, hw⟩)))) hc hs eT hq
theorem goRetN (X : Stand p l e R s m args below meth c T locs cells slots) (hx : p.tables.exec = Jvm.exec) {pc : Nat} {Ls : Array Slot} {z z' : Int32} {t : FieldType} {rest : List Value} (hret : meth.sig.returnType = some t) (hlocks : meth.locks = false) (ht : t = .boolean ∨ t = .byte ∨ t = .char ∨ t = .short) (hd : decode c.code pc = .ok (.ireturn, 1)) (hz : nar t z = z')
    (hc : cells ≤ kc) (hs : slots ≤ ks) (eT : T.heap = h) (hq : Q (some (.int z')) h locs) : Goes p e below (EndN s Q kc ks) (T.setTop (mkF m pc Ls (.int z :: rest))) := by
  subst hz
  exact goEnd X (v := some (.int (nar t z))) (fun q => by rw [hret] at q; cases q) hlocks hc hs eT hq fun fs hr => retN X hx hret ht hd hr
theorem goRet0 (X : Stand p l e R s m args below meth c T locs cells slots) (hx : p.tables.exec = Jvm.exec) {pc : Nat} {Ls : Array Slot} (hret : meth.sig.returnType = none) (hlocks : meth.locks = false) (hd : decode c.code pc = .ok (.return_, 1))
    (hc : cells ≤ kc) (hs : slots ≤ ks) (eT : T.heap = h) (hq : Q none h locs) : Goes p e below (EndN s Q kc ks) (T.setTop (mkF m pc Ls [])) :=
  goEnd X (v := none) (fun _ => rfl) hlocks hc hs eT hq fun fs hr => X.returnOut hx hret hd hr
/-- a body's contract: called with these arguments at this heap it returns, and Q holds -/
def Ctr (l : Launch) (Z : State) (y : MethodName) (bytes : ByteArray) (maxL : Nat) (ret : Option FieldType) (ws : List Cond) (rm : Room) (as : Array Value) (h0 : Heap) (Q : Option Value → Heap → List Loc → Prop) : Prop :=
  MetFree l y (head1 (Cond.code y bytes maxL ret :: ws) rm) (fun a U => a = as ∧ Z.Warmed39 U.vm ∧ U.heap = h0) (fun _ _ _ _ _ => True) (fun _ U o U' => ∃ v L, o = .returned v ∧ Q v U'.heap L ∧ FrameEnd U o U' L rm.cells rm.slots)
theorem ctr {y : MethodName} {bytes : ByteArray} {maxL : Nat} {ret : Option FieldType} {ws : List Cond} {rm : Room} {as : Array Value} {h0 : Heap} (hpn : plainFor y = true)
    (body : ∀ (p : Program) (e : Env) (s : State) (m : MethodId) (below : List Frame) (meth : Method) (c : Code) (s₁ : State), p.tables.exec = Jvm.exec → c.code = bytes → c.maxLocals = maxL → s.vm.findClass y.cls = some m.cls → meth.name = y.name → meth.sig.returnType = ret → meth.locks = false → Z.Warmed39 s.vm →
      Stand p l e rm s m as below meth c s₁ [] 0 0 → s₁.heap = h0 → Goes p e below (EndN s Q rm.cells rm.slots) (s₁.setTop (entryFrame m as maxL))) : Ctr l Z y bytes maxL ret ws rm as h0 Q := by
  refine MetFree.of_bodySF hpn hisR ?_
  intro p e s m args below meth c s₁ Bd hml0 hP hK
  obtain ⟨rfl, hZ, hh⟩ := hP
  exact body p e s m below meth c s₁ Bd.exec Bd.bytes hml0 (findClass_of_methodNamed Bd.named) (name_of_methodNamed Bd.named Bd.method).1 Bd.returns Bd.notSynchronized hZ (Stand.of_body Bd) (by rw [← hh, Bd.state]; rfl)
theorem goCallS (X : Stand p l e R s m args below meth c T locs cells slots) (hx : p.tables.exec = Jvm.exec) (hZ : Z.Warmed39 s.vm) {own : String} {index : Nat} {y : MethodName} {bytes : ByteArray} {maxL : Nat} {ret : Option FieldType} (hown : s.vm.findClass own = some m.cls)
    (w1 : (Cond.methodLink own index y).before a0 Z = true) (w2 : (Cond.static y).before a0 Z = true) (w3 : (Cond.initialized y.cls).before a0 Z = true) (w4 : (Cond.code y bytes maxL ret).before a0 Z = true) (hy : y.cls ≠ "java/lang/invoke/MethodHandle" ∧ y.cls ≠ "java/lang/invoke/VarHandle")
    {rm : Room} {as : Array Value} {Q' : Option Value → Heap → List Loc → Prop} (hM : Ctr l Z y bytes maxL ret [] rm as h Q') (W : Nat) (hf : rm.frames + 1 ≤ R.frames) (hl : W + (maxL + 11) + rm.locals ≤ R.locals) (eT : T.heap = h)
    {pc : Nat} {Ls : Array Slot} {st : List Value} (hsize : Ls.size = c.maxLocals) (argsL rest : List Value) {ps : List FieldType} {rt : Option FieldType} (hpd : parseMethodDescriptor y.desc = some ⟨ps, rt⟩) (hlen : argsL.length = ps.length) (hst : st = argsL.reverse ++ rest) (has : argsL.toArray = as) (hW : (rest.map fun v => v.category).sum ≤ W)
    (hd : decode c.code pc = .ok (.invokestatic index, 3)) (hc : cells + rm.cells ≤ R.cells) (hs : slots + rm.slots ≤ R.slots)
    (k : ∀ T' v L, Stand p l e R s m args below meth c T' (locs ++ L) (cells + rm.cells) (slots + rm.slots) → Q' v T'.heap L → Goes p e below G (T'.setTop (mkF m (pc + 3) Ls (v.toList ++ rest)))) : Goes p e below G (T.setTop (mkF m pc Ls st)) := by
  subst hst
  obtain ⟨v, _, ⟨T', L', k', n'⟩, -, X', ⟨L, hQ, l1, y1, z1⟩, st⟩ := Jvm.LawKit.callS X hx (y := y) hown (mvT hZ w1) (mvT hZ w2) (mvT hZ w3) (mvT hZ w4) hy (backOf (W := W) hM hZ w4 w3 hf hl) (g := mkF m pc Ls (argsL.reverse ++ rest)) rfl hsize (argsL := argsL) (rest := rest) (lenOf hpd hlen) rfl (by show 2 * 0 + _ ≤ _; omega) hd (fun _ _ => ⟨has, eT, hc, hs⟩)
  dsimp only [Pt.U, Pt.locs, Pt.cells, Pt.slots] at X' l1 y1 z1 st hQ
  subst l1 y1 z1
  exact go st (k T' v L X' hQ)
theorem goCallI (X : Stand p l e R s m args below meth c T locs cells slots) (hx : p.tables.exec = Jvm.exec) (hZ : Z.Warmed39 s.vm) {own : String} {index : Nat} {y : MethodName} {bytes : ByteArray} {maxL : Nat} (hy1 : y.name = "<init>") (hown : s.vm.findClass own = some m.cls)
    (w1 : (Cond.methodLink own index y).before a0 Z = true) (w2 : (Cond.instanceMethod y).before a0 Z = true) (w3 : (Cond.initialized y.cls).before a0 Z = true) (w4 : (Cond.code y bytes maxL none).before a0 Z = true) (hy : y.cls ≠ "java/lang/invoke/MethodHandle" ∧ y.cls ≠ "java/lang/invoke/VarHandle")
    {rm : Room} {as : Array Value} {Q' : Option Value → Heap → List Loc → Prop} (hM : Ctr l Z y bytes maxL none [] rm as h Q') (W : Nat) (hf : rm.frames + 1 ≤ R.frames) (hl : W + (maxL + 11) + rm.locals ≤ R.locals) (eT : T.heap = h)
    {pc : Nat} {Ls : Array Slot} {st : List Value} (hsize : Ls.size = c.maxLocals) (a : Addr) (argsL rest : List Value) {ps : List FieldType} {rt : Option FieldType} (hpd : parseMethodDescriptor y.desc = some ⟨ps, rt⟩) (hlen : argsL.length = ps.length) (hst : st = argsL.reverse ++ .ref a :: rest) (has : (.ref a :: argsL).toArray = as) (hW : (rest.map fun v => v.category).sum ≤ W)
    (hd : decode c.code pc = .ok (.invokespecial index, 3)) (hc : cells + rm.cells ≤ R.cells) (hs : slots + rm.slots ≤ R.slots)
    (k : ∀ T' v L, Stand p l e R s m args below meth c T' (locs ++ L) (cells + rm.cells) (slots + rm.slots) → Q' v T'.heap L → Goes p e below G (T'.setTop (mkF m (pc + 3) Ls (v.toList ++ rest)))) : Goes p e below G (T.setTop (mkF m pc Ls st)) := by
  subst hst
  obtain ⟨v, _, ⟨T', L', k', n'⟩, -, X', ⟨L, hQ, l1, y1, z1⟩, st⟩ := X.specialBack hx (y := y) hy1 hown (mvT hZ w1) (mvT hZ w2) (mvT hZ w4) hy (backOf (W := W) hM hZ w4 w3 hf hl) (g := mkF m pc Ls (argsL.reverse ++ .ref a :: rest)) rfl hsize (Steps.refl _) (a := a) (argsL := argsL) (rest := rest) (lenOf hpd hlen) rfl (by show 2 * 0 + _ ≤ _; omega) hd (fun _ _ => ⟨has, eT, hc, hs⟩)
  dsimp only [Pt.U, Pt.locs, Pt.cells, Pt.slots] at X' l1 y1 z1 st hQ
  subst l1 y1 z1
  exact go (fun _ => st.trans) (k T' v L X' hQ)
theorem goCallV (X : Stand p l e R s m args below meth c T locs cells slots) (hx : p.tables.exec = Jvm.exec) (hZ : Z.Warmed39 s.vm) {own C : String} {index : Nat} {y : MethodName} {bytes : ByteArray} {maxL : Nat} {ret : Option FieldType} (hown : s.vm.findClass own = some m.cls)
    (w1 : (Cond.methodLink own index y).before a0 Z = true) (w2 : (Cond.declares y).before a0 Z = true) (w5 : (Cond.selects C y y).before a0 Z = true) (w6 : (Cond.instanceMethod y).before a0 Z = true) (w3 : (Cond.initialized y.cls).before a0 Z = true) (w4 : (Cond.code y bytes maxL ret).before a0 Z = true) (hy : y.cls ≠ "java/lang/invoke/MethodHandle" ∧ y.cls ≠ "java/lang/invoke/VarHandle")
    {rm : Room} {as : Array Value} {Q' : Option Value → Heap → List Loc → Prop} (hM : Ctr l Z y bytes maxL ret [] rm as h Q') (W : Nat) (hf : rm.frames + 1 ≤ R.frames) (hl : W + (maxL + 11) + rm.locals ≤ R.locals) (eT : T.heap = h) {a : Addr} (E : Exa Z h a C)
    {pc : Nat} {Ls : Array Slot} {st : List Value} (hsize : Ls.size = c.maxLocals) (argsL rest : List Value) {ps : List FieldType} {rt : Option FieldType} (hpd : parseMethodDescriptor y.desc = some ⟨ps, rt⟩) (hlen : argsL.length = ps.length) (hst : st = argsL.reverse ++ .ref a :: rest) (has : (.ref a :: argsL).toArray = as) (hW : (rest.map fun v => v.category).sum ≤ W)
    (hd : decode c.code pc = .ok (.invokevirtual index, 3)) (hc : cells + rm.cells ≤ R.cells) (hs : slots + rm.slots ≤ R.slots)
    (k : ∀ T' v L, Stand p l e R s m args below meth c T' (locs ++ L) (cells + rm.cells) (slots + rm.slots) → Q' v T'.heap L → Goes p e below G (T'.setTop (mkF m (pc + 3) Ls (v.toList ++ rest)))) : Goes p e below G (T.setTop (mkF m pc Ls st)) := by
  subst hst
  obtain ⟨cq, kq, qa, qb, qc⟩ := isOf hZ eT E
  obtain ⟨v, _, ⟨T', L', k', n'⟩, -, X', ⟨L, hQ, l1, y1, z1⟩, st⟩ := X.virtualBack hx (y := y) (z := y) hown (mvT hZ w1) (mvT hZ w2) (notFace_of_selects (args := #[]) (mvT hZ w5)) (mvT hZ w5) (mvT hZ w6) hy (backOf (W := W) hM hZ w4 w3 hf hl) qa qc (g := mkF m pc Ls (argsL.reverse ++ .ref a :: rest)) rfl hsize (Steps.refl _) (argsL := argsL) (rest := rest) (lenOf hpd hlen) rfl (by show 2 * 0 + _ ≤ _; omega) hd (fun _ _ => ⟨has, eT, hc, hs⟩)
  dsimp only [Pt.U, Pt.locs, Pt.cells, Pt.slots] at X' l1 y1 z1 st hQ
  subst l1 y1 z1
  exact go (fun _ => st.trans) (k T' v L X' hQ)
theorem extT {h0 : Heap} (O : Ext h0 h) (E : Ext h h') : Ext h0 h' := ⟨Nat.le_trans O.1 E.1, fun x c q => E.2 x c (O.2 x c q)⟩
theorem extK {h0 : Heap} {ws : List Addr} (O : Ext h0 h) (K : Keep h h' ws) (q : ∀ x ∈ ws, h0.size ≤ x) : Ext h0 h' := ⟨Nat.le_trans O.1 K.1, fun x c r => K.2.1 x c (O.2 x c r) fun z => absurd (Array.getElem?_eq_some_iff.mp r).1 (Nat.not_lt.mpr (q x z))⟩
theorem extW {h0 : Heap} {a : Addr} {sl : Nat} {v : Value} (O : Ext h0 h) (W : Wr h h' a sl v) (q : h0.size ≤ a) : Ext h0 h' := extK O (Keep.of_wr W) (allS q all0)
theorem eqI_v {t : Term} {k : Int32} {first s : State} {o : Option Outcome} {idx : List Nat} {args : Array Value} (h : (Cond.eq t (.int k)).value args first o s idx = some true) : t.eval args first o idx s = some (.int k) := by
  simp only [Cond.value, Term.eval] at h
  cases ht : t.eval args first o idx s with
  | none => simp [ht] at h
  | some x => cases x <;> simp [ht] at h ⊢; exact h
/-- an array with these values -/
def Ary (Z : State) (h : Heap) (a : Addr) (ty : FieldType) (vs : List Value) : Prop := ∃ cl : Cell, Arr Z h a cl ty ∧ cl.slots.toList = vs ∧ vs.length < 2 ^ 31
variable {a b : Addr} {ty : FieldType} {vs : List Value}
theorem Ary.lt (F : Ary Z h a ty vs) : a < h.size := by obtain ⟨c, A, -⟩ := F; exact A.lt
theorem Ary.ext (F : Ary Z h a ty vs) (E : Ext h h') : Ary Z h' a ty vs := by obtain ⟨c, A, r⟩ := F; exact ⟨c, A.ext E, r⟩
theorem Ary.other (F : Ary Z h b ty vs) {sl : Nat} {v : Value} (W : Wr h h' a sl v) (q : b ≠ a) : Ary Z h' b ty vs := by obtain ⟨c, A, r⟩ := F; exact ⟨c, A.other W q, r⟩
theorem Ary.keep (F : Ary Z h a ty vs) {ws : List Addr} (K : Keep h h' ws) (q : a ∉ ws) : Ary Z h' a ty vs := by obtain ⟨c, A, r⟩ := F; exact ⟨c, ⟨K.2.1 a c A.1 q, A.2⟩, r⟩
theorem Ary.set (F : Ary Z h a ty vs) {j : Int32} {v : Value} (W : Wr h h' a j.toNatClampNeg v) {ws : List Value} (e : vs.set j.toNatClampNeg v = ws) : Ary Z h' a ty ws := by
  obtain ⟨c, A, r, q⟩ := F
  refine ⟨_, A.same W, ?_, ?_⟩
  · rw [← e, ← r]; simp [Cell.setSlot]
  · rw [← e, List.length_set]; exact q
theorem Ary.new {cA : ClassId} {n : Int32} (A : Arr Z h a (newA cA ty n) ty) (e : List.replicate n.toNatClampNeg (defaultValue ty) = vs) (q : vs.length < 2 ^ 31) : Ary Z h a ty vs := ⟨_, A, by rw [← e]; simp [newA], q⟩
theorem Ary.inb {cl : Cell} (r : cl.slots.toList = vs) {j : Int32} {v : Value} (hj : ¬ j < 0) (hv : vs[j.toNatClampNeg]? = some v) : ¬ (j < 0 ∨ cl.slots.size ≤ j.toNatClampNeg) := fun q => by
  rcases q with q | q
  · exact hj q
  · subst r
    have := (List.getElem?_eq_some_iff.mp hv).1
    rw [Array.length_toList] at this
    omega
theorem Ary.at {cl : Cell} (r : cl.slots.toList = vs) {j : Int32} {v : Value} (hv : vs[j.toNatClampNeg]? = some v) : cl.slots[j.toNatClampNeg]? = some v := by subst r; simpa using hv
theorem goIaload (X : Stand p l e R s m args below meth c T locs cells slots) (hx : p.tables.exec = Jvm.exec) (hZ : Z.Warmed39 s.vm) (eT : T.heap = h) {vs : List Value} (F : Ary Z h a .int vs) {j x : Int32} {pc : Nat} {Ls : Array Slot} {rest : List Value} (hd : decode c.code pc = .ok (.iaload, 1)) (hj : ¬ j < 0) (hv : vs[j.toNatClampNeg]? = some (.int x))
    (k : Goes p e below G (T.setTop (mkF m (pc + 1) Ls (.int x :: rest)))) : Goes p e below G (T.setTop (mkF m pc Ls (.int j :: .ref a :: rest))) := by
  obtain ⟨cl, A, r, q⟩ := F
  exact go (X.iaload hx (j := j) (v := .int x) (by rw [eT]; exact A.1) (State.isArrayOf_alike hZ.alike A.2.1) A.2.2 (Ary.inb r hj hv) (Ary.at r hv) (g := mkF m pc Ls (.int j :: .ref a :: rest)) rfl rfl hd) k
theorem goBaload (X : Stand p l e R s m args below meth c T locs cells slots) (hx : p.tables.exec = Jvm.exec) (hZ : Z.Warmed39 s.vm) (eT : T.heap = h) {vs : List Value} (F : Ary Z h a .byte vs) {j x : Int32} {pc : Nat} {Ls : Array Slot} {rest : List Value} (hd : decode c.code pc = .ok (.baload, 1)) (hj : ¬ j < 0) (hv : vs[j.toNatClampNeg]? = some (.int x))
    (k : Goes p e below G (T.setTop (mkF m (pc + 1) Ls (.int x :: rest)))) : Goes p e below G (T.setTop (mkF m pc Ls (.int j :: .ref a :: rest))) := by
  obtain ⟨cl, A, r, q⟩ := F
  exact go (X.baloadBytes hx (j := j) (v := .int x) (by rw [eT]; exact A.1) (State.isArrayOf_alike hZ.alike A.2.1) A.2.2 (Ary.inb r hj hv) (Ary.at r hv) (g := mkF m pc Ls (.int j :: .ref a :: rest)) rfl rfl hd) k
theorem goZaload (X : Stand p l e R s m args below meth c T locs cells slots) (hx : p.tables.exec = Jvm.exec) (hZ : Z.Warmed39 s.vm) (eT : T.heap = h) {vs : List Value} (F : Ary Z h a .boolean vs) {j x : Int32} {pc : Nat} {Ls : Array Slot} {rest : List Value} (hd : decode c.code pc = .ok (.baload, 1)) (hj : ¬ j < 0) (hv : vs[j.toNatClampNeg]? = some (.int x))
    (k : Goes p e below G (T.setTop (mkF m (pc + 1) Ls (.int x :: rest)))) : Goes p e below G (T.setTop (mkF m pc Ls (.int j :: .ref a :: rest))) := by
  obtain ⟨cl, A, r, q⟩ := F
  exact go (X.baloadBooleans hx (j := j) (v := .int x) (by rw [eT]; exact A.1) (State.isArrayOf_alike hZ.alike A.2.1) A.2.2 (Ary.inb r hj hv) (Ary.at r hv) (g := mkF m pc Ls (.int j :: .ref a :: rest)) rfl rfl hd) k
theorem goCaload (X : Stand p l e R s m args below meth c T locs cells slots) (hx : p.tables.exec = Jvm.exec) (hZ : Z.Warmed39 s.vm) (eT : T.heap = h) {vs : List Value} (F : Ary Z h a .char vs) {j x : Int32} {pc : Nat} {Ls : Array Slot} {rest : List Value} (hd : decode c.code pc = .ok (.caload, 1)) (hj : ¬ j < 0) (hv : vs[j.toNatClampNeg]? = some (.int x))
    (k : Goes p e below G (T.setTop (mkF m (pc + 1) Ls (.int x :: rest)))) : Goes p e below G (T.setTop (mkF m pc Ls (.int j :: .ref a :: rest))) := by
  obtain ⟨cl, A, r, q⟩ := F
  exact go (X.caload hx (j := j) (v := .int x) (by rw [eT]; exact A.1) (State.isArrayOf_alike hZ.alike A.2.1) A.2.2 (Ary.inb r hj hv) (Ary.at r hv) (g := mkF m pc Ls (.int j :: .ref a :: rest)) rfl rfl hd) k
theorem goAlen (X : Stand p l e R s m args below meth c T locs cells slots) (hx : p.tables.exec = Jvm.exec) (hZ : Z.Warmed39 s.vm) (eT : T.heap = h) {vs : List Value} (F : Ary Z h a ty vs) {n : Int32} {pc : Nat} {Ls : Array Slot} {rest : List Value} (hd : decode c.code pc = .ok (.arraylength, 1)) (hn : vs.length.toInt32 = n)
    (k : Goes p e below G (T.setTop (mkF m (pc + 1) Ls (.int n :: rest)))) : Goes p e below G (T.setTop (mkF m pc Ls (.ref a :: rest))) := by
  obtain ⟨cl, A, r, q⟩ := F
  have e1 : cl.slots.size.toInt32 = n := by rw [← hn, ← r, Array.length_toList]
  refine go (X.arraylength hx (cell := cl) (by rw [eT]; exact A.1) (State.isArrayOf_alike hZ.alike A.2.1) (g := mkF m pc Ls (.ref a :: rest)) rfl (rest := rest) rfl hd) ?_
  rw [e1]
  exact k
theorem goIastore (X : Stand p l e R s m args below meth c T locs cells slots) (hx : p.tables.exec = Jvm.exec) (hZ : Z.Warmed39 s.vm) (eT : T.heap = h) {vs : List Value} (F : Ary Z h a .int vs) {j x : Int32} {v : Value} {pc : Nat} {Ls : Array Slot} {rest : List Value} (hd : decode c.code pc = .ok (.iastore, 1)) (hj : ¬ j < 0) (hv : vs[j.toNatClampNeg]? = some v)
    (k : ∀ T' h', Stand p l e R s m args below meth c T' (locs ++ [⟨a, j.toNatClampNeg⟩]) cells slots → T'.heap = h' → Wr h h' a j.toNatClampNeg (.int x) → Goes p e below G (T'.setTop (mkF m (pc + 1) Ls rest))) : Goes p e below G (T.setTop (mkF m pc Ls (.int x :: .int j :: .ref a :: rest))) := by
  obtain ⟨cl, A, r, q⟩ := F
  obtain ⟨T', h', X', e', W', st⟩ := stI X hx hZ eT A (j := j) (x := x) (Ary.inb r hj hv) (g := mkF m pc Ls (.int x :: .int j :: .ref a :: rest)) rfl rfl hd
  exact go st (k T' h' X' e' W')
theorem goBastore (X : Stand p l e R s m args below meth c T locs cells slots) (hx : p.tables.exec = Jvm.exec) (hZ : Z.Warmed39 s.vm) (eT : T.heap = h) {vs : List Value} (F : Ary Z h a .byte vs) {j x : Int32} {v : Value} {pc : Nat} {Ls : Array Slot} {rest : List Value} (hd : decode c.code pc = .ok (.bastore, 1)) (hj : ¬ j < 0) (hv : vs[j.toNatClampNeg]? = some v)
    (k : ∀ T' h', Stand p l e R s m args below meth c T' (locs ++ [⟨a, j.toNatClampNeg⟩]) cells slots → T'.heap = h' → Wr h h' a j.toNatClampNeg (.int (nar .byte x)) → Goes p e below G (T'.setTop (mkF m (pc + 1) Ls rest))) : Goes p e below G (T.setTop (mkF m pc Ls (.int x :: .int j :: .ref a :: rest))) := by
  obtain ⟨cl, A, r, q⟩ := F
  obtain ⟨T', h', X', e', W', st⟩ := stB X hx hZ eT A (j := j) (x := x) (Ary.inb r hj hv) (g := mkF m pc Ls (.int x :: .int j :: .ref a :: rest)) rfl rfl hd
  exact go st (k T' h' X' e' W')
theorem goZastore (X : Stand p l e R s m args below meth c T locs cells slots) (hx : p.tables.exec = Jvm.exec) (hZ : Z.Warmed39 s.vm) (eT : T.heap = h) {vs : List Value} (F : Ary Z h a .boolean vs) {j x : Int32} {v : Value} {pc : Nat} {Ls : Array Slot} {rest : List Value} (hd : decode c.code pc = .ok (.bastore, 1)) (hj : ¬ j < 0) (hv : vs[j.toNatClampNeg]? = some v)
    (k : ∀ T' h', Stand p l e R s m args below meth c T' (locs ++ [⟨a, j.toNatClampNeg⟩]) cells slots → T'.heap = h' → Wr h h' a j.toNatClampNeg (.int (nar .boolean x)) → Goes p e below G (T'.setTop (mkF m (pc + 1) Ls rest))) : Goes p e below G (T.setTop (mkF m pc Ls (.int x :: .int j :: .ref a :: rest))) := by
  obtain ⟨cl, A, r, q⟩ := F
  obtain ⟨T', h', X', e', W', st⟩ := stZ X hx hZ eT A (j := j) (x := x) (Ary.inb r hj hv) (g := mkF m pc Ls (.int x :: .int j :: .ref a :: rest)) rfl rfl hd
  exact go st (k T' h' X' e' W')
theorem goCastore (X : Stand p l e R s m args below meth c T locs cells slots) (hx : p.tables.exec = Jvm.exec) (hZ : Z.Warmed39 s.vm) (eT : T.heap = h) {vs : List Value} (F : Ary Z h a .char vs) {j x : Int32} {v : Value} {pc : Nat} {Ls : Array Slot} {rest : List Value} (hd : decode c.code pc = .ok (.castore, 1)) (hj : ¬ j < 0) (hv : vs[j.toNatClampNeg]? = some v)
    (k : ∀ T' h', Stand p l e R s m args below meth c T' (locs ++ [⟨a, j.toNatClampNeg⟩]) cells slots → T'.heap = h' → Wr h h' a j.toNatClampNeg (.int (nar .char x)) → Goes p e below G (T'.setTop (mkF m (pc + 1) Ls rest))) : Goes p e below G (T.setTop (mkF m pc Ls (.int x :: .int j :: .ref a :: rest))) := by
  obtain ⟨cl, A, r, q⟩ := F
  obtain ⟨T', h', X', e', W', st⟩ := stC X hx hZ eT A (j := j) (x := x) (Ary.inb r hj hv) (g := mkF m pc Ls (.int x :: .int j :: .ref a :: rest)) rfl rfl hd
  exact go st (k T' h' X' e' W')
theorem narb (x : Int32) : nar .byte x.toInt8.toInt32 = x.toInt8.toInt32 := by simp [nar]
theorem narc (x : Int32) : nar .char x.toUInt32.toUInt16.toUInt32.toInt32 = x.toUInt32.toUInt16.toUInt32.toInt32 := by simp only [nar, UInt32.toUInt32_toInt32, UInt16.toUInt16_toUInt32]
theorem gIload (X : Stand p l e R s m args below meth c T locs cells slots) (hx : p.tables.exec = Jvm.exec) {pc : Nat} {Ls : Array Slot} {st : List Value} {k : Nat} {v : Int32} (hd : decode c.code pc = .ok (.iload k, 2)) (hl : Ls[k]? = some (.val (.int v))) (K : Goes p e below G (T.setTop (mkF m (pc + 2) Ls (.int v :: st)))) : Goes p e below G (T.setTop (mkF m pc Ls (st))) :=
  go (fun _ q => XS.iload (g := mkF m pc Ls (st)) X.here hx rfl hd hl q) K
theorem gIloadN (X : Stand p l e R s m args below meth c T locs cells slots) (hx : p.tables.exec = Jvm.exec) {pc : Nat} {Ls : Array Slot} {st : List Value} {k : Fin 4} {v : Int32} (hd : decode c.code pc = .ok (.iload_n k, 1)) (hl : Ls[k.val]? = some (.val (.int v))) (K : Goes p e below G (T.setTop (mkF m (pc + 1) Ls (.int v :: st)))) : Goes p e below G (T.setTop (mkF m pc Ls (st))) :=
  go (fun _ q => XS.iloadN (g := mkF m pc Ls (st)) X.here hx rfl hd hl q) K
theorem gIstore (X : Stand p l e R s m args below meth c T locs cells slots) (hx : p.tables.exec = Jvm.exec) {pc : Nat} {Ls : Array Slot} {st : List Value} {k : Nat} {v : Int32} {l' : Array Slot} (hd : decode c.code pc = .ok (.istore k, 2)) (hl : storeLocals Ls k (.int v) = some l') (K : Goes p e below G (T.setTop (mkF m (pc + 2) l' (st)))) : Goes p e below G (T.setTop (mkF m pc Ls (.int v :: st))) :=
  go (fun _ q => XS.istore (g := mkF m pc Ls (.int v :: st)) X.here hx rfl hd rfl hl q) K
theorem gIstoreN (X : Stand p l e R s m args below meth c T locs cells slots) (hx : p.tables.exec = Jvm.exec) {pc : Nat} {Ls : Array Slot} {st : List Value} {k : Fin 4} {v : Int32} {l' : Array Slot} (hd : decode c.code pc = .ok (.istore_n k, 1)) (hl : storeLocals Ls k.val (.int v) = some l') (K : Goes p e below G (T.setTop (mkF m (pc + 1) l' (st)))) : Goes p e below G (T.setTop (mkF m pc Ls (.int v :: st))) :=
  go (fun _ q => XS.istoreN (g := mkF m pc Ls (.int v :: st)) X.here hx rfl hd rfl hl q) K
theorem gLload (X : Stand p l e R s m args below meth c T locs cells slots) (hx : p.tables.exec = Jvm.exec) {pc : Nat} {Ls : Array Slot} {st : List Value} {k : Nat} {v : Int64} (hd : decode c.code pc = .ok (.lload k, 2)) (hl : Ls[k]? = some (.val (.long v))) (K : Goes p e below G (T.setTop (mkF m (pc + 2) Ls (.long v :: st)))) : Goes p e below G (T.setTop (mkF m pc Ls (st))) :=
  go (fun _ q => XT.lload (g := mkF m pc Ls (st)) X.here hx rfl hd hl q) K
theorem gLloadN (X : Stand p l e R s m args below meth c T locs cells slots) (hx : p.tables.exec = Jvm.exec) {pc : Nat} {Ls : Array Slot} {st : List Value} {k : Fin 4} {v : Int64} (hd : decode c.code pc = .ok (.lload_n k, 1)) (hl : Ls[k.val]? = some (.val (.long v))) (K : Goes p e below G (T.setTop (mkF m (pc + 1) Ls (.long v :: st)))) : Goes p e below G (T.setTop (mkF m pc Ls (st))) :=
  go (fun _ q => XT.lloadN (g := mkF m pc Ls (st)) X.here hx rfl hd hl q) K
theorem gLstore (X : Stand p l e R s m args below meth c T locs cells slots) (hx : p.tables.exec = Jvm.exec) {pc : Nat} {Ls : Array Slot} {st : List Value} {k : Nat} {v : Int64} {l' : Array Slot} (hd : decode c.code pc = .ok (.lstore k, 2)) (hl : storeLocals Ls k (.long v) = some l') (K : Goes p e below G (T.setTop (mkF m (pc + 2) l' (st)))) : Goes p e below G (T.setTop (mkF m pc Ls (.long v :: st))) :=
  go (fun _ q => XT.lstore (g := mkF m pc Ls (.long v :: st)) X.here hx rfl hd rfl hl q) K
theorem gLstoreN (X : Stand p l e R s m args below meth c T locs cells slots) (hx : p.tables.exec = Jvm.exec) {pc : Nat} {Ls : Array Slot} {st : List Value} {k : Fin 4} {v : Int64} {l' : Array Slot} (hd : decode c.code pc = .ok (.lstore_n k, 1)) (hl : storeLocals Ls k.val (.long v) = some l') (K : Goes p e below G (T.setTop (mkF m (pc + 1) l' (st)))) : Goes p e below G (T.setTop (mkF m pc Ls (.long v :: st))) :=
  go (fun _ q => XT.lstoreN (g := mkF m pc Ls (.long v :: st)) X.here hx rfl hd rfl hl q) K
theorem gDload (X : Stand p l e R s m args below meth c T locs cells slots) (hx : p.tables.exec = Jvm.exec) {pc : Nat} {Ls : Array Slot} {st : List Value} {k : Nat} {v : UInt64} (hd : decode c.code pc = .ok (.dload k, 2)) (hl : Ls[k]? = some (.val (.double v))) (K : Goes p e below G (T.setTop (mkF m (pc + 2) Ls (.double v :: st)))) : Goes p e below G (T.setTop (mkF m pc Ls (st))) :=
  go (fun _ q => XS.dload (g := mkF m pc Ls (st)) X.here hx rfl hd hl q) K
theorem gDloadN (X : Stand p l e R s m args below meth c T locs cells slots) (hx : p.tables.exec = Jvm.exec) {pc : Nat} {Ls : Array Slot} {st : List Value} {k : Fin 4} {v : UInt64} (hd : decode c.code pc = .ok (.dload_n k, 1)) (hl : Ls[k.val]? = some (.val (.double v))) (K : Goes p e below G (T.setTop (mkF m (pc + 1) Ls (.double v :: st)))) : Goes p e below G (T.setTop (mkF m pc Ls (st))) :=
  go (fun _ q => XS.dloadN (g := mkF m pc Ls (st)) X.here hx rfl hd hl q) K
theorem gDstore (X : Stand p l e R s m args below meth c T locs cells slots) (hx : p.tables.exec = Jvm.exec) {pc : Nat} {Ls : Array Slot} {st : List Value} {k : Nat} {v : UInt64} {l' : Array Slot} (hd : decode c.code pc = .ok (.dstore k, 2)) (hl : storeLocals Ls k (.double v) = some l') (K : Goes p e below G (T.setTop (mkF m (pc + 2) l' (st)))) : Goes p e below G (T.setTop (mkF m pc Ls (.double v :: st))) :=
  go (fun _ q => XS.dstore (g := mkF m pc Ls (.double v :: st)) X.here hx rfl hd rfl hl q) K
theorem gDstoreN (X : Stand p l e R s m args below meth c T locs cells slots) (hx : p.tables.exec = Jvm.exec) {pc : Nat} {Ls : Array Slot} {st : List Value} {k : Fin 4} {v : UInt64} {l' : Array Slot} (hd : decode c.code pc = .ok (.dstore_n k, 1)) (hl : storeLocals Ls k.val (.double v) = some l') (K : Goes p e below G (T.setTop (mkF m (pc + 1) l' (st)))) : Goes p e below G (T.setTop (mkF m pc Ls (.double v :: st))) :=
  go (fun _ q => XS.dstoreN (g := mkF m pc Ls (.double v :: st)) X.here hx rfl hd rfl hl q) K
theorem gAload (X : Stand p l e R s m args below meth c T locs cells slots) (hx : p.tables.exec = Jvm.exec) {pc : Nat} {Ls : Array Slot} {st : List Value} {k : Nat} {v : Value} (hd : decode c.code pc = .ok (.aload k, 2)) (hl : Ls[k]? = some (.val v)) (hv : v.isRef = true) (K : Goes p e below G (T.setTop (mkF m (pc + 2) Ls (v :: st)))) : Goes p e below G (T.setTop (mkF m pc Ls (st))) :=
  go (fun _ q => XS.aload (g := mkF m pc Ls (st)) X.here hx rfl hd hl hv q) K
theorem gAloadN (X : Stand p l e R s m args below meth c T locs cells slots) (hx : p.tables.exec = Jvm.exec) {pc : Nat} {Ls : Array Slot} {st : List Value} {k : Fin 4} {v : Value} (hd : decode c.code pc = .ok (.aload_n k, 1)) (hl : Ls[k.val]? = some (.val v)) (hv : v.isRef = true) (K : Goes p e below G (T.setTop (mkF m (pc + 1) Ls (v :: st)))) : Goes p e below G (T.setTop (mkF m pc Ls (st))) :=
  go (fun _ q => XS.aloadN (g := mkF m pc Ls (st)) X.here hx rfl hd hl hv q) K
theorem gAstore (X : Stand p l e R s m args below meth c T locs cells slots) (hx : p.tables.exec = Jvm.exec) {pc : Nat} {Ls : Array Slot} {st : List Value} {k : Nat} {v : Value} {l' : Array Slot} (hd : decode c.code pc = .ok (.astore k, 2)) (hv : v.isRef = true) (hl : storeLocals Ls k v = some l') (K : Goes p e below G (T.setTop (mkF m (pc + 2) l' (st)))) : Goes p e below G (T.setTop (mkF m pc Ls (v :: st))) :=
  go (fun _ q => XS.astore (g := mkF m pc Ls (v :: st)) X.here hx rfl hd rfl hv hl q) K
theorem gAstoreN (X : Stand p l e R s m args below meth c T locs cells slots) (hx : p.tables.exec = Jvm.exec) {pc : Nat} {Ls : Array Slot} {st : List Value} {k : Fin 4} {v : Value} {l' : Array Slot} (hd : decode c.code pc = .ok (.astore_n k, 1)) (hv : v.isRef = true) (hl : storeLocals Ls k.val v = some l') (K : Goes p e below G (T.setTop (mkF m (pc + 1) l' (st)))) : Goes p e below G (T.setTop (mkF m pc Ls (v :: st))) :=
  go (fun _ q => XS.astoreN (g := mkF m pc Ls (v :: st)) X.here hx rfl hd rfl hv hl q) K
theorem gIstoreS (X : Stand p l e R s m args below meth c T locs cells slots) (hx : p.tables.exec = Jvm.exec) {pc : Nat} {Ls : Array Slot} {st : List Value} {k : Nat} {v : Int32} {o : Slot} (hd : decode c.code pc = .ok (.istore k, 2)) (hold : Ls[k]? = some o) (ho : o = .unset ∨ ∃ w, o = .val w ∧ w.category = 1) (K : Goes p e below G (T.setTop (mkF m (pc + 2) (Ls.setIfInBounds k (.val (.int v))) (st)))) : Goes p e below G (T.setTop (mkF m pc Ls (.int v :: st))) :=
  go (fun _ q => XS.istoreS (g := mkF m pc Ls (.int v :: st)) X.here hx rfl hd rfl hold ho q) K
theorem gIconst (X : Stand p l e R s m args below meth c T locs cells slots) (hx : p.tables.exec = Jvm.exec) {pc : Nat} {Ls : Array Slot} {st : List Value} {i : Int} {v : Int32} (hd : decode c.code pc = .ok (.iconst i, 1)) (hv : Int32.ofInt i = v) (K : Goes p e below G (T.setTop (mkF m (pc + 1) Ls (.int v :: st)))) : Goes p e below G (T.setTop (mkF m pc Ls st)) := by
  subst hv
  exact go (fun _ q => XS.iconst (g := mkF m pc Ls st) X.here hx rfl hd q) K
theorem gBipush (X : Stand p l e R s m args below meth c T locs cells slots) (hx : p.tables.exec = Jvm.exec) {pc : Nat} {Ls : Array Slot} {st : List Value} {i : Int} {v : Int32} (hd : decode c.code pc = .ok (.bipush i, 2)) (hv : (Int8.ofInt i).toInt32 = v) (K : Goes p e below G (T.setTop (mkF m (pc + 2) Ls (.int v :: st)))) : Goes p e below G (T.setTop (mkF m pc Ls st)) := by
  subst hv
  exact go (fun _ q => XS.bipush (g := mkF m pc Ls st) X.here hx rfl hd q) K
theorem gSipush (X : Stand p l e R s m args below meth c T locs cells slots) (hx : p.tables.exec = Jvm.exec) {pc : Nat} {Ls : Array Slot} {st : List Value} {i : Int} {v : Int32} (hd : decode c.code pc = .ok (.sipush i, 3)) (hv : (Int16.ofInt i).toInt32 = v) (K : Goes p e below G (T.setTop (mkF m (pc + 3) Ls (.int v :: st)))) : Goes p e below G (T.setTop (mkF m pc Ls st)) := by
  subst hv
  exact go (fun _ q => XS.sipush (g := mkF m pc Ls st) X.here hx rfl hd q) K
theorem gLconst (X : Stand p l e R s m args below meth c T locs cells slots) (hx : p.tables.exec = Jvm.exec) {pc : Nat} {Ls : Array Slot} {st : List Value} {i : Fin 2} {v : Int64} (hd : decode c.code pc = .ok (.lconst i, 1)) (hv : Int64.ofNat i = v) (K : Goes p e below G (T.setTop (mkF m (pc + 1) Ls (.long v :: st)))) : Goes p e below G (T.setTop (mkF m pc Ls st)) := by
  subst hv
  exact go (fun _ q => XT.lconst (g := mkF m pc Ls st) X.here hx rfl hd q) K
theorem gAnull (X : Stand p l e R s m args below meth c T locs cells slots) (hx : p.tables.exec = Jvm.exec) {pc : Nat} {Ls : Array Slot} {st : List Value}  (hd : decode c.code pc = .ok (.aconst_null, 1))  (K : Goes p e below G (T.setTop (mkF m (pc + 1) Ls (.null :: st)))) : Goes p e below G (T.setTop (mkF m pc Ls (st))) :=
  go (fun _ q => XS.aconstNull (g := mkF m pc Ls (st)) X.here hx rfl hd  q) K
theorem gDconst0 (X : Stand p l e R s m args below meth c T locs cells slots) (hx : p.tables.exec = Jvm.exec) {pc : Nat} {Ls : Array Slot} {st : List Value}  (hd : decode c.code pc = .ok (.dconst 0, 1))  (K : Goes p e below G (T.setTop (mkF m (pc + 1) Ls (.double FP.dconst0 :: st)))) : Goes p e below G (T.setTop (mkF m pc Ls (st))) :=
  go (fun _ q => XS.dconst0 (g := mkF m pc Ls (st)) X.here hx rfl hd rfl q) K
theorem gDconst1 (X : Stand p l e R s m args below meth c T locs cells slots) (hx : p.tables.exec = Jvm.exec) {pc : Nat} {Ls : Array Slot} {st : List Value}  (hd : decode c.code pc = .ok (.dconst 1, 1))  (K : Goes p e below G (T.setTop (mkF m (pc + 1) Ls (.double FP.dconst1 :: st)))) : Goes p e below G (T.setTop (mkF m pc Ls (st))) :=
  go (fun _ q => XS.dconst1 (g := mkF m pc Ls (st)) X.here hx rfl hd rfl q) K
theorem gIadd (X : Stand p l e R s m args below meth c T locs cells slots) (hx : p.tables.exec = Jvm.exec) {pc : Nat} {Ls : Array Slot} {st : List Value} {x y : Int32} (hd : decode c.code pc = .ok (.iadd, 1))  (K : Goes p e below G (T.setTop (mkF m (pc + 1) Ls (.int (x + y) :: st)))) : Goes p e below G (T.setTop (mkF m pc Ls (.int y :: .int x :: st))) :=
  go (fun _ q => XS.iadd (g := mkF m pc Ls (.int y :: .int x :: st)) X.here hx rfl hd rfl q) K
theorem gIsub (X : Stand p l e R s m args below meth c T locs cells slots) (hx : p.tables.exec = Jvm.exec) {pc : Nat} {Ls : Array Slot} {st : List Value} {x y : Int32} (hd : decode c.code pc = .ok (.isub, 1))  (K : Goes p e below G (T.setTop (mkF m (pc + 1) Ls (.int (x - y) :: st)))) : Goes p e below G (T.setTop (mkF m pc Ls (.int y :: .int x :: st))) :=
  go (fun _ q => XS.isub (g := mkF m pc Ls (.int y :: .int x :: st)) X.here hx rfl hd rfl q) K
theorem gImul (X : Stand p l e R s m args below meth c T locs cells slots) (hx : p.tables.exec = Jvm.exec) {pc : Nat} {Ls : Array Slot} {st : List Value} {x y : Int32} (hd : decode c.code pc = .ok (.imul, 1))  (K : Goes p e below G (T.setTop (mkF m (pc + 1) Ls (.int (x * y) :: st)))) : Goes p e below G (T.setTop (mkF m pc Ls (.int y :: .int x :: st))) :=
  go (fun _ q => XS.imul (g := mkF m pc Ls (.int y :: .int x :: st)) X.here hx rfl hd rfl q) K
theorem gIand (X : Stand p l e R s m args below meth c T locs cells slots) (hx : p.tables.exec = Jvm.exec) {pc : Nat} {Ls : Array Slot} {st : List Value} {x y : Int32} (hd : decode c.code pc = .ok (.iand, 1))  (K : Goes p e below G (T.setTop (mkF m (pc + 1) Ls (.int (x &&& y) :: st)))) : Goes p e below G (T.setTop (mkF m pc Ls (.int y :: .int x :: st))) :=
  go (fun _ q => XS.iand (g := mkF m pc Ls (.int y :: .int x :: st)) X.here hx rfl hd rfl q) K
theorem gIor (X : Stand p l e R s m args below meth c T locs cells slots) (hx : p.tables.exec = Jvm.exec) {pc : Nat} {Ls : Array Slot} {st : List Value} {x y : Int32} (hd : decode c.code pc = .ok (.ior, 1))  (K : Goes p e below G (T.setTop (mkF m (pc + 1) Ls (.int (x ||| y) :: st)))) : Goes p e below G (T.setTop (mkF m pc Ls (.int y :: .int x :: st))) :=
  go (fun _ q => XT.ior (g := mkF m pc Ls (.int y :: .int x :: st)) X.here hx rfl hd rfl q) K
theorem gIxor (X : Stand p l e R s m args below meth c T locs cells slots) (hx : p.tables.exec = Jvm.exec) {pc : Nat} {Ls : Array Slot} {st : List Value} {x y : Int32} (hd : decode c.code pc = .ok (.ixor, 1))  (K : Goes p e below G (T.setTop (mkF m (pc + 1) Ls (.int (x ^^^ y) :: st)))) : Goes p e below G (T.setTop (mkF m pc Ls (.int y :: .int x :: st))) :=
  go (fun _ q => XT.ixor (g := mkF m pc Ls (.int y :: .int x :: st)) X.here hx rfl hd rfl q) K
theorem gIshl (X : Stand p l e R s m args below meth c T locs cells slots) (hx : p.tables.exec = Jvm.exec) {pc : Nat} {Ls : Array Slot} {st : List Value} {x y : Int32} (hd : decode c.code pc = .ok (.ishl, 1))  (K : Goes p e below G (T.setTop (mkF m (pc + 1) Ls (.int (x <<< (y &&& 31)) :: st)))) : Goes p e below G (T.setTop (mkF m pc Ls (.int y :: .int x :: st))) :=
  go (fun _ q => XT.ishl (g := mkF m pc Ls (.int y :: .int x :: st)) X.here hx rfl hd rfl q) K
theorem gIshr (X : Stand p l e R s m args below meth c T locs cells slots) (hx : p.tables.exec = Jvm.exec) {pc : Nat} {Ls : Array Slot} {st : List Value} {x y : Int32} (hd : decode c.code pc = .ok (.ishr, 1))  (K : Goes p e below G (T.setTop (mkF m (pc + 1) Ls (.int (x >>> (y &&& 31)) :: st)))) : Goes p e below G (T.setTop (mkF m pc Ls (.int y :: .int x :: st))) :=
  go (fun _ q => XT.ishr (g := mkF m pc Ls (.int y :: .int x :: st)) X.here hx rfl hd rfl q) K
theorem gIushr (X : Stand p l e R s m args below meth c T locs cells slots) (hx : p.tables.exec = Jvm.exec) {pc : Nat} {Ls : Array Slot} {st : List Value} {x y : Int32} (hd : decode c.code pc = .ok (.iushr, 1))  (K : Goes p e below G (T.setTop (mkF m (pc + 1) Ls (.int (XT.ushr x y) :: st)))) : Goes p e below G (T.setTop (mkF m pc Ls (.int y :: .int x :: st))) :=
  go (fun _ q => XT.iushr (g := mkF m pc Ls (.int y :: .int x :: st)) X.here hx rfl hd rfl q) K
theorem gLadd (X : Stand p l e R s m args below meth c T locs cells slots) (hx : p.tables.exec = Jvm.exec) {pc : Nat} {Ls : Array Slot} {st : List Value} {x y : Int64} (hd : decode c.code pc = .ok (.ladd, 1))  (K : Goes p e below G (T.setTop (mkF m (pc + 1) Ls (.long (x + y) :: st)))) : Goes p e below G (T.setTop (mkF m pc Ls (.long y :: .long x :: st))) :=
  go (fun _ q => XT.ladd (g := mkF m pc Ls (.long y :: .long x :: st)) X.here hx rfl hd rfl q) K
theorem gLsub (X : Stand p l e R s m args below meth c T locs cells slots) (hx : p.tables.exec = Jvm.exec) {pc : Nat} {Ls : Array Slot} {st : List Value} {x y : Int64} (hd : decode c.code pc = .ok (.lsub, 1))  (K : Goes p e below G (T.setTop (mkF m (pc + 1) Ls (.long (x - y) :: st)))) : Goes p e below G (T.setTop (mkF m pc Ls (.long y :: .long x :: st))) :=
  go (fun _ q => XT.lsub (g := mkF m pc Ls (.long y :: .long x :: st)) X.here hx rfl hd rfl q) K
theorem gLmul (X : Stand p l e R s m args below meth c T locs cells slots) (hx : p.tables.exec = Jvm.exec) {pc : Nat} {Ls : Array Slot} {st : List Value} {x y : Int64} (hd : decode c.code pc = .ok (.lmul, 1))  (K : Goes p e below G (T.setTop (mkF m (pc + 1) Ls (.long (x * y) :: st)))) : Goes p e below G (T.setTop (mkF m pc Ls (.long y :: .long x :: st))) :=
  go (fun _ q => XT.lmul (g := mkF m pc Ls (.long y :: .long x :: st)) X.here hx rfl hd rfl q) K
theorem gLand (X : Stand p l e R s m args below meth c T locs cells slots) (hx : p.tables.exec = Jvm.exec) {pc : Nat} {Ls : Array Slot} {st : List Value} {x y : Int64} (hd : decode c.code pc = .ok (.land, 1))  (K : Goes p e below G (T.setTop (mkF m (pc + 1) Ls (.long (x &&& y) :: st)))) : Goes p e below G (T.setTop (mkF m pc Ls (.long y :: .long x :: st))) :=
  go (fun _ q => XT.land (g := mkF m pc Ls (.long y :: .long x :: st)) X.here hx rfl hd rfl q) K
theorem gLor (X : Stand p l e R s m args below meth c T locs cells slots) (hx : p.tables.exec = Jvm.exec) {pc : Nat} {Ls : Array Slot} {st : List Value} {x y : Int64} (hd : decode c.code pc = .ok (.lor, 1))  (K : Goes p e below G (T.setTop (mkF m (pc + 1) Ls (.long (x ||| y) :: st)))) : Goes p e below G (T.setTop (mkF m pc Ls (.long y :: .long x :: st))) :=
  go (fun _ q => XT.lor (g := mkF m pc Ls (.long y :: .long x :: st)) X.here hx rfl hd rfl q) K
theorem gLxor (X : Stand p l e R s m args below meth c T locs cells slots) (hx : p.tables.exec = Jvm.exec) {pc : Nat} {Ls : Array Slot} {st : List Value} {x y : Int64} (hd : decode c.code pc = .ok (.lxor, 1))  (K : Goes p e below G (T.setTop (mkF m (pc + 1) Ls (.long (x ^^^ y) :: st)))) : Goes p e below G (T.setTop (mkF m pc Ls (.long y :: .long x :: st))) :=
  go (fun _ q => XT.lxor (g := mkF m pc Ls (.long y :: .long x :: st)) X.here hx rfl hd rfl q) K
theorem gLshl (X : Stand p l e R s m args below meth c T locs cells slots) (hx : p.tables.exec = Jvm.exec) {pc : Nat} {Ls : Array Slot} {st : List Value} {x : Int64} {y : Int32} (hd : decode c.code pc = .ok (.lshl, 1))  (K : Goes p e below G (T.setTop (mkF m (pc + 1) Ls (.long (x <<< (y.toInt64 &&& 63)) :: st)))) : Goes p e below G (T.setTop (mkF m pc Ls (.int y :: .long x :: st))) :=
  go (fun _ q => XT.lshl (g := mkF m pc Ls (.int y :: .long x :: st)) X.here hx rfl hd rfl q) K
theorem gLshr (X : Stand p l e R s m args below meth c T locs cells slots) (hx : p.tables.exec = Jvm.exec) {pc : Nat} {Ls : Array Slot} {st : List Value} {x : Int64} {y : Int32} (hd : decode c.code pc = .ok (.lshr, 1))  (K : Goes p e below G (T.setTop (mkF m (pc + 1) Ls (.long (x >>> (y.toInt64 &&& 63)) :: st)))) : Goes p e below G (T.setTop (mkF m pc Ls (.int y :: .long x :: st))) :=
  go (fun _ q => XT.lshr (g := mkF m pc Ls (.int y :: .long x :: st)) X.here hx rfl hd rfl q) K
theorem gLushr (X : Stand p l e R s m args below meth c T locs cells slots) (hx : p.tables.exec = Jvm.exec) {pc : Nat} {Ls : Array Slot} {st : List Value} {x : Int64} {y : Int32} (hd : decode c.code pc = .ok (.lushr, 1))  (K : Goes p e below G (T.setTop (mkF m (pc + 1) Ls (.long (XT.ushrL x y) :: st)))) : Goes p e below G (T.setTop (mkF m pc Ls (.int y :: .long x :: st))) :=
  go (fun _ q => XT.lushr (g := mkF m pc Ls (.int y :: .long x :: st)) X.here hx rfl hd rfl q) K
theorem gIneg (X : Stand p l e R s m args below meth c T locs cells slots) (hx : p.tables.exec = Jvm.exec) {pc : Nat} {Ls : Array Slot} {st : List Value} {x : Int32} (hd : decode c.code pc = .ok (.ineg, 1))  (K : Goes p e below G (T.setTop (mkF m (pc + 1) Ls (.int (-x) :: st)))) : Goes p e below G (T.setTop (mkF m pc Ls (.int x :: st))) :=
  go (fun _ q => XS.ineg (g := mkF m pc Ls (.int x :: st)) X.here hx rfl hd rfl q) K
theorem gI2l (X : Stand p l e R s m args below meth c T locs cells slots) (hx : p.tables.exec = Jvm.exec) {pc : Nat} {Ls : Array Slot} {st : List Value} {x : Int32} (hd : decode c.code pc = .ok (.i2l, 1))  (K : Goes p e below G (T.setTop (mkF m (pc + 1) Ls (.long (x.toInt64) :: st)))) : Goes p e below G (T.setTop (mkF m pc Ls (.int x :: st))) :=
  go (fun _ q => XT.i2l (g := mkF m pc Ls (.int x :: st)) X.here hx rfl hd rfl q) K
theorem gL2i (X : Stand p l e R s m args below meth c T locs cells slots) (hx : p.tables.exec = Jvm.exec) {pc : Nat} {Ls : Array Slot} {st : List Value} {x : Int64} (hd : decode c.code pc = .ok (.l2i, 1))  (K : Goes p e below G (T.setTop (mkF m (pc + 1) Ls (.int (x.toInt32) :: st)))) : Goes p e below G (T.setTop (mkF m pc Ls (.long x :: st))) :=
  go (fun _ q => XT.l2i (g := mkF m pc Ls (.long x :: st)) X.here hx rfl hd rfl q) K
theorem gI2b (X : Stand p l e R s m args below meth c T locs cells slots) (hx : p.tables.exec = Jvm.exec) {pc : Nat} {Ls : Array Slot} {st : List Value} {x : Int32} (hd : decode c.code pc = .ok (.i2b, 1))  (K : Goes p e below G (T.setTop (mkF m (pc + 1) Ls (.int (x.toInt8.toInt32) :: st)))) : Goes p e below G (T.setTop (mkF m pc Ls (.int x :: st))) :=
  go (fun _ q => XT.i2b (g := mkF m pc Ls (.int x :: st)) X.here hx rfl hd rfl q) K
theorem gI2c (X : Stand p l e R s m args below meth c T locs cells slots) (hx : p.tables.exec = Jvm.exec) {pc : Nat} {Ls : Array Slot} {st : List Value} {x : Int32} (hd : decode c.code pc = .ok (.i2c, 1))  (K : Goes p e below G (T.setTop (mkF m (pc + 1) Ls (.int (x.toUInt32.toUInt16.toUInt32.toInt32) :: st)))) : Goes p e below G (T.setTop (mkF m pc Ls (.int x :: st))) :=
  go (fun _ q => XT.i2c (g := mkF m pc Ls (.int x :: st)) X.here hx rfl hd rfl q) K
theorem gI2d (X : Stand p l e R s m args below meth c T locs cells slots) (hx : p.tables.exec = Jvm.exec) {pc : Nat} {Ls : Array Slot} {st : List Value} {x : Int32} (hd : decode c.code pc = .ok (.i2d, 1))  (K : Goes p e below G (T.setTop (mkF m (pc + 1) Ls (.double (FP.i2d x) :: st)))) : Goes p e below G (T.setTop (mkF m pc Ls (.int x :: st))) :=
  go (fun _ q => XS.i2dS (g := mkF m pc Ls (.int x :: st)) X.here hx rfl hd rfl rfl q) K
theorem gL2d (X : Stand p l e R s m args below meth c T locs cells slots) (hx : p.tables.exec = Jvm.exec) {pc : Nat} {Ls : Array Slot} {st : List Value} {x : Int64} (hd : decode c.code pc = .ok (.l2d, 1))  (K : Goes p e below G (T.setTop (mkF m (pc + 1) Ls (.double (FP.l2d x) :: st)))) : Goes p e below G (T.setTop (mkF m pc Ls (.long x :: st))) :=
  go (fun _ q => XS.l2dS (g := mkF m pc Ls (.long x :: st)) X.here hx rfl hd rfl rfl q) K
theorem gDadd (X : Stand p l e R s m args below meth c T locs cells slots) (hx : p.tables.exec = Jvm.exec) {pc : Nat} {Ls : Array Slot} {st : List Value} {x y : UInt64} (hd : decode c.code pc = .ok (.dadd, 1)) (hn : Jvm.Free.Fl.NoNaN64 (FP.dadd x y)) (K : Goes p e below G (T.setTop (mkF m (pc + 1) Ls (.double (FP.dadd x y) :: st)))) : Goes p e below G (T.setTop (mkF m pc Ls (.double y :: .double x :: st))) :=
  go (fun _ q => XS.daddS (g := mkF m pc Ls (.double y :: .double x :: st)) X.here hx rfl hd rfl hn rfl q) K
theorem gDsub (X : Stand p l e R s m args below meth c T locs cells slots) (hx : p.tables.exec = Jvm.exec) {pc : Nat} {Ls : Array Slot} {st : List Value} {x y : UInt64} (hd : decode c.code pc = .ok (.dsub, 1)) (hn : Jvm.Free.Fl.NoNaN64 (FP.dsub x y)) (K : Goes p e below G (T.setTop (mkF m (pc + 1) Ls (.double (FP.dsub x y) :: st)))) : Goes p e below G (T.setTop (mkF m pc Ls (.double y :: .double x :: st))) :=
  go (fun _ q => XS.dsubS (g := mkF m pc Ls (.double y :: .double x :: st)) X.here hx rfl hd rfl hn rfl q) K
theorem gDmul (X : Stand p l e R s m args below meth c T locs cells slots) (hx : p.tables.exec = Jvm.exec) {pc : Nat} {Ls : Array Slot} {st : List Value} {x y : UInt64} (hd : decode c.code pc = .ok (.dmul, 1)) (hn : Jvm.Free.Fl.NoNaN64 (FP.dmul x y)) (K : Goes p e below G (T.setTop (mkF m (pc + 1) Ls (.double (FP.dmul x y) :: st)))) : Goes p e below G (T.setTop (mkF m pc Ls (.double y :: .double x :: st))) :=
  go (fun _ q => XS.dmulS (g := mkF m pc Ls (.double y :: .double x :: st)) X.here hx rfl hd rfl hn rfl q) K
theorem gDdiv (X : Stand p l e R s m args below meth c T locs cells slots) (hx : p.tables.exec = Jvm.exec) {pc : Nat} {Ls : Array Slot} {st : List Value} {x y : UInt64} (hd : decode c.code pc = .ok (.ddiv, 1)) (hn : Jvm.Free.Fl.NoNaN64 (FP.ddiv x y)) (K : Goes p e below G (T.setTop (mkF m (pc + 1) Ls (.double (FP.ddiv x y) :: st)))) : Goes p e below G (T.setTop (mkF m pc Ls (.double y :: .double x :: st))) :=
  go (fun _ q => XS.ddivS (g := mkF m pc Ls (.double y :: .double x :: st)) X.here hx rfl hd rfl hn rfl q) K
theorem gDcmp (X : Stand p l e R s m args below meth c T locs cells slots) (hx : p.tables.exec = Jvm.exec) {pc : Nat} {Ls : Array Slot} {st : List Value} {o : CmpOp} {x y : UInt64} (hd : decode c.code pc = .ok (.dcmp o, 1))  (K : Goes p e below G (T.setTop (mkF m (pc + 1) Ls (.int (cmpValue (FP.dcmp x y) o) :: st)))) : Goes p e below G (T.setTop (mkF m pc Ls (.double y :: .double x :: st))) :=
  go (fun _ q => XS.dcmpS (g := mkF m pc Ls (.double y :: .double x :: st)) X.here hx rfl hd rfl rfl q) K
theorem gLcmp (X : Stand p l e R s m args below meth c T locs cells slots) (hx : p.tables.exec = Jvm.exec) {pc : Nat} {Ls : Array Slot} {st : List Value} {x y : Int64} (hd : decode c.code pc = .ok (.lcmp, 1))  (K : Goes p e below G (T.setTop (mkF m (pc + 1) Ls (.int (XT.cmpL x y) :: st)))) : Goes p e below G (T.setTop (mkF m pc Ls (.long y :: .long x :: st))) :=
  go (fun _ q => XT.lcmp (g := mkF m pc Ls (.long y :: .long x :: st)) X.here hx rfl hd rfl q) K
theorem gDup (X : Stand p l e R s m args below meth c T locs cells slots) (hx : p.tables.exec = Jvm.exec) {pc : Nat} {Ls : Array Slot} {st : List Value} {x : Value} (hd : decode c.code pc = .ok (.dup, 1)) (hc : x.category = 1) (K : Goes p e below G (T.setTop (mkF m (pc + 1) Ls (x :: x :: st)))) : Goes p e below G (T.setTop (mkF m pc Ls (x :: st))) :=
  go (fun _ q => XS.dup (g := mkF m pc Ls (x :: st)) X.here hx rfl hd rfl hc q) K
theorem gPop (X : Stand p l e R s m args below meth c T locs cells slots) (hx : p.tables.exec = Jvm.exec) {pc : Nat} {Ls : Array Slot} {st : List Value} {x : Value} (hd : decode c.code pc = .ok (.pop, 1)) (hc : x.category = 1) (K : Goes p e below G (T.setTop (mkF m (pc + 1) Ls (st)))) : Goes p e below G (T.setTop (mkF m pc Ls (x :: st))) :=
  go (fun _ q => XT.pop (g := mkF m pc Ls (x :: st)) X.here hx rfl hd rfl hc q) K
theorem gDupX1 (X : Stand p l e R s m args below meth c T locs cells slots) (hx : p.tables.exec = Jvm.exec) {pc : Nat} {Ls : Array Slot} {st : List Value} {x y : Value} (hd : decode c.code pc = .ok (.dup_x1, 1)) (hc : x.category = 1) (hc' : y.category = 1) (K : Goes p e below G (T.setTop (mkF m (pc + 1) Ls (x :: y :: x :: st)))) : Goes p e below G (T.setTop (mkF m pc Ls (x :: y :: st))) :=
  go (fun _ q => XT.dupX1 (g := mkF m pc Ls (x :: y :: st)) X.here hx rfl hd rfl hc hc' q) K
theorem gDup2 (X : Stand p l e R s m args below meth c T locs cells slots) (hx : p.tables.exec = Jvm.exec) {pc : Nat} {Ls : Array Slot} {st : List Value} {x y : Value} (hd : decode c.code pc = .ok (.dup2, 1)) (hc : x.category = 1) (hc' : y.category = 1) (K : Goes p e below G (T.setTop (mkF m (pc + 1) Ls (x :: y :: x :: y :: st)))) : Goes p e below G (T.setTop (mkF m pc Ls (x :: y :: st))) :=
  go (fun _ q => XT.dup2 (g := mkF m pc Ls (x :: y :: st)) X.here hx rfl hd rfl hc hc' q) K
theorem gIinc (X : Stand p l e R s m args below meth c T locs cells slots) (hx : p.tables.exec = Jvm.exec) {pc : Nat} {Ls : Array Slot} {st : List Value} {k : Nat} {i : Int} {x v : Int32} {l' : Array Slot} (hd : decode c.code pc = .ok (.iinc k i, 3)) (hv : x + Int32.ofInt i = v) (hl : Ls[k]? = some (.val (.int x))) (hl' : storeLocals Ls k (.int v) = some l') (K : Goes p e below G (T.setTop (mkF m (pc + 3) l' st))) : Goes p e below G (T.setTop (mkF m pc Ls st)) := by
  subst hv
  exact go (fun _ q => XS.iinc (g := mkF m pc Ls st) X.here hx rfl hd hl hl' q) K
theorem gIrem (X : Stand p l e R s m args below meth c T locs cells slots) (hx : p.tables.exec = Jvm.exec) {pc : Nat} {Ls : Array Slot} {st : List Value} {x y : Int32} (hd : decode c.code pc = .ok (.irem, 1)) (hy : y ≠ 0) (K : Goes p e below G (T.setTop (mkF m (pc + 1) Ls (.int (x % y) :: st)))) : Goes p e below G (T.setTop (mkF m pc Ls (.int y :: .int x :: st))) :=
  go (fun _ q => iremM X hx (g := mkF m pc Ls (.int y :: .int x :: st)) rfl hd rfl hy q) K
theorem gIdiv (X : Stand p l e R s m args below meth c T locs cells slots) (hx : p.tables.exec = Jvm.exec) {pc : Nat} {Ls : Array Slot} {st : List Value} {x y : Int32} (hd : decode c.code pc = .ok (.idiv, 1)) (hy : y ≠ 0) (K : Goes p e below G (T.setTop (mkF m (pc + 1) Ls (.int (x / y) :: st)))) : Goes p e below G (T.setTop (mkF m pc Ls (.int y :: .int x :: st))) :=
  go (fun _ q => XS.idiv (g := mkF m pc Ls (.int y :: .int x :: st)) X.here hx rfl hd rfl hy q) K
theorem gGoto (X : Stand p l e R s m args below meth c T locs cells slots) (hx : p.tables.exec = Jvm.exec) {pc : Nat} {Ls : Array Slot} {st : List Value} {o : Int} {pc' : Nat} (hd : decode c.code pc = .ok (.goto o, 3)) (ho : 0 ≤ (pc : Int) + o) (hp : ((pc : Int) + o).toNat = pc') (K : Goes p e below G (T.setTop (mkF m pc' Ls (st)))) : Goes p e below G (T.setTop (mkF m pc Ls (st))) :=
  go (fun _ q => XS.goto (g := mkF m pc Ls (st)) X.here hx rfl rfl hd ho hp q) K
theorem gIfY (X : Stand p l e R s m args below meth c T locs cells slots) (hx : p.tables.exec = Jvm.exec) {pc : Nat} {Ls : Array Slot} {st : List Value} {cd : ClassFile.Cond} {x : Int32} {o : Int} {pc' : Nat} (hd : decode c.code pc = .ok (.ifCond cd o, 3)) (hc : ifCond.holds cd x = true) (ho : 0 ≤ (pc : Int) + o) (hp : ((pc : Int) + o).toNat = pc') (K : Goes p e below G (T.setTop (mkF m pc' Ls (st)))) : Goes p e below G (T.setTop (mkF m pc Ls (.int x :: st))) :=
  go (fun _ q => XS.ifYes (g := mkF m pc Ls (.int x :: st)) X.here hx rfl rfl hd rfl hc ho hp q) K
theorem gIfN (X : Stand p l e R s m args below meth c T locs cells slots) (hx : p.tables.exec = Jvm.exec) {pc : Nat} {Ls : Array Slot} {st : List Value} {cd : ClassFile.Cond} {x : Int32} {o : Int} (hd : decode c.code pc = .ok (.ifCond cd o, 3)) (hc : ifCond.holds cd x = false) (K : Goes p e below G (T.setTop (mkF m (pc + 3) Ls (st)))) : Goes p e below G (T.setTop (mkF m pc Ls (.int x :: st))) :=
  go (fun _ q => XS.ifNo (g := mkF m pc Ls (.int x :: st)) X.here hx rfl hd rfl hc q) K
theorem gIcmpY (X : Stand p l e R s m args below meth c T locs cells slots) (hx : p.tables.exec = Jvm.exec) {pc : Nat} {Ls : Array Slot} {st : List Value} {cd : ClassFile.Cond} {x y : Int32} {o : Int} {pc' : Nat} (hd : decode c.code pc = .ok (.if_icmp cd o, 3)) (hc : if_icmp.holds cd x y = true) (ho : 0 ≤ (pc : Int) + o) (hp : ((pc : Int) + o).toNat = pc') (K : Goes p e below G (T.setTop (mkF m pc' Ls (st)))) : Goes p e below G (T.setTop (mkF m pc Ls (.int y :: .int x :: st))) :=
  go (fun _ q => XS.icmpYes (g := mkF m pc Ls (.int y :: .int x :: st)) X.here hx rfl rfl hd rfl hc ho hp q) K
theorem gIcmpN (X : Stand p l e R s m args below meth c T locs cells slots) (hx : p.tables.exec = Jvm.exec) {pc : Nat} {Ls : Array Slot} {st : List Value} {cd : ClassFile.Cond} {x y : Int32} {o : Int} (hd : decode c.code pc = .ok (.if_icmp cd o, 3)) (hc : if_icmp.holds cd x y = false) (K : Goes p e below G (T.setTop (mkF m (pc + 3) Ls (st)))) : Goes p e below G (T.setTop (mkF m pc Ls (.int y :: .int x :: st))) :=
  go (fun _ q => XS.icmpNo (g := mkF m pc Ls (.int y :: .int x :: st)) X.here hx rfl hd rfl hc q) K
theorem gAcmpY (X : Stand p l e R s m args below meth c T locs cells slots) (hx : p.tables.exec = Jvm.exec) {pc : Nat} {Ls : Array Slot} {st : List Value} {cd : ClassFile.ACond} {x y : Value} {o : Int} {pc' : Nat} (hd : decode c.code pc = .ok (.if_acmp cd o, 3)) (hx' : x.isRef = true) (hy' : y.isRef = true) (hc : XT.acmp cd x y = true) (ho : 0 ≤ (pc : Int) + o) (hp : ((pc : Int) + o).toNat = pc') (K : Goes p e below G (T.setTop (mkF m pc' Ls (st)))) : Goes p e below G (T.setTop (mkF m pc Ls (y :: x :: st))) :=
  go (fun _ q => XT.acmpYes (g := mkF m pc Ls (y :: x :: st)) X.here hx rfl rfl hd rfl hx' hy' hc ho hp q) K
theorem gAcmpN (X : Stand p l e R s m args below meth c T locs cells slots) (hx : p.tables.exec = Jvm.exec) {pc : Nat} {Ls : Array Slot} {st : List Value} {cd : ClassFile.ACond} {x y : Value} {o : Int} (hd : decode c.code pc = .ok (.if_acmp cd o, 3)) (hx' : x.isRef = true) (hy' : y.isRef = true) (hc : XT.acmp cd x y = false) (K : Goes p e below G (T.setTop (mkF m (pc + 3) Ls (st)))) : Goes p e below G (T.setTop (mkF m pc Ls (y :: x :: st))) :=
  go (fun _ q => XT.acmpNo (g := mkF m pc Ls (y :: x :: st)) X.here hx rfl hd rfl hx' hy' hc q) K
theorem gNullY (X : Stand p l e R s m args below meth c T locs cells slots) (hx : p.tables.exec = Jvm.exec) {pc : Nat} {Ls : Array Slot} {st : List Value} {o : Int} {pc' : Nat} (hd : decode c.code pc = .ok (.ifnull o, 3)) (ho : 0 ≤ (pc : Int) + o) (hp : ((pc : Int) + o).toNat = pc') (K : Goes p e below G (T.setTop (mkF m pc' Ls (st)))) : Goes p e below G (T.setTop (mkF m pc Ls (.null :: st))) :=
  go (fun _ q => XS.ifnullYes (g := mkF m pc Ls (.null :: st)) X.here hx rfl rfl hd rfl ho hp q) K
theorem gNullN (X : Stand p l e R s m args below meth c T locs cells slots) (hx : p.tables.exec = Jvm.exec) {pc : Nat} {Ls : Array Slot} {st : List Value} {b : Addr} {o : Int} (hd : decode c.code pc = .ok (.ifnull o, 3))  (K : Goes p e below G (T.setTop (mkF m (pc + 3) Ls (st)))) : Goes p e below G (T.setTop (mkF m pc Ls (.ref b :: st))) :=
  go (fun _ q => XS.ifnullNo (g := mkF m pc Ls (.ref b :: st)) X.here hx rfl hd rfl q) K
theorem gNonnullY (X : Stand p l e R s m args below meth c T locs cells slots) (hx : p.tables.exec = Jvm.exec) {pc : Nat} {Ls : Array Slot} {st : List Value} {b : Addr} {o : Int} {pc' : Nat} (hd : decode c.code pc = .ok (.ifnonnull o, 3)) (ho : 0 ≤ (pc : Int) + o) (hp : ((pc : Int) + o).toNat = pc') (K : Goes p e below G (T.setTop (mkF m pc' Ls (st)))) : Goes p e below G (T.setTop (mkF m pc Ls (.ref b :: st))) :=
  go (fun _ q => XT.ifnonnullYes (g := mkF m pc Ls (.ref b :: st)) X.here hx rfl rfl hd rfl ho hp q) K
theorem gNonnullN (X : Stand p l e R s m args below meth c T locs cells slots) (hx : p.tables.exec = Jvm.exec) {pc : Nat} {Ls : Array Slot} {st : List Value} {o : Int} (hd : decode c.code pc = .ok (.ifnonnull o, 3))  (K : Goes p e below G (T.setTop (mkF m (pc + 3) Ls (st)))) : Goes p e below G (T.setTop (mkF m pc Ls (.null :: st))) :=
  go (fun _ q => XT.ifnonnullNo (g := mkF m pc Ls (.null :: st)) X.here hx rfl hd rfl q) K
theorem gLdcI (X : Stand p l e R s m args below meth c T locs cells slots) (hx : p.tables.exec = Jvm.exec) {pc : Nat} {Ls : Array Slot} {st : List Value} (hZ : Z.Warmed39 s.vm) {own : String} (hown : s.vm.findClass own = some m.cls) {i : Nat} {v : Int32} (w : (Cond.constant own i v).before a0 Z = true) (hd : decode c.code pc = .ok (.ldc i, 2)) (K : Goes p e below G (T.setTop (mkF m (pc + 2) Ls (.int v :: st)))) : Goes p e below G (T.setTop (mkF m pc Ls st)) :=
  go (fun _ q => X.ldcI hx hown (mvT hZ w) (g := mkF m pc Ls st) rfl hd q) K
theorem gLdcWI (X : Stand p l e R s m args below meth c T locs cells slots) (hx : p.tables.exec = Jvm.exec) {pc : Nat} {Ls : Array Slot} {st : List Value} (hZ : Z.Warmed39 s.vm) {own : String} (hown : s.vm.findClass own = some m.cls) {i : Nat} {v : Int32} (w : (Cond.constant own i v).before a0 Z = true) (hd : decode c.code pc = .ok (.ldc_w i, 3)) (K : Goes p e below G (T.setTop (mkF m (pc + 3) Ls (.int v :: st)))) : Goes p e below G (T.setTop (mkF m pc Ls st)) :=
  go (fun _ q => X.ldcWI hx hown (mvT hZ w) (g := mkF m pc Ls st) rfl hd q) K
theorem gLdc2J (X : Stand p l e R s m args below meth c T locs cells slots) (hx : p.tables.exec = Jvm.exec) {pc : Nat} {Ls : Array Slot} {st : List Value} (hZ : Z.Warmed39 s.vm) {own : String} (hown : s.vm.findClass own = some m.cls) {i : Nat} {v : Int64} (w : (Cond.constantLong own i v).before a0 Z = true) (hd : decode c.code pc = .ok (.ldc2_w i, 3)) (K : Goes p e below G (T.setTop (mkF m (pc + 3) Ls (.long v :: st)))) : Goes p e below G (T.setTop (mkF m pc Ls st)) :=
  go (fun _ q => X.ldc2J hx hown (mvT hZ w) (g := mkF m pc Ls st) rfl hd q) K
theorem gLdc2D (X : Stand p l e R s m args below meth c T locs cells slots) (hx : p.tables.exec = Jvm.exec) {pc : Nat} {Ls : Array Slot} {st : List Value} (hZ : Z.Warmed39 s.vm) {own : String} (hown : s.vm.findClass own = some m.cls) {i : Nat} {v : UInt64} (w : (Cond.constantDouble own i v).before a0 Z = true) (hd : decode c.code pc = .ok (.ldc2_w i, 3)) (K : Goes p e below G (T.setTop (mkF m (pc + 3) Ls (.double v :: st)))) : Goes p e below G (T.setTop (mkF m pc Ls st)) :=
  go (fun _ q => X.ldc2DoubleC hx hown (mvT hZ w) (g := mkF m pc Ls st) rfl hd _ q) K
end Own
end Jvm.OwnWalk
namespace Jvm.OwnWalk
open Sem ClassFile Op Lib Jvm.Stand Jvm.Free Jvm.LawKit Jvm.RoadKit
section OwnW
variable {p : Program} {l : Launch} {e : Env} {R : Room} {s : State} {m : MethodId} {args : Array Value} {below : List Frame} {meth : Method} {c : Code} {T : State} {locs : List Loc} {cells slots : Nat} {Z : State} {a0 : Array Value} {h h' : Heap} {Q : Option Value → Heap → List Loc → Vm → Prop} {kc ks : Nat} {G : Outcome → State → Prop} {A B : State} {vm0 : Vm} {Pv : Vm → Prop}
/-- the wide end: String constants may have been loaded -/
def EndW (s : State) (Q : Option Value → Heap → List Loc → Vm → Prop) (kc ks : Nat) (o : Outcome) (t : State) : Prop := ∃ v L, o = .returned v ∧ Q v t.heap L t.vm ∧ ReturnedEndW s o t L kc ks
/-- how far the tables have come since the start s: vm0 is what the walk is re-based on -/
def Sn (s : State) (vm : Vm) (h : Heap) : Prop := ∃ k, s.Since vm k ∧ k ≤ h.size
theorem Sn.ext (F : Sn s vm0 h) (E : Ext h h') : Sn s vm0 h' := by obtain ⟨k, a, b⟩ := F; exact ⟨k, a, Nat.le_trans b E.1⟩
theorem Sn.wr {a : Addr} {sl : Nat} {v : Value} (F : Sn s vm0 h) (W : Wr h h' a sl v) : Sn s vm0 h' := by obtain ⟨k, a, b⟩ := F; exact ⟨k, a, by rw [W.size]; exact b⟩
theorem Sn.keep {ws : List Addr} (F : Sn s vm0 h) (K : Keep h h' ws) : Sn s vm0 h' := by obtain ⟨k, a, b⟩ := F; exact ⟨k, a, Nat.le_trans b K.1⟩
theorem Sn.start (s : State) (h : Heap) : Sn s s.vm h := ⟨0, (State.WarmedH.refl s).since 0, Nat.zero_le _⟩
theorem IB.warm {Ts : List String} (I : IB Z vm0 Ts) {vm1 : Vm} (hW : (s.setVm vm0).WarmedH vm1) : IB Z vm1 Ts := by
  obtain ⟨more, e1, e2⟩ := I
  exact ⟨more, by rw [hW.interned_eq]; exact e1, e2⟩
theorem goEndW (X : Stand p l e R (s.setVm vm0) m args below meth c T locs cells slots) (hS : Sn s vm0 h) {v : Option Value} (hv : meth.sig.returnType = none → v = none) (hlocks : meth.locks = false) (hc : cells ≤ kc) (hs : slots ≤ ks) (eT : T.heap = h) (hq : Q v h locs T.vm)
    (k : ∀ fs, (∀ (f : JFrame) (acts : List Action), f.method = m → f.locked = none → f.entered = [] → (doReturn e (T.setTop f) acts v).1 = T.setFrames fs) → Steps p.tables e below A (T.setFrames fs)) : Goes p e below (EndW s Q kc ks) A := by
  obtain ⟨fs, hr, hrun, hended, hW, hsame⟩ := X.leave hv hlocks
  obtain ⟨k0, h1, h2⟩ := hS
  have h3 : s.Since T.vm T.heap.size := h1.trans (hW.since T.heap.size) (by rw [eT]; exact h2)
  exact ⟨_, _, k fs hr, hrun, hended, _, _, rfl, (by show Q v T.heap locs T.vm; rw [eT]; exact hq), ⟨_, rfl⟩, h3.1, h3.2, (hsame.setVm s.vm).mono hc hs⟩
theorem goRetVW (X : Stand p l e R (s.setVm vm0) m args below meth c T locs cells slots) (hx : p.tables.exec = Jvm.exec) (hS : Sn s vm0 h) {pc : Nat} {Ls : Array Slot} {w : Value} {t : FieldType} {i : Instr} {rest : List Value} (hret : meth.sig.returnType = some t) (hlocks : meth.locks = false) (hd : decode c.code pc = .ok (i, 1)) (hn : narrow t w = w)
    (hi : (i = .ireturn ∧ (t = .int ∨ t = .boolean ∨ t = .byte ∨ t = .char ∨ t = .short) ∧ ∃ z, w = .int z) ∨ (i = .lreturn ∧ t = .long ∧ ∃ z, w = .long z) ∨ (i = .dreturn ∧ t = .double ∧ ∃ z, w = .double z) ∨ (i = .freturn ∧ t = .float ∧ ∃ z, w = .float z) ∨ (i = .areturn ∧ t.isReference = true ∧ w.isRef = true))
    (hc : cells ≤ kc) (hs : slots ≤ ks) (eT : T.heap = h) (hq : Q (some w) h locs T.vm) : Goes p e below (EndW s Q kc ks) (T.setTop (mkF m pc Ls (w :: rest))) :=
  goEndW X hS (v := some w) (fun q => by rw [hret] at q; cases q) hlocks hc hs eT hq fun fs hr => retOut X hx hret hn hi hd hr
theorem goRetIW (X : Stand p l e R (s.setVm vm0) m args below meth c T locs cells slots) (hx : p.tables.exec = Jvm.exec) (hS : Sn s vm0 h) {pc : Nat} {Ls : Array Slot} {z : Int32} {rest : List Value} (hret : meth.sig.returnType = some .int) (hlocks : meth.locks = false) (hd : decode c.code pc = .ok (.ireturn, 1))
    (hc : cells ≤ kc) (hs : slots ≤ ks) (eT : T.heap = h) (hq : Q (some (.int z)) h locs T.vm) : Goes p e below (EndW s Q kc ks) (T.setTop (mkF m pc Ls (.int z :: rest))) :=
  goRetVW X hx hS hret hlocks hd rfl (Or.inl ⟨rfl, Or.inl rfl, _, rfl⟩) hc hs eT hq
theorem goRetAW (X : Stand p l e R (s.setVm vm0) m args below meth c T locs cells slots) (hx : p.tables.exec = Jvm.exec) (hS : Sn s vm0 h) {pc : Nat} {Ls : Array Slot} {w : Value} {t : FieldType} {rest : List Value} (hret : meth.sig.returnType = some t) (hlocks : meth.locks = false) (ht : t.isReference = true) (hw : w.isRef = true) (hd : decode c.code pc = .ok (.areturn, 1))
    (hc : cells ≤ kc) (hs : slots ≤ ks) (eT : T.heap = h) (hq : Q (some w) h locs T.vm) : Goes p e below (EndW s Q kc ks) (T.setTop (mkF m pc Ls (w :: rest))) :=
  goRetVW X hx hS hret hlocks hd (by cases t <;> first | (cases ht; done) | rfl) (Or.inr (Or.inr (Or.inr (Or.inr ⟨rfl, ht, hw⟩)))) hc hs eT hq
theorem goRetNW (X : Stand p l e R (s.setVm vm0) m args below meth c T locs cells slots) (hx : p.tables.exec = Jvm.exec) (hS : Sn s vm0 h) {pc : Nat} {Ls : Array Slot} {z z' : Int32} {t : FieldType} {rest : List Value} (hret : meth.sig.returnType = some t) (hlocks : meth.locks = false) (ht : t = .boolean ∨ t = .byte ∨ t = .char ∨ t = .short) (hd : decode c.code pc = .ok (.ireturn, 1)) (hz : nar t z = z')
    (hc : cells ≤ kc) (hs : slots ≤ ks) (eT : T.heap = h) (hq : Q (some (.int z')) h locs T.vm) : Goes p e below (EndW s Q kc ks) (T.setTop (mkF m pc Ls (.int z :: rest))) := by
  subst hz
  exact goEndW X hS (v := some (.int (nar t z))) (fun q => by rw [hret] at q; cases q) hlocks hc hs eT hq fun fs hr => retN X hx hret ht hd hr
theorem goRet0W (X : Stand p l e R (s.setVm vm0) m args below meth c T locs cells slots) (hx : p.tables.exec = Jvm.exec) (hS : Sn s vm0 h) {pc : Nat} {Ls : Array Slot} (hret : meth.sig.returnType = none) (hlocks : meth.locks = false) (hd : decode c.code pc = .ok (.return_, 1))
    (hc : cells ≤ kc) (hs : slots ≤ ks) (eT : T.heap = h) (hq : Q none h locs T.vm) : Goes p e below (EndW s Q kc ks) (T.setTop (mkF m pc Ls [])) :=
  goEndW X hS (v := none) (fun _ => rfl) hlocks hc hs eT hq fun fs hr => X.returnOut hx hret hd hr
/-- a body's wide contract; Pv: what it asks of the tables where it is called -/
def CtrW (l : Launch) (Z : State) (y : MethodName) (bytes : ByteArray) (maxL : Nat) (ret : Option FieldType) (ws : List Cond) (rm : Room) (as : Array Value) (h0 : Heap) (Pv : Vm → Prop) (Q : Option Value → Heap → List Loc → Vm → Prop) : Prop :=
  MetFree l y (head1 (Cond.code y bytes maxL ret :: ws) rm) (fun a U => a = as ∧ Z.Warmed39 U.vm ∧ U.heap = h0 ∧ Pv U.vm) (fun _ _ _ _ _ => True) (fun _ U o U' => EndW U Q rm.cells rm.slots o U')
theorem ctrW {y : MethodName} {bytes : ByteArray} {maxL : Nat} {ret : Option FieldType} {ws : List Cond} {rm : Room} {as : Array Value} {h0 : Heap} (hpn : plainFor y = true)
    (body : ∀ (p : Program) (e : Env) (s : State) (m : MethodId) (below : List Frame) (meth : Method) (c : Code) (s₁ : State) (vm0 : Vm), p.tables.exec = Jvm.exec → c.code = bytes → c.maxLocals = maxL → vm0.findClass y.cls = some m.cls → meth.name = y.name → meth.sig.returnType = ret → meth.locks = false → Z.Warmed39 vm0 →
      Stand p l e rm (s.setVm vm0) m as below meth c s₁ [] 0 0 → s₁.heap = h0 → Sn s vm0 h0 → s.heap = h0 → Pv vm0 → Goes p e below (EndW s Q rm.cells rm.slots) (s₁.setTop (entryFrame m as maxL))) : CtrW l Z y bytes maxL ret ws rm as h0 Pv Q := by
  refine MetFree.of_bodySF hpn hisR ?_
  intro p e s m args below meth c s₁ Bd hml0 hP hK
  obtain ⟨rfl, hZ, hh, hv⟩ := hP
  exact body p e s m below meth c s₁ s.vm Bd.exec Bd.bytes hml0 (findClass_of_methodNamed Bd.named) (name_of_methodNamed Bd.named Bd.method).1 Bd.returns Bd.notSynchronized hZ (Stand.of_body Bd) (by rw [← hh, Bd.state]; rfl) (Sn.start s _) hh hv
theorem backW {y : MethodName} {bytes : ByteArray} {maxL : Nat} {ret : Option FieldType} {rm : Room} {len W : Nat} {as : Array Value}
    (hM : CtrW l Z y bytes maxL ret [] rm as h Pv Q) (hPv : ∀ vm1, s.WarmedH vm1 → Pv vm1)
    (hZ : Z.Warmed39 s.vm) (wc : (Cond.code y bytes maxL ret).before a0 Z = true) (wz : (Cond.initialized y.cls).before a0 Z = true) (hf : rm.frames + 1 ≤ R.frames) (hl : W + (maxL + 11) + rm.locals ≤ R.locals) :
    BackS l R p e below s args y len W (fun A a => a = as ∧ A.U.heap = h ∧ A.cells + rm.cells ≤ R.cells ∧ A.slots + rm.slots ≤ R.slots)
      (fun A _ v B => ∃ L, Q v B.U.heap L B.U.vm ∧ B.locs = A.locs ++ L ∧ B.cells = A.cells + rm.cells ∧ B.slots = A.slots + rm.slots) :=
  BackS.of_freeW (bytes := bytes) (maxL := maxL) (ret := ret) (E := fun _ _ o t L k n => k = rm.cells ∧ n = rm.slots ∧ ∃ v, o = .returned v ∧ Q v t.heap L t.vm) hM hf hl
    (fun m meth c A a Y hp => have hU : Z.Warmed39 A.U.vm := wtrans hZ Y.warmed
      ⟨by show (Cond.and _ .tt).before a A.U = true; rw [Cond.before_and, mv hU wc]; rfl, mv hU wc, mv hU wz, hp.2.2.1, hp.2.2.2⟩)
    (fun m meth c A a g mk Y hp => ⟨hp.1, wtrans hZ Y.warmed, hp.2.1, hPv _ Y.warmed⟩) (fun _ _ _ _ _ _ _ _ _ => trivial)
    (fun _ _ _ _ ⟨v, L, h1, h2, h3⟩ => ⟨L, _, _, h3, rfl, rfl, v, h1, h2⟩)
    (fun m meth c A a g mk v t L k n Y hp _ _ ⟨e1, e2, v', e3, e4⟩ => by cases e3; subst e1 e2; exact ⟨L, e4, rfl, rfl, rfl⟩)
theorem goCallSW (X : Stand p l e R (s.setVm vm0) m args below meth c T locs cells slots) (hx : p.tables.exec = Jvm.exec) (hZ : Z.Warmed39 vm0) (hS : Sn s vm0 h) {own : String} {index : Nat} {y : MethodName} {bytes : ByteArray} {maxL : Nat} {ret : Option FieldType} (hown : vm0.findClass own = some m.cls)
    (w1 : (Cond.methodLink own index y).before a0 Z = true) (w2 : (Cond.static y).before a0 Z = true) (w3 : (Cond.initialized y.cls).before a0 Z = true) (w4 : (Cond.code y bytes maxL ret).before a0 Z = true) (hy : y.cls ≠ "java/lang/invoke/MethodHandle" ∧ y.cls ≠ "java/lang/invoke/VarHandle")
    {rm : Room} {as : Array Value} {Q' : Option Value → Heap → List Loc → Vm → Prop} (hM : CtrW l Z y bytes maxL ret [] rm as h Pv Q') (hPv : ∀ vm1, (s.setVm vm0).WarmedH vm1 → Pv vm1) (W : Nat) (hf : rm.frames + 1 ≤ R.frames) (hl : W + (maxL + 11) + rm.locals ≤ R.locals) (eT : T.heap = h)
    {pc : Nat} {Ls : Array Slot} {st : List Value} (hsize : Ls.size = c.maxLocals) (argsL rest : List Value) {ps : List FieldType} {rt : Option FieldType} (hpd : parseMethodDescriptor y.desc = some ⟨ps, rt⟩) (hlen : argsL.length = ps.length) (hst : st = argsL.reverse ++ rest) (has : argsL.toArray = as) (hW : (rest.map fun v => v.category).sum ≤ W)
    (hd : decode c.code pc = .ok (.invokestatic index, 3)) (hc : cells + rm.cells ≤ R.cells) (hs : slots + rm.slots ≤ R.slots)
    (k : ∀ T' v L, Stand p l e R (s.setVm T'.vm) m args below meth c T' (locs ++ L) (cells + rm.cells) (slots + rm.slots) → Z.Warmed39 T'.vm → T'.vm.findClass own = some m.cls → Sn s T'.vm T'.heap → (s.setVm vm0).Warmed39 T'.vm → Q' v T'.heap L T'.vm → Goes p e below G (T'.setTop (mkF m (pc + 3) Ls (v.toList ++ rest)))) : Goes p e below G (T.setTop (mkF m pc Ls st)) := by
  subst hst
  obtain ⟨v, _, ⟨T', L', k', n'⟩, -, X', hS', hgr, ⟨L, hQ, l1, y1, z1⟩, st⟩ := callSS X hx (y := y) hown (mvT (s := s.setVm vm0) hZ w1) (mvT (s := s.setVm vm0) hZ w2) (mvT (s := s.setVm vm0) hZ w3) (mvT (s := s.setVm vm0) hZ w4) hy (backW (W := W) hM hPv hZ w4 w3 hf hl) (g := mkF m pc Ls (argsL.reverse ++ rest)) rfl hsize (argsL := argsL) (rest := rest) (lenOf hpd hlen) rfl (by show 2 * 0 + _ ≤ _; omega) hd (fun _ _ => ⟨has, eT, hc, hs⟩)
  dsimp only [Pt.U, Pt.locs, Pt.cells, Pt.slots] at X' l1 y1 z1 st hQ hS' hgr
  subst l1 y1 z1
  obtain ⟨k0, s1, s2⟩ := hS
  have h3 : s.Since T'.vm T'.heap.size := s1.trans hS' (Nat.le_trans s2 (by rw [← eT]; exact hgr))
  exact go (fun _ => st.trans) (k T' v L X' (State.Warmed39.trans (t := s.setVm vm0) hZ hS'.1) (by rw [hS'.1.alike.findClass]; exact hown) ⟨_, h3, Nat.le_refl _⟩ hS'.1 hQ)
theorem goCallIW (X : Stand p l e R (s.setVm vm0) m args below meth c T locs cells slots) (hx : p.tables.exec = Jvm.exec) (hZ : Z.Warmed39 vm0) (hS : Sn s vm0 h) {own : String} {index : Nat} {y : MethodName} {bytes : ByteArray} {maxL : Nat} (hy1 : y.name = "<init>") (hown : vm0.findClass own = some m.cls)
    (w1 : (Cond.methodLink own index y).before a0 Z = true) (w2 : (Cond.instanceMethod y).before a0 Z = true) (w3 : (Cond.initialized y.cls).before a0 Z = true) (w4 : (Cond.code y bytes maxL none).before a0 Z = true) (hy : y.cls ≠ "java/lang/invoke/MethodHandle" ∧ y.cls ≠ "java/lang/invoke/VarHandle")
    {rm : Room} {as : Array Value} {Q' : Option Value → Heap → List Loc → Vm → Prop} (hM : CtrW l Z y bytes maxL none [] rm as h Pv Q') (hPv : ∀ vm1, (s.setVm vm0).WarmedH vm1 → Pv vm1) (W : Nat) (hf : rm.frames + 1 ≤ R.frames) (hl : W + (maxL + 11) + rm.locals ≤ R.locals) (eT : T.heap = h)
    {pc : Nat} {Ls : Array Slot} {st : List Value} (hsize : Ls.size = c.maxLocals) (a : Addr) (argsL rest : List Value) {ps : List FieldType} {rt : Option FieldType} (hpd : parseMethodDescriptor y.desc = some ⟨ps, rt⟩) (hlen : argsL.length = ps.length) (hst : st = argsL.reverse ++ .ref a :: rest) (has : (.ref a :: argsL).toArray = as) (hW : (rest.map fun v => v.category).sum ≤ W)
    (hd : decode c.code pc = .ok (.invokespecial index, 3)) (hc : cells + rm.cells ≤ R.cells) (hs : slots + rm.slots ≤ R.slots)
    (k : ∀ T' v L, Stand p l e R (s.setVm T'.vm) m args below meth c T' (locs ++ L) (cells + rm.cells) (slots + rm.slots) → Z.Warmed39 T'.vm → T'.vm.findClass own = some m.cls → Sn s T'.vm T'.heap → (s.setVm vm0).Warmed39 T'.vm → Q' v T'.heap L T'.vm → Goes p e below G (T'.setTop (mkF m (pc + 3) Ls (v.toList ++ rest)))) : Goes p e below G (T.setTop (mkF m pc Ls st)) := by
  subst hst
  obtain ⟨v, _, ⟨T', L', k', n'⟩, -, X', hS', hgr, ⟨L, hQ, l1, y1, z1⟩, st⟩ := X.specialBackS hx (y := y) hy1 hown (mvT (s := s.setVm vm0) hZ w1) (mvT (s := s.setVm vm0) hZ w2) (mvT (s := s.setVm vm0) hZ w4) hy (backW (W := W) hM hPv hZ w4 w3 hf hl) (g := mkF m pc Ls (argsL.reverse ++ .ref a :: rest)) rfl hsize (Steps.refl _) (a := a) (argsL := argsL) (rest := rest) (lenOf hpd hlen) rfl (by show 2 * 0 + _ ≤ _; omega) hd (fun _ _ => ⟨has, eT, hc, hs⟩)
  dsimp only [Pt.U, Pt.locs, Pt.cells, Pt.slots] at X' l1 y1 z1 st hQ hS' hgr
  subst l1 y1 z1
  obtain ⟨k0, s1, s2⟩ := hS
  have h3 : s.Since T'.vm T'.heap.size := s1.trans hS' (Nat.le_trans s2 (by rw [← eT]; exact hgr))
  exact go (fun _ => st.trans) (k T' v L X' (State.Warmed39.trans (t := s.setVm vm0) hZ hS'.1) (by rw [hS'.1.alike.findClass]; exact hown) ⟨_, h3, Nat.le_refl _⟩ hS'.1 hQ)
theorem goCallVW (X : Stand p l e R (s.setVm vm0) m args below meth c T locs cells slots) (hx : p.tables.exec = Jvm.exec) (hZ : Z.Warmed39 vm0) (hS : Sn s vm0 h) {own C : String} {index : Nat} {y : MethodName} {bytes : ByteArray} {maxL : Nat} {ret : Option FieldType} (hown : vm0.findClass own = some m.cls)
    (w1 : (Cond.methodLink own index y).before a0 Z = true) (w2 : (Cond.declares y).before a0 Z = true) (w5 : (Cond.selects C y y).before a0 Z = true) (w6 : (Cond.instanceMethod y).before a0 Z = true) (w3 : (Cond.initialized y.cls).before a0 Z = true) (w4 : (Cond.code y bytes maxL ret).before a0 Z = true) (hy : y.cls ≠ "java/lang/invoke/MethodHandle" ∧ y.cls ≠ "java/lang/invoke/VarHandle")
    {rm : Room} {as : Array Value} {Q' : Option Value → Heap → List Loc → Vm → Prop} (hM : CtrW l Z y bytes maxL ret [] rm as h Pv Q') (hPv : ∀ vm1, (s.setVm vm0).WarmedH vm1 → Pv vm1) (W : Nat) (hf : rm.frames + 1 ≤ R.frames) (hl : W + (maxL + 11) + rm.locals ≤ R.locals) (eT : T.heap = h) {a : Addr} (E : Exa Z h a C)
    {pc : Nat} {Ls : Array Slot} {st : List Value} (hsize : Ls.size = c.maxLocals) (argsL rest : List Value) {ps : List FieldType} {rt : Option FieldType} (hpd : parseMethodDescriptor y.desc = some ⟨ps, rt⟩) (hlen : argsL.length = ps.length) (hst : st = argsL.reverse ++ .ref a :: rest) (has : (.ref a :: argsL).toArray = as) (hW : (rest.map fun v => v.category).sum ≤ W)
    (hd : decode c.code pc = .ok (.invokevirtual index, 3)) (hc : cells + rm.cells ≤ R.cells) (hs : slots + rm.slots ≤ R.slots)
    (k : ∀ T' v L, Stand p l e R (s.setVm T'.vm) m args below meth c T' (locs ++ L) (cells + rm.cells) (slots + rm.slots) → Z.Warmed39 T'.vm → T'.vm.findClass own = some m.cls → Sn s T'.vm T'.heap → (s.setVm vm0).Warmed39 T'.vm → Q' v T'.heap L T'.vm → Goes p e below G (T'.setTop (mkF m (pc + 3) Ls (v.toList ++ rest)))) : Goes p e below G (T.setTop (mkF m pc Ls st)) := by
  subst hst
  obtain ⟨cq, kq, qa, qb, qc⟩ := isOf (s := s.setVm vm0) hZ eT E
  obtain ⟨v, _, ⟨T', L', k', n'⟩, -, X', hS', hgr, ⟨L, hQ, l1, y1, z1⟩, st⟩ := X.virtualBackS hx (y := y) (z := y) hown (mvT (s := s.setVm vm0) hZ w1) (mvT (s := s.setVm vm0) hZ w2) (notFace_of_selects (args := #[]) (mvT (s := s.setVm vm0) hZ w5)) (mvT (s := s.setVm vm0) hZ w5) (mvT (s := s.setVm vm0) hZ w6) hy (backW (W := W) hM hPv hZ w4 w3 hf hl) qa qc (g := mkF m pc Ls (argsL.reverse ++ .ref a :: rest)) rfl hsize (Steps.refl _) (argsL := argsL) (rest := rest) (lenOf hpd hlen) rfl (by show 2 * 0 + _ ≤ _; omega) hd (fun _ _ => ⟨has, eT, hc, hs⟩)
  dsimp only [Pt.U, Pt.locs, Pt.cells, Pt.slots] at X' l1 y1 z1 st hQ hS' hgr
  subst l1 y1 z1
  obtain ⟨k0, s1, s2⟩ := hS
  have h3 : s.Since T'.vm T'.heap.size := s1.trans hS' (Nat.le_trans s2 (by rw [← eT]; exact hgr))
  exact go (fun _ => st.trans) (k T' v L X' (State.Warmed39.trans (t := s.setVm vm0) hZ hS'.1) (by rw [hS'.1.alike.findClass]; exact hown) ⟨_, h3, Nat.le_refl _⟩ hS'.1 hQ)
/-- Arv with its whole list is Ary -/
theorem Arv.ary {b : Addr} {k : ClassId} {ty : FieldType} {z : Int32} {vs : List Value} {d : Value} (F : Arv Z h b k ty z vs d) (hl : z.toNatClampNeg = vs.length) : Ary Z h b ty vs := by
  obtain ⟨cl, A, -, hs, hz, H, -⟩ := F
  refine ⟨cl, A, ?_, ?_⟩
  · apply List.ext_getElem?
    intro i
    by_cases hi : i < cl.slots.size
    · have := H i hi
      rw [Array.getElem?_toList, this]
      rw [List.getD_eq_getElem?_getD]
      have hv : i < vs.length := by omega
      simp [hv]
    · rw [List.getElem?_eq_none (by rw [Array.length_toList]; omega), List.getElem?_eq_none (by omega)]
  · rw [← hl]; exact (back32 hz).2
end OwnW
end Jvm.OwnWalk
namespace Jvm.Pilot.@@N@@
open Jvm Jvm.ClassFile Sem Op Lib Jvm.Free Jvm.Stand Jvm.LawKit Jvm.RoadKit Jvm.OwnWalk Bundle Jvm.Pilot.@@N@@.Jvm.D
theorem own_wS {Z : State} {a0 : Array Value} (hw : ∀ d ∈ tables_1, d.before a0 Z = true) : ∀ a ∈ Bundle.stringAtoms, a.before a0 Z = true := by
  intro d hd
  simp only [Bundle.stringAtoms, Bundle.sN, List.mem_cons, List.not_mem_nil, or_false] at hd
  rcases hd with rfl | rfl | rfl | rfl | rfl | rfl | rfl
  · exact hw _ (List.mem_of_getElem? (i := 6) rfl)
  · exact hw _ (List.mem_of_getElem? (i := 7) rfl)
  · exact hw _ (List.mem_of_getElem? (i := 8) rfl)
  · exact hw _ (List.mem_of_getElem? (i := 9) rfl)
  · exact hw _ (List.mem_of_getElem? (i := 10) rfl)
  · exact hw _ (List.mem_of_getElem? (i := 11) rfl)
  · exact hw _ (List.mem_of_getElem? (i := 12) rfl)
theorem own_fits {n : String} {v : Value} (h : v.isRef = true) : fits (.object n) v = true := by cases v <;> first | rfl | (simp [Value.isRef] at h)
section OwnSw
variable {p : Program} {l : Launch} {e : Env} {R : Room} {s : State} {m : MethodId} {args : Array Value} {below : List Frame} {meth : Method} {c : Code} {T : State} {locs : List Loc} {cells slots : Nat} {G : Outcome → State → Prop}
theorem gLswY (X : Stand p l e R s m args below meth c T locs cells slots) (hx : p.tables.exec = Jvm.exec) {pc pc' : Nat} {Ls : Array Slot} {st : List Value} {k : Int32} {df : Int} {ps : Array (Int × Int)} {len : Nat} (hd : decode c.code pc = .ok (.lookupswitch df ps, len)) (hs : (ps.toList.zip (ps.toList.drop 1)).all (fun (a, next) => a.1 < next.1) = true) {a off : Int} (hf : ps.find? (·.1 == k.toInt) = some (a, off)) (ho : 0 ≤ (pc : Int) + off) (hp : ((pc : Int) + off).toNat = pc')
    (K : Goes p e below G (T.setTop (mkF m pc' Ls st))) : Goes p e below G (T.setTop (mkF m pc Ls (.int k :: st))) := by
  subst hp
  exact go (fun t q => X.lookupswitchHit hx (g := mkF m pc Ls (.int k :: st)) rfl rfl hd hs hf ho t q) K
theorem gLswN (X : Stand p l e R s m args below meth c T locs cells slots) (hx : p.tables.exec = Jvm.exec) {pc pc' : Nat} {Ls : Array Slot} {st : List Value} {k : Int32} {df : Int} {ps : Array (Int × Int)} {len : Nat} (hd : decode c.code pc = .ok (.lookupswitch df ps, len)) (hs : (ps.toList.zip (ps.toList.drop 1)).all (fun (a, next) => a.1 < next.1) = true) (hf : ps.find? (·.1 == k.toInt) = none) (ho : 0 ≤ (pc : Int) + df) (hp : ((pc : Int) + df).toNat = pc')
    (K : Goes p e below G (T.setTop (mkF m pc' Ls st))) : Goes p e below G (T.setTop (mkF m pc Ls (.int k :: st))) := by
  subst hp
  exact go (fun t q => X.lookupswitchMiss hx (g := mkF m pc Ls (.int k :: st)) rfl rfl hd hs hf ho t q) K
end OwnSw
def own_tk (x : Int32) : Prop := x = (33 : Int32) ∨ x = (35 : Int32) ∨ x = (36 : Int32) ∨ x = (37 : Int32) ∨ x = (38 : Int32) ∨ x = (39 : Int32) ∨ x = (42 : Int32) ∨ x = (43 : Int32) ∨ x = (45 : Int32) ∨ x = (46 : Int32) ∨ x = (94 : Int32) ∨ x = (95 : Int32) ∨ x = (96 : Int32) ∨ x = (124 : Int32) ∨ x = (126 : Int32)
instance own_tkd (x : Int32) : Decidable (own_tk x) := by unfold own_tk; infer_instance
def own_ld (x : Int32) : Prop := (¬ x < 97 ∧ ¬ (122 : Int32) < x) ∨ (¬ x < 65 ∧ ¬ (90 : Int32) < x) ∨ (¬ x < 48 ∧ ¬ (57 : Int32) < x)
instance own_ldd (x : Int32) : Decidable (own_ld x) := by unfold own_ld; infer_instance
def own_tc (x : Int32) : Int32 := if own_ld x ∨ own_tk x then 1 else 0
theorem own_tkI (x : Int32) : own_tk x ↔ (x.toInt = 33 ∨ x.toInt = 35 ∨ x.toInt = 36 ∨ x.toInt = 37 ∨ x.toInt = 38 ∨ x.toInt = 39 ∨ x.toInt = 42 ∨ x.toInt = 43 ∨ x.toInt = 45 ∨ x.toInt = 46 ∨ x.toInt = 94 ∨ x.toInt = 95 ∨ x.toInt = 96 ∨ x.toInt = 124 ∨ x.toInt = 126) := by
  unfold own_tk
  simp only [← Int32.toInt_inj]
  rfl
theorem own_c8 {c : Int32} (h0 : ¬ c < 0) (h1 : ¬ (255 : Int32) < c) : own_tk c.toInt8.toInt32 ↔ own_tk c := by
  have k := c_i2b c
  rw [Int32.lt_iff_toInt_lt] at h0 h1
  rw [show (0 : Int32).toInt = 0 by decide] at h0
  rw [show (255 : Int32).toInt = 255 by decide] at h1
  rw [own_tkI, own_tkI]
  omega
theorem own_big {c : Int32} (h1 : (255 : Int32) < c) : ¬ own_tk c := by
  rw [Int32.lt_iff_toInt_lt, show (255 : Int32).toInt = 255 by decide] at h1
  rw [own_tkI]
  omega
theorem d_jdk_29_method_65_0 : decode jdk_29_method_65_code 0 = .ok (.iload_n 0, 1) := by decide +kernel
theorem d_jdk_29_method_65_1 : decode jdk_29_method_65_code 1 = .ok (.iload_n 1, 1) := by decide +kernel
theorem d_jdk_29_method_65_2 : decode jdk_29_method_65_code 2 = .ok (.if_icmp .lt 7, 3) := by decide +kernel
theorem d_jdk_29_method_65_5 : decode jdk_29_method_65_code 5 = .ok (.iload_n 0, 1) := by decide +kernel
theorem d_jdk_29_method_65_6 : decode jdk_29_method_65_code 6 = .ok (.goto 4, 3) := by decide +kernel
theorem d_jdk_29_method_65_10 : decode jdk_29_method_65_code 10 = .ok (.ireturn, 1) := by decide +kernel
theorem ef_rmMx (m : MethodId) (x0 : Int32) (x1 : Int32) : entryFrame m #[(.int x0), (.int x1)] 2 = mkF m 0 #[.val (.int x0), .val (.int x1)] [] := by first | (simp [entryFrame, mkF, argsToLocals, Value.category]; done) | rfl
set_option maxRecDepth 65536 in
set_option maxHeartbeats 40000000 in
theorem rmMx (l : Launch) (Z : State) (a0 : Array Value) (hw : ∀ d ∈ tables_1, d.before a0 Z = true)   (h0 : Heap) (O0 : Ext Z.heap h0)  :
    Ctr l Z (⟨"java/lang/Math", "max", "(II)I"⟩ : MethodName) jdk_29_method_65_code 2 (some .int) [] ({ frames := 0, cells := 0, slots := 0, locals := 0 } : Room) #[(.int (0 : Int32)), (.int (0 : Int32))] h0 (fun v h L => v = some (.int (0 : Int32)) ∧ Fr Z.heap.size L ∧ h = h0) := by
  refine ctr (Jvm.Free.JP.mathPlain rfl (by decide +kernel)) ?_
  intro p e s m below meth c s₁ hx hby hml hown hnm hret hlocks hZ X0 e0
  have N0 := Fr.nil Z.heap.size
  have hsz : ∀ {Ls : Array Slot}, Ls.size = 2 → Ls.size = c.maxLocals := fun q => q.trans hml.symm
  refine goE (ef_rmMx m ((0 : Int32)) ((0 : Int32))) ?_
  show Goes p e below _ (s₁.setTop (mkF m 0 #[.val (.int (0 : Int32)), .val (.int (0 : Int32))] []))
  refine gIloadN X0 hx (hb hby d_jdk_29_method_65_0) rfl ?_
  refine gIloadN X0 hx (hb hby d_jdk_29_method_65_1) rfl ?_
  refine gIcmpN X0 hx (hb hby d_jdk_29_method_65_2) (XT.ii_lt_f (by decide)) ?_
  show Goes p e below _ (s₁.setTop (mkF m 5 #[.val (.int (0 : Int32)), .val (.int (0 : Int32))] []))
  refine gIloadN X0 hx (hb hby d_jdk_29_method_65_5) rfl ?_
  refine gGoto X0 hx (hb hby d_jdk_29_method_65_6) (pc' := 10) (by decide) (by decide) ?_
  show Goes p e below _ (s₁.setTop (mkF m 10 #[.val (.int (0 : Int32)), .val (.int (0 : Int32))] [(.int (0 : Int32))]))
  exact goRetI X0 hx hret hlocks (hb hby d_jdk_29_method_65_10) (by decide) (by decide) e0 (⟨rfl, N0, rfl⟩)
theorem d_jdk_29_method_69_0 : decode jdk_29_method_69_code 0 = .ok (.iload_n 0, 1) := by decide +kernel
theorem d_jdk_29_method_69_1 : decode jdk_29_method_69_code 1 = .ok (.iload_n 1, 1) := by decide +kernel
theorem d_jdk_29_method_69_2 : decode jdk_29_method_69_code 2 = .ok (.if_icmp .gt 7, 3) := by decide +kernel
theorem d_jdk_29_method_69_5 : decode jdk_29_method_69_code 5 = .ok (.iload_n 0, 1) := by decide +kernel
theorem d_jdk_29_method_69_6 : decode jdk_29_method_69_code 6 = .ok (.goto 4, 3) := by decide +kernel
theorem d_jdk_29_method_69_10 : decode jdk_29_method_69_code 10 = .ok (.ireturn, 1) := by decide +kernel
theorem ef_rmMn (m : MethodId) (x0 : Int32) (x1 : Int32) : entryFrame m #[(.int x0), (.int x1)] 2 = mkF m 0 #[.val (.int x0), .val (.int x1)] [] := by first | (simp [entryFrame, mkF, argsToLocals, Value.category]; done) | rfl
set_option maxRecDepth 65536 in
set_option maxHeartbeats 40000000 in
theorem rmMn (l : Launch) (Z : State) (a0 : Array Value) (hw : ∀ d ∈ tables_1, d.before a0 Z = true)   (h0 : Heap) (O0 : Ext Z.heap h0)  :
    Ctr l Z (⟨"java/lang/Math", "min", "(II)I"⟩ : MethodName) jdk_29_method_69_code 2 (some .int) [] ({ frames := 0, cells := 0, slots := 0, locals := 0 } : Room) #[(.int (15 : Int32)), (.int (15 : Int32))] h0 (fun v h L => v = some (.int (15 : Int32)) ∧ Fr Z.heap.size L ∧ h = h0) := by
  refine ctr (Jvm.Free.JP.mathPlain rfl (by decide +kernel)) ?_
  intro p e s m below meth c s₁ hx hby hml hown hnm hret hlocks hZ X0 e0
  have N0 := Fr.nil Z.heap.size
  have hsz : ∀ {Ls : Array Slot}, Ls.size = 2 → Ls.size = c.maxLocals := fun q => q.trans hml.symm
  refine goE (ef_rmMn m ((15 : Int32)) ((15 : Int32))) ?_
  show Goes p e below _ (s₁.setTop (mkF m 0 #[.val (.int (15 : Int32)), .val (.int (15 : Int32))] []))
  refine gIloadN X0 hx (hb hby d_jdk_29_method_69_0) rfl ?_
  refine gIloadN X0 hx (hb hby d_jdk_29_method_69_1) rfl ?_
  refine gIcmpN X0 hx (hb hby d_jdk_29_method_69_2) (XT.ii_gt_f (by decide)) ?_
  show Goes p e below _ (s₁.setTop (mkF m 5 #[.val (.int (15 : Int32)), .val (.int (15 : Int32))] []))
  refine gIloadN X0 hx (hb hby d_jdk_29_method_69_5) rfl ?_
  refine gGoto X0 hx (hb hby d_jdk_29_method_69_6) (pc' := 10) (by decide) (by decide) ?_
  show Goes p e below _ (s₁.setTop (mkF m 10 #[.val (.int (15 : Int32)), .val (.int (15 : Int32))] [(.int (15 : Int32))]))
  exact goRetI X0 hx hret hlocks (hb hby d_jdk_29_method_69_10) (by decide) (by decide) e0 (⟨rfl, N0, rfl⟩)
theorem d_jdk_43_method_4_0 : decode jdk_43_method_4_code 0 = .ok (.iload_n 0, 1) := by decide +kernel
theorem d_jdk_43_method_4_1 : decode jdk_43_method_4_code 1 = .ok (.ifCond .lt 14, 3) := by decide +kernel
theorem d_jdk_43_method_4_4 : decode jdk_43_method_4_code 4 = .ok (.iload_n 0, 1) := by decide +kernel
theorem d_jdk_43_method_4_5 : decode jdk_43_method_4_code 5 = .ok (.sipush 255, 3) := by decide +kernel
theorem d_jdk_43_method_4_8 : decode jdk_43_method_4_code 8 = .ok (.if_icmp .gt 7, 3) := by decide +kernel
theorem d_jdk_43_method_4_11 : decode jdk_43_method_4_code 11 = .ok (.iconst 1, 1) := by decide +kernel
theorem d_jdk_43_method_4_12 : decode jdk_43_method_4_code 12 = .ok (.goto 4, 3) := by decide +kernel
theorem d_jdk_43_method_4_16 : decode jdk_43_method_4_code 16 = .ok (.ireturn, 1) := by decide +kernel
theorem pn_0 : plainName "java/lang/StringLatin1" = true := by first | (simp [plainName, overriddenIn]; done) | decide +kernel
theorem ef_rmCy (m : MethodId) (x0 : Int32) : entryFrame m #[(.int x0)] 1 = mkF m 0 #[.val (.int x0)] [] := by first | (simp [entryFrame, mkF, argsToLocals, Value.category]; done) | rfl
set_option maxRecDepth 65536 in
set_option maxHeartbeats 40000000 in
theorem rmCy (l : Launch) (Z : State) (a0 : Array Value) (hw : ∀ d ∈ tables_1, d.before a0 Z = true)  (c0 : Int32) (h0 : Heap) (O0 : Ext Z.heap h0) (q0 : ¬ c0 < 0) (q1 : ¬ (255 : Int32) < c0) :
    Ctr l Z (⟨"java/lang/StringLatin1", "canEncode", "(I)Z"⟩ : MethodName) jdk_43_method_4_code 1 (some .boolean) [] ({ frames := 0, cells := 0, slots := 0, locals := 0 } : Room) #[(.int c0)] h0 (fun v h L => v = some (.int 1) ∧ Fr Z.heap.size L ∧ h = h0) := by
  refine ctr (plainFor_of_name pn_0) ?_
  intro p e s m below meth c s₁ hx hby hml hown hnm hret hlocks hZ X0 e0
  have N0 := Fr.nil Z.heap.size
  have hsz : ∀ {Ls : Array Slot}, Ls.size = 1 → Ls.size = c.maxLocals := fun q => q.trans hml.symm
  refine goE (ef_rmCy m (c0)) ?_
  show Goes p e below _ (s₁.setTop (mkF m 0 #[.val (.int c0)] []))
  refine gIloadN X0 hx (hb hby d_jdk_43_method_4_0) rfl ?_
  refine gIfN X0 hx (hb hby d_jdk_43_method_4_1) (XT.i0_lt_f q0) ?_
  show Goes p e below _ (s₁.setTop (mkF m 4 #[.val (.int c0)] []))
  refine gIloadN X0 hx (hb hby d_jdk_43_method_4_4) rfl ?_
  refine gSipush X0 hx (hb hby d_jdk_43_method_4_5) (v := (255 : Int32)) rfl ?_
  refine gIcmpN X0 hx (hb hby d_jdk_43_method_4_8) (XT.ii_gt_f q1) ?_
  show Goes p e below _ (s₁.setTop (mkF m 11 #[.val (.int c0)] []))
  refine gIconst X0 hx (hb hby d_jdk_43_method_4_11) (v := (1 : Int32)) rfl ?_
  refine gGoto X0 hx (hb hby d_jdk_43_method_4_12) (pc' := 16) (by decide) (by decide) ?_
  show Goes p e below _ (s₁.setTop (mkF m 16 #[.val (.int c0)] [(.int (1 : Int32))]))
  exact goRetN X0 hx (t := .boolean) hret hlocks (by simp) (hb hby d_jdk_43_method_4_16) (z' := (1 : Int32)) rfl (by decide) (by decide) e0 (⟨rfl, N0, rfl⟩)
theorem d_jdk_43_method_4_15 : decode jdk_43_method_4_code 15 = .ok (.iconst 0, 1) := by decide +kernel
theorem ef_rmCn (m : MethodId) (x0 : Int32) : entryFrame m #[(.int x0)] 1 = mkF m 0 #[.val (.int x0)] [] := by first | (simp [entryFrame, mkF, argsToLocals, Value.category]; done) | rfl
set_option maxRecDepth 65536 in
set_option maxHeartbeats 40000000 in
theorem rmCn (l : Launch) (Z : State) (a0 : Array Value) (hw : ∀ d ∈ tables_1, d.before a0 Z = true)  (c0 : Int32) (h0 : Heap) (O0 : Ext Z.heap h0) (q0 : ¬ c0 < 0) (q1 : (255 : Int32) < c0) :
    Ctr l Z (⟨"java/lang/StringLatin1", "canEncode", "(I)Z"⟩ : MethodName) jdk_43_method_4_code 1 (some .boolean) [] ({ frames := 0, cells := 0, slots := 0, locals := 0 } : Room) #[(.int c0)] h0 (fun v h L => v = some (.int 0) ∧ Fr Z.heap.size L ∧ h = h0) := by
  refine ctr (plainFor_of_name pn_0) ?_
  intro p e s m below meth c s₁ hx hby hml hown hnm hret hlocks hZ X0 e0
  have N0 := Fr.nil Z.heap.size
  have hsz : ∀ {Ls : Array Slot}, Ls.size = 1 → Ls.size = c.maxLocals := fun q => q.trans hml.symm
  refine goE (ef_rmCn m (c0)) ?_
  show Goes p e below _ (s₁.setTop (mkF m 0 #[.val (.int c0)] []))
  refine gIloadN X0 hx (hb hby d_jdk_43_method_4_0) rfl ?_
  refine gIfN X0 hx (hb hby d_jdk_43_method_4_1) (XT.i0_lt_f q0) ?_
  show Goes p e below _ (s₁.setTop (mkF m 4 #[.val (.int c0)] []))
  refine gIloadN X0 hx (hb hby d_jdk_43_method_4_4) rfl ?_
  refine gSipush X0 hx (hb hby d_jdk_43_method_4_5) (v := (255 : Int32)) rfl ?_
  refine gIcmpY X0 hx (hb hby d_jdk_43_method_4_8) (pc' := 15) (XT.ii_gt_t q1) (by decide) (by decide) ?_
  show Goes p e below _ (s₁.setTop (mkF m 15 #[.val (.int c0)] []))
  refine gIconst X0 hx (hb hby d_jdk_43_method_4_15) (v := (0 : Int32)) rfl ?_
  exact goRetN X0 hx (t := .boolean) hret hlocks (by simp) (hb hby d_jdk_43_method_4_16) (z' := (0 : Int32)) rfl (by decide) (by decide) e0 (⟨rfl, N0, rfl⟩)
theorem d_jdk_43_method_23_0 : decode jdk_43_method_23_code 0 = .ok (.iload_n 1, 1) := by decide +kernel
theorem d_jdk_43_method_23_1 : decode jdk_43_method_23_code 1 = .ok (.i2b, 1) := by decide +kernel
theorem d_jdk_43_method_23_2 : decode jdk_43_method_23_code 2 = .ok (.istore 4, 2) := by decide +kernel
theorem d_jdk_43_method_23_4 : decode jdk_43_method_23_code 4 = .ok (.iload_n 2, 1) := by decide +kernel
theorem d_jdk_43_method_23_5 : decode jdk_43_method_23_code 5 = .ok (.istore 5, 2) := by decide +kernel
theorem d_jdk_43_method_23_7 : decode jdk_43_method_23_code 7 = .ok (.iload 5, 2) := by decide +kernel
theorem d_jdk_43_method_23_9 : decode jdk_43_method_23_code 9 = .ok (.iload_n 3, 1) := by decide +kernel
theorem d_jdk_43_method_23_10 : decode jdk_43_method_23_code 10 = .ok (.if_icmp .ge 21, 3) := by decide +kernel
theorem d_jdk_43_method_23_13 : decode jdk_43_method_23_code 13 = .ok (.aload_n 0, 1) := by decide +kernel
theorem d_jdk_43_method_23_14 : decode jdk_43_method_23_code 14 = .ok (.iload 5, 2) := by decide +kernel
theorem d_jdk_43_method_23_16 : decode jdk_43_method_23_code 16 = .ok (.baload, 1) := by decide +kernel
theorem d_jdk_43_method_23_17 : decode jdk_43_method_23_code 17 = .ok (.iload 4, 2) := by decide +kernel
theorem d_jdk_43_method_23_19 : decode jdk_43_method_23_code 19 = .ok (.if_icmp .ne 6, 3) := by decide +kernel
theorem d_jdk_43_method_23_22 : decode jdk_43_method_23_code 22 = .ok (.iload 5, 2) := by decide +kernel
theorem d_jdk_43_method_23_24 : decode jdk_43_method_23_code 24 = .ok (.ireturn, 1) := by decide +kernel
theorem d_jdk_43_method_23_25 : decode jdk_43_method_23_code 25 = .ok (.iinc 5 1, 3) := by decide +kernel
theorem d_jdk_43_method_23_28 : decode jdk_43_method_23_code 28 = .ok (.goto (-21), 3) := by decide +kernel
theorem d_jdk_43_method_23_31 : decode jdk_43_method_23_code 31 = .ok (.iconst (-1), 1) := by decide +kernel
theorem d_jdk_43_method_23_32 : decode jdk_43_method_23_code 32 = .ok (.ireturn, 1) := by decide +kernel
theorem ef_rmIc (m : MethodId) (x0 : Addr) (x1 : Int32) (x2 : Int32) (x3 : Int32) : entryFrame m #[(.ref x0), (.int x1), (.int x2), (.int x3)] 6 = mkF m 0 #[.val (.ref x0), .val (.int x1), .val (.int x2), .val (.int x3), .unset, .unset] [] := by first | (simp [entryFrame, mkF, argsToLocals, Value.category]; done) | rfl
set_option maxRecDepth 65536 in
set_option maxHeartbeats 40000000 in
theorem rmIc (l : Launch) (Z : State) (a0 : Array Value) (hw : ∀ d ∈ tables_1, d.before a0 Z = true)  (a1 : Addr) (c0 : Int32) (h0 : Heap) (O0 : Ext Z.heap h0) (Y1 : Ary Z h0 a1 .byte [(.int (33 : Int32)), (.int (35 : Int32)), (.int (36 : Int32)), (.int (37 : Int32)), (.int (38 : Int32)), (.int (39 : Int32)), (.int (42 : Int32)), (.int (43 : Int32)), (.int (45 : Int32)), (.int (46 : Int32)), (.int (94 : Int32)), (.int (95 : Int32)), (.int (96 : Int32)), (.int (124 : Int32)), (.int (126 : Int32))]) :
    Ctr l Z (⟨"java/lang/StringLatin1", "indexOfChar", "([BIII)I"⟩ : MethodName) jdk_43_method_23_code 6 (some .int) [] ({ frames := 0, cells := 0, slots := 0, locals := 0 } : Room) #[(.ref a1), (.int c0), (.int (0 : Int32)), (.int (15 : Int32))] h0 (fun v h L => ∃ r : Int32, v = some (.int r) ∧ Fr Z.heap.size L ∧ h = h0 ∧ ((¬ r < 0 ∧ own_tk (c0.toInt8.toInt32)) ∨ (r < 0 ∧ ¬ own_tk (c0.toInt8.toInt32)))) := by
  refine ctr (plainFor_of_name pn_0) ?_
  intro p e s m below meth c s₁ hx hby hml hown hnm hret hlocks hZ X0 e0
  have N0 := Fr.nil Z.heap.size
  have hsz : ∀ {Ls : Array Slot}, Ls.size = 6 → Ls.size = c.maxLocals := fun q => q.trans hml.symm
  refine goE (ef_rmIc m (a1) (c0) ((0 : Int32)) ((15 : Int32))) ?_
  show Goes p e below _ (s₁.setTop (mkF m 0 #[.val (.ref a1), .val (.int c0), .val (.int (0 : Int32)), .val (.int (15 : Int32)), .unset, .unset] []))
  refine gIloadN X0 hx (hb hby d_jdk_43_method_23_0) rfl ?_
  refine gI2b X0 hx (hb hby d_jdk_43_method_23_1) ?_
  refine gIstore X0 hx (hb hby d_jdk_43_method_23_2) (l' := #[.val (.ref a1), .val (.int c0), .val (.int (0 : Int32)), .val (.int (15 : Int32)), .val (.int (c0.toInt8.toInt32)), .unset]) rfl ?_
  refine gIloadN X0 hx (hb hby d_jdk_43_method_23_4) rfl ?_
  refine gIstore X0 hx (hb hby d_jdk_43_method_23_5) (l' := #[.val (.ref a1), .val (.int c0), .val (.int (0 : Int32)), .val (.int (15 : Int32)), .val (.int (c0.toInt8.toInt32)), .val (.int (0 : Int32))]) rfl ?_
  refine gIload X0 hx (hb hby d_jdk_43_method_23_7) rfl ?_
  refine gIloadN X0 hx (hb hby d_jdk_43_method_23_9) rfl ?_
  show Goes p e below _ (s₁.setTop (mkF m 10 #[.val (.ref a1), .val (.int c0), .val (.int (0 : Int32)), .val (.int (15 : Int32)), .val (.int (c0.toInt8.toInt32)), .val (.int (0 : Int32))] [(.int (15 : Int32)), (.int (0 : Int32))]))
  refine gIcmpN X0 hx (hb hby d_jdk_43_method_23_10) (XT.ii_ge_f (by decide)) ?_
  show Goes p e below _ (s₁.setTop (mkF m 13 #[.val (.ref a1), .val (.int c0), .val (.int (0 : Int32)), .val (.int (15 : Int32)), .val (.int (c0.toInt8.toInt32)), .val (.int (0 : Int32))] []))
  refine gAloadN X0 hx (hb hby d_jdk_43_method_23_13) rfl rfl ?_
  refine gIload X0 hx (hb hby d_jdk_43_method_23_14) rfl ?_
  refine goBaload X0 hx hZ e0 Y1 (x := (33 : Int32)) (hb hby d_jdk_43_method_23_16) (by decide) rfl ?_
  refine gIload X0 hx (hb hby d_jdk_43_method_23_17) rfl ?_
  by_cases g0 : (33 : Int32) = (c0.toInt8.toInt32)
  · refine gIcmpN X0 hx (hb hby d_jdk_43_method_23_19) (XT.ii_ne_f g0) ?_
    show Goes p e below _ (s₁.setTop (mkF m 22 #[.val (.ref a1), .val (.int c0), .val (.int (0 : Int32)), .val (.int (15 : Int32)), .val (.int (c0.toInt8.toInt32)), .val (.int (0 : Int32))] []))
    refine gIload X0 hx (hb hby d_jdk_43_method_23_22) rfl ?_
    exact goRetI X0 hx hret hlocks (hb hby d_jdk_43_method_23_24) (by decide) (by decide) e0 (⟨_, rfl, N0, rfl, Or.inl ⟨by decide, by rw [← g0]; decide⟩⟩)
  · refine gIcmpY X0 hx (hb hby d_jdk_43_method_23_19) (pc' := 25) (XT.ii_ne_t g0) (by decide) (by decide) ?_
    show Goes p e below _ (s₁.setTop (mkF m 25 #[.val (.ref a1), .val (.int c0), .val (.int (0 : Int32)), .val (.int (15 : Int32)), .val (.int (c0.toInt8.toInt32)), .val (.int (0 : Int32))] []))
    refine gIinc X0 hx (hb hby d_jdk_43_method_23_25) (v := (1 : Int32)) rfl rfl (l' := #[.val (.ref a1), .val (.int c0), .val (.int (0 : Int32)), .val (.int (15 : Int32)), .val (.int (c0.toInt8.toInt32)), .val (.int (1 : Int32))]) rfl ?_
    refine gGoto X0 hx (hb hby d_jdk_43_method_23_28) (pc' := 7) (by decide) (by decide) ?_
    show Goes p e below _ (s₁.setTop (mkF m 7 #[.val (.ref a1), .val (.int c0), .val (.int (0 : Int32)), .val (.int (15 : Int32)), .val (.int (c0.toInt8.toInt32)), .val (.int (1 : Int32))] []))
    refine gIload X0 hx (hb hby d_jdk_43_method_23_7) rfl ?_
    refine gIloadN X0 hx (hb hby d_jdk_43_method_23_9) rfl ?_
    refine gIcmpN X0 hx (hb hby d_jdk_43_method_23_10) (XT.ii_ge_f (by decide)) ?_
    show Goes p e below _ (s₁.setTop (mkF m 13 #[.val (.ref a1), .val (.int c0), .val (.int (0 : Int32)), .val (.int (15 : Int32)), .val (.int (c0.toInt8.toInt32)), .val (.int (1 : Int32))] []))
    refine gAloadN X0 hx (hb hby d_jdk_43_method_23_13) rfl rfl ?_
    refine gIload X0 hx (hb hby d_jdk_43_method_23_14) rfl ?_
    refine goBaload X0 hx hZ e0 Y1 (x := (35 : Int32)) (hb hby d_jdk_43_method_23_16) (by decide) rfl ?_
    refine gIload X0 hx (hb hby d_jdk_43_method_23_17) rfl ?_
    by_cases g1 : (35 : Int32) = (c0.toInt8.toInt32)
    · refine gIcmpN X0 hx (hb hby d_jdk_43_method_23_19) (XT.ii_ne_f g1) ?_
      show Goes p e below _ (s₁.setTop (mkF m 22 #[.val (.ref a1), .val (.int c0), .val (.int (0 : Int32)), .val (.int (15 : Int32)), .val (.int (c0.toInt8.toInt32)), .val (.int (1 : Int32))] []))
      refine gIload X0 hx (hb hby d_jdk_43_method_23_22) rfl ?_
      exact goRetI X0 hx hret hlocks (hb hby d_jdk_43_method_23_24) (by decide) (by decide) e0 (⟨_, rfl, N0, rfl, Or.inl ⟨by decide, by rw [← g1]; decide⟩⟩)
    · refine gIcmpY X0 hx (hb hby d_jdk_43_method_23_19) (pc' := 25) (XT.ii_ne_t g1) (by decide) (by decide) ?_
      show Goes p e below _ (s₁.setTop (mkF m 25 #[.val (.ref a1), .val (.int c0), .val (.int (0 : Int32)), .val (.int (15 : Int32)), .val (.int (c0.toInt8.toInt32)), .val (.int (1 : Int32))] []))
      refine gIinc X0 hx (hb hby d_jdk_43_method_23_25) (v := (2 : Int32)) rfl rfl (l' := #[.val (.ref a1), .val (.int c0), .val (.int (0 : Int32)), .val (.int (15 : Int32)), .val (.int (c0.toInt8.toInt32)), .val (.int (2 : Int32))]) rfl ?_
      refine gGoto X0 hx (hb hby d_jdk_43_method_23_28) (pc' := 7) (by decide) (by decide) ?_
      show Goes p e below _ (s₁.setTop (mkF m 7 #[.val (.ref a1), .val (.int c0), .val (.int (0 : Int32)), .val (.int (15 : Int32)), .val (.int (c0.toInt8.toInt32)), .val (.int (2 : Int32))] []))
      refine gIload X0 hx (hb hby d_jdk_43_method_23_7) rfl ?_
      refine gIloadN X0 hx (hb hby d_jdk_43_method_23_9) rfl ?_
      refine gIcmpN X0 hx (hb hby d_jdk_43_method_23_10) (XT.ii_ge_f (by decide)) ?_
      show Goes p e below _ (s₁.setTop (mkF m 13 #[.val (.ref a1), .val (.int c0), .val (.int (0 : Int32)), .val (.int (15 : Int32)), .val (.int (c0.toInt8.toInt32)), .val (.int (2 : Int32))] []))
      refine gAloadN X0 hx (hb hby d_jdk_43_method_23_13) rfl rfl ?_
      refine gIload X0 hx (hb hby d_jdk_43_method_23_14) rfl ?_
      refine goBaload X0 hx hZ e0 Y1 (x := (36 : Int32)) (hb hby d_jdk_43_method_23_16) (by decide) rfl ?_
      refine gIload X0 hx (hb hby d_jdk_43_method_23_17) rfl ?_
      by_cases g2 : (36 : Int32) = (c0.toInt8.toInt32)
      · refine gIcmpN X0 hx (hb hby d_jdk_43_method_23_19) (XT.ii_ne_f g2) ?_
        show Goes p e below _ (s₁.setTop (mkF m 22 #[.val (.ref a1), .val (.int c0), .val (.int (0 : Int32)), .val (.int (15 : Int32)), .val (.int (c0.toInt8.toInt32)), .val (.int (2 : Int32))] []))
        refine gIload X0 hx (hb hby d_jdk_43_method_23_22) rfl ?_
        exact goRetI X0 hx hret hlocks (hb hby d_jdk_43_method_23_24) (by decide) (by decide) e0 (⟨_, rfl, N0, rfl, Or.inl ⟨by decide, by rw [← g2]; decide⟩⟩)
      · refine gIcmpY X0 hx (hb hby d_jdk_43_method_23_19) (pc' := 25) (XT.ii_ne_t g2) (by decide) (by decide) ?_
        show Goes p e below _ (s₁.setTop (mkF m 25 #[.val (.ref a1), .val (.int c0), .val (.int (0 : Int32)), .val (.int (15 : Int32)), .val (.int (c0.toInt8.toInt32)), .val (.int (2 : Int32))] []))
        refine gIinc X0 hx (hb hby d_jdk_43_method_23_25) (v := (3 : Int32)) rfl rfl (l' := #[.val (.ref a1), .val (.int c0), .val (.int (0 : Int32)), .val (.int (15 : Int32)), .val (.int (c0.toInt8.toInt32)), .val (.int (3 : Int32))]) rfl ?_
        refine gGoto X0 hx (hb hby d_jdk_43_method_23_28) (pc' := 7) (by decide) (by decide) ?_
        show Goes p e below _ (s₁.setTop (mkF m 7 #[.val (.ref a1), .val (.int c0), .val (.int (0 : Int32)), .val (.int (15 : Int32)), .val (.int (c0.toInt8.toInt32)), .val (.int (3 : Int32))] []))
        refine gIload X0 hx (hb hby d_jdk_43_method_23_7) rfl ?_
        refine gIloadN X0 hx (hb hby d_jdk_43_method_23_9) rfl ?_
        refine gIcmpN X0 hx (hb hby d_jdk_43_method_23_10) (XT.ii_ge_f (by decide)) ?_
        show Goes p e below _ (s₁.setTop (mkF m 13 #[.val (.ref a1), .val (.int c0), .val (.int (0 : Int32)), .val (.int (15 : Int32)), .val (.int (c0.toInt8.toInt32)), .val (.int (3 : Int32))] []))
        refine gAloadN X0 hx (hb hby d_jdk_43_method_23_13) rfl rfl ?_
        refine gIload X0 hx (hb hby d_jdk_43_method_23_14) rfl ?_
        refine goBaload X0 hx hZ e0 Y1 (x := (37 : Int32)) (hb hby d_jdk_43_method_23_16) (by decide) rfl ?_
        refine gIload X0 hx (hb hby d_jdk_43_method_23_17) rfl ?_
        by_cases g3 : (37 : Int32) = (c0.toInt8.toInt32)
        · refine gIcmpN X0 hx (hb hby d_jdk_43_method_23_19) (XT.ii_ne_f g3) ?_
          show Goes p e below _ (s₁.setTop (mkF m 22 #[.val (.ref a1), .val (.int c0), .val (.int (0 : Int32)), .val (.int (15 : Int32)), .val (.int (c0.toInt8.toInt32)), .val (.int (3 : Int32))] []))
          refine gIload X0 hx (hb hby d_jdk_43_method_23_22) rfl ?_
          exact goRetI X0 hx hret hlocks (hb hby d_jdk_43_method_23_24) (by decide) (by decide) e0 (⟨_, rfl, N0, rfl, Or.inl ⟨by decide, by rw [← g3]; decide⟩⟩)
        · refine gIcmpY X0 hx (hb hby d_jdk_43_method_23_19) (pc' := 25) (XT.ii_ne_t g3) (by decide) (by decide) ?_
          show Goes p e below _ (s₁.setTop (mkF m 25 #[.val (.ref a1), .val (.int c0), .val (.int (0 : Int32)), .val (.int (15 : Int32)), .val (.int (c0.toInt8.toInt32)), .val (.int (3 : Int32))] []))
          refine gIinc X0 hx (hb hby d_jdk_43_method_23_25) (v := (4 : Int32)) rfl rfl (l' := #[.val (.ref a1), .val (.int c0), .val (.int (0 : Int32)), .val (.int (15 : Int32)), .val (.int (c0.toInt8.toInt32)), .val (.int (4 : Int32))]) rfl ?_
          refine gGoto X0 hx (hb hby d_jdk_43_method_23_28) (pc' := 7) (by decide) (by decide) ?_
          show Goes p e below _ (s₁.setTop (mkF m 7 #[.val (.ref a1), .val (.int c0), .val (.int (0 : Int32)), .val (.int (15 : Int32)), .val (.int (c0.toInt8.toInt32)), .val (.int (4 : Int32))] []))
          refine gIload X0 hx (hb hby d_jdk_43_method_23_7) rfl ?_
          refine gIloadN X0 hx (hb hby d_jdk_43_method_23_9) rfl ?_
          refine gIcmpN X0 hx (hb hby d_jdk_43_method_23_10) (XT.ii_ge_f (by decide)) ?_
          show Goes p e below _ (s₁.setTop (mkF m 13 #[.val (.ref a1), .val (.int c0), .val (.int (0 : Int32)), .val (.int (15 : Int32)), .val (.int (c0.toInt8.toInt32)), .val (.int (4 : Int32))] []))
          refine gAloadN X0 hx (hb hby d_jdk_43_method_23_13) rfl rfl ?_
          refine gIload X0 hx (hb hby d_jdk_43_method_23_14) rfl ?_
          refine goBaload X0 hx hZ e0 Y1 (x := (38 : Int32)) (hb hby d_jdk_43_method_23_16) (by decide) rfl ?_
          refine gIload X0 hx (hb hby d_jdk_43_method_23_17) rfl ?_
          by_cases g4 : (38 : Int32) = (c0.toInt8.toInt32)
          · refine gIcmpN X0 hx (hb hby d_jdk_43_method_23_19) (XT.ii_ne_f g4) ?_
            show Goes p e below _ (s₁.setTop (mkF m 22 #[.val (.ref a1), .val (.int c0), .val (.int (0 : Int32)), .val (.int (15 : Int32)), .val (.int (c0.toInt8.toInt32)), .val (.int (4 : Int32))] []))
            refine gIload X0 hx (hb hby d_jdk_43_method_23_22) rfl ?_
            exact goRetI X0 hx hret hlocks (hb hby d_jdk_43_method_23_24) (by decide) (by decide) e0 (⟨_, rfl, N0, rfl, Or.inl ⟨by decide, by rw [← g4]; decide⟩⟩)
          · refine gIcmpY X0 hx (hb hby d_jdk_43_method_23_19) (pc' := 25) (XT.ii_ne_t g4) (by decide) (by decide) ?_
            show Goes p e below _ (s₁.setTop (mkF m 25 #[.val (.ref a1), .val (.int c0), .val (.int (0 : Int32)), .val (.int (15 : Int32)), .val (.int (c0.toInt8.toInt32)), .val (.int (4 : Int32))] []))
            refine gIinc X0 hx (hb hby d_jdk_43_method_23_25) (v := (5 : Int32)) rfl rfl (l' := #[.val (.ref a1), .val (.int c0), .val (.int (0 : Int32)), .val (.int (15 : Int32)), .val (.int (c0.toInt8.toInt32)), .val (.int (5 : Int32))]) rfl ?_
            refine gGoto X0 hx (hb hby d_jdk_43_method_23_28) (pc' := 7) (by decide) (by decide) ?_
            show Goes p e below _ (s₁.setTop (mkF m 7 #[.val (.ref a1), .val (.int c0), .val (.int (0 : Int32)), .val (.int (15 : Int32)), .val (.int (c0.toInt8.toInt32)), .val (.int (5 : Int32))] []))
            refine gIload X0 hx (hb hby d_jdk_43_method_23_7) rfl ?_
            refine gIloadN X0 hx (hb hby d_jdk_43_method_23_9) rfl ?_
            refine gIcmpN X0 hx (hb hby d_jdk_43_method_23_10) (XT.ii_ge_f (by decide)) ?_
            show Goes p e below _ (s₁.setTop (mkF m 13 #[.val (.ref a1), .val (.int c0), .val (.int (0 : Int32)), .val (.int (15 : Int32)), .val (.int (c0.toInt8.toInt32)), .val (.int (5 : Int32))] []))
            refine gAloadN X0 hx (hb hby d_jdk_43_method_23_13) rfl rfl ?_
            refine gIload X0 hx (hb hby d_jdk_43_method_23_14) rfl ?_
            refine goBaload X0 hx hZ e0 Y1 (x := (39 : Int32)) (hb hby d_jdk_43_method_23_16) (by decide) rfl ?_
            refine gIload X0 hx (hb hby d_jdk_43_method_23_17) rfl ?_
            by_cases g5 : (39 : Int32) = (c0.toInt8.toInt32)
            · refine gIcmpN X0 hx (hb hby d_jdk_43_method_23_19) (XT.ii_ne_f g5) ?_
              show Goes p e below _ (s₁.setTop (mkF m 22 #[.val (.ref a1), .val (.int c0), .val (.int (0 : Int32)), .val (.int (15 : Int32)), .val (.int (c0.toInt8.toInt32)), .val (.int (5 : Int32))] []))
              refine gIload X0 hx (hb hby d_jdk_43_method_23_22) rfl ?_
              exact goRetI X0 hx hret hlocks (hb hby d_jdk_43_method_23_24) (by decide) (by decide) e0 (⟨_, rfl, N0, rfl, Or.inl ⟨by decide, by rw [← g5]; decide⟩⟩)
            · refine gIcmpY X0 hx (hb hby d_jdk_43_method_23_19) (pc' := 25) (XT.ii_ne_t g5) (by decide) (by decide) ?_
              show Goes p e below _ (s₁.setTop (mkF m 25 #[.val (.ref a1), .val (.int c0), .val (.int (0 : Int32)), .val (.int (15 : Int32)), .val (.int (c0.toInt8.toInt32)), .val (.int (5 : Int32))] []))
              refine gIinc X0 hx (hb hby d_jdk_43_method_23_25) (v := (6 : Int32)) rfl rfl (l' := #[.val (.ref a1), .val (.int c0), .val (.int (0 : Int32)), .val (.int (15 : Int32)), .val (.int (c0.toInt8.toInt32)), .val (.int (6 : Int32))]) rfl ?_
              refine gGoto X0 hx (hb hby d_jdk_43_method_23_28) (pc' := 7) (by decide) (by decide) ?_
              show Goes p e below _ (s₁.setTop (mkF m 7 #[.val (.ref a1), .val (.int c0), .val (.int (0 : Int32)), .val (.int (15 : Int32)), .val (.int (c0.toInt8.toInt32)), .val (.int (6 : Int32))] []))
              refine gIload X0 hx (hb hby d_jdk_43_method_23_7) rfl ?_
              refine gIloadN X0 hx (hb hby d_jdk_43_method_23_9) rfl ?_
              refine gIcmpN X0 hx (hb hby d_jdk_43_method_23_10) (XT.ii_ge_f (by decide)) ?_
              show Goes p e below _ (s₁.setTop (mkF m 13 #[.val (.ref a1), .val (.int c0), .val (.int (0 : Int32)), .val (.int (15 : Int32)), .val (.int (c0.toInt8.toInt32)), .val (.int (6 : Int32))] []))
              refine gAloadN X0 hx (hb hby d_jdk_43_method_23_13) rfl rfl ?_
              refine gIload X0 hx (hb hby d_jdk_43_method_23_14) rfl ?_
              refine goBaload X0 hx hZ e0 Y1 (x := (42 : Int32)) (hb hby d_jdk_43_method_23_16) (by decide) rfl ?_
              refine gIload X0 hx (hb hby d_jdk_43_method_23_17) rfl ?_
              by_cases g6 : (42 : Int32) = (c0.toInt8.toInt32)
              · refine gIcmpN X0 hx (hb hby d_jdk_43_method_23_19) (XT.ii_ne_f g6) ?_
                show Goes p e below _ (s₁.setTop (mkF m 22 #[.val (.ref a1), .val (.int c0), .val (.int (0 : Int32)), .val (.int (15 : Int32)), .val (.int (c0.toInt8.toInt32)), .val (.int (6 : Int32))] []))
                refine gIload X0 hx (hb hby d_jdk_43_method_23_22) rfl ?_
                exact goRetI X0 hx hret hlocks (hb hby d_jdk_43_method_23_24) (by decide) (by decide) e0 (⟨_, rfl, N0, rfl, Or.inl ⟨by decide, by rw [← g6]; decide⟩⟩)
              · refine gIcmpY X0 hx (hb hby d_jdk_43_method_23_19) (pc' := 25) (XT.ii_ne_t g6) (by decide) (by decide) ?_
                show Goes p e below _ (s₁.setTop (mkF m 25 #[.val (.ref a1), .val (.int c0), .val (.int (0 : Int32)), .val (.int (15 : Int32)), .val (.int (c0.toInt8.toInt32)), .val (.int (6 : Int32))] []))
                refine gIinc X0 hx (hb hby d_jdk_43_method_23_25) (v := (7 : Int32)) rfl rfl (l' := #[.val (.ref a1), .val (.int c0), .val (.int (0 : Int32)), .val (.int (15 : Int32)), .val (.int (c0.toInt8.toInt32)), .val (.int (7 : Int32))]) rfl ?_
                refine gGoto X0 hx (hb hby d_jdk_43_method_23_28) (pc' := 7) (by decide) (by decide) ?_
                show Goes p e below _ (s₁.setTop (mkF m 7 #[.val (.ref a1), .val (.int c0), .val (.int (0 : Int32)), .val (.int (15 : Int32)), .val (.int (c0.toInt8.toInt32)), .val (.int (7 : Int32))] []))
                refine gIload X0 hx (hb hby d_jdk_43_method_23_7) rfl ?_
                refine gIloadN X0 hx (hb hby d_jdk_43_method_23_9) rfl ?_
                refine gIcmpN X0 hx (hb hby d_jdk_43_method_23_10) (XT.ii_ge_f (by decide)) ?_
                show Goes p e below _ (s₁.setTop (mkF m 13 #[.val (.ref a1), .val (.int c0), .val (.int (0 : Int32)), .val (.int (15 : Int32)), .val (.int (c0.toInt8.toInt32)), .val (.int (7 : Int32))] []))
                refine gAloadN X0 hx (hb hby d_jdk_43_method_23_13) rfl rfl ?_
                refine gIload X0 hx (hb hby d_jdk_43_method_23_14) rfl ?_
                refine goBaload X0 hx hZ e0 Y1 (x := (43 : Int32)) (hb hby d_jdk_43_method_23_16) (by decide) rfl ?_
                refine gIload X0 hx (hb hby d_jdk_43_method_23_17) rfl ?_
                by_cases g7 : (43 : Int32) = (c0.toInt8.toInt32)
                · refine gIcmpN X0 hx (hb hby d_jdk_43_method_23_19) (XT.ii_ne_f g7) ?_
                  show Goes p e below _ (s₁.setTop (mkF m 22 #[.val (.ref a1), .val (.int c0), .val (.int (0 : Int32)), .val (.int (15 : Int32)), .val (.int (c0.toInt8.toInt32)), .val (.int (7 : Int32))] []))
                  refine gIload X0 hx (hb hby d_jdk_43_method_23_22) rfl ?_
                  exact goRetI X0 hx hret hlocks (hb hby d_jdk_43_method_23_24) (by decide) (by decide) e0 (⟨_, rfl, N0, rfl, Or.inl ⟨by decide, by rw [← g7]; decide⟩⟩)
                · refine gIcmpY X0 hx (hb hby d_jdk_43_method_23_19) (pc' := 25) (XT.ii_ne_t g7) (by decide) (by decide) ?_
                  show Goes p e below _ (s₁.setTop (mkF m 25 #[.val (.ref a1), .val (.int c0), .val (.int (0 : Int32)), .val (.int (15 : Int32)), .val (.int (c0.toInt8.toInt32)), .val (.int (7 : Int32))] []))
                  refine gIinc X0 hx (hb hby d_jdk_43_method_23_25) (v := (8 : Int32)) rfl rfl (l' := #[.val (.ref a1), .val (.int c0), .val (.int (0 : Int32)), .val (.int (15 : Int32)), .val (.int (c0.toInt8.toInt32)), .val (.int (8 : Int32))]) rfl ?_
                  refine gGoto X0 hx (hb hby d_jdk_43_method_23_28) (pc' := 7) (by decide) (by decide) ?_
                  show Goes p e below _ (s₁.setTop (mkF m 7 #[.val (.ref a1), .val (.int c0), .val (.int (0 : Int32)), .val (.int (15 : Int32)), .val (.int (c0.toInt8.toInt32)), .val (.int (8 : Int32))] []))
                  refine gIload X0 hx (hb hby d_jdk_43_method_23_7) rfl ?_
                  refine gIloadN X0 hx (hb hby d_jdk_43_method_23_9) rfl ?_
                  refine gIcmpN X0 hx (hb hby d_jdk_43_method_23_10) (XT.ii_ge_f (by decide)) ?_
                  show Goes p e below _ (s₁.setTop (mkF m 13 #[.val (.ref a1), .val (.int c0), .val (.int (0 : Int32)), .val (.int (15 : Int32)), .val (.int (c0.toInt8.toInt32)), .val (.int (8 : Int32))] []))
                  refine gAloadN X0 hx (hb hby d_jdk_43_method_23_13) rfl rfl ?_
                  refine gIload X0 hx (hb hby d_jdk_43_method_23_14) rfl ?_
                  refine goBaload X0 hx hZ e0 Y1 (x := (45 : Int32)) (hb hby d_jdk_43_method_23_16) (by decide) rfl ?_
                  refine gIload X0 hx (hb hby d_jdk_43_method_23_17) rfl ?_
                  by_cases g8 : (45 : Int32) = (c0.toInt8.toInt32)
                  · refine gIcmpN X0 hx (hb hby d_jdk_43_method_23_19) (XT.ii_ne_f g8) ?_
                    show Goes p e below _ (s₁.setTop (mkF m 22 #[.val (.ref a1), .val (.int c0), .val (.int (0 : Int32)), .val (.int (15 : Int32)), .val (.int (c0.toInt8.toInt32)), .val (.int (8 : Int32))] []))
                    refine gIload X0 hx (hb hby d_jdk_43_method_23_22) rfl ?_
                    exact goRetI X0 hx hret hlocks (hb hby d_jdk_43_method_23_24) (by decide) (by decide) e0 (⟨_, rfl, N0, rfl, Or.inl ⟨by decide, by rw [← g8]; decide⟩⟩)
                  · refine gIcmpY X0 hx (hb hby d_jdk_43_method_23_19) (pc' := 25) (XT.ii_ne_t g8) (by decide) (by decide) ?_
                    show Goes p e below _ (s₁.setTop (mkF m 25 #[.val (.ref a1), .val (.int c0), .val (.int (0 : Int32)), .val (.int (15 : Int32)), .val (.int (c0.toInt8.toInt32)), .val (.int (8 : Int32))] []))
                    refine gIinc X0 hx (hb hby d_jdk_43_method_23_25) (v := (9 : Int32)) rfl rfl (l' := #[.val (.ref a1), .val (.int c0), .val (.int (0 : Int32)), .val (.int (15 : Int32)), .val (.int (c0.toInt8.toInt32)), .val (.int (9 : Int32))]) rfl ?_
                    refine gGoto X0 hx (hb hby d_jdk_43_method_23_28) (pc' := 7) (by decide) (by decide) ?_
                    show Goes p e below _ (s₁.setTop (mkF m 7 #[.val (.ref a1), .val (.int c0), .val (.int (0 : Int32)), .val (.int (15 : Int32)), .val (.int (c0.toInt8.toInt32)), .val (.int (9 : Int32))] []))
                    refine gIload X0 hx (hb hby d_jdk_43_method_23_7) rfl ?_
                    refine gIloadN X0 hx (hb hby d_jdk_43_method_23_9) rfl ?_
                    refine gIcmpN X0 hx (hb hby d_jdk_43_method_23_10) (XT.ii_ge_f (by decide)) ?_
                    show Goes p e below _ (s₁.setTop (mkF m 13 #[.val (.ref a1), .val (.int c0), .val (.int (0 : Int32)), .val (.int (15 : Int32)), .val (.int (c0.toInt8.toInt32)), .val (.int (9 : Int32))] []))
                    refine gAloadN X0 hx (hb hby d_jdk_43_method_23_13) rfl rfl ?_
                    refine gIload X0 hx (hb hby d_jdk_43_method_23_14) rfl ?_
                    refine goBaload X0 hx hZ e0 Y1 (x := (46 : Int32)) (hb hby d_jdk_43_method_23_16) (by decide) rfl ?_
                    refine gIload X0 hx (hb hby d_jdk_43_method_23_17) rfl ?_
                    by_cases g9 : (46 : Int32) = (c0.toInt8.toInt32)
                    · refine gIcmpN X0 hx (hb hby d_jdk_43_method_23_19) (XT.ii_ne_f g9) ?_
                      show Goes p e below _ (s₁.setTop (mkF m 22 #[.val (.ref a1), .val (.int c0), .val (.int (0 : Int32)), .val (.int (15 : Int32)), .val (.int (c0.toInt8.toInt32)), .val (.int (9 : Int32))] []))
                      refine gIload X0 hx (hb hby d_jdk_43_method_23_22) rfl ?_
                      exact goRetI X0 hx hret hlocks (hb hby d_jdk_43_method_23_24) (by decide) (by decide) e0 (⟨_, rfl, N0, rfl, Or.inl ⟨by decide, by rw [← g9]; decide⟩⟩)
                    · refine gIcmpY X0 hx (hb hby d_jdk_43_method_23_19) (pc' := 25) (XT.ii_ne_t g9) (by decide) (by decide) ?_
                      show Goes p e below _ (s₁.setTop (mkF m 25 #[.val (.ref a1), .val (.int c0), .val (.int (0 : Int32)), .val (.int (15 : Int32)), .val (.int (c0.toInt8.toInt32)), .val (.int (9 : Int32))] []))
                      refine gIinc X0 hx (hb hby d_jdk_43_method_23_25) (v := (10 : Int32)) rfl rfl (l' := #[.val (.ref a1), .val (.int c0), .val (.int (0 : Int32)), .val (.int (15 : Int32)), .val (.int (c0.toInt8.toInt32)), .val (.int (10 : Int32))]) rfl ?_
                      refine gGoto X0 hx (hb hby d_jdk_43_method_23_28) (pc' := 7) (by decide) (by decide) ?_
                      show Goes p e below _ (s₁.setTop (mkF m 7 #[.val (.ref a1), .val (.int c0), .val (.int (0 : Int32)), .val (.int (15 : Int32)), .val (.int (c0.toInt8.toInt32)), .val (.int (10 : Int32))] []))
                      refine gIload X0 hx (hb hby d_jdk_43_method_23_7) rfl ?_
                      refine gIloadN X0 hx (hb hby d_jdk_43_method_23_9) rfl ?_
                      refine gIcmpN X0 hx (hb hby d_jdk_43_method_23_10) (XT.ii_ge_f (by decide)) ?_
                      show Goes p e below _ (s₁.setTop (mkF m 13 #[.val (.ref a1), .val (.int c0), .val (.int (0 : Int32)), .val (.int (15 : Int32)), .val (.int (c0.toInt8.toInt32)), .val (.int (10 : Int32))] []))
                      refine gAloadN X0 hx (hb hby d_jdk_43_method_23_13) rfl rfl ?_
                      refine gIload X0 hx (hb hby d_jdk_43_method_23_14) rfl ?_
                      refine goBaload X0 hx hZ e0 Y1 (x := (94 : Int32)) (hb hby d_jdk_43_method_23_16) (by decide) rfl ?_
                      refine gIload X0 hx (hb hby d_jdk_43_method_23_17) rfl ?_
                      by_cases g10 : (94 : Int32) = (c0.toInt8.toInt32)
                      · refine gIcmpN X0 hx (hb hby d_jdk_43_method_23_19) (XT.ii_ne_f g10) ?_
                        show Goes p e below _ (s₁.setTop (mkF m 22 #[.val (.ref a1), .val (.int c0), .val (.int (0 : Int32)), .val (.int (15 : Int32)), .val (.int (c0.toInt8.toInt32)), .val (.int (10 : Int32))] []))
                        refine gIload X0 hx (hb hby d_jdk_43_method_23_22) rfl ?_
                        exact goRetI X0 hx hret hlocks (hb hby d_jdk_43_method_23_24) (by decide) (by decide) e0 (⟨_, rfl, N0, rfl, Or.inl ⟨by decide, by rw [← g10]; decide⟩⟩)
                      · refine gIcmpY X0 hx (hb hby d_jdk_43_method_23_19) (pc' := 25) (XT.ii_ne_t g10) (by decide) (by decide) ?_
                        show Goes p e below _ (s₁.setTop (mkF m 25 #[.val (.ref a1), .val (.int c0), .val (.int (0 : Int32)), .val (.int (15 : Int32)), .val (.int (c0.toInt8.toInt32)), .val (.int (10 : Int32))] []))
                        refine gIinc X0 hx (hb hby d_jdk_43_method_23_25) (v := (11 : Int32)) rfl rfl (l' := #[.val (.ref a1), .val (.int c0), .val (.int (0 : Int32)), .val (.int (15 : Int32)), .val (.int (c0.toInt8.toInt32)), .val (.int (11 : Int32))]) rfl ?_
                        refine gGoto X0 hx (hb hby d_jdk_43_method_23_28) (pc' := 7) (by decide) (by decide) ?_
                        show Goes p e below _ (s₁.setTop (mkF m 7 #[.val (.ref a1), .val (.int c0), .val (.int (0 : Int32)), .val (.int (15 : Int32)), .val (.int (c0.toInt8.toInt32)), .val (.int (11 : Int32))] []))
                        refine gIload X0 hx (hb hby d_jdk_43_method_23_7) rfl ?_
                        refine gIloadN X0 hx (hb hby d_jdk_43_method_23_9) rfl ?_
                        refine gIcmpN X0 hx (hb hby d_jdk_43_method_23_10) (XT.ii_ge_f (by decide)) ?_
                        show Goes p e below _ (s₁.setTop (mkF m 13 #[.val (.ref a1), .val (.int c0), .val (.int (0 : Int32)), .val (.int (15 : Int32)), .val (.int (c0.toInt8.toInt32)), .val (.int (11 : Int32))] []))
                        refine gAloadN X0 hx (hb hby d_jdk_43_method_23_13) rfl rfl ?_
                        refine gIload X0 hx (hb hby d_jdk_43_method_23_14) rfl ?_
                        refine goBaload X0 hx hZ e0 Y1 (x := (95 : Int32)) (hb hby d_jdk_43_method_23_16) (by decide) rfl ?_
                        refine gIload X0 hx (hb hby d_jdk_43_method_23_17) rfl ?_
                        by_cases g11 : (95 : Int32) = (c0.toInt8.toInt32)
                        · refine gIcmpN X0 hx (hb hby d_jdk_43_method_23_19) (XT.ii_ne_f g11) ?_
                          show Goes p e below _ (s₁.setTop (mkF m 22 #[.val (.ref a1), .val (.int c0), .val (.int (0 : Int32)), .val (.int (15 : Int32)), .val (.int (c0.toInt8.toInt32)), .val (.int (11 : Int32))] []))
                          refine gIload X0 hx (hb hby d_jdk_43_method_23_22) rfl ?_
                          exact goRetI X0 hx hret hlocks (hb hby d_jdk_43_method_23_24) (by decide) (by decide) e0 (⟨_, rfl, N0, rfl, Or.inl ⟨by decide, by rw [← g11]; decide⟩⟩)
                        · refine gIcmpY X0 hx (hb hby d_jdk_43_method_23_19) (pc' := 25) (XT.ii_ne_t g11) (by decide) (by decide) ?_
                          show Goes p e below _ (s₁.setTop (mkF m 25 #[.val (.ref a1), .val (.int c0), .val (.int (0 : Int32)), .val (.int (15 : Int32)), .val (.int (c0.toInt8.toInt32)), .val (.int (11 : Int32))] []))
                          refine gIinc X0 hx (hb hby d_jdk_43_method_23_25) (v := (12 : Int32)) rfl rfl (l' := #[.val (.ref a1), .val (.int c0), .val (.int (0 : Int32)), .val (.int (15 : Int32)), .val (.int (c0.toInt8.toInt32)), .val (.int (12 : Int32))]) rfl ?_
                          refine gGoto X0 hx (hb hby d_jdk_43_method_23_28) (pc' := 7) (by decide) (by decide) ?_
                          show Goes p e below _ (s₁.setTop (mkF m 7 #[.val (.ref a1), .val (.int c0), .val (.int (0 : Int32)), .val (.int (15 : Int32)), .val (.int (c0.toInt8.toInt32)), .val (.int (12 : Int32))] []))
                          refine gIload X0 hx (hb hby d_jdk_43_method_23_7) rfl ?_
                          refine gIloadN X0 hx (hb hby d_jdk_43_method_23_9) rfl ?_
                          refine gIcmpN X0 hx (hb hby d_jdk_43_method_23_10) (XT.ii_ge_f (by decide)) ?_
                          show Goes p e below _ (s₁.setTop (mkF m 13 #[.val (.ref a1), .val (.int c0), .val (.int (0 : Int32)), .val (.int (15 : Int32)), .val (.int (c0.toInt8.toInt32)), .val (.int (12 : Int32))] []))
                          refine gAloadN X0 hx (hb hby d_jdk_43_method_23_13) rfl rfl ?_
                          refine gIload X0 hx (hb hby d_jdk_43_method_23_14) rfl ?_
                          refine goBaload X0 hx hZ e0 Y1 (x := (96 : Int32)) (hb hby d_jdk_43_method_23_16) (by decide) rfl ?_
                          refine gIload X0 hx (hb hby d_jdk_43_method_23_17) rfl ?_
                          by_cases g12 : (96 : Int32) = (c0.toInt8.toInt32)
                          · refine gIcmpN X0 hx (hb hby d_jdk_43_method_23_19) (XT.ii_ne_f g12) ?_
                            show Goes p e below _ (s₁.setTop (mkF m 22 #[.val (.ref a1), .val (.int c0), .val (.int (0 : Int32)), .val (.int (15 : Int32)), .val (.int (c0.toInt8.toInt32)), .val (.int (12 : Int32))] []))
                            refine gIload X0 hx (hb hby d_jdk_43_method_23_22) rfl ?_
                            exact goRetI X0 hx hret hlocks (hb hby d_jdk_43_method_23_24) (by decide) (by decide) e0 (⟨_, rfl, N0, rfl, Or.inl ⟨by decide, by rw [← g12]; decide⟩⟩)
                          · refine gIcmpY X0 hx (hb hby d_jdk_43_method_23_19) (pc' := 25) (XT.ii_ne_t g12) (by decide) (by decide) ?_
                            show Goes p e below _ (s₁.setTop (mkF m 25 #[.val (.ref a1), .val (.int c0), .val (.int (0 : Int32)), .val (.int (15 : Int32)), .val (.int (c0.toInt8.toInt32)), .val (.int (12 : Int32))] []))
                            refine gIinc X0 hx (hb hby d_jdk_43_method_23_25) (v := (13 : Int32)) rfl rfl (l' := #[.val (.ref a1), .val (.int c0), .val (.int (0 : Int32)), .val (.int (15 : Int32)), .val (.int (c0.toInt8.toInt32)), .val (.int (13 : Int32))]) rfl ?_
                            refine gGoto X0 hx (hb hby d_jdk_43_method_23_28) (pc' := 7) (by decide) (by decide) ?_
                            show Goes p e below _ (s₁.setTop (mkF m 7 #[.val (.ref a1), .val (.int c0), .val (.int (0 : Int32)), .val (.int (15 : Int32)), .val (.int (c0.toInt8.toInt32)), .val (.int (13 : Int32))] []))
                            refine gIload X0 hx (hb hby d_jdk_43_method_23_7) rfl ?_
                            refine gIloadN X0 hx (hb hby d_jdk_43_method_23_9) rfl ?_
                            refine gIcmpN X0 hx (hb hby d_jdk_43_method_23_10) (XT.ii_ge_f (by decide)) ?_
                            show Goes p e below _ (s₁.setTop (mkF m 13 #[.val (.ref a1), .val (.int c0), .val (.int (0 : Int32)), .val (.int (15 : Int32)), .val (.int (c0.toInt8.toInt32)), .val (.int (13 : Int32))] []))
                            refine gAloadN X0 hx (hb hby d_jdk_43_method_23_13) rfl rfl ?_
                            refine gIload X0 hx (hb hby d_jdk_43_method_23_14) rfl ?_
                            refine goBaload X0 hx hZ e0 Y1 (x := (124 : Int32)) (hb hby d_jdk_43_method_23_16) (by decide) rfl ?_
                            refine gIload X0 hx (hb hby d_jdk_43_method_23_17) rfl ?_
                            by_cases g13 : (124 : Int32) = (c0.toInt8.toInt32)
                            · refine gIcmpN X0 hx (hb hby d_jdk_43_method_23_19) (XT.ii_ne_f g13) ?_
                              show Goes p e below _ (s₁.setTop (mkF m 22 #[.val (.ref a1), .val (.int c0), .val (.int (0 : Int32)), .val (.int (15 : Int32)), .val (.int (c0.toInt8.toInt32)), .val (.int (13 : Int32))] []))
                              refine gIload X0 hx (hb hby d_jdk_43_method_23_22) rfl ?_
                              exact goRetI X0 hx hret hlocks (hb hby d_jdk_43_method_23_24) (by decide) (by decide) e0 (⟨_, rfl, N0, rfl, Or.inl ⟨by decide, by rw [← g13]; decide⟩⟩)
                            · refine gIcmpY X0 hx (hb hby d_jdk_43_method_23_19) (pc' := 25) (XT.ii_ne_t g13) (by decide) (by decide) ?_
                              show Goes p e below _ (s₁.setTop (mkF m 25 #[.val (.ref a1), .val (.int c0), .val (.int (0 : Int32)), .val (.int (15 : Int32)), .val (.int (c0.toInt8.toInt32)), .val (.int (13 : Int32))] []))
                              refine gIinc X0 hx (hb hby d_jdk_43_method_23_25) (v := (14 : Int32)) rfl rfl (l' := #[.val (.ref a1), .val (.int c0), .val (.int (0 : Int32)), .val (.int (15 : Int32)), .val (.int (c0.toInt8.toInt32)), .val (.int (14 : Int32))]) rfl ?_
                              refine gGoto X0 hx (hb hby d_jdk_43_method_23_28) (pc' := 7) (by decide) (by decide) ?_
                              show Goes p e below _ (s₁.setTop (mkF m 7 #[.val (.ref a1), .val (.int c0), .val (.int (0 : Int32)), .val (.int (15 : Int32)), .val (.int (c0.toInt8.toInt32)), .val (.int (14 : Int32))] []))
                              refine gIload X0 hx (hb hby d_jdk_43_method_23_7) rfl ?_
                              refine gIloadN X0 hx (hb hby d_jdk_43_method_23_9) rfl ?_
                              refine gIcmpN X0 hx (hb hby d_jdk_43_method_23_10) (XT.ii_ge_f (by decide)) ?_
                              show Goes p e below _ (s₁.setTop (mkF m 13 #[.val (.ref a1), .val (.int c0), .val (.int (0 : Int32)), .val (.int (15 : Int32)), .val (.int (c0.toInt8.toInt32)), .val (.int (14 : Int32))] []))
                              refine gAloadN X0 hx (hb hby d_jdk_43_method_23_13) rfl rfl ?_
                              refine gIload X0 hx (hb hby d_jdk_43_method_23_14) rfl ?_
                              refine goBaload X0 hx hZ e0 Y1 (x := (126 : Int32)) (hb hby d_jdk_43_method_23_16) (by decide) rfl ?_
                              refine gIload X0 hx (hb hby d_jdk_43_method_23_17) rfl ?_
                              by_cases g14 : (126 : Int32) = (c0.toInt8.toInt32)
                              · refine gIcmpN X0 hx (hb hby d_jdk_43_method_23_19) (XT.ii_ne_f g14) ?_
                                show Goes p e below _ (s₁.setTop (mkF m 22 #[.val (.ref a1), .val (.int c0), .val (.int (0 : Int32)), .val (.int (15 : Int32)), .val (.int (c0.toInt8.toInt32)), .val (.int (14 : Int32))] []))
                                refine gIload X0 hx (hb hby d_jdk_43_method_23_22) rfl ?_
                                exact goRetI X0 hx hret hlocks (hb hby d_jdk_43_method_23_24) (by decide) (by decide) e0 (⟨_, rfl, N0, rfl, Or.inl ⟨by decide, by rw [← g14]; decide⟩⟩)
                              · refine gIcmpY X0 hx (hb hby d_jdk_43_method_23_19) (pc' := 25) (XT.ii_ne_t g14) (by decide) (by decide) ?_
                                show Goes p e below _ (s₁.setTop (mkF m 25 #[.val (.ref a1), .val (.int c0), .val (.int (0 : Int32)), .val (.int (15 : Int32)), .val (.int (c0.toInt8.toInt32)), .val (.int (14 : Int32))] []))
                                refine gIinc X0 hx (hb hby d_jdk_43_method_23_25) (v := (15 : Int32)) rfl rfl (l' := #[.val (.ref a1), .val (.int c0), .val (.int (0 : Int32)), .val (.int (15 : Int32)), .val (.int (c0.toInt8.toInt32)), .val (.int (15 : Int32))]) rfl ?_
                                refine gGoto X0 hx (hb hby d_jdk_43_method_23_28) (pc' := 7) (by decide) (by decide) ?_
                                show Goes p e below _ (s₁.setTop (mkF m 7 #[.val (.ref a1), .val (.int c0), .val (.int (0 : Int32)), .val (.int (15 : Int32)), .val (.int (c0.toInt8.toInt32)), .val (.int (15 : Int32))] []))
                                refine gIload X0 hx (hb hby d_jdk_43_method_23_7) rfl ?_
                                refine gIloadN X0 hx (hb hby d_jdk_43_method_23_9) rfl ?_
                                refine gIcmpY X0 hx (hb hby d_jdk_43_method_23_10) (pc' := 31) (XT.ii_ge_t (by decide)) (by decide) (by decide) ?_
                                show Goes p e below _ (s₁.setTop (mkF m 31 #[.val (.ref a1), .val (.int c0), .val (.int (0 : Int32)), .val (.int (15 : Int32)), .val (.int (c0.toInt8.toInt32)), .val (.int (15 : Int32))] []))
                                refine gIconst X0 hx (hb hby d_jdk_43_method_23_31) (v := (-1 : Int32)) rfl ?_
                                have nt : ¬ own_tk (c0.toInt8.toInt32) := fun q => by
                                  unfold own_tk at q
                                  rcases q with q | q | q | q | q | q | q | q | q | q | q | q | q | q | q
                                  · exact g0 q.symm
                                  · exact g1 q.symm
                                  · exact g2 q.symm
                                  · exact g3 q.symm
                                  · exact g4 q.symm
                                  · exact g5 q.symm
                                  · exact g6 q.symm
                                  · exact g7 q.symm
                                  · exact g8 q.symm
                                  · exact g9 q.symm
                                  · exact g10 q.symm
                                  · exact g11 q.symm
                                  · exact g12 q.symm
                                  · exact g13 q.symm
                                  · exact g14 q.symm
                                exact goRetI X0 hx hret hlocks (hb hby d_jdk_43_method_23_32) (by decide) (by decide) e0 (⟨_, rfl, N0, rfl, Or.inr ⟨by decide, nt⟩⟩)
theorem d_jdk_43_method_22_0 : decode jdk_43_method_22_code 0 = .ok (.iload_n 1, 1) := by decide +kernel
theorem pd_0 : parseMethodDescriptor "(I)Z" = some ⟨[.int], some .boolean⟩ := by decide +kernel
theorem d_jdk_43_method_22_1 : decode jdk_43_method_22_code 1 = .ok (.invokestatic 88, 3) := by decide +kernel
theorem d_jdk_43_method_22_4 : decode jdk_43_method_22_code 4 = .ok (.ifCond .ne 5, 3) := by decide +kernel
theorem d_jdk_43_method_22_7 : decode jdk_43_method_22_code 7 = .ok (.iconst (-1), 1) := by decide +kernel
theorem d_jdk_43_method_22_8 : decode jdk_43_method_22_code 8 = .ok (.ireturn, 1) := by decide +kernel
theorem d_jdk_43_method_22_9 : decode jdk_43_method_22_code 9 = .ok (.iload_n 2, 1) := by decide +kernel
theorem d_jdk_43_method_22_10 : decode jdk_43_method_22_code 10 = .ok (.iconst 0, 1) := by decide +kernel
theorem pd_1 : parseMethodDescriptor "(II)I" = some ⟨[.int, .int], some .int⟩ := by decide +kernel
theorem d_jdk_43_method_22_11 : decode jdk_43_method_22_code 11 = .ok (.invokestatic 92, 3) := by decide +kernel
theorem d_jdk_43_method_22_14 : decode jdk_43_method_22_code 14 = .ok (.istore_n 2, 1) := by decide +kernel
theorem d_jdk_43_method_22_15 : decode jdk_43_method_22_code 15 = .ok (.iload_n 3, 1) := by decide +kernel
theorem d_jdk_43_method_22_16 : decode jdk_43_method_22_code 16 = .ok (.aload_n 0, 1) := by decide +kernel
theorem d_jdk_43_method_22_17 : decode jdk_43_method_22_code 17 = .ok (.arraylength, 1) := by decide +kernel
theorem d_jdk_43_method_22_18 : decode jdk_43_method_22_code 18 = .ok (.invokestatic 38, 3) := by decide +kernel
theorem d_jdk_43_method_22_21 : decode jdk_43_method_22_code 21 = .ok (.istore_n 3, 1) := by decide +kernel
theorem d_jdk_43_method_22_22 : decode jdk_43_method_22_code 22 = .ok (.iload_n 2, 1) := by decide +kernel
theorem d_jdk_43_method_22_23 : decode jdk_43_method_22_code 23 = .ok (.iload_n 3, 1) := by decide +kernel
theorem d_jdk_43_method_22_24 : decode jdk_43_method_22_code 24 = .ok (.if_icmp .lt 5, 3) := by decide +kernel
theorem d_jdk_43_method_22_29 : decode jdk_43_method_22_code 29 = .ok (.aload_n 0, 1) := by decide +kernel
theorem d_jdk_43_method_22_30 : decode jdk_43_method_22_code 30 = .ok (.iload_n 1, 1) := by decide +kernel
theorem d_jdk_43_method_22_31 : decode jdk_43_method_22_code 31 = .ok (.iload_n 2, 1) := by decide +kernel
theorem d_jdk_43_method_22_32 : decode jdk_43_method_22_code 32 = .ok (.iload_n 3, 1) := by decide +kernel
theorem pd_2 : parseMethodDescriptor "([BIII)I" = some ⟨[(.array .byte), .int, .int, .int], some .int⟩ := by decide +kernel
theorem d_jdk_43_method_22_33 : decode jdk_43_method_22_code 33 = .ok (.invokestatic 95, 3) := by decide +kernel
theorem d_jdk_43_method_22_36 : decode jdk_43_method_22_code 36 = .ok (.ireturn, 1) := by decide +kernel
theorem ef_rmIl (m : MethodId) (x0 : Addr) (x1 : Int32) (x2 : Int32) (x3 : Int32) : entryFrame m #[(.ref x0), (.int x1), (.int x2), (.int x3)] 4 = mkF m 0 #[.val (.ref x0), .val (.int x1), .val (.int x2), .val (.int x3)] [] := by first | (simp [entryFrame, mkF, argsToLocals, Value.category]; done) | rfl
set_option maxRecDepth 65536 in
set_option maxHeartbeats 40000000 in
theorem rmIl (l : Launch) (Z : State) (a0 : Array Value) (hw : ∀ d ∈ tables_1, d.before a0 Z = true)  (a1 : Addr) (c0 : Int32) (h0 : Heap) (O0 : Ext Z.heap h0) (Y1 : Ary Z h0 a1 .byte [(.int (33 : Int32)), (.int (35 : Int32)), (.int (36 : Int32)), (.int (37 : Int32)), (.int (38 : Int32)), (.int (39 : Int32)), (.int (42 : Int32)), (.int (43 : Int32)), (.int (45 : Int32)), (.int (46 : Int32)), (.int (94 : Int32)), (.int (95 : Int32)), (.int (96 : Int32)), (.int (124 : Int32)), (.int (126 : Int32))]) (q0 : ¬ c0 < 0) :
    Ctr l Z (⟨"java/lang/StringLatin1", "indexOf", "([BIII)I"⟩ : MethodName) jdk_43_method_22_code 4 (some .int) [] ({ frames := 1, cells := 0, slots := 0, locals := 20 } : Room) #[(.ref a1), (.int c0), (.int (0 : Int32)), (.int (15 : Int32))] h0 (fun v h L => ∃ r : Int32, v = some (.int r) ∧ Fr Z.heap.size L ∧ h = h0 ∧ ((¬ r < 0 ∧ own_tk c0) ∨ (r < 0 ∧ ¬ own_tk c0))) := by
  refine ctr (plainFor_of_name pn_0) ?_
  intro p e s m below meth c s₁ hx hby hml hown hnm hret hlocks hZ X0 e0
  have N0 := Fr.nil Z.heap.size
  have hsz : ∀ {Ls : Array Slot}, Ls.size = 4 → Ls.size = c.maxLocals := fun q => q.trans hml.symm
  refine goE (ef_rmIl m (a1) (c0) ((0 : Int32)) ((15 : Int32))) ?_
  show Goes p e below _ (s₁.setTop (mkF m 0 #[.val (.ref a1), .val (.int c0), .val (.int (0 : Int32)), .val (.int (15 : Int32))] []))
  refine gIloadN X0 hx (hb hby d_jdk_43_method_22_0) rfl ?_
  by_cases q1 : (255 : Int32) < c0
  · refine goCallS X0 hx hZ hown (hw _ (List.mem_of_getElem? (i := 45) rfl)) (hw _ (List.mem_of_getElem? (i := 46) rfl)) (hw _ (List.mem_of_getElem? (i := 43) rfl)) (hw _ (List.mem_of_getElem? (i := 47) rfl)) (by decide) (rmCn l Z a0 hw c0 h0 O0 q0 q1) 0 (by decide) (by decide) e0 (hsz rfl) [(.int c0)] [] pd_0 rfl rfl rfl (Nat.le_of_eq rfl) (hb hby d_jdk_43_method_22_1) (by decide) (by decide) (fun Tt1 vt1 Lt1 Xt1 qt1 => ?_)
    obtain ⟨rfl, N2, et1⟩ := qt1
    have N3 := Fr.app N0 N2
    show Goes p e below _ (Tt1.setTop (mkF m 4 #[.val (.ref a1), .val (.int c0), .val (.int (0 : Int32)), .val (.int (15 : Int32))] [(.int (0 : Int32))]))
    refine gIfN Xt1 hx (hb hby d_jdk_43_method_22_4) (XT.i0_ne_f (by decide)) ?_
    show Goes p e below _ (Tt1.setTop (mkF m 7 #[.val (.ref a1), .val (.int c0), .val (.int (0 : Int32)), .val (.int (15 : Int32))] []))
    refine gIconst Xt1 hx (hb hby d_jdk_43_method_22_7) (v := (-1 : Int32)) rfl ?_
    exact goRetI Xt1 hx hret hlocks (hb hby d_jdk_43_method_22_8) (by decide) (by decide) et1 (⟨_, rfl, N3, rfl, Or.inr ⟨by decide, own_big q1⟩⟩)
  · refine goCallS X0 hx hZ hown (hw _ (List.mem_of_getElem? (i := 45) rfl)) (hw _ (List.mem_of_getElem? (i := 46) rfl)) (hw _ (List.mem_of_getElem? (i := 43) rfl)) (hw _ (List.mem_of_getElem? (i := 47) rfl)) (by decide) (rmCy l Z a0 hw c0 h0 O0 q0 q1) 0 (by decide) (by decide) e0 (hsz rfl) [(.int c0)] [] pd_0 rfl rfl rfl (Nat.le_of_eq rfl) (hb hby d_jdk_43_method_22_1) (by decide) (by decide) (fun Tt4 vt4 Lt4 Xt4 qt4 => ?_)
    obtain ⟨rfl, N5, et4⟩ := qt4
    have N6 := Fr.app N0 N5
    show Goes p e below _ (Tt4.setTop (mkF m 4 #[.val (.ref a1), .val (.int c0), .val (.int (0 : Int32)), .val (.int (15 : Int32))] [(.int (1 : Int32))]))
    refine gIfY Xt4 hx (hb hby d_jdk_43_method_22_4) (pc' := 9) (XT.i0_ne_t (by decide)) (by decide) (by decide) ?_
    show Goes p e below _ (Tt4.setTop (mkF m 9 #[.val (.ref a1), .val (.int c0), .val (.int (0 : Int32)), .val (.int (15 : Int32))] []))
    refine gIloadN Xt4 hx (hb hby d_jdk_43_method_22_9) rfl ?_
    refine gIconst Xt4 hx (hb hby d_jdk_43_method_22_10) (v := (0 : Int32)) rfl ?_
    refine goCallS Xt4 hx hZ hown (hw _ (List.mem_of_getElem? (i := 48) rfl)) (hw _ (List.mem_of_getElem? (i := 49) rfl)) (hw _ (List.mem_of_getElem? (i := 50) rfl)) (hw _ (List.mem_of_getElem? (i := 51) rfl)) (by decide) (rmMx l Z a0 hw h0 O0) 0 (by decide) (by decide) et4 (hsz rfl) [(.int (0 : Int32)), (.int (0 : Int32))] [] pd_1 rfl rfl rfl (Nat.le_of_eq rfl) (hb hby d_jdk_43_method_22_11) (by decide) (by decide) (fun Tt7 vt7 Lt7 Xt7 qt7 => ?_)
    obtain ⟨rfl, N8, et7⟩ := qt7
    have N9 := Fr.app N6 N8
    show Goes p e below _ (Tt7.setTop (mkF m 14 #[.val (.ref a1), .val (.int c0), .val (.int (0 : Int32)), .val (.int (15 : Int32))] [(.int (0 : Int32))]))
    refine gIstoreN Xt7 hx (hb hby d_jdk_43_method_22_14) (l' := #[.val (.ref a1), .val (.int c0), .val (.int (0 : Int32)), .val (.int (15 : Int32))]) rfl ?_
    refine gIloadN Xt7 hx (hb hby d_jdk_43_method_22_15) rfl ?_
    refine gAloadN Xt7 hx (hb hby d_jdk_43_method_22_16) rfl rfl ?_
    refine goAlen Xt7 hx hZ et7 Y1 (n := (15 : Int32)) (hb hby d_jdk_43_method_22_17) rfl ?_
    refine goCallS Xt7 hx hZ hown (hw _ (List.mem_of_getElem? (i := 52) rfl)) (hw _ (List.mem_of_getElem? (i := 53) rfl)) (hw _ (List.mem_of_getElem? (i := 50) rfl)) (hw _ (List.mem_of_getElem? (i := 54) rfl)) (by decide) (rmMn l Z a0 hw h0 O0) 0 (by decide) (by decide) et7 (hsz rfl) [(.int (15 : Int32)), (.int (15 : Int32))] [] pd_1 rfl rfl rfl (Nat.le_of_eq rfl) (hb hby d_jdk_43_method_22_18) (by decide) (by decide) (fun Tt10 vt10 Lt10 Xt10 qt10 => ?_)
    obtain ⟨rfl, N11, et10⟩ := qt10
    have N12 := Fr.app N9 N11
    show Goes p e below _ (Tt10.setTop (mkF m 21 #[.val (.ref a1), .val (.int c0), .val (.int (0 : Int32)), .val (.int (15 : Int32))] [(.int (15 : Int32))]))
    refine gIstoreN Xt10 hx (hb hby d_jdk_43_method_22_21) (l' := #[.val (.ref a1), .val (.int c0), .val (.int (0 : Int32)), .val (.int (15 : Int32))]) rfl ?_
    refine gIloadN Xt10 hx (hb hby d_jdk_43_method_22_22) rfl ?_
    refine gIloadN Xt10 hx (hb hby d_jdk_43_method_22_23) rfl ?_
    refine gIcmpY Xt10 hx (hb hby d_jdk_43_method_22_24) (pc' := 29) (XT.ii_lt_t (by decide)) (by decide) (by decide) ?_
    show Goes p e below _ (Tt10.setTop (mkF m 29 #[.val (.ref a1), .val (.int c0), .val (.int (0 : Int32)), .val (.int (15 : Int32))] []))
    refine gAloadN Xt10 hx (hb hby d_jdk_43_method_22_29) rfl rfl ?_
    refine gIloadN Xt10 hx (hb hby d_jdk_43_method_22_30) rfl ?_
    refine gIloadN Xt10 hx (hb hby d_jdk_43_method_22_31) rfl ?_
    refine gIloadN Xt10 hx (hb hby d_jdk_43_method_22_32) rfl ?_
    refine goCallS Xt10 hx hZ hown (hw _ (List.mem_of_getElem? (i := 55) rfl)) (hw _ (List.mem_of_getElem? (i := 56) rfl)) (hw _ (List.mem_of_getElem? (i := 43) rfl)) (hw _ (List.mem_of_getElem? (i := 57) rfl)) (by decide) (rmIc l Z a0 hw a1 c0 h0 O0 Y1) 0 (by decide) (by decide) et10 (hsz rfl) [(.ref a1), (.int c0), (.int (0 : Int32)), (.int (15 : Int32))] [] pd_2 rfl rfl rfl (Nat.le_of_eq rfl) (hb hby d_jdk_43_method_22_33) (by decide) (by decide) (fun Tt13 vt13 Lt13 Xt13 qt13 => ?_)
    obtain ⟨r_, rfl, N14, et13, alt⟩ := qt13
    have N15 := Fr.app N12 N14
    show Goes p e below _ (Tt13.setTop (mkF m 36 #[.val (.ref a1), .val (.int c0), .val (.int (0 : Int32)), .val (.int (15 : Int32))] [(.int r_)]))
    exact goRetI Xt13 hx hret hlocks (hb hby d_jdk_43_method_22_36) (by decide) (by decide) et13 (⟨_, rfl, N15, rfl, by rw [← own_c8 q0 q1]; exact alt⟩)
theorem d_jdk_42_method_152_0 : decode jdk_42_method_152_code 0 = .ok (.getstatic 38, 3) := by decide +kernel
theorem d_jdk_42_method_152_3 : decode jdk_42_method_152_code 3 = .ok (.ifCond .eq 10, 3) := by decide +kernel
theorem d_jdk_42_method_152_6 : decode jdk_42_method_152_code 6 = .ok (.aload_n 0, 1) := by decide +kernel
theorem d_jdk_42_method_152_7 : decode jdk_42_method_152_code 7 = .ok (.getfield 15, 3) := by decide +kernel
theorem d_jdk_42_method_152_10 : decode jdk_42_method_152_code 10 = .ok (.goto 4, 3) := by decide +kernel
theorem d_jdk_42_method_152_14 : decode jdk_42_method_152_code 14 = .ok (.ireturn, 1) := by decide +kernel
theorem pn_1 : plainName "java/lang/String" = true := by first | (simp [plainName, overriddenIn]; done) | decide +kernel
theorem ef_rmSco (m : MethodId) (x0 : Addr) : entryFrame m #[(.ref x0)] 1 = mkF m 0 #[.val (.ref x0)] [] := by first | (simp [entryFrame, mkF, argsToLocals, Value.category]; done) | rfl
set_option maxRecDepth 65536 in
set_option maxHeartbeats 40000000 in
theorem rmSco (l : Launch) (Z : State) (a0 : Array Value) (hw : ∀ d ∈ tables_1, d.before a0 Z = true) (u : Addr) (cs : Int32) (a1 : Addr) (h0 : Heap) (O0 : Ext Z.heap h0) (S_cs : Sta Z Z.heap "java/lang/String" "COMPACT_STRINGS" "Z" (.int cs)) (hcs : ¬ cs = 0) (E1 : Exa Z h0 a1 "java/lang/String") (V1 : Fld Z h0 a1 "java/lang/String" "value" "[B" (.ref u)) (C1 : Fld Z h0 a1 "java/lang/String" "coder" "B" (.int (0 : Int32))) (Y1 : Ary Z h0 u .byte [(.int (33 : Int32)), (.int (35 : Int32)), (.int (36 : Int32)), (.int (37 : Int32)), (.int (38 : Int32)), (.int (39 : Int32)), (.int (42 : Int32)), (.int (43 : Int32)), (.int (45 : Int32)), (.int (46 : Int32)), (.int (94 : Int32)), (.int (95 : Int32)), (.int (96 : Int32)), (.int (124 : Int32)), (.int (126 : Int32))]) :
    Ctr l Z (⟨"java/lang/String", "coder", "()B"⟩ : MethodName) jdk_42_method_152_code 1 (some .byte) [] ({ frames := 0, cells := 0, slots := 0, locals := 0 } : Room) #[(.ref a1)] h0 (fun v h L => v = some (.int 0) ∧ Fr Z.heap.size L ∧ h = h0) := by
  refine ctr (plainFor_of_name pn_1) ?_
  intro p e s m below meth c s₁ hx hby hml hown hnm hret hlocks hZ X0 e0
  have N0 := Fr.nil Z.heap.size
  have hsz : ∀ {Ls : Array Slot}, Ls.size = 1 → Ls.size = c.maxLocals := fun q => q.trans hml.symm
  refine goE (ef_rmSco m (a1)) ?_
  show Goes p e below _ (s₁.setTop (mkF m 0 #[.val (.ref a1)] []))
  obtain ⟨Tt1, Xt1, et1, stt1⟩ := getS2 X0 hx hZ hown (host := "") (Or.inl (hw _ (List.mem_of_getElem? (i := 28) rfl))) Via.refl e0 (S_cs.ext O0) (g := (mkF m 0 #[.val (.ref a1)] [])) rfl (hb hby d_jdk_42_method_152_0)
  refine go stt1 ?_
  show Goes p e below _ (Tt1.setTop (mkF m 3 #[.val (.ref a1)] [(.int cs)]))
  refine gIfN Xt1 hx (hb hby d_jdk_42_method_152_3) (XT.i0_eq_f hcs) ?_
  show Goes p e below _ (Tt1.setTop (mkF m 6 #[.val (.ref a1)] []))
  refine gAloadN Xt1 hx (hb hby d_jdk_42_method_152_6) rfl rfl ?_
  obtain ⟨Tt2, Xt2, et2, stt2⟩ := getF Xt1 hx hZ hown (host := "") (Or.inl (hw _ (List.mem_of_getElem? (i := 29) rfl))) Via.refl et1 C1 (g := (mkF m 7 #[.val (.ref a1)] [(.ref a1)])) rfl rfl (hb hby d_jdk_42_method_152_7)
  refine go stt2 ?_
  show Goes p e below _ (Tt2.setTop (mkF m 10 #[.val (.ref a1)] [(.int (0 : Int32))]))
  refine gGoto Xt2 hx (hb hby d_jdk_42_method_152_10) (pc' := 14) (by decide) (by decide) ?_
  show Goes p e below _ (Tt2.setTop (mkF m 14 #[.val (.ref a1)] [(.int (0 : Int32))]))
  exact goRetN Xt2 hx (t := .byte) hret hlocks (by simp) (hb hby d_jdk_42_method_152_14) (z' := (0 : Int32)) rfl (by decide) (by decide) et2 (⟨rfl, N0, rfl⟩)
theorem d_jdk_42_method_154_0 : decode jdk_42_method_154_code 0 = .ok (.getstatic 38, 3) := by decide +kernel
theorem d_jdk_42_method_154_3 : decode jdk_42_method_154_code 3 = .ok (.ifCond .eq 14, 3) := by decide +kernel
theorem d_jdk_42_method_154_6 : decode jdk_42_method_154_code 6 = .ok (.aload_n 0, 1) := by decide +kernel
theorem d_jdk_42_method_154_7 : decode jdk_42_method_154_code 7 = .ok (.getfield 15, 3) := by decide +kernel
theorem d_jdk_42_method_154_10 : decode jdk_42_method_154_code 10 = .ok (.ifCond .ne 7, 3) := by decide +kernel
theorem d_jdk_42_method_154_13 : decode jdk_42_method_154_code 13 = .ok (.iconst 1, 1) := by decide +kernel
theorem d_jdk_42_method_154_14 : decode jdk_42_method_154_code 14 = .ok (.goto 4, 3) := by decide +kernel
theorem d_jdk_42_method_154_18 : decode jdk_42_method_154_code 18 = .ok (.ireturn, 1) := by decide +kernel
theorem ef_rmSla (m : MethodId) (x0 : Addr) : entryFrame m #[(.ref x0)] 1 = mkF m 0 #[.val (.ref x0)] [] := by first | (simp [entryFrame, mkF, argsToLocals, Value.category]; done) | rfl
set_option maxRecDepth 65536 in
set_option maxHeartbeats 40000000 in
theorem rmSla (l : Launch) (Z : State) (a0 : Array Value) (hw : ∀ d ∈ tables_1, d.before a0 Z = true) (u : Addr) (cs : Int32) (a1 : Addr) (h0 : Heap) (O0 : Ext Z.heap h0) (S_cs : Sta Z Z.heap "java/lang/String" "COMPACT_STRINGS" "Z" (.int cs)) (hcs : ¬ cs = 0) (E1 : Exa Z h0 a1 "java/lang/String") (V1 : Fld Z h0 a1 "java/lang/String" "value" "[B" (.ref u)) (C1 : Fld Z h0 a1 "java/lang/String" "coder" "B" (.int (0 : Int32))) (Y1 : Ary Z h0 u .byte [(.int (33 : Int32)), (.int (35 : Int32)), (.int (36 : Int32)), (.int (37 : Int32)), (.int (38 : Int32)), (.int (39 : Int32)), (.int (42 : Int32)), (.int (43 : Int32)), (.int (45 : Int32)), (.int (46 : Int32)), (.int (94 : Int32)), (.int (95 : Int32)), (.int (96 : Int32)), (.int (124 : Int32)), (.int (126 : Int32))]) :
    Ctr l Z (⟨"java/lang/String", "isLatin1", "()Z"⟩ : MethodName) jdk_42_method_154_code 1 (some .boolean) [] ({ frames := 0, cells := 0, slots := 0, locals := 0 } : Room) #[(.ref a1)] h0 (fun v h L => v = some (.int 1) ∧ Fr Z.heap.size L ∧ h = h0) := by
  refine ctr (plainFor_of_name pn_1) ?_
  intro p e s m below meth c s₁ hx hby hml hown hnm hret hlocks hZ X0 e0
  have N0 := Fr.nil Z.heap.size
  have hsz : ∀ {Ls : Array Slot}, Ls.size = 1 → Ls.size = c.maxLocals := fun q => q.trans hml.symm
  refine goE (ef_rmSla m (a1)) ?_
  show Goes p e below _ (s₁.setTop (mkF m 0 #[.val (.ref a1)] []))
  obtain ⟨Tt1, Xt1, et1, stt1⟩ := getS2 X0 hx hZ hown (host := "") (Or.inl (hw _ (List.mem_of_getElem? (i := 28) rfl))) Via.refl e0 (S_cs.ext O0) (g := (mkF m 0 #[.val (.ref a1)] [])) rfl (hb hby d_jdk_42_method_154_0)
  refine go stt1 ?_
  show Goes p e below _ (Tt1.setTop (mkF m 3 #[.val (.ref a1)] [(.int cs)]))
  refine gIfN Xt1 hx (hb hby d_jdk_42_method_154_3) (XT.i0_eq_f hcs) ?_
  show Goes p e below _ (Tt1.setTop (mkF m 6 #[.val (.ref a1)] []))
  refine gAloadN Xt1 hx (hb hby d_jdk_42_method_154_6) rfl rfl ?_
  obtain ⟨Tt2, Xt2, et2, stt2⟩ := getF Xt1 hx hZ hown (host := "") (Or.inl (hw _ (List.mem_of_getElem? (i := 29) rfl))) Via.refl et1 C1 (g := (mkF m 7 #[.val (.ref a1)] [(.ref a1)])) rfl rfl (hb hby d_jdk_42_method_154_7)
  refine go stt2 ?_
  show Goes p e below _ (Tt2.setTop (mkF m 10 #[.val (.ref a1)] [(.int (0 : Int32))]))
  refine gIfN Xt2 hx (hb hby d_jdk_42_method_154_10) (XT.i0_ne_f (by decide)) ?_
  show Goes p e below _ (Tt2.setTop (mkF m 13 #[.val (.ref a1)] []))
  refine gIconst Xt2 hx (hb hby d_jdk_42_method_154_13) (v := (1 : Int32)) rfl ?_
  refine gGoto Xt2 hx (hb hby d_jdk_42_method_154_14) (pc' := 18) (by decide) (by decide) ?_
  show Goes p e below _ (Tt2.setTop (mkF m 18 #[.val (.ref a1)] [(.int (1 : Int32))]))
  exact goRetN Xt2 hx (t := .boolean) hret hlocks (by simp) (hb hby d_jdk_42_method_154_18) (z' := (1 : Int32)) rfl (by decide) (by decide) et2 (⟨rfl, N0, rfl⟩)
theorem d_jdk_42_method_54_0 : decode jdk_42_method_54_code 0 = .ok (.aload_n 0, 1) := by decide +kernel
theorem d_jdk_42_method_54_1 : decode jdk_42_method_54_code 1 = .ok (.getfield 9, 3) := by decide +kernel
theorem d_jdk_42_method_54_4 : decode jdk_42_method_54_code 4 = .ok (.arraylength, 1) := by decide +kernel
theorem d_jdk_42_method_54_5 : decode jdk_42_method_54_code 5 = .ok (.aload_n 0, 1) := by decide +kernel
theorem pd_3 : parseMethodDescriptor "()B" = some ⟨[], some .byte⟩ := by decide +kernel
theorem d_jdk_42_method_54_6 : decode jdk_42_method_54_code 6 = .ok (.invokevirtual 335, 3) := by decide +kernel
theorem d_jdk_42_method_54_9 : decode jdk_42_method_54_code 9 = .ok (.ishr, 1) := by decide +kernel
theorem d_jdk_42_method_54_10 : decode jdk_42_method_54_code 10 = .ok (.ireturn, 1) := by decide +kernel
theorem ef_rmSle (m : MethodId) (x0 : Addr) : entryFrame m #[(.ref x0)] 1 = mkF m 0 #[.val (.ref x0)] [] := by first | (simp [entryFrame, mkF, argsToLocals, Value.category]; done) | rfl
set_option maxRecDepth 65536 in
set_option maxHeartbeats 40000000 in
theorem rmSle (l : Launch) (Z : State) (a0 : Array Value) (hw : ∀ d ∈ tables_1, d.before a0 Z = true) (u : Addr) (cs : Int32) (a1 : Addr) (h0 : Heap) (O0 : Ext Z.heap h0) (S_cs : Sta Z Z.heap "java/lang/String" "COMPACT_STRINGS" "Z" (.int cs)) (hcs : ¬ cs = 0) (E1 : Exa Z h0 a1 "java/lang/String") (V1 : Fld Z h0 a1 "java/lang/String" "value" "[B" (.ref u)) (C1 : Fld Z h0 a1 "java/lang/String" "coder" "B" (.int (0 : Int32))) (Y1 : Ary Z h0 u .byte [(.int (33 : Int32)), (.int (35 : Int32)), (.int (36 : Int32)), (.int (37 : Int32)), (.int (38 : Int32)), (.int (39 : Int32)), (.int (42 : Int32)), (.int (43 : Int32)), (.int (45 : Int32)), (.int (46 : Int32)), (.int (94 : Int32)), (.int (95 : Int32)), (.int (96 : Int32)), (.int (124 : Int32)), (.int (126 : Int32))]) :
    Ctr l Z (⟨"java/lang/String", "length", "()I"⟩ : MethodName) jdk_42_method_54_code 1 (some .int) [] ({ frames := 1, cells := 0, slots := 0, locals := 13 } : Room) #[(.ref a1)] h0 (fun v h L => v = some (.int (15 : Int32)) ∧ Fr Z.heap.size L ∧ h = h0) := by
  refine ctr (plainFor_of_name pn_1) ?_
  intro p e s m below meth c s₁ hx hby hml hown hnm hret hlocks hZ X0 e0
  have N0 := Fr.nil Z.heap.size
  have hsz : ∀ {Ls : Array Slot}, Ls.size = 1 → Ls.size = c.maxLocals := fun q => q.trans hml.symm
  refine goE (ef_rmSle m (a1)) ?_
  show Goes p e below _ (s₁.setTop (mkF m 0 #[.val (.ref a1)] []))
  refine gAloadN X0 hx (hb hby d_jdk_42_method_54_0) rfl rfl ?_
  obtain ⟨Tt1, Xt1, et1, stt1⟩ := getF X0 hx hZ hown (host := "") (Or.inl (hw _ (List.mem_of_getElem? (i := 30) rfl))) Via.refl e0 V1 (g := (mkF m 1 #[.val (.ref a1)] [(.ref a1)])) rfl rfl (hb hby d_jdk_42_method_54_1)
  refine go stt1 ?_
  show Goes p e below _ (Tt1.setTop (mkF m 4 #[.val (.ref a1)] [(.ref u)]))
  refine goAlen Xt1 hx hZ et1 Y1 (n := (15 : Int32)) (hb hby d_jdk_42_method_54_4) rfl ?_
  refine gAloadN Xt1 hx (hb hby d_jdk_42_method_54_5) rfl rfl ?_
  refine goCallV Xt1 hx hZ hown (hw _ (List.mem_of_getElem? (i := 36) rfl)) (hw _ (List.mem_of_getElem? (i := 37) rfl)) (hw _ (List.mem_of_getElem? (i := 39) rfl)) (hw _ (List.mem_of_getElem? (i := 38) rfl)) (hw _ (List.mem_of_getElem? (i := 6) rfl)) (hw _ (List.mem_of_getElem? (i := 40) rfl)) (by decide) (rmSco l Z a0 hw u cs a1 h0 O0 S_cs hcs E1 V1 C1 Y1) 1 (by decide) (by decide) et1 E1 (hsz rfl) [] [(.int (15 : Int32))] pd_3 rfl rfl rfl (Nat.le_of_eq rfl) (hb hby d_jdk_42_method_54_6) (by decide) (by decide) (fun Tt2 vt2 Lt2 Xt2 qt2 => ?_)
  obtain ⟨rfl, N3, et2⟩ := qt2
  have N4 := Fr.app N0 N3
  show Goes p e below _ (Tt2.setTop (mkF m 9 #[.val (.ref a1)] [(.int (0 : Int32)), (.int (15 : Int32))]))
  refine gIshr Xt2 hx (hb hby d_jdk_42_method_54_9) ?_
  exact goRetI Xt2 hx hret hlocks (hb hby d_jdk_42_method_54_10) (by decide) (by decide) et2 (⟨congrArg (fun z => some (Value.int z)) (by decide), N4, rfl⟩)
theorem d_jdk_42_method_80_0 : decode jdk_42_method_80_code 0 = .ok (.aload_n 0, 1) := by decide +kernel
theorem pd_4 : parseMethodDescriptor "()Z" = some ⟨[], some .boolean⟩ := by decide +kernel
theorem d_jdk_42_method_80_1 : decode jdk_42_method_80_code 1 = .ok (.invokevirtual 492, 3) := by decide +kernel
theorem d_jdk_42_method_80_4 : decode jdk_42_method_80_code 4 = .ok (.ifCond .eq 19, 3) := by decide +kernel
theorem d_jdk_42_method_80_7 : decode jdk_42_method_80_code 7 = .ok (.aload_n 0, 1) := by decide +kernel
theorem d_jdk_42_method_80_8 : decode jdk_42_method_80_code 8 = .ok (.getfield 9, 3) := by decide +kernel
theorem d_jdk_42_method_80_11 : decode jdk_42_method_80_code 11 = .ok (.iload_n 1, 1) := by decide +kernel
theorem d_jdk_42_method_80_12 : decode jdk_42_method_80_code 12 = .ok (.iload_n 2, 1) := by decide +kernel
theorem d_jdk_42_method_80_13 : decode jdk_42_method_80_code 13 = .ok (.aload_n 0, 1) := by decide +kernel
theorem pd_5 : parseMethodDescriptor "()I" = some ⟨[], some .int⟩ := by decide +kernel
theorem d_jdk_42_method_80_14 : decode jdk_42_method_80_code 14 = .ok (.invokevirtual 505, 3) := by decide +kernel
theorem d_jdk_42_method_80_17 : decode jdk_42_method_80_code 17 = .ok (.invokestatic 637, 3) := by decide +kernel
theorem d_jdk_42_method_80_20 : decode jdk_42_method_80_code 20 = .ok (.goto 16, 3) := by decide +kernel
theorem d_jdk_42_method_80_36 : decode jdk_42_method_80_code 36 = .ok (.ireturn, 1) := by decide +kernel
theorem ef_rmI2 (m : MethodId) (x0 : Addr) (x1 : Int32) (x2 : Int32) : entryFrame m #[(.ref x0), (.int x1), (.int x2)] 3 = mkF m 0 #[.val (.ref x0), .val (.int x1), .val (.int x2)] [] := by first | (simp [entryFrame, mkF, argsToLocals, Value.category]; done) | rfl
set_option maxRecDepth 65536 in
set_option maxHeartbeats 40000000 in
theorem rmI2 (l : Launch) (Z : State) (a0 : Array Value) (hw : ∀ d ∈ tables_1, d.before a0 Z = true) (u : Addr) (cs : Int32) (a1 : Addr) (c0 : Int32) (h0 : Heap) (O0 : Ext Z.heap h0) (S_cs : Sta Z Z.heap "java/lang/String" "COMPACT_STRINGS" "Z" (.int cs)) (hcs : ¬ cs = 0) (E1 : Exa Z h0 a1 "java/lang/String") (V1 : Fld Z h0 a1 "java/lang/String" "value" "[B" (.ref u)) (C1 : Fld Z h0 a1 "java/lang/String" "coder" "B" (.int (0 : Int32))) (Y1 : Ary Z h0 u .byte [(.int (33 : Int32)), (.int (35 : Int32)), (.int (36 : Int32)), (.int (37 : Int32)), (.int (38 : Int32)), (.int (39 : Int32)), (.int (42 : Int32)), (.int (43 : Int32)), (.int (45 : Int32)), (.int (46 : Int32)), (.int (94 : Int32)), (.int (95 : Int32)), (.int (96 : Int32)), (.int (124 : Int32)), (.int (126 : Int32))]) (q0 : ¬ c0 < 0) :
    Ctr l Z (⟨"java/lang/String", "indexOf", "(II)I"⟩ : MethodName) jdk_42_method_80_code 3 (some .int) [] ({ frames := 2, cells := 0, slots := 0, locals := 40 } : Room) #[(.ref a1), (.int c0), (.int (0 : Int32))] h0 (fun v h L => ∃ r : Int32, v = some (.int r) ∧ Fr Z.heap.size L ∧ h = h0 ∧ ((¬ r < 0 ∧ own_tk c0) ∨ (r < 0 ∧ ¬ own_tk c0))) := by
  refine ctr (plainFor_of_name pn_1) ?_
  intro p e s m below meth c s₁ hx hby hml hown hnm hret hlocks hZ X0 e0
  have N0 := Fr.nil Z.heap.size
  have hsz : ∀ {Ls : Array Slot}, Ls.size = 3 → Ls.size = c.maxLocals := fun q => q.trans hml.symm
  refine goE (ef_rmI2 m (a1) (c0) ((0 : Int32))) ?_
  show Goes p e below _ (s₁.setTop (mkF m 0 #[.val (.ref a1), .val (.int c0), .val (.int (0 : Int32))] []))
  refine gAloadN X0 hx (hb hby d_jdk_42_method_80_0) rfl rfl ?_
  refine goCallV X0 hx hZ hown (hw _ (List.mem_of_getElem? (i := 23) rfl)) (hw _ (List.mem_of_getElem? (i := 24) rfl)) (hw _ (List.mem_of_getElem? (i := 26) rfl)) (hw _ (List.mem_of_getElem? (i := 25) rfl)) (hw _ (List.mem_of_getElem? (i := 6) rfl)) (hw _ (List.mem_of_getElem? (i := 27) rfl)) (by decide) (rmSla l Z a0 hw u cs a1 h0 O0 S_cs hcs E1 V1 C1 Y1) 0 (by decide) (by decide) e0 E1 (hsz rfl) [] [] pd_4 rfl rfl rfl (Nat.le_of_eq rfl) (hb hby d_jdk_42_method_80_1) (by decide) (by decide) (fun Tt1 vt1 Lt1 Xt1 qt1 => ?_)
  obtain ⟨rfl, N2, et1⟩ := qt1
  have N3 := Fr.app N0 N2
  show Goes p e below _ (Tt1.setTop (mkF m 4 #[.val (.ref a1), .val (.int c0), .val (.int (0 : Int32))] [(.int (1 : Int32))]))
  refine gIfN Xt1 hx (hb hby d_jdk_42_method_80_4) (XT.i0_eq_f (by decide)) ?_
  show Goes p e below _ (Tt1.setTop (mkF m 7 #[.val (.ref a1), .val (.int c0), .val (.int (0 : Int32))] []))
  refine gAloadN Xt1 hx (hb hby d_jdk_42_method_80_7) rfl rfl ?_
  obtain ⟨Tt4, Xt4, et4, stt4⟩ := getF Xt1 hx hZ hown (host := "") (Or.inl (hw _ (List.mem_of_getElem? (i := 30) rfl))) Via.refl et1 V1 (g := (mkF m 8 #[.val (.ref a1), .val (.int c0), .val (.int (0 : Int32))] [(.ref a1)])) rfl rfl (hb hby d_jdk_42_method_80_8)
  refine go stt4 ?_
  show Goes p e below _ (Tt4.setTop (mkF m 11 #[.val (.ref a1), .val (.int c0), .val (.int (0 : Int32))] [(.ref u)]))
  refine gIloadN Xt4 hx (hb hby d_jdk_42_method_80_11) rfl ?_
  refine gIloadN Xt4 hx (hb hby d_jdk_42_method_80_12) rfl ?_
  refine gAloadN Xt4 hx (hb hby d_jdk_42_method_80_13) rfl rfl ?_
  refine goCallV Xt4 hx hZ hown (hw _ (List.mem_of_getElem? (i := 31) rfl)) (hw _ (List.mem_of_getElem? (i := 32) rfl)) (hw _ (List.mem_of_getElem? (i := 34) rfl)) (hw _ (List.mem_of_getElem? (i := 33) rfl)) (hw _ (List.mem_of_getElem? (i := 6) rfl)) (hw _ (List.mem_of_getElem? (i := 35) rfl)) (by decide) (rmSle l Z a0 hw u cs a1 h0 O0 S_cs hcs E1 V1 C1 Y1) 3 (by decide) (by decide) et4 E1 (hsz rfl) [] [(.int (0 : Int32)), (.int c0), (.ref u)] pd_5 rfl rfl rfl (Nat.le_of_eq rfl) (hb hby d_jdk_42_method_80_14) (by decide) (by decide) (fun Tt5 vt5 Lt5 Xt5 qt5 => ?_)
  obtain ⟨rfl, N6, et5⟩ := qt5
  have N7 := Fr.app N3 N6
  show Goes p e below _ (Tt5.setTop (mkF m 17 #[.val (.ref a1), .val (.int c0), .val (.int (0 : Int32))] [(.int (15 : Int32)), (.int (0 : Int32)), (.int c0), (.ref u)]))
  refine goCallS Xt5 hx hZ hown (hw _ (List.mem_of_getElem? (i := 41) rfl)) (hw _ (List.mem_of_getElem? (i := 42) rfl)) (hw _ (List.mem_of_getElem? (i := 43) rfl)) (hw _ (List.mem_of_getElem? (i := 44) rfl)) (by decide) (rmIl l Z a0 hw u c0 h0 O0 Y1 q0) 0 (by decide) (by decide) et5 (hsz rfl) [(.ref u), (.int c0), (.int (0 : Int32)), (.int (15 : Int32))] [] pd_2 rfl rfl rfl (Nat.le_of_eq rfl) (hb hby d_jdk_42_method_80_17) (by decide) (by decide) (fun Tt8 vt8 Lt8 Xt8 qt8 => ?_)
  obtain ⟨r_, rfl, N9, et8, alt⟩ := qt8
  have N10 := Fr.app N7 N9
  show Goes p e below _ (Tt8.setTop (mkF m 20 #[.val (.ref a1), .val (.int c0), .val (.int (0 : Int32))] [(.int r_)]))
  refine gGoto Xt8 hx (hb hby d_jdk_42_method_80_20) (pc' := 36) (by decide) (by decide) ?_
  show Goes p e below _ (Tt8.setTop (mkF m 36 #[.val (.ref a1), .val (.int c0), .val (.int (0 : Int32))] [(.int r_)]))
  exact goRetI Xt8 hx hret hlocks (hb hby d_jdk_42_method_80_36) (by decide) (by decide) et8 (⟨_, rfl, N10, rfl, alt⟩)
theorem d_jdk_42_method_79_0 : decode jdk_42_method_79_code 0 = .ok (.aload_n 0, 1) := by decide +kernel
theorem d_jdk_42_method_79_1 : decode jdk_42_method_79_code 1 = .ok (.iload_n 1, 1) := by decide +kernel
theorem d_jdk_42_method_79_2 : decode jdk_42_method_79_code 2 = .ok (.iconst 0, 1) := by decide +kernel
theorem d_jdk_42_method_79_3 : decode jdk_42_method_79_code 3 = .ok (.invokevirtual 633, 3) := by decide +kernel
theorem d_jdk_42_method_79_6 : decode jdk_42_method_79_code 6 = .ok (.ireturn, 1) := by decide +kernel
theorem ef_rmI1 (m : MethodId) (x0 : Addr) (x1 : Int32) : entryFrame m #[(.ref x0), (.int x1)] 2 = mkF m 0 #[.val (.ref x0), .val (.int x1)] [] := by first | (simp [entryFrame, mkF, argsToLocals, Value.category]; done) | rfl
set_option maxRecDepth 65536 in
set_option maxHeartbeats 40000000 in
theorem rmI1 (l : Launch) (Z : State) (a0 : Array Value) (hw : ∀ d ∈ tables_1, d.before a0 Z = true) (u : Addr) (cs : Int32) (a1 : Addr) (c0 : Int32) (h0 : Heap) (O0 : Ext Z.heap h0) (S_cs : Sta Z Z.heap "java/lang/String" "COMPACT_STRINGS" "Z" (.int cs)) (hcs : ¬ cs = 0) (E1 : Exa Z h0 a1 "java/lang/String") (V1 : Fld Z h0 a1 "java/lang/String" "value" "[B" (.ref u)) (C1 : Fld Z h0 a1 "java/lang/String" "coder" "B" (.int (0 : Int32))) (Y1 : Ary Z h0 u .byte [(.int (33 : Int32)), (.int (35 : Int32)), (.int (36 : Int32)), (.int (37 : Int32)), (.int (38 : Int32)), (.int (39 : Int32)), (.int (42 : Int32)), (.int (43 : Int32)), (.int (45 : Int32)), (.int (46 : Int32)), (.int (94 : Int32)), (.int (95 : Int32)), (.int (96 : Int32)), (.int (124 : Int32)), (.int (126 : Int32))]) (q0 : ¬ c0 < 0) :
    Ctr l Z (⟨"java/lang/String", "indexOf", "(I)I"⟩ : MethodName) jdk_42_method_79_code 2 (some .int) [] ({ frames := 3, cells := 0, slots := 0, locals := 54 } : Room) #[(.ref a1), (.int c0)] h0 (fun v h L => ∃ r : Int32, v = some (.int r) ∧ Fr Z.heap.size L ∧ h = h0 ∧ ((¬ r < 0 ∧ own_tk c0) ∨ (r < 0 ∧ ¬ own_tk c0))) := by
  refine ctr (plainFor_of_name pn_1) ?_
  intro p e s m below meth c s₁ hx hby hml hown hnm hret hlocks hZ X0 e0
  have N0 := Fr.nil Z.heap.size
  have hsz : ∀ {Ls : Array Slot}, Ls.size = 2 → Ls.size = c.maxLocals := fun q => q.trans hml.symm
  refine goE (ef_rmI1 m (a1) (c0)) ?_
  show Goes p e below _ (s₁.setTop (mkF m 0 #[.val (.ref a1), .val (.int c0)] []))
  refine gAloadN X0 hx (hb hby d_jdk_42_method_79_0) rfl rfl ?_
  refine gIloadN X0 hx (hb hby d_jdk_42_method_79_1) rfl ?_
  refine gIconst X0 hx (hb hby d_jdk_42_method_79_2) (v := (0 : Int32)) rfl ?_
  refine goCallV X0 hx hZ hown (hw _ (List.mem_of_getElem? (i := 18) rfl)) (hw _ (List.mem_of_getElem? (i := 19) rfl)) (hw _ (List.mem_of_getElem? (i := 21) rfl)) (hw _ (List.mem_of_getElem? (i := 20) rfl)) (hw _ (List.mem_of_getElem? (i := 6) rfl)) (hw _ (List.mem_of_getElem? (i := 22) rfl)) (by decide) (rmI2 l Z a0 hw u cs a1 c0 h0 O0 S_cs hcs E1 V1 C1 Y1 q0) 0 (by decide) (by decide) e0 E1 (hsz rfl) [(.int c0), (.int (0 : Int32))] [] pd_1 rfl rfl rfl (Nat.le_of_eq rfl) (hb hby d_jdk_42_method_79_3) (by decide) (by decide) (fun Tt1 vt1 Lt1 Xt1 qt1 => ?_)
  obtain ⟨r_, rfl, N2, et1, alt⟩ := qt1
  have N3 := Fr.app N0 N2
  show Goes p e below _ (Tt1.setTop (mkF m 6 #[.val (.ref a1), .val (.int c0)] [(.int r_)]))
  exact goRetI Xt1 hx hret hlocks (hb hby d_jdk_42_method_79_6) (by decide) (by decide) et1 (⟨_, rfl, N3, rfl, alt⟩)
def own_Tx (Z : State) (h : Heap) (vm : Vm) : Prop := IB Z vm [] ∨ ∃ a u, Lit (Z.setVm vm) "com/example/rolegate/rolegate/HttpSyntax" 27 a ∧ Exa Z h a "java/lang/String" ∧ Fld Z h a "java/lang/String" "value" "[B" (.ref u) ∧ Fld Z h a "java/lang/String" "coder" "B" (.int (0 : Int32)) ∧ Ary Z h u .byte [(.int (33 : Int32)), (.int (35 : Int32)), (.int (36 : Int32)), (.int (37 : Int32)), (.int (38 : Int32)), (.int (39 : Int32)), (.int (42 : Int32)), (.int (43 : Int32)), (.int (45 : Int32)), (.int (46 : Int32)), (.int (94 : Int32)), (.int (95 : Int32)), (.int (96 : Int32)), (.int (124 : Int32)), (.int (126 : Int32))]
theorem own_Tx.keep {Z : State} {h h' : Heap} {vm : Vm} (F : own_Tx Z h vm) (K : Keep h h' []) : own_Tx Z h' vm := by
  rcases F with F | ⟨a, u, L, F0, F1, F2, F3⟩
  · exact Or.inl F
  · exact Or.inr ⟨a, u, L, F0.keep K, F1.keep K nin0, F2.keep K nin0, F3.keep K nin0⟩
theorem own_Tx.warm {Z s : State} {h : Heap} {vm0 vm1 : Vm} (F : own_Tx Z h vm0) (W : (s.setVm vm0).WarmedH vm1) : own_Tx Z h vm1 := by
  rcases F with F | ⟨a, u, L, F1, F2⟩
  · exact Or.inl (IB.warm F W)
  · exact Or.inr ⟨a, u, (Lit.stays (s := s) L W.wide :), F1, F2⟩
theorem d_prog_2_method_3_0 : decode prog_2_method_3_code 0 = .ok (.iload_n 0, 1) := by decide +kernel
theorem d_prog_2_method_3_1 : decode prog_2_method_3_code 1 = .ok (.bipush 97, 2) := by decide +kernel
theorem d_prog_2_method_3_3 : decode prog_2_method_3_code 3 = .ok (.if_icmp .lt 9, 3) := by decide +kernel
theorem d_prog_2_method_3_12 : decode prog_2_method_3_code 12 = .ok (.iload_n 0, 1) := by decide +kernel
theorem d_prog_2_method_3_13 : decode prog_2_method_3_code 13 = .ok (.bipush 65, 2) := by decide +kernel
theorem d_prog_2_method_3_15 : decode prog_2_method_3_code 15 = .ok (.if_icmp .lt 9, 3) := by decide +kernel
theorem d_prog_2_method_3_24 : decode prog_2_method_3_code 24 = .ok (.iload_n 0, 1) := by decide +kernel
theorem d_prog_2_method_3_25 : decode prog_2_method_3_code 25 = .ok (.bipush 48, 2) := by decide +kernel
theorem d_prog_2_method_3_27 : decode prog_2_method_3_code 27 = .ok (.if_icmp .lt 13, 3) := by decide +kernel
theorem d_prog_2_method_3_40 : decode prog_2_method_3_code 40 = .ok (.iconst 0, 1) := by decide +kernel
theorem d_prog_2_method_3_30 : decode prog_2_method_3_code 30 = .ok (.iload_n 0, 1) := by decide +kernel
theorem d_prog_2_method_3_31 : decode prog_2_method_3_code 31 = .ok (.bipush 57, 2) := by decide +kernel
theorem d_prog_2_method_3_33 : decode prog_2_method_3_code 33 = .ok (.if_icmp .gt 7, 3) := by decide +kernel
theorem d_prog_2_method_3_36 : decode prog_2_method_3_code 36 = .ok (.iconst 1, 1) := by decide +kernel
theorem d_prog_2_method_3_37 : decode prog_2_method_3_code 37 = .ok (.goto 4, 3) := by decide +kernel
theorem d_prog_2_method_3_18 : decode prog_2_method_3_code 18 = .ok (.iload_n 0, 1) := by decide +kernel
theorem d_prog_2_method_3_19 : decode prog_2_method_3_code 19 = .ok (.bipush 90, 2) := by decide +kernel
theorem d_prog_2_method_3_21 : decode prog_2_method_3_code 21 = .ok (.if_icmp .le 15, 3) := by decide +kernel
theorem d_prog_2_method_3_6 : decode prog_2_method_3_code 6 = .ok (.iload_n 0, 1) := by decide +kernel
theorem d_prog_2_method_3_7 : decode prog_2_method_3_code 7 = .ok (.bipush 122, 2) := by decide +kernel
theorem d_prog_2_method_3_9 : decode prog_2_method_3_code 9 = .ok (.if_icmp .le 27, 3) := by decide +kernel
theorem d_prog_2_method_3_41 : decode prog_2_method_3_code 41 = .ok (.istore_n 1, 1) := by decide +kernel
theorem d_prog_2_method_3_42 : decode prog_2_method_3_code 42 = .ok (.iload_n 1, 1) := by decide +kernel
theorem d_prog_2_method_3_43 : decode prog_2_method_3_code 43 = .ok (.ifCond .ne 12, 3) := by decide +kernel
theorem d_prog_2_method_3_55 : decode prog_2_method_3_code 55 = .ok (.iconst 1, 1) := by decide +kernel
theorem d_prog_2_method_3_56 : decode prog_2_method_3_code 56 = .ok (.goto 4, 3) := by decide +kernel
theorem d_prog_2_method_3_60 : decode prog_2_method_3_code 60 = .ok (.ireturn, 1) := by decide +kernel
theorem d_prog_2_method_3_46 : decode prog_2_method_3_code 46 = .ok (.ldc 27, 2) := by decide +kernel
theorem d_prog_2_method_3_48 : decode prog_2_method_3_code 48 = .ok (.iload_n 0, 1) := by decide +kernel
theorem pd_6 : parseMethodDescriptor "(I)I" = some ⟨[.int], some .int⟩ := by decide +kernel
theorem d_prog_2_method_3_49 : decode prog_2_method_3_code 49 = .ok (.invokevirtual 29, 3) := by decide +kernel
theorem d_prog_2_method_3_52 : decode prog_2_method_3_code 52 = .ok (.ifCond .lt 7, 3) := by decide +kernel
theorem d_prog_2_method_3_59 : decode prog_2_method_3_code 59 = .ok (.iconst 0, 1) := by decide +kernel
theorem pn_2 : plainName "com/example/rolegate/rolegate/HttpSyntax" = true := by first | (simp [plainName, overriddenIn]; done) | decide +kernel
theorem ef_rmTc (m : MethodId) (x0 : Int32) : entryFrame m #[(.int x0)] 2 = mkF m 0 #[.val (.int x0), .unset] [] := by first | (simp [entryFrame, mkF, argsToLocals, Value.category]; done) | rfl
set_option maxRecDepth 65536 in
set_option maxHeartbeats 40000000 in
theorem rmTc (l : Launch) (Z : State) (a0 : Array Value) (hw : ∀ d ∈ tables_1, d.before a0 Z = true) (cs : Int32) (c0 : Int32) (h0 : Heap) (O0 : Ext Z.heap h0) (S_cs : Sta Z Z.heap "java/lang/String" "COMPACT_STRINGS" "Z" (.int cs)) (hcs : ¬ cs = 0) (hh : Jvm.Lit.constHeld Z "com/example/rolegate/rolegate/HttpSyntax" 27) (hcw : Jvm.Lit.compactW.before a0 Z = true) (q0 : ¬ c0 < 0) :
    CtrW l Z (⟨"com/example/rolegate/rolegate/HttpSyntax", "isTokenCharacter", "(C)Z"⟩ : MethodName) prog_2_method_3_code 2 (some .boolean) [] ({ frames := 4, cells := 2, slots := 64, locals := 80 } : Room) #[(.int c0)] h0 (fun vm => own_Tx Z h0 vm) (fun v h L vm => v = some (.int (own_tc c0)) ∧ Fr Z.heap.size L ∧ Keep h0 h [] ∧ own_Tx Z h vm) := by
  refine ctrW (plainFor_of_name pn_2) ?_
  intro p e s m below meth c s₁ vm0 hx hby hml hown hnm hret hlocks hZ X0 e0 hS hh0 hPv
  have N0 := Fr.nil Z.heap.size
  have hsz : ∀ {Ls : Array Slot}, Ls.size = 2 → Ls.size = c.maxLocals := fun q => q.trans hml.symm
  have K0 := Keep.refl h0 []
  refine goE (ef_rmTc m (c0)) ?_
  show Goes p e below _ (s₁.setTop (mkF m 0 #[.val (.int c0), .unset] []))
  have J : ∀ (z : Int32), (z = 1 ∧ own_ld c0) ∨ (z = 0 ∧ ¬ own_ld c0) → Goes p e below (EndW s (fun v h L vm => v = some (.int (own_tc c0)) ∧ Fr Z.heap.size L ∧ Keep h0 h [] ∧ own_Tx Z h vm) ({ frames := 4, cells := 2, slots := 64, locals := 80 } : Room).cells ({ frames := 4, cells := 2, slots := 64, locals := 80 } : Room).slots) (s₁.setTop (mkF m 41 #[.val (.int c0), .unset] [(.int z)])) := by
    intro z hz
    rcases hz with ⟨rfl, hld⟩ | ⟨rfl, hld⟩
    · show Goes p e below _ (s₁.setTop (mkF m 41 #[.val (.int c0), .unset] [(.int (1 : Int32))]))
      refine gIstoreN X0 hx (hb hby d_prog_2_method_3_41) (l' := #[.val (.int c0), .val (.int (1 : Int32))]) rfl ?_
      refine gIloadN X0 hx (hb hby d_prog_2_method_3_42) rfl ?_
      refine gIfY X0 hx (hb hby d_prog_2_method_3_43) (pc' := 55) (XT.i0_ne_t (by decide)) (by decide) (by decide) ?_
      show Goes p e below _ (s₁.setTop (mkF m 55 #[.val (.int c0), .val (.int (1 : Int32))] []))
      refine gIconst X0 hx (hb hby d_prog_2_method_3_55) (v := (1 : Int32)) rfl ?_
      refine gGoto X0 hx (hb hby d_prog_2_method_3_56) (pc' := 60) (by decide) (by decide) ?_
      show Goes p e below _ (s₁.setTop (mkF m 60 #[.val (.int c0), .val (.int (1 : Int32))] [(.int (1 : Int32))]))
      exact goRetNW X0 hx hS (t := .boolean) hret hlocks (by simp) (hb hby d_prog_2_method_3_60) (z' := (1 : Int32)) rfl (by decide) (by decide) e0 (⟨by rw [own_tc, if_pos (Or.inl hld)], N0, K0, (hPv.keep K0).warm X0.warmed⟩)
    · show Goes p e below _ (s₁.setTop (mkF m 41 #[.val (.int c0), .unset] [(.int (0 : Int32))]))
      refine gIstoreN X0 hx (hb hby d_prog_2_method_3_41) (l' := #[.val (.int c0), .val (.int (0 : Int32))]) rfl ?_
      refine gIloadN X0 hx (hb hby d_prog_2_method_3_42) rfl ?_
      refine gIfN X0 hx (hb hby d_prog_2_method_3_43) (XT.i0_ne_f (by decide)) ?_
      show Goes p e below _ (s₁.setTop (mkF m 46 #[.val (.int c0), .val (.int (0 : Int32))] []))
      rcases hPv with I0 | ⟨ea, eu, Li, Ee, Ev, Ec, Ey⟩
      · obtain ⟨kt1, sat1, sbt1⟩ := hS
        obtain ⟨at1, Tt1, ht1, kkt1, bt1, kct1, Xt1, et1, Et1, snt1, knt1, hZ, hown, Eat1, Fct1, Fvt1, Yvt1, lat1, lbt1, IBt1, Lit1, stt1⟩ := ldcSVL X0 hx hZ hown (hw _ (List.mem_of_getElem? (i := 5) rfl)) (own_wS hw) e0 sat1 sbt1 (Fr.nil _) (fun b cl q => by rw [hh0]; exact O0.2 b cl q) I0 (by simp) hh hcw (vs := [.int (33), .int (35), .int (36), .int (37), .int (38), .int (39), .int (42), .int (43), .int (45), .int (46), .int (94), .int (95), .int (96), .int (124), .int (126)]) (z := (15 : Int32)) ⟨by decide, rfl⟩ (by decide) (by decide) (g := (mkF m 46 #[.val (.int c0), .val (.int (0 : Int32))] [])) rfl (hb hby d_prog_2_method_3_46) (n := 60) (by decide) (by decide) (by decide) (by decide)
        refine go stt1 ?_
        have hS : Sn s Tt1.vm ht1 := ⟨_, snt1, knt1⟩
        have O2 : Ext Z.heap ht1 := extT O0 Et1
        have K3 := K0.ext Et1
        have Yct1 := Arv.ary Yvt1 (by decide)
        show Goes p e below _ (Tt1.setTop (mkF m 48 #[.val (.int c0), .val (.int (0 : Int32))] [(.ref at1)]))
        refine gIloadN Xt1 hx (hb hby d_prog_2_method_3_48) rfl ?_
        refine goCallV Xt1 hx hZ hown (hw _ (List.mem_of_getElem? (i := 13) rfl)) (hw _ (List.mem_of_getElem? (i := 14) rfl)) (hw _ (List.mem_of_getElem? (i := 16) rfl)) (hw _ (List.mem_of_getElem? (i := 15) rfl)) (hw _ (List.mem_of_getElem? (i := 6) rfl)) (hw _ (List.mem_of_getElem? (i := 17) rfl)) (by decide) (rmI1 l Z a0 hw bt1 cs at1 c0 ht1 O2 S_cs hcs Eat1 Fvt1 Fct1 Yct1 q0) 0 (by decide) (by decide) et1 Eat1 (hsz rfl) [(.int c0)] [] pd_6 rfl rfl rfl (Nat.le_of_eq rfl) (hb hby d_prog_2_method_3_49) (by decide) (by decide) (fun Tt4 vt4 Lt4 Xt4 qt4 => ?_)
        obtain ⟨r_, rfl, N5, et4, alt⟩ := qt4
        have N6 := Fr.app N0 N5
        show Goes p e below _ (Tt4.setTop (mkF m 52 #[.val (.int c0), .val (.int (0 : Int32))] [(.int r_)]))
        rcases alt with ⟨hr, ht⟩ | ⟨hr, ht⟩
        · refine gIfN Xt4 hx (hb hby d_prog_2_method_3_52) (XT.i0_lt_f hr) ?_
          show Goes p e below _ (Tt4.setTop (mkF m 55 #[.val (.int c0), .val (.int (0 : Int32))] []))
          refine gIconst Xt4 hx (hb hby d_prog_2_method_3_55) (v := (1 : Int32)) rfl ?_
          refine gGoto Xt4 hx (hb hby d_prog_2_method_3_56) (pc' := 60) (by decide) (by decide) ?_
          show Goes p e below _ (Tt4.setTop (mkF m 60 #[.val (.int c0), .val (.int (0 : Int32))] [(.int (1 : Int32))]))
          exact goRetNW Xt4 hx hS (t := .boolean) hret hlocks (by simp) (hb hby d_prog_2_method_3_60) (z' := (1 : Int32)) rfl (by decide) (by decide) et4 (⟨by rw [own_tc, if_pos (Or.inr ht)], N6, K3, Or.inr ⟨at1, bt1, (Lit.stays (s := s) Lit1 Xt4.warmed.wide :), Eat1, Fvt1, Fct1, Yct1⟩⟩)
        · refine gIfY Xt4 hx (hb hby d_prog_2_method_3_52) (pc' := 59) (XT.i0_lt_t hr) (by decide) (by decide) ?_
          show Goes p e below _ (Tt4.setTop (mkF m 59 #[.val (.int c0), .val (.int (0 : Int32))] []))
          refine gIconst Xt4 hx (hb hby d_prog_2_method_3_59) (v := (0 : Int32)) rfl ?_
          exact goRetNW Xt4 hx hS (t := .boolean) hret hlocks (by simp) (hb hby d_prog_2_method_3_60) (z' := (0 : Int32)) rfl (by decide) (by decide) et4 (⟨by rw [own_tc, if_neg (fun q => q.elim hld ht)], N6, K3, Or.inr ⟨at1, bt1, (Lit.stays (s := s) Lit1 Xt4.warmed.wide :), Eat1, Fvt1, Fct1, Yct1⟩⟩)
      · refine go (ldcAgain X0 hx hZ hown (hw _ (List.mem_of_getElem? (i := 5) rfl)) Li (g := (mkF m 46 #[.val (.int c0), .val (.int (0 : Int32))] [])) rfl (hb hby d_prog_2_method_3_46)) ?_
        show Goes p e below _ (s₁.setTop (mkF m 48 #[.val (.int c0), .val (.int (0 : Int32))] [(.ref ea)]))
        refine gIloadN X0 hx (hb hby d_prog_2_method_3_48) rfl ?_
        refine goCallV X0 hx hZ hown (hw _ (List.mem_of_getElem? (i := 13) rfl)) (hw _ (List.mem_of_getElem? (i := 14) rfl)) (hw _ (List.mem_of_getElem? (i := 16) rfl)) (hw _ (List.mem_of_getElem? (i := 15) rfl)) (hw _ (List.mem_of_getElem? (i := 6) rfl)) (hw _ (List.mem_of_getElem? (i := 17) rfl)) (by decide) (rmI1 l Z a0 hw eu cs ea c0 h0 O0 S_cs hcs Ee Ev Ec Ey q0) 0 (by decide) (by decide) e0 Ee (hsz rfl) [(.int c0)] [] pd_6 rfl rfl rfl (Nat.le_of_eq rfl) (hb hby d_prog_2_method_3_49) (by decide) (by decide) (fun Tt7 vt7 Lt7 Xt7 qt7 => ?_)
        obtain ⟨r_, rfl, N8, et7, alt⟩ := qt7
        have N9 := Fr.app N0 N8
        show Goes p e below _ (Tt7.setTop (mkF m 52 #[.val (.int c0), .val (.int (0 : Int32))] [(.int r_)]))
        rcases alt with ⟨hr, ht⟩ | ⟨hr, ht⟩
        · refine gIfN Xt7 hx (hb hby d_prog_2_method_3_52) (XT.i0_lt_f hr) ?_
          show Goes p e below _ (Tt7.setTop (mkF m 55 #[.val (.int c0), .val (.int (0 : Int32))] []))
          refine gIconst Xt7 hx (hb hby d_prog_2_method_3_55) (v := (1 : Int32)) rfl ?_
          refine gGoto Xt7 hx (hb hby d_prog_2_method_3_56) (pc' := 60) (by decide) (by decide) ?_
          show Goes p e below _ (Tt7.setTop (mkF m 60 #[.val (.int c0), .val (.int (0 : Int32))] [(.int (1 : Int32))]))
          exact goRetNW Xt7 hx hS (t := .boolean) hret hlocks (by simp) (hb hby d_prog_2_method_3_60) (z' := (1 : Int32)) rfl (by decide) (by decide) et7 (⟨by rw [own_tc, if_pos (Or.inr ht)], N9, K0, Or.inr ⟨ea, eu, (Lit.stays (s := s) Li Xt7.warmed.wide :), Ee, Ev, Ec, Ey⟩⟩)
        · refine gIfY Xt7 hx (hb hby d_prog_2_method_3_52) (pc' := 59) (XT.i0_lt_t hr) (by decide) (by decide) ?_
          show Goes p e below _ (Tt7.setTop (mkF m 59 #[.val (.int c0), .val (.int (0 : Int32))] []))
          refine gIconst Xt7 hx (hb hby d_prog_2_method_3_59) (v := (0 : Int32)) rfl ?_
          exact goRetNW Xt7 hx hS (t := .boolean) hret hlocks (by simp) (hb hby d_prog_2_method_3_60) (z' := (0 : Int32)) rfl (by decide) (by decide) et7 (⟨by rw [own_tc, if_neg (fun q => q.elim hld ht)], N9, K0, Or.inr ⟨ea, eu, (Lit.stays (s := s) Li Xt7.warmed.wide :), Ee, Ev, Ec, Ey⟩⟩)
  refine gIloadN X0 hx (hb hby d_prog_2_method_3_0) rfl ?_
  refine gBipush X0 hx (hb hby d_prog_2_method_3_1) (v := (97 : Int32)) rfl ?_
  by_cases l1 : c0 < (97 : Int32)
  · refine gIcmpY X0 hx (hb hby d_prog_2_method_3_3) (pc' := 12) (XT.ii_lt_t l1) (by decide) (by decide) ?_
    show Goes p e below _ (s₁.setTop (mkF m 12 #[.val (.int c0), .unset] []))
    refine gIloadN X0 hx (hb hby d_prog_2_method_3_12) rfl ?_
    refine gBipush X0 hx (hb hby d_prog_2_method_3_13) (v := (65 : Int32)) rfl ?_
    by_cases l2 : c0 < (65 : Int32)
    · refine gIcmpY X0 hx (hb hby d_prog_2_method_3_15) (pc' := 24) (XT.ii_lt_t l2) (by decide) (by decide) ?_
      show Goes p e below _ (s₁.setTop (mkF m 24 #[.val (.int c0), .unset] []))
      refine gIloadN X0 hx (hb hby d_prog_2_method_3_24) rfl ?_
      refine gBipush X0 hx (hb hby d_prog_2_method_3_25) (v := (48 : Int32)) rfl ?_
      by_cases l3 : c0 < (48 : Int32)
      · refine gIcmpY X0 hx (hb hby d_prog_2_method_3_27) (pc' := 40) (XT.ii_lt_t l3) (by decide) (by decide) ?_
        show Goes p e below _ (s₁.setTop (mkF m 40 #[.val (.int c0), .unset] []))
        refine gIconst X0 hx (hb hby d_prog_2_method_3_40) (v := (0 : Int32)) rfl ?_
        exact J _ (Or.inr ⟨rfl, fun q => q.elim (fun z => z.1 l1) (fun z => z.elim (fun z => z.1 l2) (fun z => z.1 l3))⟩)
      · refine gIcmpN X0 hx (hb hby d_prog_2_method_3_27) (XT.ii_lt_f l3) ?_
        show Goes p e below _ (s₁.setTop (mkF m 30 #[.val (.int c0), .unset] []))
        refine gIloadN X0 hx (hb hby d_prog_2_method_3_30) rfl ?_
        refine gBipush X0 hx (hb hby d_prog_2_method_3_31) (v := (57 : Int32)) rfl ?_
        by_cases u3 : (57 : Int32) < c0
        · refine gIcmpY X0 hx (hb hby d_prog_2_method_3_33) (pc' := 40) (XT.ii_gt_t u3) (by decide) (by decide) ?_
          show Goes p e below _ (s₁.setTop (mkF m 40 #[.val (.int c0), .unset] []))
          refine gIconst X0 hx (hb hby d_prog_2_method_3_40) (v := (0 : Int32)) rfl ?_
          exact J _ (Or.inr ⟨rfl, fun q => q.elim (fun z => z.1 l1) (fun z => z.elim (fun z => z.1 l2) (fun z => z.2 u3))⟩)
        · refine gIcmpN X0 hx (hb hby d_prog_2_method_3_33) (XT.ii_gt_f u3) ?_
          show Goes p e below _ (s₁.setTop (mkF m 36 #[.val (.int c0), .unset] []))
          refine gIconst X0 hx (hb hby d_prog_2_method_3_36) (v := (1 : Int32)) rfl ?_
          refine gGoto X0 hx (hb hby d_prog_2_method_3_37) (pc' := 41) (by decide) (by decide) ?_
          show Goes p e below _ (s₁.setTop (mkF m 41 #[.val (.int c0), .unset] [(.int (1 : Int32))]))
          exact J _ (Or.inl ⟨rfl, Or.inr (Or.inr ⟨l3, u3⟩)⟩)
    · refine gIcmpN X0 hx (hb hby d_prog_2_method_3_15) (XT.ii_lt_f l2) ?_
      show Goes p e below _ (s₁.setTop (mkF m 18 #[.val (.int c0), .unset] []))
      refine gIloadN X0 hx (hb hby d_prog_2_method_3_18) rfl ?_
      refine gBipush X0 hx (hb hby d_prog_2_method_3_19) (v := (90 : Int32)) rfl ?_
      by_cases u2 : (90 : Int32) < c0
      · refine gIcmpN X0 hx (hb hby d_prog_2_method_3_21) (XT.ii_le_f u2) ?_
        show Goes p e below _ (s₁.setTop (mkF m 24 #[.val (.int c0), .unset] []))
        refine gIloadN X0 hx (hb hby d_prog_2_method_3_24) rfl ?_
        refine gBipush X0 hx (hb hby d_prog_2_method_3_25) (v := (48 : Int32)) rfl ?_
        by_cases l3 : c0 < (48 : Int32)
        · refine gIcmpY X0 hx (hb hby d_prog_2_method_3_27) (pc' := 40) (XT.ii_lt_t l3) (by decide) (by decide) ?_
          show Goes p e below _ (s₁.setTop (mkF m 40 #[.val (.int c0), .unset] []))
          refine gIconst X0 hx (hb hby d_prog_2_method_3_40) (v := (0 : Int32)) rfl ?_
          exact J _ (Or.inr ⟨rfl, fun q => q.elim (fun z => z.1 l1) (fun z => z.elim (fun z => z.2 u2) (fun z => z.1 l3))⟩)
        · refine gIcmpN X0 hx (hb hby d_prog_2_method_3_27) (XT.ii_lt_f l3) ?_
          show Goes p e below _ (s₁.setTop (mkF m 30 #[.val (.int c0), .unset] []))
          refine gIloadN X0 hx (hb hby d_prog_2_method_3_30) rfl ?_
          refine gBipush X0 hx (hb hby d_prog_2_method_3_31) (v := (57 : Int32)) rfl ?_
          by_cases u3 : (57 : Int32) < c0
          · refine gIcmpY X0 hx (hb hby d_prog_2_method_3_33) (pc' := 40) (XT.ii_gt_t u3) (by decide) (by decide) ?_
            show Goes p e below _ (s₁.setTop (mkF m 40 #[.val (.int c0), .unset] []))
            refine gIconst X0 hx (hb hby d_prog_2_method_3_40) (v := (0 : Int32)) rfl ?_
            exact J _ (Or.inr ⟨rfl, fun q => q.elim (fun z => z.1 l1) (fun z => z.elim (fun z => z.2 u2) (fun z => z.2 u3))⟩)
          · refine gIcmpN X0 hx (hb hby d_prog_2_method_3_33) (XT.ii_gt_f u3) ?_
            show Goes p e below _ (s₁.setTop (mkF m 36 #[.val (.int c0), .unset] []))
            refine gIconst X0 hx (hb hby d_prog_2_method_3_36) (v := (1 : Int32)) rfl ?_
            refine gGoto X0 hx (hb hby d_prog_2_method_3_37) (pc' := 41) (by decide) (by decide) ?_
            show Goes p e below _ (s₁.setTop (mkF m 41 #[.val (.int c0), .unset] [(.int (1 : Int32))]))
            exact J _ (Or.inl ⟨rfl, Or.inr (Or.inr ⟨l3, u3⟩)⟩)
      · refine gIcmpY X0 hx (hb hby d_prog_2_method_3_21) (pc' := 36) (XT.ii_le_t u2) (by decide) (by decide) ?_
        show Goes p e below _ (s₁.setTop (mkF m 36 #[.val (.int c0), .unset] []))
        refine gIconst X0 hx (hb hby d_prog_2_method_3_36) (v := (1 : Int32)) rfl ?_
        refine gGoto X0 hx (hb hby d_prog_2_method_3_37) (pc' := 41) (by decide) (by decide) ?_
        show Goes p e below _ (s₁.setTop (mkF m 41 #[.val (.int c0), .unset] [(.int (1 : Int32))]))
        exact J _ (Or.inl ⟨rfl, Or.inr (Or.inl ⟨l2, u2⟩)⟩)
  · refine gIcmpN X0 hx (hb hby d_prog_2_method_3_3) (XT.ii_lt_f l1) ?_
    show Goes p e below _ (s₁.setTop (mkF m 6 #[.val (.int c0), .unset] []))
    refine gIloadN X0 hx (hb hby d_prog_2_method_3_6) rfl ?_
    refine gBipush X0 hx (hb hby d_prog_2_method_3_7) (v := (122 : Int32)) rfl ?_
    by_cases u1 : (122 : Int32) < c0
    · refine gIcmpN X0 hx (hb hby d_prog_2_method_3_9) (XT.ii_le_f u1) ?_
      show Goes p e below _ (s₁.setTop (mkF m 12 #[.val (.int c0), .unset] []))
      refine gIloadN X0 hx (hb hby d_prog_2_method_3_12) rfl ?_
      refine gBipush X0 hx (hb hby d_prog_2_method_3_13) (v := (65 : Int32)) rfl ?_
      by_cases l2 : c0 < (65 : Int32)
      · refine gIcmpY X0 hx (hb hby d_prog_2_method_3_15) (pc' := 24) (XT.ii_lt_t l2) (by decide) (by decide) ?_
        show Goes p e below _ (s₁.setTop (mkF m 24 #[.val (.int c0), .unset] []))
        refine gIloadN X0 hx (hb hby d_prog_2_method_3_24) rfl ?_
        refine gBipush X0 hx (hb hby d_prog_2_method_3_25) (v := (48 : Int32)) rfl ?_
        by_cases l3 : c0 < (48 : Int32)
        · refine gIcmpY X0 hx (hb hby d_prog_2_method_3_27) (pc' := 40) (XT.ii_lt_t l3) (by decide) (by decide) ?_
          show Goes p e below _ (s₁.setTop (mkF m 40 #[.val (.int c0), .unset] []))
          refine gIconst X0 hx (hb hby d_prog_2_method_3_40) (v := (0 : Int32)) rfl ?_
          exact J _ (Or.inr ⟨rfl, fun q => q.elim (fun z => z.2 u1) (fun z => z.elim (fun z => z.1 l2) (fun z => z.1 l3))⟩)
        · refine gIcmpN X0 hx (hb hby d_prog_2_method_3_27) (XT.ii_lt_f l3) ?_
          show Goes p e below _ (s₁.setTop (mkF m 30 #[.val (.int c0), .unset] []))
          refine gIloadN X0 hx (hb hby d_prog_2_method_3_30) rfl ?_
          refine gBipush X0 hx (hb hby d_prog_2_method_3_31) (v := (57 : Int32)) rfl ?_
          by_cases u3 : (57 : Int32) < c0
          · refine gIcmpY X0 hx (hb hby d_prog_2_method_3_33) (pc' := 40) (XT.ii_gt_t u3) (by decide) (by decide) ?_
            show Goes p e below _ (s₁.setTop (mkF m 40 #[.val (.int c0), .unset] []))
            refine gIconst X0 hx (hb hby d_prog_2_method_3_40) (v := (0 : Int32)) rfl ?_
            exact J _ (Or.inr ⟨rfl, fun q => q.elim (fun z => z.2 u1) (fun z => z.elim (fun z => z.1 l2) (fun z => z.2 u3))⟩)
          · refine gIcmpN X0 hx (hb hby d_prog_2_method_3_33) (XT.ii_gt_f u3) ?_
            show Goes p e below _ (s₁.setTop (mkF m 36 #[.val (.int c0), .unset] []))
            refine gIconst X0 hx (hb hby d_prog_2_method_3_36) (v := (1 : Int32)) rfl ?_
            refine gGoto X0 hx (hb hby d_prog_2_method_3_37) (pc' := 41) (by decide) (by decide) ?_
            show Goes p e below _ (s₁.setTop (mkF m 41 #[.val (.int c0), .unset] [(.int (1 : Int32))]))
            exact J _ (Or.inl ⟨rfl, Or.inr (Or.inr ⟨l3, u3⟩)⟩)
      · refine gIcmpN X0 hx (hb hby d_prog_2_method_3_15) (XT.ii_lt_f l2) ?_
        show Goes p e below _ (s₁.setTop (mkF m 18 #[.val (.int c0), .unset] []))
        refine gIloadN X0 hx (hb hby d_prog_2_method_3_18) rfl ?_
        refine gBipush X0 hx (hb hby d_prog_2_method_3_19) (v := (90 : Int32)) rfl ?_
        by_cases u2 : (90 : Int32) < c0
        · refine gIcmpN X0 hx (hb hby d_prog_2_method_3_21) (XT.ii_le_f u2) ?_
          show Goes p e below _ (s₁.setTop (mkF m 24 #[.val (.int c0), .unset] []))
          refine gIloadN X0 hx (hb hby d_prog_2_method_3_24) rfl ?_
          refine gBipush X0 hx (hb hby d_prog_2_method_3_25) (v := (48 : Int32)) rfl ?_
          by_cases l3 : c0 < (48 : Int32)
          · refine gIcmpY X0 hx (hb hby d_prog_2_method_3_27) (pc' := 40) (XT.ii_lt_t l3) (by decide) (by decide) ?_
            show Goes p e below _ (s₁.setTop (mkF m 40 #[.val (.int c0), .unset] []))
            refine gIconst X0 hx (hb hby d_prog_2_method_3_40) (v := (0 : Int32)) rfl ?_
            exact J _ (Or.inr ⟨rfl, fun q => q.elim (fun z => z.2 u1) (fun z => z.elim (fun z => z.2 u2) (fun z => z.1 l3))⟩)
          · refine gIcmpN X0 hx (hb hby d_prog_2_method_3_27) (XT.ii_lt_f l3) ?_
            show Goes p e below _ (s₁.setTop (mkF m 30 #[.val (.int c0), .unset] []))
            refine gIloadN X0 hx (hb hby d_prog_2_method_3_30) rfl ?_
            refine gBipush X0 hx (hb hby d_prog_2_method_3_31) (v := (57 : Int32)) rfl ?_
            by_cases u3 : (57 : Int32) < c0
            · refine gIcmpY X0 hx (hb hby d_prog_2_method_3_33) (pc' := 40) (XT.ii_gt_t u3) (by decide) (by decide) ?_
              show Goes p e below _ (s₁.setTop (mkF m 40 #[.val (.int c0), .unset] []))
              refine gIconst X0 hx (hb hby d_prog_2_method_3_40) (v := (0 : Int32)) rfl ?_
              exact J _ (Or.inr ⟨rfl, fun q => q.elim (fun z => z.2 u1) (fun z => z.elim (fun z => z.2 u2) (fun z => z.2 u3))⟩)
            · refine gIcmpN X0 hx (hb hby d_prog_2_method_3_33) (XT.ii_gt_f u3) ?_
              show Goes p e below _ (s₁.setTop (mkF m 36 #[.val (.int c0), .unset] []))
              refine gIconst X0 hx (hb hby d_prog_2_method_3_36) (v := (1 : Int32)) rfl ?_
              refine gGoto X0 hx (hb hby d_prog_2_method_3_37) (pc' := 41) (by decide) (by decide) ?_
              show Goes p e below _ (s₁.setTop (mkF m 41 #[.val (.int c0), .unset] [(.int (1 : Int32))]))
              exact J _ (Or.inl ⟨rfl, Or.inr (Or.inr ⟨l3, u3⟩)⟩)
        · refine gIcmpY X0 hx (hb hby d_prog_2_method_3_21) (pc' := 36) (XT.ii_le_t u2) (by decide) (by decide) ?_
          show Goes p e below _ (s₁.setTop (mkF m 36 #[.val (.int c0), .unset] []))
          refine gIconst X0 hx (hb hby d_prog_2_method_3_36) (v := (1 : Int32)) rfl ?_
          refine gGoto X0 hx (hb hby d_prog_2_method_3_37) (pc' := 41) (by decide) (by decide) ?_
          show Goes p e below _ (s₁.setTop (mkF m 41 #[.val (.int c0), .unset] [(.int (1 : Int32))]))
          exact J _ (Or.inl ⟨rfl, Or.inr (Or.inl ⟨l2, u2⟩)⟩)
    · refine gIcmpY X0 hx (hb hby d_prog_2_method_3_9) (pc' := 36) (XT.ii_le_t u1) (by decide) (by decide) ?_
      show Goes p e below _ (s₁.setTop (mkF m 36 #[.val (.int c0), .unset] []))
      refine gIconst X0 hx (hb hby d_prog_2_method_3_36) (v := (1 : Int32)) rfl ?_
      refine gGoto X0 hx (hb hby d_prog_2_method_3_37) (pc' := 41) (by decide) (by decide) ?_
      show Goes p e below _ (s₁.setTop (mkF m 41 #[.val (.int c0), .unset] [(.int (1 : Int32))]))
      exact J _ (Or.inl ⟨rfl, Or.inl ⟨l1, u1⟩⟩)
def own_dl (x : Int32) : Prop := x = (34 : Int32) ∨ x = (40 : Int32) ∨ x = (41 : Int32) ∨ x = (44 : Int32) ∨ x = (47 : Int32) ∨ x = (58 : Int32) ∨ x = (59 : Int32) ∨ x = (60 : Int32) ∨ x = (61 : Int32) ∨ x = (62 : Int32) ∨ x = (63 : Int32) ∨ x = (64 : Int32) ∨ x = (91 : Int32) ∨ x = (92 : Int32) ∨ x = (93 : Int32) ∨ x = (123 : Int32) ∨ x = (125 : Int32)
instance own_dld (x : Int32) : Decidable (own_dl x) := by unfold own_dl; infer_instance
def own_ps : Array (Int × Int) := #[(34, 147), (40, 147), (41, 147), (44, 147), (47, 147), (58, 147), (59, 147), (60, 147), (61, 147), (62, 147), (63, 147), (64, 147), (91, 147), (92, 147), (93, 147), (123, 147), (125, 147)]
theorem own_hit {x : Int32} (h : own_dl x) : ∃ a, own_ps.find? (·.1 == x.toInt) = some (a, 147) := by
  unfold own_dl at h
  rcases h with rfl | rfl | rfl | rfl | rfl | rfl | rfl | rfl | rfl | rfl | rfl | rfl | rfl | rfl | rfl | rfl | rfl <;> exact ⟨_, rfl⟩
theorem own_miss {x : Int32} (h : ¬ own_dl x) : own_ps.find? (·.1 == x.toInt) = none := find_miss fun q hq => by
  intro e
  apply h
  unfold own_dl
  simp only [← Int32.toInt_inj]
  simp only [own_ps, List.mem_cons, List.not_mem_nil, or_false] at hq
  rcases hq with rfl | rfl | rfl | rfl | rfl | rfl | rfl | rfl | rfl | rfl | rfl | rfl | rfl | rfl | rfl | rfl | rfl <;> simp only at e <;> rw [← e] <;> decide
theorem d_method_2_0 : decode method_2_code 0 = .ok (.iload_n 0, 1) := by decide +kernel
theorem d_method_2_1 : decode method_2_code 1 = .ok (.lookupswitch 149 #[(34, 147), (40, 147), (41, 147), (44, 147), (47, 147), (58, 147), (59, 147), (60, 147), (61, 147), (62, 147), (63, 147), (64, 147), (91, 147), (92, 147), (93, 147), (123, 147), (125, 147)], 147) := by decide +kernel
theorem d_method_2_148 : decode method_2_code 148 = .ok (.iconst 1, 1) := by decide +kernel
theorem d_method_2_149 : decode method_2_code 149 = .ok (.ireturn, 1) := by decide +kernel
theorem pn_3 : plainName "com/example/rolegate/rolegate/HttpSyntaxIsTokenCharacterPinLaw" = true := by first | (simp [plainName, overriddenIn]; done) | decide +kernel
theorem ef_rmDy (m : MethodId) (x0 : Int32) : entryFrame m #[(.int x0)] 1 = mkF m 0 #[.val (.int x0)] [] := by first | (simp [entryFrame, mkF, argsToLocals, Value.category]; done) | rfl
set_option maxRecDepth 65536 in
set_option maxHeartbeats 40000000 in
theorem rmDy (l : Launch) (Z : State) (a0 : Array Value) (hw : ∀ d ∈ tables_1, d.before a0 Z = true)  (c0 : Int32) (h0 : Heap) (O0 : Ext Z.heap h0) (hd : own_dl c0) :
    Ctr l Z (⟨"com/example/rolegate/rolegate/HttpSyntaxIsTokenCharacterPinLaw", "isDelimiter", "(C)Z"⟩ : MethodName) method_2_code 1 (some .boolean) [] ({ frames := 0, cells := 0, slots := 0, locals := 0 } : Room) #[(.int c0)] h0 (fun v h L => v = some (.int 1) ∧ Fr Z.heap.size L ∧ h = h0) := by
  refine ctr (plainFor_of_name pn_3) ?_
  intro p e s m below meth c s₁ hx hby hml hown hnm hret hlocks hZ X0 e0
  have N0 := Fr.nil Z.heap.size
  have hsz : ∀ {Ls : Array Slot}, Ls.size = 1 → Ls.size = c.maxLocals := fun q => q.trans hml.symm
  refine goE (ef_rmDy m (c0)) ?_
  show Goes p e below _ (s₁.setTop (mkF m 0 #[.val (.int c0)] []))
  refine gIloadN X0 hx (hb hby d_method_2_0) rfl ?_
  obtain ⟨fa, hf⟩ := own_hit hd
  refine gLswY X0 hx (hb hby d_method_2_1) (by decide) hf (by decide) (pc' := 148) (by decide) ?_
  show Goes p e below _ (s₁.setTop (mkF m 148 #[.val (.int c0)] []))
  refine gIconst X0 hx (hb hby d_method_2_148) (v := (1 : Int32)) rfl ?_
  exact goRetN X0 hx (t := .boolean) hret hlocks (by simp) (hb hby d_method_2_149) (z' := (1 : Int32)) rfl (by decide) (by decide) e0 (⟨rfl, N0, rfl⟩)
theorem d_method_2_150 : decode method_2_code 150 = .ok (.iconst 0, 1) := by decide +kernel
theorem d_method_2_151 : decode method_2_code 151 = .ok (.ireturn, 1) := by decide +kernel
theorem ef_rmDn (m : MethodId) (x0 : Int32) : entryFrame m #[(.int x0)] 1 = mkF m 0 #[.val (.int x0)] [] := by first | (simp [entryFrame, mkF, argsToLocals, Value.category]; done) | rfl
set_option maxRecDepth 65536 in
set_option maxHeartbeats 40000000 in
theorem rmDn (l : Launch) (Z : State) (a0 : Array Value) (hw : ∀ d ∈ tables_1, d.before a0 Z = true)  (c0 : Int32) (h0 : Heap) (O0 : Ext Z.heap h0) (hd : ¬ own_dl c0) :
    Ctr l Z (⟨"com/example/rolegate/rolegate/HttpSyntaxIsTokenCharacterPinLaw", "isDelimiter", "(C)Z"⟩ : MethodName) method_2_code 1 (some .boolean) [] ({ frames := 0, cells := 0, slots := 0, locals := 0 } : Room) #[(.int c0)] h0 (fun v h L => v = some (.int 0) ∧ Fr Z.heap.size L ∧ h = h0) := by
  refine ctr (plainFor_of_name pn_3) ?_
  intro p e s m below meth c s₁ hx hby hml hown hnm hret hlocks hZ X0 e0
  have N0 := Fr.nil Z.heap.size
  have hsz : ∀ {Ls : Array Slot}, Ls.size = 1 → Ls.size = c.maxLocals := fun q => q.trans hml.symm
  refine goE (ef_rmDn m (c0)) ?_
  show Goes p e below _ (s₁.setTop (mkF m 0 #[.val (.int c0)] []))
  refine gIloadN X0 hx (hb hby d_method_2_0) rfl ?_
  refine gLswN X0 hx (hb hby d_method_2_1) (by decide) (own_miss hd) (by decide) (pc' := 150) (by decide) ?_
  show Goes p e below _ (s₁.setTop (mkF m 150 #[.val (.int c0)] []))
  refine gIconst X0 hx (hb hby d_method_2_150) (v := (0 : Int32)) rfl ?_
  exact goRetN X0 hx (t := .boolean) hret hlocks (by simp) (hb hby d_method_2_151) (z' := (0 : Int32)) rfl (by decide) (by decide) e0 (⟨rfl, N0, rfl⟩)
theorem own_small : ∀ n : Fin 128, (if own_ld (Int32.ofNat n.1) ∨ own_tk (Int32.ofNat n.1) then (1 : Int32) else 0) = if (¬ Int32.ofNat n.1 < 33 ∧ ¬ (126 : Int32) < Int32.ofNat n.1) ∧ ¬ own_dl (Int32.ofNat n.1) then 1 else 0 := by decide +kernel
theorem own_main {x : Int32} (h0 : ¬ x < 0) : own_tc x = if (¬ x < 33 ∧ ¬ (126 : Int32) < x) ∧ ¬ own_dl x then 1 else 0 := by
  by_cases h1 : x < 128
  · have e : x = Int32.ofNat x.toNatClampNeg := (back32 h0).1.symm
    have hl : x.toNatClampNeg < 128 := by
      have := nat_of h0
      rw [Int32.lt_iff_toInt_lt, show (128 : Int32).toInt = 128 by decide] at h1
      omega
    have := own_small ⟨x.toNatClampNeg, hl⟩
    rw [← e] at this
    exact this
  · rw [Int32.lt_iff_toInt_lt, show (128 : Int32).toInt = 128 by decide] at h1
    have a : ¬ own_ld x := by
      unfold own_ld
      simp only [Int32.lt_iff_toInt_lt, show (97 : Int32).toInt = 97 by decide, show (122 : Int32).toInt = 122 by decide, show (65 : Int32).toInt = 65 by decide, show (90 : Int32).toInt = 90 by decide, show (48 : Int32).toInt = 48 by decide, show (57 : Int32).toInt = 57 by decide]
      omega
    have b : ¬ own_tk x := by rw [own_tkI]; omega
    have d : ¬ ((¬ x < 33 ∧ ¬ (126 : Int32) < x) ∧ ¬ own_dl x) := fun q => q.1.2 (by rw [Int32.lt_iff_toInt_lt, show (126 : Int32).toInt = 126 by decide]; omega)
    rw [own_tc, if_neg (fun q => q.elim a b), if_neg d]
theorem pd_7 : parseMethodDescriptor "(C)Z" = some ⟨[.char], some .boolean⟩ := by decide +kernel
theorem ef_rm0 (m : MethodId) (x0 : Int32) : entryFrame m #[(.int x0)] maxLocals = mkF m 0 #[.val (.int x0), .unset, .unset, .unset] [] := by first | (simp [entryFrame, mkF, argsToLocals, Value.category, maxLocals]; done) | rfl
set_option maxRecDepth 65536 in
set_option maxHeartbeats 40000000 in
theorem rm0 (l : Launch) (Z : State) (a0 : Array Value) (hw : ∀ d ∈ tables_1, d.before a0 Z = true) (cs : Int32) (p0 : Int32) (h0 : Heap) (O0 : Ext Z.heap h0) (S_cs : Sta Z Z.heap "java/lang/String" "COMPACT_STRINGS" "Z" (.int cs)) (hcs : ¬ cs = 0) (hh : Jvm.Lit.constHeld Z "com/example/rolegate/rolegate/HttpSyntax" 27) (hcw : Jvm.Lit.compactW.before a0 Z = true) :
    CtrW l Z x code maxLocals ret tables_1 room_1 #[(.int p0)] h0 (fun vm => own_Tx Z h0 vm) (fun v h L vm => v = some (.int 1) ∧ Fr Z.heap.size L) := by
  refine ctrW (plainFor_of_name pn_3) ?_
  intro p e s m below meth c s₁ vm0 hx hby hml hown hnm hret hlocks hZ X0 e0 hS hh0 hPv
  have N0 := Fr.nil Z.heap.size
  have hsz : ∀ {Ls : Array Slot}, Ls.size = 4 → Ls.size = c.maxLocals := fun q => q.trans hml.symm
  refine goE (ef_rm0 m (p0)) ?_
  show Goes p e below _ (s₁.setTop (mkF m 0 #[.val (.int p0), .unset, .unset, .unset] []))
  refine gIloadN X0 hx (hb hby at_0) rfl ?_
  refine gLdcI X0 hx hZ hown (hw _ (List.mem_of_getElem? (i := 0) rfl)) (hb hby at_1) ?_
  refine gIand X0 hx (hb hby at_3) ?_
  refine gI2c X0 hx (hb hby at_4) ?_
  show Goes p e below _ (s₁.setTop (mkF m 5 #[.val (.int p0), .unset, .unset, .unset] [(.int ((p0 &&& (65535 : Int32)).toUInt32.toUInt16.toUInt32.toInt32))]))
  have q0 : ¬ ((p0 &&& (65535 : Int32)).toUInt32.toUInt16.toUInt32.toInt32) < 0 := by rw [Int32.lt_iff_toInt_lt]; have := c_i2c (p0 &&& (65535 : Int32)); show ¬ _ < (0 : Int); omega
  generalize ((p0 &&& (65535 : Int32)).toUInt32.toUInt16.toUInt32.toInt32) = c0 at q0 ⊢
  show Goes p e below _ (s₁.setTop (mkF m 5 #[.val (.int p0), .unset, .unset, .unset] [(.int c0)]))
  have key := own_main q0
  refine gIstoreN X0 hx (hb hby at_5) (l' := #[.val (.int p0), .val (.int c0), .unset, .unset]) rfl ?_
  refine gIloadN X0 hx (hb hby at_6) rfl ?_
  refine gBipush X0 hx (hb hby at_7) (v := (33 : Int32)) rfl ?_
  by_cases v1 : c0 < (33 : Int32)
  · refine gIcmpY X0 hx (hb hby at_9) (pc' := 22) (XT.ii_lt_t v1) (by decide) (by decide) ?_
    show Goes p e below _ (s₁.setTop (mkF m 22 #[.val (.int p0), .val (.int c0), .unset, .unset] []))
    refine gIconst X0 hx (hb hby at_22) (v := (0 : Int32)) rfl ?_
    refine gIstoreN X0 hx (hb hby at_23) (l' := #[.val (.int p0), .val (.int c0), .val (.int (0 : Int32)), .unset]) rfl ?_
    refine gIloadN X0 hx (hb hby at_24) rfl ?_
    refine gIfY X0 hx (hb hby at_25) (pc' := 39) (XT.i0_eq_t (by decide)) (by decide) (by decide) ?_
    show Goes p e below _ (s₁.setTop (mkF m 39 #[.val (.int p0), .val (.int c0), .val (.int (0 : Int32)), .unset] []))
    refine gIconst X0 hx (hb hby at_39) (v := (0 : Int32)) rfl ?_
    refine gIstoreN X0 hx (hb hby at_40) (l' := #[.val (.int p0), .val (.int c0), .val (.int (0 : Int32)), .val (.int (0 : Int32))]) rfl ?_
    refine gIloadN X0 hx (hb hby at_41) rfl ?_
    refine goCallSW X0 hx hZ hS hown (hw _ (List.mem_of_getElem? (i := 1) rfl)) (hw _ (List.mem_of_getElem? (i := 2) rfl)) (hw _ (List.mem_of_getElem? (i := 3) rfl)) (hw _ (List.mem_of_getElem? (i := 4) rfl)) (by decide) (rmTc l Z a0 hw cs c0 h0 O0 S_cs hcs hh hcw q0) (fun _ w_ => hPv.warm w_) 0 (by decide) (by decide) e0 (hsz rfl) [(.int c0)] [] pd_7 rfl rfl rfl (Nat.le_of_eq rfl) (hb hby at_42) (by decide) (by decide) (fun Tt1 vt1 Lt1 Xt1 hZ hown hS wm_t1 qt1 => ?_)
    obtain ⟨ht1, et1⟩ : ∃ z, Tt1.heap = z := ⟨_, rfl⟩
    rw [et1] at qt1 hS
    obtain ⟨rfl, N2, Kct1, Tx⟩ := qt1
    have N3 := Fr.app N0 N2
    have O4 : Ext Z.heap ht1 := extK O0 Kct1 all0
    show Goes p e below _ (Tt1.setTop (mkF m 45 #[.val (.int p0), .val (.int c0), .val (.int (0 : Int32)), .val (.int (0 : Int32))] [(.int (own_tc c0))]))
    refine gIloadN Xt1 hx (hb hby at_45) rfl ?_
    refine gIcmpN Xt1 hx (hb hby at_46) (XT.ii_ne_f (key.trans (if_neg (fun q => q.1.1 v1)))) ?_
    show Goes p e below _ (Tt1.setTop (mkF m 49 #[.val (.int p0), .val (.int c0), .val (.int (0 : Int32)), .val (.int (0 : Int32))] []))
    refine gIconst Xt1 hx (hb hby at_49) (v := (1 : Int32)) rfl ?_
    refine gGoto Xt1 hx (hb hby at_50) (pc' := 54) (by decide) (by decide) ?_
    show Goes p e below _ (Tt1.setTop (mkF m 54 #[.val (.int p0), .val (.int c0), .val (.int (0 : Int32)), .val (.int (0 : Int32))] [(.int (1 : Int32))]))
    exact goRetNW Xt1 hx hS (t := .boolean) hret hlocks (by simp) (hb hby at_54) (z' := (1 : Int32)) rfl (by decide) (by decide) et1 (⟨rfl, N3⟩)
  · refine gIcmpN X0 hx (hb hby at_9) (XT.ii_lt_f v1) ?_
    show Goes p e below _ (s₁.setTop (mkF m 12 #[.val (.int p0), .val (.int c0), .unset, .unset] []))
    refine gIloadN X0 hx (hb hby at_12) rfl ?_
    refine gBipush X0 hx (hb hby at_13) (v := (126 : Int32)) rfl ?_
    by_cases v2 : (126 : Int32) < c0
    · refine gIcmpY X0 hx (hb hby at_15) (pc' := 22) (XT.ii_gt_t v2) (by decide) (by decide) ?_
      show Goes p e below _ (s₁.setTop (mkF m 22 #[.val (.int p0), .val (.int c0), .unset, .unset] []))
      refine gIconst X0 hx (hb hby at_22) (v := (0 : Int32)) rfl ?_
      refine gIstoreN X0 hx (hb hby at_23) (l' := #[.val (.int p0), .val (.int c0), .val (.int (0 : Int32)), .unset]) rfl ?_
      refine gIloadN X0 hx (hb hby at_24) rfl ?_
      refine gIfY X0 hx (hb hby at_25) (pc' := 39) (XT.i0_eq_t (by decide)) (by decide) (by decide) ?_
      show Goes p e below _ (s₁.setTop (mkF m 39 #[.val (.int p0), .val (.int c0), .val (.int (0 : Int32)), .unset] []))
      refine gIconst X0 hx (hb hby at_39) (v := (0 : Int32)) rfl ?_
      refine gIstoreN X0 hx (hb hby at_40) (l' := #[.val (.int p0), .val (.int c0), .val (.int (0 : Int32)), .val (.int (0 : Int32))]) rfl ?_
      refine gIloadN X0 hx (hb hby at_41) rfl ?_
      refine goCallSW X0 hx hZ hS hown (hw _ (List.mem_of_getElem? (i := 1) rfl)) (hw _ (List.mem_of_getElem? (i := 2) rfl)) (hw _ (List.mem_of_getElem? (i := 3) rfl)) (hw _ (List.mem_of_getElem? (i := 4) rfl)) (by decide) (rmTc l Z a0 hw cs c0 h0 O0 S_cs hcs hh hcw q0) (fun _ w_ => hPv.warm w_) 0 (by decide) (by decide) e0 (hsz rfl) [(.int c0)] [] pd_7 rfl rfl rfl (Nat.le_of_eq rfl) (hb hby at_42) (by decide) (by decide) (fun Tt5 vt5 Lt5 Xt5 hZ hown hS wm_t5 qt5 => ?_)
      obtain ⟨ht5, et5⟩ : ∃ z, Tt5.heap = z := ⟨_, rfl⟩
      rw [et5] at qt5 hS
      obtain ⟨rfl, N6, Kct5, Tx⟩ := qt5
      have N7 := Fr.app N0 N6
      have O8 : Ext Z.heap ht5 := extK O0 Kct5 all0
      show Goes p e below _ (Tt5.setTop (mkF m 45 #[.val (.int p0), .val (.int c0), .val (.int (0 : Int32)), .val (.int (0 : Int32))] [(.int (own_tc c0))]))
      refine gIloadN Xt5 hx (hb hby at_45) rfl ?_
      refine gIcmpN Xt5 hx (hb hby at_46) (XT.ii_ne_f (key.trans (if_neg (fun q => q.1.2 v2)))) ?_
      show Goes p e below _ (Tt5.setTop (mkF m 49 #[.val (.int p0), .val (.int c0), .val (.int (0 : Int32)), .val (.int (0 : Int32))] []))
      refine gIconst Xt5 hx (hb hby at_49) (v := (1 : Int32)) rfl ?_
      refine gGoto Xt5 hx (hb hby at_50) (pc' := 54) (by decide) (by decide) ?_
      show Goes p e below _ (Tt5.setTop (mkF m 54 #[.val (.int p0), .val (.int c0), .val (.int (0 : Int32)), .val (.int (0 : Int32))] [(.int (1 : Int32))]))
      exact goRetNW Xt5 hx hS (t := .boolean) hret hlocks (by simp) (hb hby at_54) (z' := (1 : Int32)) rfl (by decide) (by decide) et5 (⟨rfl, N7⟩)
    · refine gIcmpN X0 hx (hb hby at_15) (XT.ii_gt_f v2) ?_
      show Goes p e below _ (s₁.setTop (mkF m 18 #[.val (.int p0), .val (.int c0), .unset, .unset] []))
      refine gIconst X0 hx (hb hby at_18) (v := (1 : Int32)) rfl ?_
      refine gGoto X0 hx (hb hby at_19) (pc' := 23) (by decide) (by decide) ?_
      show Goes p e below _ (s₁.setTop (mkF m 23 #[.val (.int p0), .val (.int c0), .unset, .unset] [(.int (1 : Int32))]))
      refine gIstoreN X0 hx (hb hby at_23) (l' := #[.val (.int p0), .val (.int c0), .val (.int (1 : Int32)), .unset]) rfl ?_
      refine gIloadN X0 hx (hb hby at_24) rfl ?_
      refine gIfN X0 hx (hb hby at_25) (XT.i0_eq_f (by decide)) ?_
      show Goes p e below _ (s₁.setTop (mkF m 28 #[.val (.int p0), .val (.int c0), .val (.int (1 : Int32)), .unset] []))
      refine gIloadN X0 hx (hb hby at_28) rfl ?_
      by_cases hd : own_dl c0
      · refine goCallS X0 hx hZ hown (hw _ (List.mem_of_getElem? (i := 58) rfl)) (hw _ (List.mem_of_getElem? (i := 59) rfl)) (hw _ (List.mem_of_getElem? (i := 60) rfl)) (hw _ (List.mem_of_getElem? (i := 61) rfl)) (by decide) (rmDy l Z a0 hw c0 h0 O0 hd) 0 (by decide) (by decide) e0 (hsz rfl) [(.int c0)] [] pd_7 rfl rfl rfl (Nat.le_of_eq rfl) (hb hby at_29) (by decide) (by decide) (fun Tt9 vt9 Lt9 Xt9 qt9 => ?_)
        obtain ⟨rfl, N10, et9⟩ := qt9
        have N11 := Fr.app N0 N10
        show Goes p e below _ (Tt9.setTop (mkF m 32 #[.val (.int p0), .val (.int c0), .val (.int (1 : Int32)), .unset] [(.int (1 : Int32))]))
        refine gIfY Xt9 hx (hb hby at_32) (pc' := 39) (XT.i0_ne_t (by decide)) (by decide) (by decide) ?_
        show Goes p e below _ (Tt9.setTop (mkF m 39 #[.val (.int p0), .val (.int c0), .val (.int (1 : Int32)), .unset] []))
        refine gIconst Xt9 hx (hb hby at_39) (v := (0 : Int32)) rfl ?_
        refine gIstoreN Xt9 hx (hb hby at_40) (l' := #[.val (.int p0), .val (.int c0), .val (.int (1 : Int32)), .val (.int (0 : Int32))]) rfl ?_
        refine gIloadN Xt9 hx (hb hby at_41) rfl ?_
        refine goCallSW Xt9 hx hZ hS hown (hw _ (List.mem_of_getElem? (i := 1) rfl)) (hw _ (List.mem_of_getElem? (i := 2) rfl)) (hw _ (List.mem_of_getElem? (i := 3) rfl)) (hw _ (List.mem_of_getElem? (i := 4) rfl)) (by decide) (rmTc l Z a0 hw cs c0 h0 O0 S_cs hcs hh hcw q0) (fun _ w_ => hPv.warm w_) 0 (by decide) (by decide) et9 (hsz rfl) [(.int c0)] [] pd_7 rfl rfl rfl (Nat.le_of_eq rfl) (hb hby at_42) (by decide) (by decide) (fun Tt12 vt12 Lt12 Xt12 hZ hown hS wm_t12 qt12 => ?_)
        obtain ⟨ht12, et12⟩ : ∃ z, Tt12.heap = z := ⟨_, rfl⟩
        rw [et12] at qt12 hS
        obtain ⟨rfl, N13, Kct12, Tx⟩ := qt12
        have N14 := Fr.app N11 N13
        have O15 : Ext Z.heap ht12 := extK O0 Kct12 all0
        show Goes p e below _ (Tt12.setTop (mkF m 45 #[.val (.int p0), .val (.int c0), .val (.int (1 : Int32)), .val (.int (0 : Int32))] [(.int (own_tc c0))]))
        refine gIloadN Xt12 hx (hb hby at_45) rfl ?_
        refine gIcmpN Xt12 hx (hb hby at_46) (XT.ii_ne_f (key.trans (if_neg (fun q => q.2 hd)))) ?_
        show Goes p e below _ (Tt12.setTop (mkF m 49 #[.val (.int p0), .val (.int c0), .val (.int (1 : Int32)), .val (.int (0 : Int32))] []))
        refine gIconst Xt12 hx (hb hby at_49) (v := (1 : Int32)) rfl ?_
        refine gGoto Xt12 hx (hb hby at_50) (pc' := 54) (by decide) (by decide) ?_
        show Goes p e below _ (Tt12.setTop (mkF m 54 #[.val (.int p0), .val (.int c0), .val (.int (1 : Int32)), .val (.int (0 : Int32))] [(.int (1 : Int32))]))
        exact goRetNW Xt12 hx hS (t := .boolean) hret hlocks (by simp) (hb hby at_54) (z' := (1 : Int32)) rfl (by decide) (by decide) et12 (⟨rfl, N14⟩)
      · refine goCallS X0 hx hZ hown (hw _ (List.mem_of_getElem? (i := 58) rfl)) (hw _ (List.mem_of_getElem? (i := 59) rfl)) (hw _ (List.mem_of_getElem? (i := 60) rfl)) (hw _ (List.mem_of_getElem? (i := 61) rfl)) (by decide) (rmDn l Z a0 hw c0 h0 O0 hd) 0 (by decide) (by decide) e0 (hsz rfl) [(.int c0)] [] pd_7 rfl rfl rfl (Nat.le_of_eq rfl) (hb hby at_29) (by decide) (by decide) (fun Tt16 vt16 Lt16 Xt16 qt16 => ?_)
        obtain ⟨rfl, N17, et16⟩ := qt16
        have N18 := Fr.app N0 N17
        show Goes p e below _ (Tt16.setTop (mkF m 32 #[.val (.int p0), .val (.int c0), .val (.int (1 : Int32)), .unset] [(.int (0 : Int32))]))
        refine gIfN Xt16 hx (hb hby at_32) (XT.i0_ne_f (by decide)) ?_
        show Goes p e below _ (Tt16.setTop (mkF m 35 #[.val (.int p0), .val (.int c0), .val (.int (1 : Int32)), .unset] []))
        refine gIconst Xt16 hx (hb hby at_35) (v := (1 : Int32)) rfl ?_
        refine gGoto Xt16 hx (hb hby at_36) (pc' := 40) (by decide) (by decide) ?_
        show Goes p e below _ (Tt16.setTop (mkF m 40 #[.val (.int p0), .val (.int c0), .val (.int (1 : Int32)), .unset] [(.int (1 : Int32))]))
        refine gIstoreN Xt16 hx (hb hby at_40) (l' := #[.val (.int p0), .val (.int c0), .val (.int (1 : Int32)), .val (.int (1 : Int32))]) rfl ?_
        refine gIloadN Xt16 hx (hb hby at_41) rfl ?_
        refine goCallSW Xt16 hx hZ hS hown (hw _ (List.mem_of_getElem? (i := 1) rfl)) (hw _ (List.mem_of_getElem? (i := 2) rfl)) (hw _ (List.mem_of_getElem? (i := 3) rfl)) (hw _ (List.mem_of_getElem? (i := 4) rfl)) (by decide) (rmTc l Z a0 hw cs c0 h0 O0 S_cs hcs hh hcw q0) (fun _ w_ => hPv.warm w_) 0 (by decide) (by decide) et16 (hsz rfl) [(.int c0)] [] pd_7 rfl rfl rfl (Nat.le_of_eq rfl) (hb hby at_42) (by decide) (by decide) (fun Tt19 vt19 Lt19 Xt19 hZ hown hS wm_t19 qt19 => ?_)
        obtain ⟨ht19, et19⟩ : ∃ z, Tt19.heap = z := ⟨_, rfl⟩
        rw [et19] at qt19 hS
        obtain ⟨rfl, N20, Kct19, Tx⟩ := qt19
        have N21 := Fr.app N18 N20
        have O22 : Ext Z.heap ht19 := extK O0 Kct19 all0
        show Goes p e below _ (Tt19.setTop (mkF m 45 #[.val (.int p0), .val (.int c0), .val (.int (1 : Int32)), .val (.int (1 : Int32))] [(.int (own_tc c0))]))
        refine gIloadN Xt19 hx (hb hby at_45) rfl ?_
        refine gIcmpN Xt19 hx (hb hby at_46) (XT.ii_ne_f (key.trans (if_pos ⟨⟨v1, v2⟩, hd⟩))) ?_
        show Goes p e below _ (Tt19.setTop (mkF m 49 #[.val (.int p0), .val (.int c0), .val (.int (1 : Int32)), .val (.int (1 : Int32))] []))
        refine gIconst Xt19 hx (hb hby at_49) (v := (1 : Int32)) rfl ?_
        refine gGoto Xt19 hx (hb hby at_50) (pc' := 54) (by decide) (by decide) ?_
        show Goes p e below _ (Tt19.setTop (mkF m 54 #[.val (.int p0), .val (.int c0), .val (.int (1 : Int32)), .val (.int (1 : Int32))] [(.int (1 : Int32))]))
        exact goRetNW Xt19 hx hS (t := .boolean) hret hlocks (by simp) (hb hby at_54) (z' := (1 : Int32)) rfl (by decide) (by decide) et19 (⟨rfl, N21⟩)
set_option maxRecDepth 65536 in
set_option maxHeartbeats 40000000 in
theorem comes_1 {Post : Tables → Env → Array Value → State → Outcome → State → Prop} (hpost : ∀ tb e args s v u, (limb_1_1.after args s (.returned v) u = true ∧ limb_1_2.after args s (.returned v) u = true ∧ True) → ReturnedEndW s (.returned v) u (Jvm.fieldLocs frame_1_writes args s ++ Jvm.arrayLocs frame_1_arrays args s ++ Jvm.staticLocs frame_1_statics s) 8 1088 → Post tb e args s (.returned v) u) :
    ArmFor flags0 classFile x code maxLocals ret World_1 tables_1 room_1 Calls_1 rest_1 Pre_1 Post := by
  intro l hfl _ _ p e ha hc hk s m args below hf hA hF happ hP
  obtain ⟨hcalls, hrest, hpre⟩ := hP
  obtain ⟨-, -, -, hnamed, -, -, -, hat⟩ := (Spec.applies_iff hf).mp happ
  obtain ⟨hg, hn⟩ := and_e (Cond.before_iff.mp (show (Jvm.Cond.and given_1 narrow_1).before args s = true from hpre))
  obtain ⟨hc0, r0⟩ := and_e hg
  have c0 := r0
  obtain ⟨w0, rfl⟩ : ∃ w0 : Value, args = #[w0] := by
    have hs : args.size = 1 := by simpa [Cond.value, given_1] using hc0
    obtain ⟨L⟩ := args
    match L, hs with
    | [w0], _ => exact ⟨w0, rfl⟩
  have hw := fun d (hd : d ∈ tables_1) => atoms_spec (ws := Jvm.Cond.code x code maxLocals ret :: tables_1) hat d (List.mem_cons_of_mem _ hd)
  obtain ⟨hsets, hown0⟩ := atoms_of _ (rest_1_c_eq ▸ (show rest_1_c.before _ s = true from hrest))
  have hfit : Fit s := fun {y c} hc i hi => by
    obtain ⟨ha, rfl⟩ := Array.getElem?_eq_some_iff.mp hc
    have q := List.all_eq_true.mp ((Array.all_eq_true_iff_forall_mem.mp hF) _ (Array.getElem_mem ha)) i (List.mem_range.mpr hi)
    simpa [Array.getElem?_eq_getElem hi] using q
  obtain ⟨x0, y0⟩ := is_v c0
  obtain rfl : w0 = (.int x0) := Option.some.inj y0
  have n5 := not_v (Cond.before_iff.mp (hsets _ (List.mem_of_getElem? (i := 2) rfl)))
  obtain ⟨cs, e10⟩ := is_v (Cond.before_iff.mp (hsets _ (List.mem_of_getElem? (i := 1) rfl)))
  have S_cs : Sta s s.heap "java/lang/String" "COMPACT_STRINGS" "Z" (.int cs) := Sta.start e10 (Or.inl (hsets _ (List.mem_of_getElem? (i := 0) rfl)))
  have hcs : ¬ (cs = (0 : Int32)) := gotF (Cond.eq_ints e10 (Term.int_eval (0))) n5
  have hcw : Jvm.Lit.compactW.before _ s = true := hsets _ (List.mem_of_getElem? (i := 2) rfl)
  have hh0 : Jvm.Lit.constHeld s "com/example/rolegate/rolegate/HttpSyntax" 27 := hcalls.1 _ (List.mem_of_getElem? (i := 0) rfl)
  obtain ⟨n, o, h1, h2, h3, _, L, rfl, ⟨rfl, N⟩, hq⟩ := rm0 l s _ hw cs x0 s.heap ⟨Nat.le_refl _, fun _ _ q => q⟩ S_cs hcs hh0 hcw p e ha hc hk s m _ below hf ((Spec.applies_iff_loose hf).mp happ).1 ⟨rfl, State.Warmed39.refl s, rfl, Or.inl IB.start⟩ trivial
  refine ⟨n, _, h1, h2, h3, hpost _ _ _ _ _ _ ⟨Cond.after_iff.mpr rfl, Cond.after_iff.mpr (eq_i res_at (Term.int_eval (1)) rfl), trivial⟩ ⟨hq.1, hq.2.1, hq.2.2.1, (hq.2.2.2.sift fun y hy => Or.inr (N y hy)).mono (by decide) (by decide)⟩⟩
theorem main_1_1 : Claimed_1_1 := comes_1 fun _ _ _ _ _ _ h hF => ⟨h.1, hF⟩
theorem main_1_2 : Claimed_1_2 := comes_1 fun _ _ _ _ _ _ h hF => ⟨h.2.1, hF⟩
end Jvm.Pilot.@@N@@
namespace Jvm.Pilot.@@N@@
open Jvm Jvm.ClassFile Sem Op Lib Jvm.Free Jvm.Stand Jvm.Pilot.@@N@@.Jvm.D
/-! MADE BY PROGRAM (witnessworld.py) out of the Statement's table words and the real class files: 18 classes; the members and pool entries that the words name. The judged class is class 1, her method 2. -/
namespace start1
open Jvm.ClassFile
def u (s : String) : CpInfo := .utf8 (stringToUtf16 s)
/-- a pool by its gaps: so many unusable entries, then the entry; so many at the end -/
def gap : Nat → List CpInfo → List CpInfo
  | 0, r => r
  | n + 1, r => .unusable :: gap n r
def poolList (es : List (Nat × CpInfo)) (last : Nat) : List CpInfo := es.foldr (fun e r => gap e.1 (e.2 :: r)) (gap last [])
def pool (es : List (Nat × CpInfo)) (last : Nat) : Array CpInfo := ⟨poolList es last⟩
def fileOf (pool : Array CpInfo) (this : Nat) (attrs : Array Attribute := #[]) (ms : Array MethodInfo := #[]) (fl : Nat := 33) (sup : Nat := 0) (ifs : Array Nat := #[]) (fds : Array FieldInfo := #[]) : ClassFile where
  minorVersion := 0
  majorVersion := 65
  constantPool := pool
  accessFlags := fl
  thisClass := this
  superClass := sup
  interfaces := ifs
  fields := fds
  methods := ms
  attributes := attrs
def plain (name : String) (sup : Option ClassId) : Class where
  name := name
  kind := .ordinary
  loader := none
  accessFlags := 33
  super := sup
  interfaces := #[]
  cf := none
  fields := #[]
  methods := #[]
  instanceTypes := #[]
  staticTypes := #[]
  resolved := #[]
  callSites := []
  init := .initialized
  statics := none
  mirror := none

def pool0 : Array CpInfo := pool [(5, u "<init>"), (0, u "()V"), (1, .class_ 10), (1, u "java/lang/Object")] 113

def k0m0 : Method := { name := "<init>", desc := "()V", sig := { parameters := [], returnType := none }, accessFlags := 1, code := none }
/-- java/lang/Object -/
def k0 : Class := { plain "java/lang/Object" none with
  accessFlags := 33
  interfaces := #[]
  cf := some (fileOf pool0 8 #[] #[{ accessFlags := 1, nameIndex := 5, descriptorIndex := 6, attributes := #[] }] 33 0 #[] #[])
  fields := #[]
  methods := #[k0m0]
  instanceTypes := #[]
  staticTypes := #[]
  resolved := Array.replicate 124 none
  statics := none }

def pool1 : Array CpInfo := pool [(2, .class_ 4), (1, u "java/lang/Object"), (0, u "<init>"), (0, u "()V"), (0, .integer 65535), (0, .methodref 9 10), (0, .class_ 11), (0, .nameAndType 12 13), (0, u "com/example/rolegate/rolegate/HttpSyntaxIsTokenCharacterPinLaw"), (0, u "isDelimiter"), (0, u "(C)Z"), (0, .methodref 15 16), (0, .class_ 17), (0, .nameAndType 18 13), (0, u "com/example/rolegate/rolegate/HttpSyntax"), (0, u "isTokenCharacter"), (3, u "law"), (0, u "(I)Z")] 2

def k1m0 : Method := { name := "<init>", desc := "()V", sig := { parameters := [], returnType := none }, accessFlags := 2, code := none }
def k1c1 : Code := { maxStack := 1, maxLocals := 1, code := method_2_code, exceptionTable := #[], attributes := #[] }
def k1m1 : Method := { name := "isDelimiter", desc := "(C)Z", sig := { parameters := [.char], returnType := some .boolean }, accessFlags := 10, code := some k1c1 }
def k1c2 : Code := { maxStack := 2, maxLocals := 4, code := code, exceptionTable := #[], attributes := #[] }
def k1m2 : Method := { name := "law", desc := "(I)Z", sig := { parameters := [.int], returnType := some .boolean }, accessFlags := 9, code := some k1c2 }
/-- com/example/rolegate/rolegate/HttpSyntaxIsTokenCharacterPinLaw -/
def k1 : Class := { plain "com/example/rolegate/rolegate/HttpSyntaxIsTokenCharacterPinLaw" (some 0) with
  accessFlags := 49
  interfaces := #[]
  cf := some (fileOf pool1 9 #[] #[{ accessFlags := 2, nameIndex := 5, descriptorIndex := 6, attributes := #[] }, { accessFlags := 10, nameIndex := 12, descriptorIndex := 13, attributes := #[] }, { accessFlags := 9, nameIndex := 22, descriptorIndex := 23, attributes := #[] }] 49 2 #[] #[])
  fields := #[]
  methods := #[k1m0, k1m1, k1m2]
  instanceTypes := #[]
  staticTypes := #[]
  resolved := Array.replicate 26 none
  statics := none }

def pool2 : Array CpInfo := pool [(2, .class_ 4), (1, u "java/lang/Object"), (0, u "<init>"), (0, u "()V"), (1, .class_ 10), (1, u "java/lang/String"), (11, .class_ 24), (1, u "com/example/rolegate/rolegate/HttpSyntax"), (0, u "isTokenCharacter"), (0, u "(C)Z"), (0, .string 28), (0, u "!#$%&'*+-.^_`|~"), (0, .methodref 8 30), (0, .nameAndType 31 32), (0, u "indexOf"), (0, u "(I)I"), (0, u "TOKEN_SYMBOLS"), (0, u "Ljava/lang/String;")] 8

def k2m0 : Method := { name := "<init>", desc := "()V", sig := { parameters := [], returnType := none }, accessFlags := 2, code := none }
def k2c1 : Code := { maxStack := 2, maxLocals := 2, code := prog_2_method_3_code, exceptionTable := #[], attributes := #[] }
def k2m1 : Method := { name := "isTokenCharacter", desc := "(C)Z", sig := { parameters := [.char], returnType := some .boolean }, accessFlags := 9, code := some k2c1 }
/-- com/example/rolegate/rolegate/HttpSyntax -/
def k2 : Class := { plain "com/example/rolegate/rolegate/HttpSyntax" (some 0) with
  accessFlags := 49
  interfaces := #[]
  cf := some (fileOf pool2 22 #[] #[{ accessFlags := 2, nameIndex := 5, descriptorIndex := 6, attributes := #[] }, { accessFlags := 9, nameIndex := 25, descriptorIndex := 26, attributes := #[] }] 49 2 #[] #[{ accessFlags := 26, nameIndex := 33, descriptorIndex := 34, attributes := #[] }])
  fields := #[{ name := "TOKEN_SYMBOLS", type := (.object "java/lang/String"), accessFlags := 26, slot := 0, constantValue := 0 }]
  methods := #[k2m0, k2m1]
  instanceTypes := #[]
  staticTypes := #[(.object "java/lang/String")]
  resolved := Array.replicate 43 none
  statics := none }

def pool3 : Array CpInfo := pool [(1, .class_ 2), (0, u "java/io/Serializable"), (0, .class_ 4), (0, u "java/lang/Object")] 2

/-- java/io/Serializable -/
def k3 : Class := { plain "java/io/Serializable" (some 0) with
  accessFlags := 1537
  interfaces := #[]
  cf := some (fileOf pool3 1 #[] #[] 1537 3 #[] #[])
  fields := #[]
  methods := #[]
  instanceTypes := #[]
  staticTypes := #[]
  resolved := Array.replicate 7 none
  statics := none }

def pool4 : Array CpInfo := pool [(1, .class_ 2), (0, u "java/lang/Comparable"), (0, .class_ 4), (0, u "java/lang/Object")] 7

/-- java/lang/Comparable -/
def k4 : Class := { plain "java/lang/Comparable" (some 0) with
  accessFlags := 1537
  interfaces := #[]
  cf := some (fileOf pool4 1 #[] #[] 1537 3 #[] #[])
  fields := #[]
  methods := #[]
  instanceTypes := #[]
  staticTypes := #[]
  resolved := Array.replicate 12 none
  statics := none }

def pool5 : Array CpInfo := pool [(2, .class_ 4), (1, u "java/lang/CharSequence"), (42, .class_ 48), (0, u "java/lang/CharSequence$1CodePointIterator"), (10, .class_ 60), (0, u "java/lang/CharSequence$1CharIterator"), (5, .class_ 67), (0, u "java/lang/Object")] 63

/-- java/lang/CharSequence -/
def k5 : Class := { plain "java/lang/CharSequence" (some 0) with
  accessFlags := 1537
  interfaces := #[]
  cf := some (fileOf pool5 2 #[.nestMembers #[47, 59]] #[] 1537 66 #[] #[])
  fields := #[]
  methods := #[]
  instanceTypes := #[]
  staticTypes := #[]
  resolved := Array.replicate 131 none
  statics := none }

def pool6 : Array CpInfo := pool [(1, .class_ 2), (0, u "java/lang/constant/Constable"), (0, .class_ 4), (0, u "java/lang/Object")] 6

/-- java/lang/constant/Constable -/
def k6 : Class := { plain "java/lang/constant/Constable" (some 0) with
  accessFlags := 1537
  interfaces := #[]
  cf := some (fileOf pool6 1 #[] #[] 1537 3 #[] #[])
  fields := #[]
  methods := #[]
  instanceTypes := #[]
  staticTypes := #[]
  resolved := Array.replicate 11 none
  statics := none }

def pool7 : Array CpInfo := pool [(1, .class_ 2), (0, u "java/lang/constant/ConstantDesc"), (0, .class_ 4), (0, u "java/lang/Object")] 32

/-- java/lang/constant/ConstantDesc -/
def k7 : Class := { plain "java/lang/constant/ConstantDesc" (some 0) with
  accessFlags := 1537
  interfaces := #[]
  cf := some (fileOf pool7 1 #[] #[] 1537 3 #[] #[])
  fields := #[]
  methods := #[]
  instanceTypes := #[]
  staticTypes := #[]
  resolved := Array.replicate 37 none
  statics := none }

def pool8 : Array CpInfo := pool [(2, .class_ 4), (1, u "java/lang/Object"), (0, u "<init>"), (0, u "()V"), (2, .fieldref 10 11), (0, .class_ 12), (0, .nameAndType 13 14), (0, u "java/lang/String"), (0, u "value"), (0, u "[B"), (0, .fieldref 10 16), (0, .nameAndType 17 18), (0, u "coder"), (0, u "B"), (2, u "hash"), (0, u "I"), (2, u "hashIsZero"), (0, u "Z"), (11, .fieldref 10 39), (0, .nameAndType 40 26), (0, u "COMPACT_STRINGS"), (66, .class_ 109), (1, u "java/lang/StringLatin1"), (32, u "()Z"), (191, u "()I"), (0, .methodref 10 336), (0, .nameAndType 17 337), (0, u "()B"), (154, .methodref 10 493), (0, .nameAndType 494 142), (0, u "isLatin1"), (10, .methodref 10 506), (0, .nameAndType 507 334), (0, u "length"), (67, .class_ 576), (0, u "java/lang/CharSequence"), (22, u "CASE_INSENSITIVE_ORDER"), (0, u "Ljava/util/Comparator;"), (32, .methodref 10 634), (0, .nameAndType 635 636), (0, u "indexOf"), (0, u "(II)I"), (0, .methodref 107 638), (0, .nameAndType 635 639), (0, u "([BIII)I"), (125, u "(I)I"), (335, u "serialPersistentFields"), (0, u "[Ljava/io/ObjectStreamField;"), (0, .class_ 1104), (0, u "java/lang/String$CaseInsensitiveComparator"), (1, .class_ 1107), (0, u "java/io/Serializable"), (0, .class_ 1109), (0, u "java/lang/Comparable"), (0, .class_ 1111), (0, u "java/lang/constant/Constable"), (0, .class_ 1113), (0, u "java/lang/constant/ConstantDesc"), (2, u "serialVersionUID"), (0, u "J"), (3, u "REPL"), (0, u "C"), (2, u "LATIN1"), (1, u "UTF16")] 323

def k8m0 : Method := { name := "<init>", desc := "()V", sig := { parameters := [], returnType := none }, accessFlags := 1, code := none }
def k8c1 : Code := { maxStack := 2, maxLocals := 1, code := jdk_42_method_54_code, exceptionTable := #[], attributes := #[] }
def k8m1 : Method := { name := "length", desc := "()I", sig := { parameters := [], returnType := some .int }, accessFlags := 1, code := some k8c1 }
def k8c2 : Code := { maxStack := 3, maxLocals := 2, code := jdk_42_method_79_code, exceptionTable := #[], attributes := #[] }
def k8m2 : Method := { name := "indexOf", desc := "(I)I", sig := { parameters := [.int], returnType := some .int }, accessFlags := 1, code := some k8c2 }
def k8c3 : Code := { maxStack := 4, maxLocals := 3, code := jdk_42_method_80_code, exceptionTable := #[], attributes := #[] }
def k8m3 : Method := { name := "indexOf", desc := "(II)I", sig := { parameters := [.int, .int], returnType := some .int }, accessFlags := 1, code := some k8c3 }
def k8c4 : Code := { maxStack := 1, maxLocals := 1, code := jdk_42_method_152_code, exceptionTable := #[], attributes := #[] }
def k8m4 : Method := { name := "coder", desc := "()B", sig := { parameters := [], returnType := some .byte }, accessFlags := 0, code := some k8c4 }
def k8c5 : Code := { maxStack := 1, maxLocals := 1, code := jdk_42_method_154_code, exceptionTable := #[], attributes := #[] }
def k8m5 : Method := { name := "isLatin1", desc := "()Z", sig := { parameters := [], returnType := some .boolean }, accessFlags := 0, code := some k8c5 }
/-- java/lang/String -/
def k8 : Class := { plain "java/lang/String" (some 0) with
  accessFlags := 49
  interfaces := #[3, 4, 5, 6, 7]
  cf := some (fileOf pool8 10 #[.nestMembers #[1103]] #[{ accessFlags := 1, nameIndex := 5, descriptorIndex := 6, attributes := #[] }, { accessFlags := 1, nameIndex := 507, descriptorIndex := 334, attributes := #[] }, { accessFlags := 1, nameIndex := 635, descriptorIndex := 765, attributes := #[] }, { accessFlags := 1, nameIndex := 635, descriptorIndex := 636, attributes := #[] }, { accessFlags := 0, nameIndex := 17, descriptorIndex := 337, attributes := #[] }, { accessFlags := 0, nameIndex := 494, descriptorIndex := 142, attributes := #[] }] 49 2 #[1106, 1108, 575, 1110, 1112] #[{ accessFlags := 18, nameIndex := 13, descriptorIndex := 14, attributes := #[] }, { accessFlags := 18, nameIndex := 17, descriptorIndex := 18, attributes := #[] }, { accessFlags := 2, nameIndex := 21, descriptorIndex := 22, attributes := #[] }, { accessFlags := 2, nameIndex := 25, descriptorIndex := 26, attributes := #[] }, { accessFlags := 26, nameIndex := 1116, descriptorIndex := 1117, attributes := #[] }, { accessFlags := 24, nameIndex := 40, descriptorIndex := 26, attributes := #[] }, { accessFlags := 26, nameIndex := 1101, descriptorIndex := 1102, attributes := #[] }, { accessFlags := 26, nameIndex := 1121, descriptorIndex := 1122, attributes := #[] }, { accessFlags := 25, nameIndex := 599, descriptorIndex := 600, attributes := #[] }, { accessFlags := 24, nameIndex := 1125, descriptorIndex := 18, attributes := #[] }, { accessFlags := 24, nameIndex := 1127, descriptorIndex := 18, attributes := #[] }])
  fields := #[{ name := "value", type := (.array .byte), accessFlags := 18, slot := 0, constantValue := 0 }, { name := "coder", type := .byte, accessFlags := 18, slot := 1, constantValue := 0 }, { name := "hash", type := .int, accessFlags := 2, slot := 2, constantValue := 0 }, { name := "hashIsZero", type := .boolean, accessFlags := 2, slot := 3, constantValue := 0 }, { name := "serialVersionUID", type := .long, accessFlags := 26, slot := 0, constantValue := 0 }, { name := "COMPACT_STRINGS", type := .boolean, accessFlags := 24, slot := 1, constantValue := 0 }, { name := "serialPersistentFields", type := (.array (.object "java/io/ObjectStreamField")), accessFlags := 26, slot := 2, constantValue := 0 }, { name := "REPL", type := .char, accessFlags := 26, slot := 3, constantValue := 0 }, { name := "CASE_INSENSITIVE_ORDER", type := (.object "java/util/Comparator"), accessFlags := 25, slot := 4, constantValue := 0 }, { name := "LATIN1", type := .byte, accessFlags := 24, slot := 5, constantValue := 0 }, { name := "UTF16", type := .byte, accessFlags := 24, slot := 6, constantValue := 0 }]
  methods := #[k8m0, k8m1, k8m2, k8m3, k8m4, k8m5]
  instanceTypes := #[(.array .byte), .byte, .int, .boolean]
  staticTypes := #[.long, .boolean, (.array (.object "java/io/ObjectStreamField")), .char, (.object "java/util/Comparator"), .byte, .byte]
  resolved := Array.replicate 1451 none
  statics := some 0 }

def pool9 : Array CpInfo := pool [(4, .class_ 6), (1, u "java/lang/Object"), (0, u "<init>"), (0, u "()V"), (5, .class_ 16), (1, u "java/lang/StringLatin1"), (21, .methodref 39 40), (0, .class_ 41), (0, .nameAndType 42 43), (0, u "java/lang/Math"), (0, u "min"), (0, u "(II)I"), (44, .methodref 14 89), (0, .nameAndType 90 91), (0, u "canEncode"), (0, u "(I)Z"), (0, .methodref 39 93), (0, .nameAndType 94 43), (0, u "max"), (0, .methodref 14 96), (0, .nameAndType 97 98), (0, u "indexOfChar"), (0, u "([BIII)I"), (2, u "indexOf"), (19, u "$assertionsDisabled"), (0, u "Z"), (98, .class_ 223), (1, u "java/lang/StringLatin1$LinesSpliterator"), (166, .class_ 391), (0, u "java/lang/StringLatin1$CharsSpliterator")] 3

def k9m0 : Method := { name := "<init>", desc := "()V", sig := { parameters := [], returnType := none }, accessFlags := 0, code := none }
def k9c1 : Code := { maxStack := 2, maxLocals := 1, code := jdk_43_method_4_code, exceptionTable := #[], attributes := #[] }
def k9m1 : Method := { name := "canEncode", desc := "(I)Z", sig := { parameters := [.int], returnType := some .boolean }, accessFlags := 9, code := some k9c1 }
def k9c2 : Code := { maxStack := 4, maxLocals := 4, code := jdk_43_method_22_code, exceptionTable := #[], attributes := #[] }
def k9m2 : Method := { name := "indexOf", desc := "([BIII)I", sig := { parameters := [(.array .byte), .int, .int, .int], returnType := some .int }, accessFlags := 9, code := some k9c2 }
def k9c3 : Code := { maxStack := 2, maxLocals := 6, code := jdk_43_method_23_code, exceptionTable := #[], attributes := #[] }
def k9m3 : Method := { name := "indexOfChar", desc := "([BIII)I", sig := { parameters := [(.array .byte), .int, .int, .int], returnType := some .int }, accessFlags := 10, code := some k9c3 }
/-- java/lang/StringLatin1 -/
def k9 : Class := { plain "java/lang/StringLatin1" (some 0) with
  accessFlags := 48
  interfaces := #[]
  cf := some (fileOf pool9 14 #[.nestMembers #[390, 221]] #[{ accessFlags := 0, nameIndex := 7, descriptorIndex := 8, attributes := #[] }, { accessFlags := 9, nameIndex := 90, descriptorIndex := 91, attributes := #[] }, { accessFlags := 9, nameIndex := 101, descriptorIndex := 98, attributes := #[] }, { accessFlags := 10, nameIndex := 97, descriptorIndex := 98, attributes := #[] }] 48 4 #[] #[{ accessFlags := 4120, nameIndex := 121, descriptorIndex := 122, attributes := #[] }])
  fields := #[{ name := "$assertionsDisabled", type := .boolean, accessFlags := 4120, slot := 0, constantValue := 0 }]
  methods := #[k9m0, k9m1, k9m2, k9m3]
  instanceTypes := #[]
  staticTypes := #[.boolean]
  resolved := Array.replicate 395 none
  statics := none }

def pool10 : Array CpInfo := pool [(1, .class_ 2), (0, u "java/lang/Math"), (1, .class_ 6), (1, u "java/lang/Object"), (0, u "<init>"), (0, u "()V"), (89, .class_ 100), (1, u "java/lang/Math$RandomNumberGeneratorHolder"), (71, u "negativeZeroFloatBits"), (0, u "J"), (2, u "negativeZeroDoubleBits"), (21, u "max"), (2, u "min"), (43, u "$assertionsDisabled"), (0, u "Z"), (88, u "(II)I"), (2, u "twoToTheDoubleScaleDown"), (0, u "D"), (4, u "twoToTheDoubleScaleUp"), (9, u "E"), (3, u "PI"), (2, u "TAU"), (2, u "DEGREES_TO_RADIANS"), (0, u "RADIANS_TO_DEGREES")] 94

def k10m0 : Method := { name := "<init>", desc := "()V", sig := { parameters := [], returnType := none }, accessFlags := 2, code := none }
def k10c1 : Code := { maxStack := 2, maxLocals := 2, code := jdk_29_method_65_code, exceptionTable := #[], attributes := #[] }
def k10m1 : Method := { name := "max", desc := "(II)I", sig := { parameters := [.int, .int], returnType := some .int }, accessFlags := 9, code := some k10c1 }
def k10c2 : Code := { maxStack := 2, maxLocals := 2, code := jdk_29_method_69_code, exceptionTable := #[], attributes := #[] }
def k10m2 : Method := { name := "min", desc := "(II)I", sig := { parameters := [.int, .int], returnType := some .int }, accessFlags := 9, code := some k10c2 }
/-- java/lang/Math -/
def k10 : Class := { plain "java/lang/Math" (some 0) with
  accessFlags := 49
  interfaces := #[]
  cf := some (fileOf pool10 1 #[.nestMembers #[98]] #[{ accessFlags := 2, nameIndex := 7, descriptorIndex := 8, attributes := #[] }, { accessFlags := 9, nameIndex := 198, descriptorIndex := 335, attributes := #[] }, { accessFlags := 9, nameIndex := 201, descriptorIndex := 335, attributes := #[] }] 49 4 #[] #[{ accessFlags := 25, nameIndex := 354, descriptorIndex := 339, attributes := #[] }, { accessFlags := 25, nameIndex := 358, descriptorIndex := 339, attributes := #[] }, { accessFlags := 25, nameIndex := 361, descriptorIndex := 339, attributes := #[] }, { accessFlags := 26, nameIndex := 364, descriptorIndex := 339, attributes := #[] }, { accessFlags := 26, nameIndex := 365, descriptorIndex := 339, attributes := #[] }, { accessFlags := 26, nameIndex := 172, descriptorIndex := 173, attributes := #[] }, { accessFlags := 26, nameIndex := 176, descriptorIndex := 173, attributes := #[] }, { accessFlags := 8, nameIndex := 344, descriptorIndex := 339, attributes := #[] }, { accessFlags := 8, nameIndex := 338, descriptorIndex := 339, attributes := #[] }, { accessFlags := 4120, nameIndex := 245, descriptorIndex := 246, attributes := #[] }])
  fields := #[{ name := "E", type := .double, accessFlags := 25, slot := 0, constantValue := 0 }, { name := "PI", type := .double, accessFlags := 25, slot := 1, constantValue := 0 }, { name := "TAU", type := .double, accessFlags := 25, slot := 2, constantValue := 0 }, { name := "DEGREES_TO_RADIANS", type := .double, accessFlags := 26, slot := 3, constantValue := 0 }, { name := "RADIANS_TO_DEGREES", type := .double, accessFlags := 26, slot := 4, constantValue := 0 }, { name := "negativeZeroFloatBits", type := .long, accessFlags := 26, slot := 5, constantValue := 0 }, { name := "negativeZeroDoubleBits", type := .long, accessFlags := 26, slot := 6, constantValue := 0 }, { name := "twoToTheDoubleScaleUp", type := .double, accessFlags := 8, slot := 7, constantValue := 0 }, { name := "twoToTheDoubleScaleDown", type := .double, accessFlags := 8, slot := 8, constantValue := 0 }, { name := "$assertionsDisabled", type := .boolean, accessFlags := 4120, slot := 9, constantValue := 0 }]
  methods := #[k10m0, k10m1, k10m2]
  instanceTypes := #[]
  staticTypes := #[.double, .double, .double, .double, .double, .long, .long, .double, .double, .boolean]
  resolved := Array.replicate 460 none
  statics := none }

def pool11 : Array CpInfo := pool [(2, .class_ 4), (1, u "java/lang/Object"), (0, u "<init>"), (0, u "()V"), (17, .class_ 26), (1, u "jdk/internal/util/Preconditions"), (28, .class_ 56), (0, u "jdk/internal/util/Preconditions$4"), (57, .class_ 115), (0, u "jdk/internal/util/Preconditions$1"), (7, u "SIOOBE_FORMATTER"), (0, u "Ljava/util/function/BiFunction;"), (0, .class_ 126), (0, u "jdk/internal/util/Preconditions$2"), (3, u "AIOOBE_FORMATTER"), (0, .class_ 132), (0, u "jdk/internal/util/Preconditions$3"), (3, u "IOOBE_FORMATTER")] 57

def k11m0 : Method := { name := "<init>", desc := "()V", sig := { parameters := [], returnType := none }, accessFlags := 1, code := none }
/-- jdk/internal/util/Preconditions -/
def k11 : Class := { plain "jdk/internal/util/Preconditions" (some 0) with
  accessFlags := 33
  interfaces := #[]
  cf := some (fileOf pool11 24 #[.nestMembers #[55, 131, 125, 114]] #[{ accessFlags := 1, nameIndex := 5, descriptorIndex := 6, attributes := #[] }] 33 2 #[] #[{ accessFlags := 25, nameIndex := 123, descriptorIndex := 124, attributes := #[] }, { accessFlags := 25, nameIndex := 130, descriptorIndex := 124, attributes := #[] }, { accessFlags := 25, nameIndex := 136, descriptorIndex := 124, attributes := #[] }])
  fields := #[{ name := "SIOOBE_FORMATTER", type := (.object "java/util/function/BiFunction"), accessFlags := 25, slot := 0, constantValue := 0 }, { name := "AIOOBE_FORMATTER", type := (.object "java/util/function/BiFunction"), accessFlags := 25, slot := 1, constantValue := 0 }, { name := "IOOBE_FORMATTER", type := (.object "java/util/function/BiFunction"), accessFlags := 25, slot := 2, constantValue := 0 }]
  methods := #[k11m0]
  instanceTypes := #[]
  staticTypes := #[(.object "java/util/function/BiFunction"), (.object "java/util/function/BiFunction"), (.object "java/util/function/BiFunction")]
  resolved := Array.replicate 194 none
  statics := some 1 }

def pool12 : Array CpInfo := pool [(9, u "<init>"), (6, .class_ 18), (1, u "java/lang/Object"), (0, u "()V"), (1, .class_ 23), (1, u "jdk/internal/util/ArraysSupport"), (0, u "LOG2_ARRAY_LONG_INDEX_SCALE"), (0, u "I"), (2, u "U"), (0, u "Ljdk/internal/misc/Unsafe;"), (8, u "BIG_ENDIAN"), (0, u "Z"), (8, u "LOG2_BYTE_BIT_SIZE"), (4, u "LOG2_ARRAY_INT_INDEX_SCALE"), (54, u "JLA"), (0, u "Ljdk/internal/access/JavaLangAccess;"), (11, u "LOG2_ARRAY_BOOLEAN_INDEX_SCALE"), (9, u "LOG2_ARRAY_BYTE_INDEX_SCALE"), (5, u "LOG2_ARRAY_CHAR_INDEX_SCALE"), (5, u "LOG2_ARRAY_SHORT_INDEX_SCALE"), (18, u "LOG2_ARRAY_FLOAT_INDEX_SCALE"), (24, u "LOG2_ARRAY_DOUBLE_INDEX_SCALE"), (89, u "T_BOOLEAN"), (2, u "T_CHAR"), (1, u "T_FLOAT"), (1, u "T_DOUBLE"), (1, u "T_BYTE"), (1, u "T_SHORT"), (1, u "T_INT"), (1, u "T_LONG"), (1, u "SOFT_MAX_ARRAY_LENGTH")] 83

def k12m0 : Method := { name := "<init>", desc := "()V", sig := { parameters := [], returnType := none }, accessFlags := 2, code := none }
/-- jdk/internal/util/ArraysSupport -/
def k12 : Class := { plain "jdk/internal/util/ArraysSupport" (some 0) with
  accessFlags := 33
  interfaces := #[]
  cf := some (fileOf pool12 21 #[] #[{ accessFlags := 2, nameIndex := 9, descriptorIndex := 19, attributes := #[] }] 33 16 #[] #[{ accessFlags := 24, nameIndex := 28, descriptorIndex := 29, attributes := #[] }, { accessFlags := 26, nameIndex := 38, descriptorIndex := 39, attributes := #[] }, { accessFlags := 25, nameIndex := 121, descriptorIndex := 25, attributes := #[] }, { accessFlags := 25, nameIndex := 131, descriptorIndex := 25, attributes := #[] }, { accessFlags := 25, nameIndex := 137, descriptorIndex := 25, attributes := #[] }, { accessFlags := 25, nameIndex := 143, descriptorIndex := 25, attributes := #[] }, { accessFlags := 25, nameIndex := 53, descriptorIndex := 25, attributes := #[] }, { accessFlags := 25, nameIndex := 24, descriptorIndex := 25, attributes := #[] }, { accessFlags := 25, nameIndex := 162, descriptorIndex := 25, attributes := #[] }, { accessFlags := 25, nameIndex := 187, descriptorIndex := 25, attributes := #[] }, { accessFlags := 26, nameIndex := 48, descriptorIndex := 25, attributes := #[] }, { accessFlags := 25, nameIndex := 277, descriptorIndex := 25, attributes := #[] }, { accessFlags := 25, nameIndex := 280, descriptorIndex := 25, attributes := #[] }, { accessFlags := 25, nameIndex := 282, descriptorIndex := 25, attributes := #[] }, { accessFlags := 25, nameIndex := 284, descriptorIndex := 25, attributes := #[] }, { accessFlags := 25, nameIndex := 286, descriptorIndex := 25, attributes := #[] }, { accessFlags := 25, nameIndex := 288, descriptorIndex := 25, attributes := #[] }, { accessFlags := 25, nameIndex := 290, descriptorIndex := 25, attributes := #[] }, { accessFlags := 25, nameIndex := 292, descriptorIndex := 25, attributes := #[] }, { accessFlags := 26, nameIndex := 108, descriptorIndex := 109, attributes := #[] }, { accessFlags := 25, nameIndex := 294, descriptorIndex := 25, attributes := #[] }])
  fields := #[{ name := "U", type := (.object "jdk/internal/misc/Unsafe"), accessFlags := 24, slot := 0, constantValue := 0 }, { name := "BIG_ENDIAN", type := .boolean, accessFlags := 26, slot := 1, constantValue := 0 }, { name := "LOG2_ARRAY_BOOLEAN_INDEX_SCALE", type := .int, accessFlags := 25, slot := 2, constantValue := 0 }, { name := "LOG2_ARRAY_BYTE_INDEX_SCALE", type := .int, accessFlags := 25, slot := 3, constantValue := 0 }, { name := "LOG2_ARRAY_CHAR_INDEX_SCALE", type := .int, accessFlags := 25, slot := 4, constantValue := 0 }, { name := "LOG2_ARRAY_SHORT_INDEX_SCALE", type := .int, accessFlags := 25, slot := 5, constantValue := 0 }, { name := "LOG2_ARRAY_INT_INDEX_SCALE", type := .int, accessFlags := 25, slot := 6, constantValue := 0 }, { name := "LOG2_ARRAY_LONG_INDEX_SCALE", type := .int, accessFlags := 25, slot := 7, constantValue := 0 }, { name := "LOG2_ARRAY_FLOAT_INDEX_SCALE", type := .int, accessFlags := 25, slot := 8, constantValue := 0 }, { name := "LOG2_ARRAY_DOUBLE_INDEX_SCALE", type := .int, accessFlags := 25, slot := 9, constantValue := 0 }, { name := "LOG2_BYTE_BIT_SIZE", type := .int, accessFlags := 26, slot := 10, constantValue := 0 }, { name := "T_BOOLEAN", type := .int, accessFlags := 25, slot := 11, constantValue := 0 }, { name := "T_CHAR", type := .int, accessFlags := 25, slot := 12, constantValue := 0 }, { name := "T_FLOAT", type := .int, accessFlags := 25, slot := 13, constantValue := 0 }, { name := "T_DOUBLE", type := .int, accessFlags := 25, slot := 14, constantValue := 0 }, { name := "T_BYTE", type := .int, accessFlags := 25, slot := 15, constantValue := 0 }, { name := "T_SHORT", type := .int, accessFlags := 25, slot := 16, constantValue := 0 }, { name := "T_INT", type := .int, accessFlags := 25, slot := 17, constantValue := 0 }, { name := "T_LONG", type := .int, accessFlags := 25, slot := 18, constantValue := 0 }, { name := "JLA", type := (.object "jdk/internal/access/JavaLangAccess"), accessFlags := 26, slot := 19, constantValue := 0 }, { name := "SOFT_MAX_ARRAY_LENGTH", type := .int, accessFlags := 25, slot := 20, constantValue := 0 }]
  methods := #[k12m0]
  instanceTypes := #[]
  staticTypes := #[(.object "jdk/internal/misc/Unsafe"), .boolean, .int, .int, .int, .int, .int, .int, .int, .int, .int, .int, .int, .int, .int, .int, .int, .int, .int, (.object "jdk/internal/access/JavaLangAccess"), .int]
  resolved := Array.replicate 378 none
  statics := none }

def pool13 : Array CpInfo := pool [(1, u "java/lang/Cloneable"), (0, .class_ 1), (0, u "java/lang/Object"), (0, .class_ 3)] 3

/-- java/lang/Cloneable -/
def k13 : Class := { plain "java/lang/Cloneable" (some 0) with
  accessFlags := 1537
  interfaces := #[]
  cf := some (fileOf pool13 2 #[] #[] 1537 4 #[] #[])
  fields := #[]
  methods := #[]
  instanceTypes := #[]
  staticTypes := #[]
  resolved := Array.replicate 8 none
  statics := none }

/-- the primitive byte -/
def k14 : Class := { plain "byte" none with kind := .primitive 'B', accessFlags := 0x411 }
/-- [B -/
def k15 : Class := { plain "[B" (some 0) with kind := .array 14 .byte, interfaces := #[13, 3], accessFlags := 1041 }

/-- the primitive int -/
def k16 : Class := { plain "int" none with kind := .primitive 'I', accessFlags := 0x411 }
/-- [I -/
def k17 : Class := { plain "[I" (some 0) with kind := .array 16 .int, interfaces := #[13, 3], accessFlags := 1041 }

def heap : Heap := #[{ cls := 8, slots := #[.long 0, .int 1, .null, .int 0, .null, .int 0, .int 0], vm := .statics 8 },
  { cls := 11, slots := #[.null, .null, .null], vm := .statics 11 }]
def classes : Array Class := #[k0, k1, k2, k3, k4, k5, k6, k7, k8, k9, k10, k11, k12, k13, k14, k15, k16, k17]
def interned : List (Array UInt16 × Addr) := []
def slotsUsed : Nat := 10
def theMethod : MethodId := ⟨1, 2⟩
def args0 : Array Value := #[.int 65]
def aboutOver (below : List Frame) : State where
  vm := { classes := classes, interned := interned.toArray }
  heap := heap
  slotsUsed := slotsUsed
  threads := #[{ frames := .invoking theMethod args0 :: below }]
def below0 : List Frame := [.native { method := ⟨0, 0⟩, args := #[] }]
def about1 : State := aboutOver below0
def p0 : Program := .bare "" "" ""
def e0 : Env := launch0.env 0 0 0
theorem w_frames : about1.frames = Frame.invoking theMethod args0 :: below0 := rfl
set_option maxRecDepth 65536 in
theorem w_args : argsFit about1.vm theMethod args0 = true := by decide +kernel
set_option maxRecDepth 65536 in
theorem w_heap : heapFits about1 = true := by decide +kernel
set_option maxRecDepth 65536 in
theorem w_runnable : about1.curStatus? = some .runnable := by decide +kernel
set_option maxRecDepth 65536 in
theorem w_alone : about1.alone = true := by decide +kernel
set_option maxRecDepth 65536 in
theorem w_named : about1.methodNamed? x = some theMethod := by decide +kernel
set_option maxRecDepth 65536 in
theorem w_hears : about1.hears theMethod below0 = true := by decide +kernel
set_option maxRecDepth 65536 in
theorem w_ripe : about1.ripe theMethod args0 below0 = true := by decide +kernel
theorem w_running : about1.status = .running := rfl
set_option maxRecDepth 65536 in
theorem w_room : about1.hasRoom e0.platform room_1 = true :=
  launch0.hasRoom_least _ room_1 (by decide +kernel) (by decide +kernel) (by decide +kernel) (by decide +kernel) (by decide +kernel) (by decide +kernel)
theorem allAtoms_all (ts : List Jvm.Cond) (a : Array Jvm.Value) (st : Jvm.State) : (allAtoms ts).before a st = ts.all (fun c => c.before a st) := by
  induction ts with
  | nil => rfl
  | cons c t ih =>
    show (Jvm.Cond.and c (allAtoms t)).before a st = _
    rw [Jvm.Cond.before_and, ih, List.all_cons]
def words1 : List Jvm.Cond := Jvm.Cond.code x code maxLocals ret :: tables_1
/-- a 'code' word, met by the world's own term for the bytes: nothing is compared byte by byte -/
theorem code_word {y : MethodName} {bytes : ByteArray} {mx : Nat} {rt : Option FieldType} {a : Array Value} {s : State} {m : MethodId} {meth : Method} {c : Code} (h1 : s.methodNamed? y = some m) (h2 : s.vm.method? m = some meth) (h3 : meth.code = some c) (h4 : c.code = bytes)
    (h5 : (c.maxLocals == mx && c.exceptionTable.isEmpty && decide (c.maxStack ≤ mostOperands) && decide (meth.sig.returnType = rt) && !meth.locks && decide (parseMethodDescriptor y.desc = some meth.sig)) = true) : (Jvm.Cond.code y bytes mx rt).before a s = true := by
  simp only [Bool.and_eq_true, beq_iff_eq, Bool.not_eq_true', decide_eq_true_eq] at h5
  obtain ⟨⟨⟨⟨⟨g1, g2⟩, g3⟩, g4⟩, g5⟩, g6⟩ := h5
  simp [Cond.before, Cond.holds, Cond.value, h1, h2, h3, h4, g1, g2, g3, g4, g5, g6]
def isCode : Jvm.Cond → Bool
  | .code _ _ _ _ => true
  | _ => false
theorem all_split {L : List Jvm.Cond} {P : Jvm.Cond → Bool} (h1 : L.all (fun c => isCode c || P c) = true) (h2 : ∀ c ∈ L.filter isCode, P c = true) : L.all P = true := by
  refine List.all_eq_true.mpr fun c hc => ?_
  have h := List.all_eq_true.mp h1 c hc
  rcases Bool.eq_false_or_eq_true (isCode c) with hi | hi
  · exact h2 c (List.mem_filter.mpr ⟨hc, hi⟩)
  · simpa [hi] using h
set_option maxRecDepth 65536 in
theorem w_c0 : (Jvm.Cond.code x code maxLocals ret).before args0 about1 = true := code_word (m := ⟨1, 2⟩) (meth := k1m2) (c := k1c2) (by decide +kernel) rfl rfl rfl (by decide +kernel)
set_option maxRecDepth 65536 in
theorem w_c1 : (Jvm.Cond.code ({ cls := "com/example/rolegate/rolegate/HttpSyntax", name := "isTokenCharacter", desc := "(C)Z" } : Jvm.MethodName) prog_2_method_3_code (2 : Nat) (Option.some Jvm.ClassFile.FieldType.boolean)).before args0 about1 = true := code_word (m := ⟨2, 1⟩) (meth := k2m1) (c := k2c1) (by decide +kernel) rfl rfl rfl (by decide +kernel)
set_option maxRecDepth 65536 in
theorem w_c2 : (Jvm.Cond.code ({ cls := "java/lang/String", name := "indexOf", desc := "(I)I" } : Jvm.MethodName) jdk_42_method_79_code (2 : Nat) (Option.some Jvm.ClassFile.FieldType.int)).before args0 about1 = true := code_word (m := ⟨8, 2⟩) (meth := k8m2) (c := k8c2) (by decide +kernel) rfl rfl rfl (by decide +kernel)
set_option maxRecDepth 65536 in
theorem w_c3 : (Jvm.Cond.code ({ cls := "java/lang/String", name := "indexOf", desc := "(II)I" } : Jvm.MethodName) jdk_42_method_80_code (3 : Nat) (Option.some Jvm.ClassFile.FieldType.int)).before args0 about1 = true := code_word (m := ⟨8, 3⟩) (meth := k8m3) (c := k8c3) (by decide +kernel) rfl rfl rfl (by decide +kernel)
set_option maxRecDepth 65536 in
theorem w_c4 : (Jvm.Cond.code ({ cls := "java/lang/String", name := "isLatin1", desc := "()Z" } : Jvm.MethodName) jdk_42_method_154_code (1 : Nat) (Option.some Jvm.ClassFile.FieldType.boolean)).before args0 about1 = true := code_word (m := ⟨8, 5⟩) (meth := k8m5) (c := k8c5) (by decide +kernel) rfl rfl rfl (by decide +kernel)
set_option maxRecDepth 65536 in
theorem w_c5 : (Jvm.Cond.code ({ cls := "java/lang/String", name := "length", desc := "()I" } : Jvm.MethodName) jdk_42_method_54_code (1 : Nat) (Option.some Jvm.ClassFile.FieldType.int)).before args0 about1 = true := code_word (m := ⟨8, 1⟩) (meth := k8m1) (c := k8c1) (by decide +kernel) rfl rfl rfl (by decide +kernel)
set_option maxRecDepth 65536 in
theorem w_c6 : (Jvm.Cond.code ({ cls := "java/lang/String", name := "coder", desc := "()B" } : Jvm.MethodName) jdk_42_method_152_code (1 : Nat) (Option.some Jvm.ClassFile.FieldType.byte)).before args0 about1 = true := code_word (m := ⟨8, 4⟩) (meth := k8m4) (c := k8c4) (by decide +kernel) rfl rfl rfl (by decide +kernel)
set_option maxRecDepth 65536 in
theorem w_c7 : (Jvm.Cond.code ({ cls := "java/lang/StringLatin1", name := "indexOf", desc := "([BIII)I" } : Jvm.MethodName) jdk_43_method_22_code (4 : Nat) (Option.some Jvm.ClassFile.FieldType.int)).before args0 about1 = true := code_word (m := ⟨9, 2⟩) (meth := k9m2) (c := k9c2) (by decide +kernel) rfl rfl rfl (by decide +kernel)
set_option maxRecDepth 65536 in
theorem w_c8 : (Jvm.Cond.code ({ cls := "java/lang/StringLatin1", name := "canEncode", desc := "(I)Z" } : Jvm.MethodName) jdk_43_method_4_code (1 : Nat) (Option.some Jvm.ClassFile.FieldType.boolean)).before args0 about1 = true := code_word (m := ⟨9, 1⟩) (meth := k9m1) (c := k9c1) (by decide +kernel) rfl rfl rfl (by decide +kernel)
set_option maxRecDepth 65536 in
theorem w_c9 : (Jvm.Cond.code ({ cls := "java/lang/Math", name := "max", desc := "(II)I" } : Jvm.MethodName) jdk_29_method_65_code (2 : Nat) (Option.some Jvm.ClassFile.FieldType.int)).before args0 about1 = true := code_word (m := ⟨10, 1⟩) (meth := k10m1) (c := k10c1) (by decide +kernel) rfl rfl rfl (by decide +kernel)
set_option maxRecDepth 65536 in
theorem w_c10 : (Jvm.Cond.code ({ cls := "java/lang/Math", name := "min", desc := "(II)I" } : Jvm.MethodName) jdk_29_method_69_code (2 : Nat) (Option.some Jvm.ClassFile.FieldType.int)).before args0 about1 = true := code_word (m := ⟨10, 2⟩) (meth := k10m2) (c := k10c2) (by decide +kernel) rfl rfl rfl (by decide +kernel)
set_option maxRecDepth 65536 in
theorem w_c11 : (Jvm.Cond.code ({ cls := "java/lang/StringLatin1", name := "indexOfChar", desc := "([BIII)I" } : Jvm.MethodName) jdk_43_method_23_code (6 : Nat) (Option.some Jvm.ClassFile.FieldType.int)).before args0 about1 = true := code_word (m := ⟨9, 3⟩) (meth := k9m3) (c := k9c3) (by decide +kernel) rfl rfl rfl (by decide +kernel)
set_option maxRecDepth 65536 in
theorem w_c12 : (Jvm.Cond.code ({ cls := "com/example/rolegate/rolegate/HttpSyntaxIsTokenCharacterPinLaw", name := "isDelimiter", desc := "(C)Z" } : Jvm.MethodName) method_2_code (1 : Nat) (Option.some Jvm.ClassFile.FieldType.boolean)).before args0 about1 = true := code_word (m := ⟨1, 1⟩) (meth := k1m1) (c := k1c1) (by decide +kernel) rfl rfl rfl (by decide +kernel)
def codes1 : List Jvm.Cond := [Jvm.Cond.code x code maxLocals ret, Jvm.Cond.code ({ cls := "com/example/rolegate/rolegate/HttpSyntax", name := "isTokenCharacter", desc := "(C)Z" } : Jvm.MethodName) prog_2_method_3_code (2 : Nat) (Option.some Jvm.ClassFile.FieldType.boolean), Jvm.Cond.code ({ cls := "java/lang/String", name := "indexOf", desc := "(I)I" } : Jvm.MethodName) jdk_42_method_79_code (2 : Nat) (Option.some Jvm.ClassFile.FieldType.int), Jvm.Cond.code ({ cls := "java/lang/String", name := "indexOf", desc := "(II)I" } : Jvm.MethodName) jdk_42_method_80_code (3 : Nat) (Option.some Jvm.ClassFile.FieldType.int), Jvm.Cond.code ({ cls := "java/lang/String", name := "isLatin1", desc := "()Z" } : Jvm.MethodName) jdk_42_method_154_code (1 : Nat) (Option.some Jvm.ClassFile.FieldType.boolean), Jvm.Cond.code ({ cls := "java/lang/String", name := "length", desc := "()I" } : Jvm.MethodName) jdk_42_method_54_code (1 : Nat) (Option.some Jvm.ClassFile.FieldType.int), Jvm.Cond.code ({ cls := "java/lang/String", name := "coder", desc := "()B" } : Jvm.MethodName) jdk_42_method_152_code (1 : Nat) (Option.some Jvm.ClassFile.FieldType.byte), Jvm.Cond.code ({ cls := "java/lang/StringLatin1", name := "indexOf", desc := "([BIII)I" } : Jvm.MethodName) jdk_43_method_22_code (4 : Nat) (Option.some Jvm.ClassFile.FieldType.int), Jvm.Cond.code ({ cls := "java/lang/StringLatin1", name := "canEncode", desc := "(I)Z" } : Jvm.MethodName) jdk_43_method_4_code (1 : Nat) (Option.some Jvm.ClassFile.FieldType.boolean), Jvm.Cond.code ({ cls := "java/lang/Math", name := "max", desc := "(II)I" } : Jvm.MethodName) jdk_29_method_65_code (2 : Nat) (Option.some Jvm.ClassFile.FieldType.int), Jvm.Cond.code ({ cls := "java/lang/Math", name := "min", desc := "(II)I" } : Jvm.MethodName) jdk_29_method_69_code (2 : Nat) (Option.some Jvm.ClassFile.FieldType.int), Jvm.Cond.code ({ cls := "java/lang/StringLatin1", name := "indexOfChar", desc := "([BIII)I" } : Jvm.MethodName) jdk_43_method_23_code (6 : Nat) (Option.some Jvm.ClassFile.FieldType.int), Jvm.Cond.code ({ cls := "com/example/rolegate/rolegate/HttpSyntaxIsTokenCharacterPinLaw", name := "isDelimiter", desc := "(C)Z" } : Jvm.MethodName) method_2_code (1 : Nat) (Option.some Jvm.ClassFile.FieldType.boolean)]
set_option maxRecDepth 65536 in
theorem codes_eq : words1.filter isCode = codes1 := rfl
theorem w_codes : ∀ c ∈ words1.filter isCode, c.before args0 about1 = true := by
  rw [codes_eq]
  intro c hc
  simp only [codes1, List.mem_cons, List.not_mem_nil, or_false] at hc
  rcases hc with rfl | rfl | rfl | rfl | rfl | rfl | rfl | rfl | rfl | rfl | rfl | rfl | rfl
  · exact w_c0
  · exact w_c1
  · exact w_c2
  · exact w_c3
  · exact w_c4
  · exact w_c5
  · exact w_c6
  · exact w_c7
  · exact w_c8
  · exact w_c9
  · exact w_c10
  · exact w_c11
  · exact w_c12
set_option maxRecDepth 65536 in
theorem w_t1 : (words1.take 24).all (fun c => isCode c || c.before args0 about1) = true := by decide +kernel
set_option maxRecDepth 65536 in
theorem w_t2 : ((words1.drop 24).take 24).all (fun c => isCode c || c.before args0 about1) = true := by decide +kernel
set_option maxRecDepth 65536 in
theorem w_t3 : ((words1.drop 24).drop 24).all (fun c => isCode c || c.before args0 about1) = true := by decide +kernel
theorem w_tables : (allAtoms (Jvm.Cond.code x code maxLocals ret :: tables_1)).before args0 about1 = true := by
  rw [allAtoms_all]
  show words1.all (fun c => c.before args0 about1) = true
  refine all_split ?_ w_codes
  rw [← List.take_append_drop 24 words1, List.all_append, w_t1, ← List.take_append_drop 24 (words1.drop 24), List.all_append, w_t2, w_t3]
  rfl
set_option maxRecDepth 65536 in
theorem w_rest : rest_1_c.before args0 about1 = true := by decide +kernel
set_option maxRecDepth 65536 in
theorem w_case : (Jvm.Cond.and given_1 narrow_1).before args0 about1 = true := by decide +kernel
set_option maxRecDepth 65536 in
theorem w_consts : constsHeld consts_1 about1 := Jvm.Lit.constsHeldB_iff.mp (by decide +kernel)
theorem w_applies : (headSpec (Jvm.Cond.code x code maxLocals ret :: tables_1) room_1).applies x e0.platform about1 = true :=
  (Spec.applies_iff w_frames).mpr ⟨w_running, w_runnable, w_alone, w_named, w_hears, w_ripe, w_room, w_tables⟩
theorem atStart : AtStart classFile x code maxLocals ret World_1 tables_1 room_1 Calls_1 rest_1 Pre_1 launch0 p0 e0 about1 theMethod args0 below0 :=
  ⟨lists_1, trivial, launch0.admits_env _ _ _, launch0.least_env, fairChoices_fair.cas, fairChoices_fair.clock, w_frames, w_args, w_heap, w_applies, ⟨w_consts, trivial⟩, w_rest, w_case⟩
end start1
theorem witness_1 : WitnessClaimed_1 := ⟨start1.p0, start1.e0, start1.about1, start1.theMethod, start1.args0, start1.below0, start1.atStart⟩
end Jvm.Pilot.@@N@@
