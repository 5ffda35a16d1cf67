import JvmDerived
import JvmDerived.Pilot.@@N@@Statement
import JvmDerived.Pilot.@@N@@Code
set_option linter.unusedVariables false
set_option linter.unusedSimpArgs false
namespace Jvm.OwnWalk
open Sem ClassFile Op Lib Jvm.Stand Jvm.Free Jvm.LawKit Jvm.RoadKit
section Own
variable {p : Program} {l : Launch} {e : Env} {R : Room} {s : State} {m : MethodId} {args : Array Value} {below : List Frame} {meth : Method} {c : Code} {T : State} {locs : List Loc} {cells slots : Nat} {Z : State} {a0 : Array Value} {h h' : Heap} {Q : Option Value → Heap → List Loc → Prop} {kc ks : Nat} {G : Outcome → State → Prop} {A B : State}
/-- from A the invocation comes to its end, and Q holds of what it returns, of the heap and of the places written -/
def Goes (p : Program) (e : Env) (below : List Frame) (G : Outcome → State → Prop) (A : State) : Prop :=
  ∃ s₂ o, Steps p.tables e below A s₂ ∧ s₂.status = .running ∧ Ended s₂ below o ∧ G o s₂
def EndN (s : State) (Q : Option Value → Heap → List Loc → Prop) (kc ks : Nat) (o : Outcome) (t : State) : Prop := ∃ v L, o = .returned v ∧ Q v t.heap L ∧ FrameEnd s o t L kc ks
theorem go (k : ∀ t, Steps p.tables e below B t → Steps p.tables e below A t) (g : Goes p e below G B) : Goes p e below G A := by
  obtain ⟨s₂, o, st, r⟩ := g
  exact ⟨s₂, o, k _ st, r⟩
theorem goE {g g' : JFrame} (q : g = g') (k : Goes p e below G (T.setTop g')) : Goes p e below G (T.setTop g) := q ▸ k
theorem goEnd (X : Stand p l e R s m args below meth c T locs cells slots) {v : Option Value} (hv : meth.sig.returnType = none → v = none) (hlocks : meth.locks = false) (hc : cells ≤ kc) (hs : slots ≤ ks) (eT : T.heap = h) (hq : Q v h locs)
    (k : ∀ fs, (∀ (f : JFrame) (acts : List Action), f.method = m → f.locked = none → f.entered = [] → (doReturn e (T.setTop f) acts v).1 = T.setFrames fs) → Steps p.tables e below A (T.setFrames fs)) : Goes p e below (EndN s Q kc ks) A := by
  obtain ⟨fs, hr, hrun, hended, hW, hsame⟩ := X.leave hv hlocks
  exact ⟨_, _, k fs hr, hrun, hended, _, _, rfl, (by show Q v T.heap locs; rw [eT]; exact hq), ⟨_, rfl⟩, hW, hsame.mono hc hs⟩
theorem goRetV (X : Stand p l e R s m args below meth c T locs cells slots) (hx : p.tables.exec = Jvm.exec) {pc : Nat} {Ls : Array Slot} {w : Value} {t : FieldType} {i : Instr} {rest : List Value} (hret : meth.sig.returnType = some t) (hlocks : meth.locks = false) (hd : decode c.code pc = .ok (i, 1)) (hn : narrow t w = w)
    (hi : (i = .ireturn ∧ (t = .int ∨ t = .boolean ∨ t = .byte ∨ t = .char ∨ t = .short) ∧ ∃ z, w = .int z) ∨ (i = .lreturn ∧ t = .long ∧ ∃ z, w = .long z) ∨ (i = .dreturn ∧ t = .double ∧ ∃ z, w = .double z) ∨ (i = .freturn ∧ t = .float ∧ ∃ z, w = .float z) ∨ (i = .areturn ∧ t.isReference = true ∧ w.isRef = true))
    (hc : cells ≤ kc) (hs : slots ≤ ks) (eT : T.heap = h) (hq : Q (some w) h locs) : Goes p e below (EndN s Q kc ks) (T.setTop (mkF m pc Ls (w :: rest))) :=
  goEnd X (v := some w) (fun q => by rw [hret] at q; cases q) hlocks hc hs eT hq fun fs hr => retOut X hx hret hn hi hd hr
theorem goRetI (X : Stand p l e R s m args below meth c T locs cells slots) (hx : p.tables.exec = Jvm.exec) {pc : Nat} {Ls : Array Slot} {z : Int32} {rest : List Value} (hret : meth.sig.returnType = some .int) (hlocks : meth.locks = false) (hd : decode c.code pc = .ok (.ireturn, 1))
    (hc : cells ≤ kc) (hs : slots ≤ ks) (eT : T.heap = h) (hq : Q (some (.int z)) h locs) : Goes p e below (EndN s Q kc ks) (T.setTop (mkF m pc Ls (.int z :: rest))) :=
  goRetV X hx hret hlocks hd rfl (Or.inl ⟨rfl, Or.inl rfl, _, rfl⟩) hc hs eT hq
theorem goRetJ (X : Stand p l e R s m args below meth c T locs cells slots) (hx : p.tables.exec = Jvm.exec) {pc : Nat} {Ls : Array Slot} {z : Int64} {rest : List Value} (hret : meth.sig.returnType = some .long) (hlocks : meth.locks = false) (hd : decode c.code pc = .ok (.lreturn, 1))
    (hc : cells ≤ kc) (hs : slots ≤ ks) (eT : T.heap = h) (hq : Q (some (.long z)) h locs) : Goes p e below (EndN s Q kc ks) (T.setTop (mkF m pc Ls (.long z :: rest))) :=
  goRetV X hx hret hlocks hd rfl (Or.inr (Or.inl ⟨rfl, rfl, _, rfl⟩)) hc hs eT hq
theorem goRetD (X : Stand p l e R s m args below meth c T locs cells slots) (hx : p.tables.exec = Jvm.exec) {pc : Nat} {Ls : Array Slot} {z : UInt64} {rest : List Value} (hret : meth.sig.returnType = some .double) (hlocks : meth.locks = false) (hd : decode c.code pc = .ok (.dreturn, 1))
    (hc : cells ≤ kc) (hs : slots ≤ ks) (eT : T.heap = h) (hq : Q (some (.double z)) h locs) : Goes p e below (EndN s Q kc ks) (T.setTop (mkF m pc Ls (.double z :: rest))) :=
  goRetV X hx hret hlocks hd rfl (Or.inr (Or.inr (Or.inl ⟨rfl, rfl, _, rfl⟩))) hc hs eT hq
theorem goRetA (X : Stand p l e R s m args below meth c T locs cells slots) (hx : p.tables.exec = Jvm.exec) {pc : Nat} {Ls : Array Slot} {w : Value} {t : FieldType} {rest : List Value} (hret : meth.sig.returnType = some t) (hlocks : meth.locks = false) (ht : t.isReference = true) (hw : w.isRef = true) (hd : decode c.code pc = .ok (.areturn, 1))
    (hc : cells ≤ kc) (hs : slots ≤ ks) (eT : T.heap = h) (hq : Q (some w) h locs) : Goes p e below (EndN s Q kc ks) (T.setTop (mkF m pc Ls (w :: rest))) :=
  goRetV X hx hret hlocks hd (by cases t <;> first | (cases ht; done) | rfl) (Or.inr (Or.inr (Or.inr (Or.inr ⟨rfl, ht, hw⟩)))) hc hs eT hq
theorem goRetN (X : Stand p l e R s m args below meth c T locs cells slots) (hx : p.tables.exec = Jvm.exec) {pc : Nat} {Ls : Array Slot} {z z' : Int32} {t : FieldType} {rest : List Value} (hret : meth.sig.returnType = some t) (hlocks : meth.locks = false) (ht : t = .boolean ∨ t = .byte ∨ t = .char ∨ t = .short) (hd : decode c.code pc = .ok (.ireturn, 1)) (hz : nar t z = z')
    (hc : cells ≤ kc) (hs : slots ≤ ks) (eT : T.heap = h) (hq : Q (some (.int z')) h locs) : Goes p e below (EndN s Q kc ks) (T.setTop (mkF m pc Ls (.int z :: rest))) := by
  subst hz
  exact goEnd X (v := some (.int (nar t z))) (fun q => by rw [hret] at q; cases q) hlocks hc hs eT hq fun fs hr => retN X hx hret ht hd hr
theorem goRet0 (X : Stand p l e R s m args below meth c T locs cells slots) (hx : p.tables.exec = Jvm.exec) {pc : Nat} {Ls : Array Slot} (hret : meth.sig.returnType = none) (hlocks : meth.locks = false) (hd : decode c.code pc = .ok (.return_, 1))
    (hc : cells ≤ kc) (hs : slots ≤ ks) (eT : T.heap = h) (hq : Q none h locs) : Goes p e below (EndN s Q kc ks) (T.setTop (mkF m pc Ls [])) :=
  goEnd X (v := none) (fun _ => rfl) hlocks hc hs eT hq fun fs hr => X.returnOut hx hret hd hr
/-- a body's contract: called with these arguments at this heap it returns, and Q holds -/
def Ctr (l : Launch) (Z : State) (y : MethodName) (bytes : ByteArray) (maxL : Nat) (ret : Option FieldType) (ws : List Cond) (rm : Room) (as : Array Value) (h0 : Heap) (Q : Option Value → Heap → List Loc → Prop) : Prop :=
  MetFree l y (head1 (Cond.code y bytes maxL ret :: ws) rm) (fun a U => a = as ∧ Z.Warmed39 U.vm ∧ U.heap = h0) (fun _ _ _ _ _ => True) (fun _ U o U' => ∃ v L, o = .returned v ∧ Q v U'.heap L ∧ FrameEnd U o U' L rm.cells rm.slots)
theorem ctr {y : MethodName} {bytes : ByteArray} {maxL : Nat} {ret : Option FieldType} {ws : List Cond} {rm : Room} {as : Array Value} {h0 : Heap} (hpn : plainFor y = true)
    (body : ∀ (p : Program) (e : Env) (s : State) (m : MethodId) (below : List Frame) (meth : Method) (c : Code) (s₁ : State), p.tables.exec = Jvm.exec → c.code = bytes → c.maxLocals = maxL → s.vm.findClass y.cls = some m.cls → meth.name = y.name → meth.sig.returnType = ret → meth.locks = false → Z.Warmed39 s.vm →
      Stand p l e rm s m as below meth c s₁ [] 0 0 → s₁.heap = h0 → Goes p e below (EndN s Q rm.cells rm.slots) (s₁.setTop (entryFrame m as maxL))) : Ctr l Z y bytes maxL ret ws rm as h0 Q := by
  refine MetFree.of_bodySF hpn hisR ?_
  intro p e s m args below meth c s₁ Bd hml0 hP hK
  obtain ⟨rfl, hZ, hh⟩ := hP
  exact body p e s m below meth c s₁ Bd.exec Bd.bytes hml0 (findClass_of_methodNamed Bd.named) (name_of_methodNamed Bd.named Bd.method).1 Bd.returns Bd.notSynchronized hZ (Stand.of_body Bd) (by rw [← hh, Bd.state]; rfl)
theorem goCallS (X : Stand p l e R s m args below meth c T locs cells slots) (hx : p.tables.exec = Jvm.exec) (hZ : Z.Warmed39 s.vm) {own : String} {index : Nat} {y : MethodName} {bytes : ByteArray} {maxL : Nat} {ret : Option FieldType} (hown : s.vm.findClass own = some m.cls)
    (w1 : (Cond.methodLink own index y).before a0 Z = true) (w2 : (Cond.static y).before a0 Z = true) (w3 : (Cond.initialized y.cls).before a0 Z = true) (w4 : (Cond.code y bytes maxL ret).before a0 Z = true) (hy : y.cls ≠ "java/lang/invoke/MethodHandle" ∧ y.cls ≠ "java/lang/invoke/VarHandle")
    {rm : Room} {as : Array Value} {Q' : Option Value → Heap → List Loc → Prop} (hM : Ctr l Z y bytes maxL ret [] rm as h Q') (W : Nat) (hf : rm.frames + 1 ≤ R.frames) (hl : W + (maxL + 11) + rm.locals ≤ R.locals) (eT : T.heap = h)
    {pc : Nat} {Ls : Array Slot} {st : List Value} (hsize : Ls.size = c.maxLocals) (argsL rest : List Value) {ps : List FieldType} {rt : Option FieldType} (hpd : parseMethodDescriptor y.desc = some ⟨ps, rt⟩) (hlen : argsL.length = ps.length) (hst : st = argsL.reverse ++ rest) (has : argsL.toArray = as) (hW : (rest.map fun v => v.category).sum ≤ W)
    (hd : decode c.code pc = .ok (.invokestatic index, 3)) (hc : cells + rm.cells ≤ R.cells) (hs : slots + rm.slots ≤ R.slots)
    (k : ∀ T' v L, Stand p l e R s m args below meth c T' (locs ++ L) (cells + rm.cells) (slots + rm.slots) → Q' v T'.heap L → Goes p e below G (T'.setTop (mkF m (pc + 3) Ls (v.toList ++ rest)))) : Goes p e below G (T.setTop (mkF m pc Ls st)) := by
  subst hst
  obtain ⟨v, _, ⟨T', L', k', n'⟩, -, X', ⟨L, hQ, l1, y1, z1⟩, st⟩ := Jvm.LawKit.callS X hx (y := y) hown (mvT hZ w1) (mvT hZ w2) (mvT hZ w3) (mvT hZ w4) hy (backOf (W := W) hM hZ w4 w3 hf hl) (g := mkF m pc Ls (argsL.reverse ++ rest)) rfl hsize (argsL := argsL) (rest := rest) (lenOf hpd hlen) rfl (by show 2 * 0 + _ ≤ _; omega) hd (fun _ _ => ⟨has, eT, hc, hs⟩)
  dsimp only [Pt.U, Pt.locs, Pt.cells, Pt.slots] at X' l1 y1 z1 st hQ
  subst l1 y1 z1
  exact go st (k T' v L X' hQ)
theorem goCallI (X : Stand p l e R s m args below meth c T locs cells slots) (hx : p.tables.exec = Jvm.exec) (hZ : Z.Warmed39 s.vm) {own : String} {index : Nat} {y : MethodName} {bytes : ByteArray} {maxL : Nat} (hy1 : y.name = "<init>") (hown : s.vm.findClass own = some m.cls)
    (w1 : (Cond.methodLink own index y).before a0 Z = true) (w2 : (Cond.instanceMethod y).before a0 Z = true) (w3 : (Cond.initialized y.cls).before a0 Z = true) (w4 : (Cond.code y bytes maxL none).before a0 Z = true) (hy : y.cls ≠ "java/lang/invoke/MethodHandle" ∧ y.cls ≠ "java/lang/invoke/VarHandle")
    {rm : Room} {as : Array Value} {Q' : Option Value → Heap → List Loc → Prop} (hM : Ctr l Z y bytes maxL none [] rm as h Q') (W : Nat) (hf : rm.frames + 1 ≤ R.frames) (hl : W + (maxL + 11) + rm.locals ≤ R.locals) (eT : T.heap = h)
    {pc : Nat} {Ls : Array Slot} {st : List Value} (hsize : Ls.size = c.maxLocals) (a : Addr) (argsL rest : List Value) {ps : List FieldType} {rt : Option FieldType} (hpd : parseMethodDescriptor y.desc = some ⟨ps, rt⟩) (hlen : argsL.length = ps.length) (hst : st = argsL.reverse ++ .ref a :: rest) (has : (.ref a :: argsL).toArray = as) (hW : (rest.map fun v => v.category).sum ≤ W)
    (hd : decode c.code pc = .ok (.invokespecial index, 3)) (hc : cells + rm.cells ≤ R.cells) (hs : slots + rm.slots ≤ R.slots)
    (k : ∀ T' v L, Stand p l e R s m args below meth c T' (locs ++ L) (cells + rm.cells) (slots + rm.slots) → Q' v T'.heap L → Goes p e below G (T'.setTop (mkF m (pc + 3) Ls (v.toList ++ rest)))) : Goes p e below G (T.setTop (mkF m pc Ls st)) := by
  subst hst
  obtain ⟨v, _, ⟨T', L', k', n'⟩, -, X', ⟨L, hQ, l1, y1, z1⟩, st⟩ := X.specialBack hx (y := y) hy1 hown (mvT hZ w1) (mvT hZ w2) (mvT hZ w4) hy (backOf (W := W) hM hZ w4 w3 hf hl) (g := mkF m pc Ls (argsL.reverse ++ .ref a :: rest)) rfl hsize (Steps.refl _) (a := a) (argsL := argsL) (rest := rest) (lenOf hpd hlen) rfl (by show 2 * 0 + _ ≤ _; omega) hd (fun _ _ => ⟨has, eT, hc, hs⟩)
  dsimp only [Pt.U, Pt.locs, Pt.cells, Pt.slots] at X' l1 y1 z1 st hQ
  subst l1 y1 z1
  exact go (fun _ => st.trans) (k T' v L X' hQ)
theorem goCallV (X : Stand p l e R s m args below meth c T locs cells slots) (hx : p.tables.exec = Jvm.exec) (hZ : Z.Warmed39 s.vm) {own C : String} {index : Nat} {y : MethodName} {bytes : ByteArray} {maxL : Nat} {ret : Option FieldType} (hown : s.vm.findClass own = some m.cls)
    (w1 : (Cond.methodLink own index y).before a0 Z = true) (w2 : (Cond.declares y).before a0 Z = true) (w5 : (Cond.selects C y y).before a0 Z = true) (w6 : (Cond.instanceMethod y).before a0 Z = true) (w3 : (Cond.initialized y.cls).before a0 Z = true) (w4 : (Cond.code y bytes maxL ret).before a0 Z = true) (hy : y.cls ≠ "java/lang/invoke/MethodHandle" ∧ y.cls ≠ "java/lang/invoke/VarHandle")
    {rm : Room} {as : Array Value} {Q' : Option Value → Heap → List Loc → Prop} (hM : Ctr l Z y bytes maxL ret [] rm as h Q') (W : Nat) (hf : rm.frames + 1 ≤ R.frames) (hl : W + (maxL + 11) + rm.locals ≤ R.locals) (eT : T.heap = h) {a : Addr} (E : Exa Z h a C)
    {pc : Nat} {Ls : Array Slot} {st : List Value} (hsize : Ls.size = c.maxLocals) (argsL rest : List Value) {ps : List FieldType} {rt : Option FieldType} (hpd : parseMethodDescriptor y.desc = some ⟨ps, rt⟩) (hlen : argsL.length = ps.length) (hst : st = argsL.reverse ++ .ref a :: rest) (has : (.ref a :: argsL).toArray = as) (hW : (rest.map fun v => v.category).sum ≤ W)
    (hd : decode c.code pc = .ok (.invokevirtual index, 3)) (hc : cells + rm.cells ≤ R.cells) (hs : slots + rm.slots ≤ R.slots)
    (k : ∀ T' v L, Stand p l e R s m args below meth c T' (locs ++ L) (cells + rm.cells) (slots + rm.slots) → Q' v T'.heap L → Goes p e below G (T'.setTop (mkF m (pc + 3) Ls (v.toList ++ rest)))) : Goes p e below G (T.setTop (mkF m pc Ls st)) := by
  subst hst
  obtain ⟨cq, kq, qa, qb, qc⟩ := isOf hZ eT E
  obtain ⟨v, _, ⟨T', L', k', n'⟩, -, X', ⟨L, hQ, l1, y1, z1⟩, st⟩ := X.virtualBack hx (y := y) (z := y) hown (mvT hZ w1) (mvT hZ w2) (notFace_of_selects (args := #[]) (mvT hZ w5)) (mvT hZ w5) (mvT hZ w6) hy (backOf (W := W) hM hZ w4 w3 hf hl) qa qc (g := mkF m pc Ls (argsL.reverse ++ .ref a :: rest)) rfl hsize (Steps.refl _) (argsL := argsL) (rest := rest) (lenOf hpd hlen) rfl (by show 2 * 0 + _ ≤ _; omega) hd (fun _ _ => ⟨has, eT, hc, hs⟩)
  dsimp only [Pt.U, Pt.locs, Pt.cells, Pt.slots] at X' l1 y1 z1 st hQ
  subst l1 y1 z1
  exact go (fun _ => st.trans) (k T' v L X' hQ)
theorem extT {h0 : Heap} (O : Ext h0 h) (E : Ext h h') : Ext h0 h' := ⟨Nat.le_trans O.1 E.1, fun x c q => E.2 x c (O.2 x c q)⟩
theorem extK {h0 : Heap} {ws : List Addr} (O : Ext h0 h) (K : Keep h h' ws) (q : ∀ x ∈ ws, h0.size ≤ x) : Ext h0 h' := ⟨Nat.le_trans O.1 K.1, fun x c r => K.2.1 x c (O.2 x c r) fun z => absurd (Array.getElem?_eq_some_iff.mp r).1 (Nat.not_lt.mpr (q x z))⟩
theorem extW {h0 : Heap} {a : Addr} {sl : Nat} {v : Value} (O : Ext h0 h) (W : Wr h h' a sl v) (q : h0.size ≤ a) : Ext h0 h' := extK O (Keep.of_wr W) (allS q all0)
theorem eqI_v {t : Term} {k : Int32} {first s : State} {o : Option Outcome} {idx : List Nat} {args : Array Value} (h : (Cond.eq t (.int k)).value args first o s idx = some true) : t.eval args first o idx s = some (.int k) := by
  simp only [Cond.value, Term.eval] at h
  cases ht : t.eval args first o idx s with
  | none => simp [ht] at h
  | some x => cases x <;> simp [ht] at h ⊢; exact h
/-- an array with these values -/
def Ary (Z : State) (h : Heap) (a : Addr) (ty : FieldType) (vs : List Value) : Prop := ∃ cl : Cell, Arr Z h a cl ty ∧ cl.slots.toList = vs ∧ vs.length < 2 ^ 31
variable {a b : Addr} {ty : FieldType} {vs : List Value}
theorem Ary.lt (F : Ary Z h a ty vs) : a < h.size := by obtain ⟨c, A, -⟩ := F; exact A.lt
theorem Ary.ext (F : Ary Z h a ty vs) (E : Ext h h') : Ary Z h' a ty vs := by obtain ⟨c, A, r⟩ := F; exact ⟨c, A.ext E, r⟩
theorem Ary.other (F : Ary Z h b ty vs) {sl : Nat} {v : Value} (W : Wr h h' a sl v) (q : b ≠ a) : Ary Z h' b ty vs := by obtain ⟨c, A, r⟩ := F; exact ⟨c, A.other W q, r⟩
theorem Ary.keep (F : Ary Z h a ty vs) {ws : List Addr} (K : Keep h h' ws) (q : a ∉ ws) : Ary Z h' a ty vs := by obtain ⟨c, A, r⟩ := F; exact ⟨c, ⟨K.2.1 a c A.1 q, A.2⟩, r⟩
theorem Ary.set (F : Ary Z h a ty vs) {j : Int32} {v : Value} (W : Wr h h' a j.toNatClampNeg v) {ws : List Value} (e : vs.set j.toNatClampNeg v = ws) : Ary Z h' a ty ws := by
  obtain ⟨c, A, r, q⟩ := F
  refine ⟨_, A.same W, ?_, ?_⟩
  · rw [← e, ← r]; simp [Cell.setSlot]
  · rw [← e, List.length_set]; exact q
theorem Ary.new {cA : ClassId} {n : Int32} (A : Arr Z h a (newA cA ty n) ty) (e : List.replicate n.toNatClampNeg (defaultValue ty) = vs) (q : vs.length < 2 ^ 31) : Ary Z h a ty vs := ⟨_, A, by rw [← e]; simp [newA], q⟩
theorem Ary.inb {cl : Cell} (r : cl.slots.toList = vs) {j : Int32} {v : Value} (hj : ¬ j < 0) (hv : vs[j.toNatClampNeg]? = some v) : ¬ (j < 0 ∨ cl.slots.size ≤ j.toNatClampNeg) := fun q => by
  rcases q with q | q
  · exact hj q
  · subst r
    have := (List.getElem?_eq_some_iff.mp hv).1
    rw [Array.length_toList] at this
    omega
theorem Ary.at {cl : Cell} (r : cl.slots.toList = vs) {j : Int32} {v : Value} (hv : vs[j.toNatClampNeg]? = some v) : cl.slots[j.toNatClampNeg]? = some v := by subst r; simpa using hv
theorem goIaload (X : Stand p l e R s m args below meth c T locs cells slots) (hx : p.tables.exec = Jvm.exec) (hZ : Z.Warmed39 s.vm) (eT : T.heap = h) {vs : List Value} (F : Ary Z h a .int vs) {j x : Int32} {pc : Nat} {Ls : Array Slot} {rest : List Value} (hd : decode c.code pc = .ok (.iaload, 1)) (hj : ¬ j < 0) (hv : vs[j.toNatClampNeg]? = some (.int x))
    (k : Goes p e below G (T.setTop (mkF m (pc + 1) Ls (.int x :: rest)))) : Goes p e below G (T.setTop (mkF m pc Ls (.int j :: .ref a :: rest))) := by
  obtain ⟨cl, A, r, q⟩ := F
  exact go (X.iaload hx (j := j) (v := .int x) (by rw [eT]; exact A.1) (State.isArrayOf_alike hZ.alike A.2.1) A.2.2 (Ary.inb r hj hv) (Ary.at r hv) (g := mkF m pc Ls (.int j :: .ref a :: rest)) rfl rfl hd) k
theorem goBaload (X : Stand p l e R s m args below meth c T locs cells slots) (hx : p.tables.exec = Jvm.exec) (hZ : Z.Warmed39 s.vm) (eT : T.heap = h) {vs : List Value} (F : Ary Z h a .byte vs) {j x : Int32} {pc : Nat} {Ls : Array Slot} {rest : List Value} (hd : decode c.code pc = .ok (.baload, 1)) (hj : ¬ j < 0) (hv : vs[j.toNatClampNeg]? = some (.int x))
    (k : Goes p e below G (T.setTop (mkF m (pc + 1) Ls (.int x :: rest)))) : Goes p e below G (T.setTop (mkF m pc Ls (.int j :: .ref a :: rest))) := by
  obtain ⟨cl, A, r, q⟩ := F
  exact go (X.baloadBytes hx (j := j) (v := .int x) (by rw [eT]; exact A.1) (State.isArrayOf_alike hZ.alike A.2.1) A.2.2 (Ary.inb r hj hv) (Ary.at r hv) (g := mkF m pc Ls (.int j :: .ref a :: rest)) rfl rfl hd) k
theorem goZaload (X : Stand p l e R s m args below meth c T locs cells slots) (hx : p.tables.exec = Jvm.exec) (hZ : Z.Warmed39 s.vm) (eT : T.heap = h) {vs : List Value} (F : Ary Z h a .boolean vs) {j x : Int32} {pc : Nat} {Ls : Array Slot} {rest : List Value} (hd : decode c.code pc = .ok (.baload, 1)) (hj : ¬ j < 0) (hv : vs[j.toNatClampNeg]? = some (.int x))
    (k : Goes p e below G (T.setTop (mkF m (pc + 1) Ls (.int x :: rest)))) : Goes p e below G (T.setTop (mkF m pc Ls (.int j :: .ref a :: rest))) := by
  obtain ⟨cl, A, r, q⟩ := F
  exact go (X.baloadBooleans hx (j := j) (v := .int x) (by rw [eT]; exact A.1) (State.isArrayOf_alike hZ.alike A.2.1) A.2.2 (Ary.inb r hj hv) (Ary.at r hv) (g := mkF m pc Ls (.int j :: .ref a :: rest)) rfl rfl hd) k
theorem goCaload (X : Stand p l e R s m args below meth c T locs cells slots) (hx : p.tables.exec = Jvm.exec) (hZ : Z.Warmed39 s.vm) (eT : T.heap = h) {vs : List Value} (F : Ary Z h a .char vs) {j x : Int32} {pc : Nat} {Ls : Array Slot} {rest : List Value} (hd : decode c.code pc = .ok (.caload, 1)) (hj : ¬ j < 0) (hv : vs[j.toNatClampNeg]? = some (.int x))
    (k : Goes p e below G (T.setTop (mkF m (pc + 1) Ls (.int x :: rest)))) : Goes p e below G (T.setTop (mkF m pc Ls (.int j :: .ref a :: rest))) := by
  obtain ⟨cl, A, r, q⟩ := F
  exact go (X.caload hx (j := j) (v := .int x) (by rw [eT]; exact A.1) (State.isArrayOf_alike hZ.alike A.2.1) A.2.2 (Ary.inb r hj hv) (Ary.at r hv) (g := mkF m pc Ls (.int j :: .ref a :: rest)) rfl rfl hd) k
theorem goAlen (X : Stand p l e R s m args below meth c T locs cells slots) (hx : p.tables.exec = Jvm.exec) (hZ : Z.Warmed39 s.vm) (eT : T.heap = h) {vs : List Value} (F : Ary Z h a ty vs) {n : Int32} {pc : Nat} {Ls : Array Slot} {rest : List Value} (hd : decode c.code pc = .ok (.arraylength, 1)) (hn : vs.length.toInt32 = n)
    (k : Goes p e below G (T.setTop (mkF m (pc + 1) Ls (.int n :: rest)))) : Goes p e below G (T.setTop (mkF m pc Ls (.ref a :: rest))) := by
  obtain ⟨cl, A, r, q⟩ := F
  have e1 : cl.slots.size.toInt32 = n := by rw [← hn, ← r, Array.length_toList]
  refine go (X.arraylength hx (cell := cl) (by rw [eT]; exact A.1) (State.isArrayOf_alike hZ.alike A.2.1) (g := mkF m pc Ls (.ref a :: rest)) rfl (rest := rest) rfl hd) ?_
  rw [e1]
  exact k
theorem goIastore (X : Stand p l e R s m args below meth c T locs cells slots) (hx : p.tables.exec = Jvm.exec) (hZ : Z.Warmed39 s.vm) (eT : T.heap = h) {vs : List Value} (F : Ary Z h a .int vs) {j x : Int32} {v : Value} {pc : Nat} {Ls : Array Slot} {rest : List Value} (hd : decode c.code pc = .ok (.iastore, 1)) (hj : ¬ j < 0) (hv : vs[j.toNatClampNeg]? = some v)
    (k : ∀ T' h', Stand p l e R s m args below meth c T' (locs ++ [⟨a, j.toNatClampNeg⟩]) cells slots → T'.heap = h' → Wr h h' a j.toNatClampNeg (.int x) → Goes p e below G (T'.setTop (mkF m (pc + 1) Ls rest))) : Goes p e below G (T.setTop (mkF m pc Ls (.int x :: .int j :: .ref a :: rest))) := by
  obtain ⟨cl, A, r, q⟩ := F
  obtain ⟨T', h', X', e', W', st⟩ := stI X hx hZ eT A (j := j) (x := x) (Ary.inb r hj hv) (g := mkF m pc Ls (.int x :: .int j :: .ref a :: rest)) rfl rfl hd
  exact go st (k T' h' X' e' W')
theorem goBastore (X : Stand p l e R s m args below meth c T locs cells slots) (hx : p.tables.exec = Jvm.exec) (hZ : Z.Warmed39 s.vm) (eT : T.heap = h) {vs : List Value} (F : Ary Z h a .byte vs) {j x : Int32} {v : Value} {pc : Nat} {Ls : Array Slot} {rest : List Value} (hd : decode c.code pc = .ok (.bastore, 1)) (hj : ¬ j < 0) (hv : vs[j.toNatClampNeg]? = some v)
    (k : ∀ T' h', Stand p l e R s m args below meth c T' (locs ++ [⟨a, j.toNatClampNeg⟩]) cells slots → T'.heap = h' → Wr h h' a j.toNatClampNeg (.int (nar .byte x)) → Goes p e below G (T'.setTop (mkF m (pc + 1) Ls rest))) : Goes p e below G (T.setTop (mkF m pc Ls (.int x :: .int j :: .ref a :: rest))) := by
  obtain ⟨cl, A, r, q⟩ := F
  obtain ⟨T', h', X', e', W', st⟩ := stB X hx hZ eT A (j := j) (x := x) (Ary.inb r hj hv) (g := mkF m pc Ls (.int x :: .int j :: .ref a :: rest)) rfl rfl hd
  exact go st (k T' h' X' e' W')
theorem goZastore (X : Stand p l e R s m args below meth c T locs cells slots) (hx : p.tables.exec = Jvm.exec) (hZ : Z.Warmed39 s.vm) (eT : T.heap = h) {vs : List Value} (F : Ary Z h a .boolean vs) {j x : Int32} {v : Value} {pc : Nat} {Ls : Array Slot} {rest : List Value} (hd : decode c.code pc = .ok (.bastore, 1)) (hj : ¬ j < 0) (hv : vs[j.toNatClampNeg]? = some v)
    (k : ∀ T' h', Stand p l e R s m args below meth c T' (locs ++ [⟨a, j.toNatClampNeg⟩]) cells slots → T'.heap = h' → Wr h h' a j.toNatClampNeg (.int (nar .boolean x)) → Goes p e below G (T'.setTop (mkF m (pc + 1) Ls rest))) : Goes p e below G (T.setTop (mkF m pc Ls (.int x :: .int j :: .ref a :: rest))) := by
  obtain ⟨cl, A, r, q⟩ := F
  obtain ⟨T', h', X', e', W', st⟩ := stZ X hx hZ eT A (j := j) (x := x) (Ary.inb r hj hv) (g := mkF m pc Ls (.int x :: .int j :: .ref a :: rest)) rfl rfl hd
  exact go st (k T' h' X' e' W')
theorem goCastore (X : Stand p l e R s m args below meth c T locs cells slots) (hx : p.tables.exec = Jvm.exec) (hZ : Z.Warmed39 s.vm) (eT : T.heap = h) {vs : List Value} (F : Ary Z h a .char vs) {j x : Int32} {v : Value} {pc : Nat} {Ls : Array Slot} {rest : List Value} (hd : decode c.code pc = .ok (.castore, 1)) (hj : ¬ j < 0) (hv : vs[j.toNatClampNeg]? = some v)
    (k : ∀ T' h', Stand p l e R s m args below meth c T' (locs ++ [⟨a, j.toNatClampNeg⟩]) cells slots → T'.heap = h' → Wr h h' a j.toNatClampNeg (.int (nar .char x)) → Goes p e below G (T'.setTop (mkF m (pc + 1) Ls rest))) : Goes p e below G (T.setTop (mkF m pc Ls (.int x :: .int j :: .ref a :: rest))) := by
  obtain ⟨cl, A, r, q⟩ := F
  obtain ⟨T', h', X', e', W', st⟩ := stC X hx hZ eT A (j := j) (x := x) (Ary.inb r hj hv) (g := mkF m pc Ls (.int x :: .int j :: .ref a :: rest)) rfl rfl hd
  exact go st (k T' h' X' e' W')
theorem narb (x : Int32) : nar .byte x.toInt8.toInt32 = x.toInt8.toInt32 := by simp [nar]
theorem narc (x : Int32) : nar .char x.toUInt32.toUInt16.toUInt32.toInt32 = x.toUInt32.toUInt16.toUInt32.toInt32 := by simp only [nar, UInt32.toUInt32_toInt32, UInt16.toUInt16_toUInt32]
theorem gIload (X : Stand p l e R s m args below meth c T locs cells slots) (hx : p.tables.exec = Jvm.exec) {pc : Nat} {Ls : Array Slot} {st : List Value} {k : Nat} {v : Int32} (hd : decode c.code pc = .ok (.iload k, 2)) (hl : Ls[k]? = some (.val (.int v))) (K : Goes p e below G (T.setTop (mkF m (pc + 2) Ls (.int v :: st)))) : Goes p e below G (T.setTop (mkF m pc Ls (st))) :=
  go (fun _ q => XS.iload (g := mkF m pc Ls (st)) X.here hx rfl hd hl q) K
theorem gIloadN (X : Stand p l e R s m args below meth c T locs cells slots) (hx : p.tables.exec = Jvm.exec) {pc : Nat} {Ls : Array Slot} {st : List Value} {k : Fin 4} {v : Int32} (hd : decode c.code pc = .ok (.iload_n k, 1)) (hl : Ls[k.val]? = some (.val (.int v))) (K : Goes p e below G (T.setTop (mkF m (pc + 1) Ls (.int v :: st)))) : Goes p e below G (T.setTop (mkF m pc Ls (st))) :=
  go (fun _ q => XS.iloadN (g := mkF m pc Ls (st)) X.here hx rfl hd hl q) K
theorem gIstore (X : Stand p l e R s m args below meth c T locs cells slots) (hx : p.tables.exec = Jvm.exec) {pc : Nat} {Ls : Array Slot} {st : List Value} {k : Nat} {v : Int32} {l' : Array Slot} (hd : decode c.code pc = .ok (.istore k, 2)) (hl : storeLocals Ls k (.int v) = some l') (K : Goes p e below G (T.setTop (mkF m (pc + 2) l' (st)))) : Goes p e below G (T.setTop (mkF m pc Ls (.int v :: st))) :=
  go (fun _ q => XS.istore (g := mkF m pc Ls (.int v :: st)) X.here hx rfl hd rfl hl q) K
theorem gIstoreN (X : Stand p l e R s m args below meth c T locs cells slots) (hx : p.tables.exec = Jvm.exec) {pc : Nat} {Ls : Array Slot} {st : List Value} {k : Fin 4} {v : Int32} {l' : Array Slot} (hd : decode c.code pc = .ok (.istore_n k, 1)) (hl : storeLocals Ls k.val (.int v) = some l') (K : Goes p e below G (T.setTop (mkF m (pc + 1) l' (st)))) : Goes p e below G (T.setTop (mkF m pc Ls (.int v :: st))) :=
  go (fun _ q => XS.istoreN (g := mkF m pc Ls (.int v :: st)) X.here hx rfl hd rfl hl q) K
theorem gLload (X : Stand p l e R s m args below meth c T locs cells slots) (hx : p.tables.exec = Jvm.exec) {pc : Nat} {Ls : Array Slot} {st : List Value} {k : Nat} {v : Int64} (hd : decode c.code pc = .ok (.lload k, 2)) (hl : Ls[k]? = some (.val (.long v))) (K : Goes p e below G (T.setTop (mkF m (pc + 2) Ls (.long v :: st)))) : Goes p e below G (T.setTop (mkF m pc Ls (st))) :=
  go (fun _ q => XT.lload (g := mkF m pc Ls (st)) X.here hx rfl hd hl q) K
theorem gLloadN (X : Stand p l e R s m args below meth c T locs cells slots) (hx : p.tables.exec = Jvm.exec) {pc : Nat} {Ls : Array Slot} {st : List Value} {k : Fin 4} {v : Int64} (hd : decode c.code pc = .ok (.lload_n k, 1)) (hl : Ls[k.val]? = some (.val (.long v))) (K : Goes p e below G (T.setTop (mkF m (pc + 1) Ls (.long v :: st)))) : Goes p e below G (T.setTop (mkF m pc Ls (st))) :=
  go (fun _ q => XT.lloadN (g := mkF m pc Ls (st)) X.here hx rfl hd hl q) K
theorem gLstore (X : Stand p l e R s m args below meth c T locs cells slots) (hx : p.tables.exec = Jvm.exec) {pc : Nat} {Ls : Array Slot} {st : List Value} {k : Nat} {v : Int64} {l' : Array Slot} (hd : decode c.code pc = .ok (.lstore k, 2)) (hl : storeLocals Ls k (.long v) = some l') (K : Goes p e below G (T.setTop (mkF m (pc + 2) l' (st)))) : Goes p e below G (T.setTop (mkF m pc Ls (.long v :: st))) :=
  go (fun _ q => XT.lstore (g := mkF m pc Ls (.long v :: st)) X.here hx rfl hd rfl hl q) K
theorem gLstoreN (X : Stand p l e R s m args below meth c T locs cells slots) (hx : p.tables.exec = Jvm.exec) {pc : Nat} {Ls : Array Slot} {st : List Value} {k : Fin 4} {v : Int64} {l' : Array Slot} (hd : decode c.code pc = .ok (.lstore_n k, 1)) (hl : storeLocals Ls k.val (.long v) = some l') (K : Goes p e below G (T.setTop (mkF m (pc + 1) l' (st)))) : Goes p e below G (T.setTop (mkF m pc Ls (.long v :: st))) :=
  go (fun _ q => XT.lstoreN (g := mkF m pc Ls (.long v :: st)) X.here hx rfl hd rfl hl q) K
theorem gDload (X : Stand p l e R s m args below meth c T locs cells slots) (hx : p.tables.exec = Jvm.exec) {pc : Nat} {Ls : Array Slot} {st : List Value} {k : Nat} {v : UInt64} (hd : decode c.code pc = .ok (.dload k, 2)) (hl : Ls[k]? = some (.val (.double v))) (K : Goes p e below G (T.setTop (mkF m (pc + 2) Ls (.double v :: st)))) : Goes p e below G (T.setTop (mkF m pc Ls (st))) :=
  go (fun _ q => XS.dload (g := mkF m pc Ls (st)) X.here hx rfl hd hl q) K
theorem gDloadN (X : Stand p l e R s m args below meth c T locs cells slots) (hx : p.tables.exec = Jvm.exec) {pc : Nat} {Ls : Array Slot} {st : List Value} {k : Fin 4} {v : UInt64} (hd : decode c.code pc = .ok (.dload_n k, 1)) (hl : Ls[k.val]? = some (.val (.double v))) (K : Goes p e below G (T.setTop (mkF m (pc + 1) Ls (.double v :: st)))) : Goes p e below G (T.setTop (mkF m pc Ls (st))) :=
  go (fun _ q => XS.dloadN (g := mkF m pc Ls (st)) X.here hx rfl hd hl q) K
theorem gDstore (X : Stand p l e R s m args below meth c T locs cells slots) (hx : p.tables.exec = Jvm.exec) {pc : Nat} {Ls : Array Slot} {st : List Value} {k : Nat} {v : UInt64} {l' : Array Slot} (hd : decode c.code pc = .ok (.dstore k, 2)) (hl : storeLocals Ls k (.double v) = some l') (K : Goes p e below G (T.setTop (mkF m (pc + 2) l' (st)))) : Goes p e below G (T.setTop (mkF m pc Ls (.double v :: st))) :=
  go (fun _ q => XS.dstore (g := mkF m pc Ls (.double v :: st)) X.here hx rfl hd rfl hl q) K
theorem gDstoreN (X : Stand p l e R s m args below meth c T locs cells slots) (hx : p.tables.exec = Jvm.exec) {pc : Nat} {Ls : Array Slot} {st : List Value} {k : Fin 4} {v : UInt64} {l' : Array Slot} (hd : decode c.code pc = .ok (.dstore_n k, 1)) (hl : storeLocals Ls k.val (.double v) = some l') (K : Goes p e below G (T.setTop (mkF m (pc + 1) l' (st)))) : Goes p e below G (T.setTop (mkF m pc Ls (.double v :: st))) :=
  go (fun _ q => XS.dstoreN (g := mkF m pc Ls (.double v :: st)) X.here hx rfl hd rfl hl q) K
theorem gAload (X : Stand p l e R s m args below meth c T locs cells slots) (hx : p.tables.exec = Jvm.exec) {pc : Nat} {Ls : Array Slot} {st : List Value} {k : Nat} {v : Value} (hd : decode c.code pc = .ok (.aload k, 2)) (hl : Ls[k]? = some (.val v)) (hv : v.isRef = true) (K : Goes p e below G (T.setTop (mkF m (pc + 2) Ls (v :: st)))) : Goes p e below G (T.setTop (mkF m pc Ls (st))) :=
  go (fun _ q => XS.aload (g := mkF m pc Ls (st)) X.here hx rfl hd hl hv q) K
theorem gAloadN (X : Stand p l e R s m args below meth c T locs cells slots) (hx : p.tables.exec = Jvm.exec) {pc : Nat} {Ls : Array Slot} {st : List Value} {k : Fin 4} {v : Value} (hd : decode c.code pc = .ok (.aload_n k, 1)) (hl : Ls[k.val]? = some (.val v)) (hv : v.isRef = true) (K : Goes p e below G (T.setTop (mkF m (pc + 1) Ls (v :: st)))) : Goes p e below G (T.setTop (mkF m pc Ls (st))) :=
  go (fun _ q => XS.aloadN (g := mkF m pc Ls (st)) X.here hx rfl hd hl hv q) K
theorem gAstore (X : Stand p l e R s m args below meth c T locs cells slots) (hx : p.tables.exec = Jvm.exec) {pc : Nat} {Ls : Array Slot} {st : List Value} {k : Nat} {v : Value} {l' : Array Slot} (hd : decode c.code pc = .ok (.astore k, 2)) (hv : v.isRef = true) (hl : storeLocals Ls k v = some l') (K : Goes p e below G (T.setTop (mkF m (pc + 2) l' (st)))) : Goes p e below G (T.setTop (mkF m pc Ls (v :: st))) :=
  go (fun _ q => XS.astore (g := mkF m pc Ls (v :: st)) X.here hx rfl hd rfl hv hl q) K
theorem gAstoreN (X : Stand p l e R s m args below meth c T locs cells slots) (hx : p.tables.exec = Jvm.exec) {pc : Nat} {Ls : Array Slot} {st : List Value} {k : Fin 4} {v : Value} {l' : Array Slot} (hd : decode c.code pc = .ok (.astore_n k, 1)) (hv : v.isRef = true) (hl : storeLocals Ls k.val v = some l') (K : Goes p e below G (T.setTop (mkF m (pc + 1) l' (st)))) : Goes p e below G (T.setTop (mkF m pc Ls (v :: st))) :=
  go (fun _ q => XS.astoreN (g := mkF m pc Ls (v :: st)) X.here hx rfl hd rfl hv hl q) K
theorem gIstoreS (X : Stand p l e R s m args below meth c T locs cells slots) (hx : p.tables.exec = Jvm.exec) {pc : Nat} {Ls : Array Slot} {st : List Value} {k : Nat} {v : Int32} {o : Slot} (hd : decode c.code pc = .ok (.istore k, 2)) (hold : Ls[k]? = some o) (ho : o = .unset ∨ ∃ w, o = .val w ∧ w.category = 1) (K : Goes p e below G (T.setTop (mkF m (pc + 2) (Ls.setIfInBounds k (.val (.int v))) (st)))) : Goes p e below G (T.setTop (mkF m pc Ls (.int v :: st))) :=
  go (fun _ q => XS.istoreS (g := mkF m pc Ls (.int v :: st)) X.here hx rfl hd rfl hold ho q) K
theorem gIconst (X : Stand p l e R s m args below meth c T locs cells slots) (hx : p.tables.exec = Jvm.exec) {pc : Nat} {Ls : Array Slot} {st : List Value} {i : Int} {v : Int32} (hd : decode c.code pc = .ok (.iconst i, 1)) (hv : Int32.ofInt i = v) (K : Goes p e below G (T.setTop (mkF m (pc + 1) Ls (.int v :: st)))) : Goes p e below G (T.setTop (mkF m pc Ls st)) := by
  subst hv
  exact go (fun _ q => XS.iconst (g := mkF m pc Ls st) X.here hx rfl hd q) K
theorem gBipush (X : Stand p l e R s m args below meth c T locs cells slots) (hx : p.tables.exec = Jvm.exec) {pc : Nat} {Ls : Array Slot} {st : List Value} {i : Int} {v : Int32} (hd : decode c.code pc = .ok (.bipush i, 2)) (hv : (Int8.ofInt i).toInt32 = v) (K : Goes p e below G (T.setTop (mkF m (pc + 2) Ls (.int v :: st)))) : Goes p e below G (T.setTop (mkF m pc Ls st)) := by
  subst hv
  exact go (fun _ q => XS.bipush (g := mkF m pc Ls st) X.here hx rfl hd q) K
theorem gSipush (X : Stand p l e R s m args below meth c T locs cells slots) (hx : p.tables.exec = Jvm.exec) {pc : Nat} {Ls : Array Slot} {st : List Value} {i : Int} {v : Int32} (hd : decode c.code pc = .ok (.sipush i, 3)) (hv : (Int16.ofInt i).toInt32 = v) (K : Goes p e below G (T.setTop (mkF m (pc + 3) Ls (.int v :: st)))) : Goes p e below G (T.setTop (mkF m pc Ls st)) := by
  subst hv
  exact go (fun _ q => XS.sipush (g := mkF m pc Ls st) X.here hx rfl hd q) K
theorem gLconst (X : Stand p l e R s m args below meth c T locs cells slots) (hx : p.tables.exec = Jvm.exec) {pc : Nat} {Ls : Array Slot} {st : List Value} {i : Fin 2} {v : Int64} (hd : decode c.code pc = .ok (.lconst i, 1)) (hv : Int64.ofNat i = v) (K : Goes p e below G (T.setTop (mkF m (pc + 1) Ls (.long v :: st)))) : Goes p e below G (T.setTop (mkF m pc Ls st)) := by
  subst hv
  exact go (fun _ q => XT.lconst (g := mkF m pc Ls st) X.here hx rfl hd q) K
theorem gAnull (X : Stand p l e R s m args below meth c T locs cells slots) (hx : p.tables.exec = Jvm.exec) {pc : Nat} {Ls : Array Slot} {st : List Value}  (hd : decode c.code pc = .ok (.aconst_null, 1))  (K : Goes p e below G (T.setTop (mkF m (pc + 1) Ls (.null :: st)))) : Goes p e below G (T.setTop (mkF m pc Ls (st))) :=
  go (fun _ q => XS.aconstNull (g := mkF m pc Ls (st)) X.here hx rfl hd  q) K
theorem gDconst0 (X : Stand p l e R s m args below meth c T locs cells slots) (hx : p.tables.exec = Jvm.exec) {pc : Nat} {Ls : Array Slot} {st : List Value}  (hd : decode c.code pc = .ok (.dconst 0, 1))  (K : Goes p e below G (T.setTop (mkF m (pc + 1) Ls (.double FP.dconst0 :: st)))) : Goes p e below G (T.setTop (mkF m pc Ls (st))) :=
  go (fun _ q => XS.dconst0 (g := mkF m pc Ls (st)) X.here hx rfl hd rfl q) K
theorem gDconst1 (X : Stand p l e R s m args below meth c T locs cells slots) (hx : p.tables.exec = Jvm.exec) {pc : Nat} {Ls : Array Slot} {st : List Value}  (hd : decode c.code pc = .ok (.dconst 1, 1))  (K : Goes p e below G (T.setTop (mkF m (pc + 1) Ls (.double FP.dconst1 :: st)))) : Goes p e below G (T.setTop (mkF m pc Ls (st))) :=
  go (fun _ q => XS.dconst1 (g := mkF m pc Ls (st)) X.here hx rfl hd rfl q) K
theorem gIadd (X : Stand p l e R s m args below meth c T locs cells slots) (hx : p.tables.exec = Jvm.exec) {pc : Nat} {Ls : Array Slot} {st : List Value} {x y : Int32} (hd : decode c.code pc = .ok (.iadd, 1))  (K : Goes p e below G (T.setTop (mkF m (pc + 1) Ls (.int (x + y) :: st)))) : Goes p e below G (T.setTop (mkF m pc Ls (.int y :: .int x :: st))) :=
  go (fun _ q => XS.iadd (g := mkF m pc Ls (.int y :: .int x :: st)) X.here hx rfl hd rfl q) K
theorem gIsub (X : Stand p l e R s m args below meth c T locs cells slots) (hx : p.tables.exec = Jvm.exec) {pc : Nat} {Ls : Array Slot} {st : List Value} {x y : Int32} (hd : decode c.code pc = .ok (.isub, 1))  (K : Goes p e below G (T.setTop (mkF m (pc + 1) Ls (.int (x - y) :: st)))) : Goes p e below G (T.setTop (mkF m pc Ls (.int y :: .int x :: st))) :=
  go (fun _ q => XS.isub (g := mkF m pc Ls (.int y :: .int x :: st)) X.here hx rfl hd rfl q) K
theorem gImul (X : Stand p l e R s m args below meth c T locs cells slots) (hx : p.tables.exec = Jvm.exec) {pc : Nat} {Ls : Array Slot} {st : List Value} {x y : Int32} (hd : decode c.code pc = .ok (.imul, 1))  (K : Goes p e below G (T.setTop (mkF m (pc + 1) Ls (.int (x * y) :: st)))) : Goes p e below G (T.setTop (mkF m pc Ls (.int y :: .int x :: st))) :=
  go (fun _ q => XS.imul (g := mkF m pc Ls (.int y :: .int x :: st)) X.here hx rfl hd rfl q) K
theorem gIand (X : Stand p l e R s m args below meth c T locs cells slots) (hx : p.tables.exec = Jvm.exec) {pc : Nat} {Ls : Array Slot} {st : List Value} {x y : Int32} (hd : decode c.code pc = .ok (.iand, 1))  (K : Goes p e below G (T.setTop (mkF m (pc + 1) Ls (.int (x &&& y) :: st)))) : Goes p e below G (T.setTop (mkF m pc Ls (.int y :: .int x :: st))) :=
  go (fun _ q => XS.iand (g := mkF m pc Ls (.int y :: .int x :: st)) X.here hx rfl hd rfl q) K
theorem gIor (X : Stand p l e R s m args below meth c T locs cells slots) (hx : p.tables.exec = Jvm.exec) {pc : Nat} {Ls : Array Slot} {st : List Value} {x y : Int32} (hd : decode c.code pc = .ok (.ior, 1))  (K : Goes p e below G (T.setTop (mkF m (pc + 1) Ls (.int (x ||| y) :: st)))) : Goes p e below G (T.setTop (mkF m pc Ls (.int y :: .int x :: st))) :=
  go (fun _ q => XT.ior (g := mkF m pc Ls (.int y :: .int x :: st)) X.here hx rfl hd rfl q) K
theorem gIxor (X : Stand p l e R s m args below meth c T locs cells slots) (hx : p.tables.exec = Jvm.exec) {pc : Nat} {Ls : Array Slot} {st : List Value} {x y : Int32} (hd : decode c.code pc = .ok (.ixor, 1))  (K : Goes p e below G (T.setTop (mkF m (pc + 1) Ls (.int (x ^^^ y) :: st)))) : Goes p e below G (T.setTop (mkF m pc Ls (.int y :: .int x :: st))) :=
  go (fun _ q => XT.ixor (g := mkF m pc Ls (.int y :: .int x :: st)) X.here hx rfl hd rfl q) K
theorem gIshl (X : Stand p l e R s m args below meth c T locs cells slots) (hx : p.tables.exec = Jvm.exec) {pc : Nat} {Ls : Array Slot} {st : List Value} {x y : Int32} (hd : decode c.code pc = .ok (.ishl, 1))  (K : Goes p e below G (T.setTop (mkF m (pc + 1) Ls (.int (x <<< (y &&& 31)) :: st)))) : Goes p e below G (T.setTop (mkF m pc Ls (.int y :: .int x :: st))) :=
  go (fun _ q => XT.ishl (g := mkF m pc Ls (.int y :: .int x :: st)) X.here hx rfl hd rfl q) K
theorem gIshr (X : Stand p l e R s m args below meth c T locs cells slots) (hx : p.tables.exec = Jvm.exec) {pc : Nat} {Ls : Array Slot} {st : List Value} {x y : Int32} (hd : decode c.code pc = .ok (.ishr, 1))  (K : Goes p e below G (T.setTop (mkF m (pc + 1) Ls (.int (x >>> (y &&& 31)) :: st)))) : Goes p e below G (T.setTop (mkF m pc Ls (.int y :: .int x :: st))) :=
  go (fun _ q => XT.ishr (g := mkF m pc Ls (.int y :: .int x :: st)) X.here hx rfl hd rfl q) K
theorem gIushr (X : Stand p l e R s m args below meth c T locs cells slots) (hx : p.tables.exec = Jvm.exec) {pc : Nat} {Ls : Array Slot} {st : List Value} {x y : Int32} (hd : decode c.code pc = .ok (.iushr, 1))  (K : Goes p e below G (T.setTop (mkF m (pc + 1) Ls (.int (XT.ushr x y) :: st)))) : Goes p e below G (T.setTop (mkF m pc Ls (.int y :: .int x :: st))) :=
  go (fun _ q => XT.iushr (g := mkF m pc Ls (.int y :: .int x :: st)) X.here hx rfl hd rfl q) K
theorem gLadd (X : Stand p l e R s m args below meth c T locs cells slots) (hx : p.tables.exec = Jvm.exec) {pc : Nat} {Ls : Array Slot} {st : List Value} {x y : Int64} (hd : decode c.code pc = .ok (.ladd, 1))  (K : Goes p e below G (T.setTop (mkF m (pc + 1) Ls (.long (x + y) :: st)))) : Goes p e below G (T.setTop (mkF m pc Ls (.long y :: .long x :: st))) :=
  go (fun _ q => XT.ladd (g := mkF m pc Ls (.long y :: .long x :: st)) X.here hx rfl hd rfl q) K
theorem gLsub (X : Stand p l e R s m args below meth c T locs cells slots) (hx : p.tables.exec = Jvm.exec) {pc : Nat} {Ls : Array Slot} {st : List Value} {x y : Int64} (hd : decode c.code pc = .ok (.lsub, 1))  (K : Goes p e below G (T.setTop (mkF m (pc + 1) Ls (.long (x - y) :: st)))) : Goes p e below G (T.setTop (mkF m pc Ls (.long y :: .long x :: st))) :=
  go (fun _ q => XT.lsub (g := mkF m pc Ls (.long y :: .long x :: st)) X.here hx rfl hd rfl q) K
theorem gLmul (X : Stand p l e R s m args below meth c T locs cells slots) (hx : p.tables.exec = Jvm.exec) {pc : Nat} {Ls : Array Slot} {st : List Value} {x y : Int64} (hd : decode c.code pc = .ok (.lmul, 1))  (K : Goes p e below G (T.setTop (mkF m (pc + 1) Ls (.long (x * y) :: st)))) : Goes p e below G (T.setTop (mkF m pc Ls (.long y :: .long x :: st))) :=
  go (fun _ q => XT.lmul (g := mkF m pc Ls (.long y :: .long x :: st)) X.here hx rfl hd rfl q) K
theorem gLand (X : Stand p l e R s m args below meth c T locs cells slots) (hx : p.tables.exec = Jvm.exec) {pc : Nat} {Ls : Array Slot} {st : List Value} {x y : Int64} (hd : decode c.code pc = .ok (.land, 1))  (K : Goes p e below G (T.setTop (mkF m (pc + 1) Ls (.long (x &&& y) :: st)))) : Goes p e below G (T.setTop (mkF m pc Ls (.long y :: .long x :: st))) :=
  go (fun _ q => XT.land (g := mkF m pc Ls (.long y :: .long x :: st)) X.here hx rfl hd rfl q) K
theorem gLor (X : Stand p l e R s m args below meth c T locs cells slots) (hx : p.tables.exec = Jvm.exec) {pc : Nat} {Ls : Array Slot} {st : List Value} {x y : Int64} (hd : decode c.code pc = .ok (.lor, 1))  (K : Goes p e below G (T.setTop (mkF m (pc + 1) Ls (.long (x ||| y) :: st)))) : Goes p e below G (T.setTop (mkF m pc Ls (.long y :: .long x :: st))) :=
  go (fun _ q => XT.lor (g := mkF m pc Ls (.long y :: .long x :: st)) X.here hx rfl hd rfl q) K
theorem gLxor (X : Stand p l e R s m args below meth c T locs cells slots) (hx : p.tables.exec = Jvm.exec) {pc : Nat} {Ls : Array Slot} {st : List Value} {x y : Int64} (hd : decode c.code pc = .ok (.lxor, 1))  (K : Goes p e below G (T.setTop (mkF m (pc + 1) Ls (.long (x ^^^ y) :: st)))) : Goes p e below G (T.setTop (mkF m pc Ls (.long y :: .long x :: st))) :=
  go (fun _ q => XT.lxor (g := mkF m pc Ls (.long y :: .long x :: st)) X.here hx rfl hd rfl q) K
theorem gLshl (X : Stand p l e R s m args below meth c T locs cells slots) (hx : p.tables.exec = Jvm.exec) {pc : Nat} {Ls : Array Slot} {st : List Value} {x : Int64} {y : Int32} (hd : decode c.code pc = .ok (.lshl, 1))  (K : Goes p e below G (T.setTop (mkF m (pc + 1) Ls (.long (x <<< (y.toInt64 &&& 63)) :: st)))) : Goes p e below G (T.setTop (mkF m pc Ls (.int y :: .long x :: st))) :=
  go (fun _ q => XT.lshl (g := mkF m pc Ls (.int y :: .long x :: st)) X.here hx rfl hd rfl q) K
theorem gLshr (X : Stand p l e R s m args below meth c T locs cells slots) (hx : p.tables.exec = Jvm.exec) {pc : Nat} {Ls : Array Slot} {st : List Value} {x : Int64} {y : Int32} (hd : decode c.code pc = .ok (.lshr, 1))  (K : Goes p e below G (T.setTop (mkF m (pc + 1) Ls (.long (x >>> (y.toInt64 &&& 63)) :: st)))) : Goes p e below G (T.setTop (mkF m pc Ls (.int y :: .long x :: st))) :=
  go (fun _ q => XT.lshr (g := mkF m pc Ls (.int y :: .long x :: st)) X.here hx rfl hd rfl q) K
theorem gLushr (X : Stand p l e R s m args below meth c T locs cells slots) (hx : p.tables.exec = Jvm.exec) {pc : Nat} {Ls : Array Slot} {st : List Value} {x : Int64} {y : Int32} (hd : decode c.code pc = .ok (.lushr, 1))  (K : Goes p e below G (T.setTop (mkF m (pc + 1) Ls (.long (XT.ushrL x y) :: st)))) : Goes p e below G (T.setTop (mkF m pc Ls (.int y :: .long x :: st))) :=
  go (fun _ q => XT.lushr (g := mkF m pc Ls (.int y :: .long x :: st)) X.here hx rfl hd rfl q) K
theorem gIneg (X : Stand p l e R s m args below meth c T locs cells slots) (hx : p.tables.exec = Jvm.exec) {pc : Nat} {Ls : Array Slot} {st : List Value} {x : Int32} (hd : decode c.code pc = .ok (.ineg, 1))  (K : Goes p e below G (T.setTop (mkF m (pc + 1) Ls (.int (-x) :: st)))) : Goes p e below G (T.setTop (mkF m pc Ls (.int x :: st))) :=
  go (fun _ q => XS.ineg (g := mkF m pc Ls (.int x :: st)) X.here hx rfl hd rfl q) K
theorem gI2l (X : Stand p l e R s m args below meth c T locs cells slots) (hx : p.tables.exec = Jvm.exec) {pc : Nat} {Ls : Array Slot} {st : List Value} {x : Int32} (hd : decode c.code pc = .ok (.i2l, 1))  (K : Goes p e below G (T.setTop (mkF m (pc + 1) Ls (.long (x.toInt64) :: st)))) : Goes p e below G (T.setTop (mkF m pc Ls (.int x :: st))) :=
  go (fun _ q => XT.i2l (g := mkF m pc Ls (.int x :: st)) X.here hx rfl hd rfl q) K
theorem gL2i (X : Stand p l e R s m args below meth c T locs cells slots) (hx : p.tables.exec = Jvm.exec) {pc : Nat} {Ls : Array Slot} {st : List Value} {x : Int64} (hd : decode c.code pc = .ok (.l2i, 1))  (K : Goes p e below G (T.setTop (mkF m (pc + 1) Ls (.int (x.toInt32) :: st)))) : Goes p e below G (T.setTop (mkF m pc Ls (.long x :: st))) :=
  go (fun _ q => XT.l2i (g := mkF m pc Ls (.long x :: st)) X.here hx rfl hd rfl q) K
theorem gI2b (X : Stand p l e R s m args below meth c T locs cells slots) (hx : p.tables.exec = Jvm.exec) {pc : Nat} {Ls : Array Slot} {st : List Value} {x : Int32} (hd : decode c.code pc = .ok (.i2b, 1))  (K : Goes p e below G (T.setTop (mkF m (pc + 1) Ls (.int (x.toInt8.toInt32) :: st)))) : Goes p e below G (T.setTop (mkF m pc Ls (.int x :: st))) :=
  go (fun _ q => XT.i2b (g := mkF m pc Ls (.int x :: st)) X.here hx rfl hd rfl q) K
theorem gI2c (X : Stand p l e R s m args below meth c T locs cells slots) (hx : p.tables.exec = Jvm.exec) {pc : Nat} {Ls : Array Slot} {st : List Value} {x : Int32} (hd : decode c.code pc = .ok (.i2c, 1))  (K : Goes p e below G (T.setTop (mkF m (pc + 1) Ls (.int (x.toUInt32.toUInt16.toUInt32.toInt32) :: st)))) : Goes p e below G (T.setTop (mkF m pc Ls (.int x :: st))) :=
  go (fun _ q => XT.i2c (g := mkF m pc Ls (.int x :: st)) X.here hx rfl hd rfl q) K
theorem gI2d (X : Stand p l e R s m args below meth c T locs cells slots) (hx : p.tables.exec = Jvm.exec) {pc : Nat} {Ls : Array Slot} {st : List Value} {x : Int32} (hd : decode c.code pc = .ok (.i2d, 1))  (K : Goes p e below G (T.setTop (mkF m (pc + 1) Ls (.double (FP.i2d x) :: st)))) : Goes p e below G (T.setTop (mkF m pc Ls (.int x :: st))) :=
  go (fun _ q => XS.i2dS (g := mkF m pc Ls (.int x :: st)) X.here hx rfl hd rfl rfl q) K
theorem gL2d (X : Stand p l e R s m args below meth c T locs cells slots) (hx : p.tables.exec = Jvm.exec) {pc : Nat} {Ls : Array Slot} {st : List Value} {x : Int64} (hd : decode c.code pc = .ok (.l2d, 1))  (K : Goes p e below G (T.setTop (mkF m (pc + 1) Ls (.double (FP.l2d x) :: st)))) : Goes p e below G (T.setTop (mkF m pc Ls (.long x :: st))) :=
  go (fun _ q => XS.l2dS (g := mkF m pc Ls (.long x :: st)) X.here hx rfl hd rfl rfl q) K
theorem gDadd (X : Stand p l e R s m args below meth c T locs cells slots) (hx : p.tables.exec = Jvm.exec) {pc : Nat} {Ls : Array Slot} {st : List Value} {x y : UInt64} (hd : decode c.code pc = .ok (.dadd, 1)) (hn : Jvm.Free.Fl.NoNaN64 (FP.dadd x y)) (K : Goes p e below G (T.setTop (mkF m (pc + 1) Ls (.double (FP.dadd x y) :: st)))) : Goes p e below G (T.setTop (mkF m pc Ls (.double y :: .double x :: st))) :=
  go (fun _ q => XS.daddS (g := mkF m pc Ls (.double y :: .double x :: st)) X.here hx rfl hd rfl hn rfl q) K
theorem gDsub (X : Stand p l e R s m args below meth c T locs cells slots) (hx : p.tables.exec = Jvm.exec) {pc : Nat} {Ls : Array Slot} {st : List Value} {x y : UInt64} (hd : decode c.code pc = .ok (.dsub, 1)) (hn : Jvm.Free.Fl.NoNaN64 (FP.dsub x y)) (K : Goes p e below G (T.setTop (mkF m (pc + 1) Ls (.double (FP.dsub x y) :: st)))) : Goes p e below G (T.setTop (mkF m pc Ls (.double y :: .double x :: st))) :=
  go (fun _ q => XS.dsubS (g := mkF m pc Ls (.double y :: .double x :: st)) X.here hx rfl hd rfl hn rfl q) K
theorem gDmul (X : Stand p l e R s m args below meth c T locs cells slots) (hx : p.tables.exec = Jvm.exec) {pc : Nat} {Ls : Array Slot} {st : List Value} {x y : UInt64} (hd : decode c.code pc = .ok (.dmul, 1)) (hn : Jvm.Free.Fl.NoNaN64 (FP.dmul x y)) (K : Goes p e below G (T.setTop (mkF m (pc + 1) Ls (.double (FP.dmul x y) :: st)))) : Goes p e below G (T.setTop (mkF m pc Ls (.double y :: .double x :: st))) :=
  go (fun _ q => XS.dmulS (g := mkF m pc Ls (.double y :: .double x :: st)) X.here hx rfl hd rfl hn rfl q) K
theorem gDdiv (X : Stand p l e R s m args below meth c T locs cells slots) (hx : p.tables.exec = Jvm.exec) {pc : Nat} {Ls : Array Slot} {st : List Value} {x y : UInt64} (hd : decode c.code pc = .ok (.ddiv, 1)) (hn : Jvm.Free.Fl.NoNaN64 (FP.ddiv x y)) (K : Goes p e below G (T.setTop (mkF m (pc + 1) Ls (.double (FP.ddiv x y) :: st)))) : Goes p e below G (T.setTop (mkF m pc Ls (.double y :: .double x :: st))) :=
  go (fun _ q => XS.ddivS (g := mkF m pc Ls (.double y :: .double x :: st)) X.here hx rfl hd rfl hn rfl q) K
theorem gDcmp (X : Stand p l e R s m args below meth c T locs cells slots) (hx : p.tables.exec = Jvm.exec) {pc : Nat} {Ls : Array Slot} {st : List Value} {o : CmpOp} {x y : UInt64} (hd : decode c.code pc = .ok (.dcmp o, 1))  (K : Goes p e below G (T.setTop (mkF m (pc + 1) Ls (.int (cmpValue (FP.dcmp x y) o) :: st)))) : Goes p e below G (T.setTop (mkF m pc Ls (.double y :: .double x :: st))) :=
  go (fun _ q => XS.dcmpS (g := mkF m pc Ls (.double y :: .double x :: st)) X.here hx rfl hd rfl rfl q) K
theorem gLcmp (X : Stand p l e R s m args below meth c T locs cells slots) (hx : p.tables.exec = Jvm.exec) {pc : Nat} {Ls : Array Slot} {st : List Value} {x y : Int64} (hd : decode c.code pc = .ok (.lcmp, 1))  (K : Goes p e below G (T.setTop (mkF m (pc + 1) Ls (.int (XT.cmpL x y) :: st)))) : Goes p e below G (T.setTop (mkF m pc Ls (.long y :: .long x :: st))) :=
  go (fun _ q => XT.lcmp (g := mkF m pc Ls (.long y :: .long x :: st)) X.here hx rfl hd rfl q) K
theorem gDup (X : Stand p l e R s m args below meth c T locs cells slots) (hx : p.tables.exec = Jvm.exec) {pc : Nat} {Ls : Array Slot} {st : List Value} {x : Value} (hd : decode c.code pc = .ok (.dup, 1)) (hc : x.category = 1) (K : Goes p e below G (T.setTop (mkF m (pc + 1) Ls (x :: x :: st)))) : Goes p e below G (T.setTop (mkF m pc Ls (x :: st))) :=
  go (fun _ q => XS.dup (g := mkF m pc Ls (x :: st)) X.here hx rfl hd rfl hc q) K
theorem gPop (X : Stand p l e R s m args below meth c T locs cells slots) (hx : p.tables.exec = Jvm.exec) {pc : Nat} {Ls : Array Slot} {st : List Value} {x : Value} (hd : decode c.code pc = .ok (.pop, 1)) (hc : x.category = 1) (K : Goes p e below G (T.setTop (mkF m (pc + 1) Ls (st)))) : Goes p e below G (T.setTop (mkF m pc Ls (x :: st))) :=
  go (fun _ q => XT.pop (g := mkF m pc Ls (x :: st)) X.here hx rfl hd rfl hc q) K
theorem gDupX1 (X : Stand p l e R s m args below meth c T locs cells slots) (hx : p.tables.exec = Jvm.exec) {pc : Nat} {Ls : Array Slot} {st : List Value} {x y : Value} (hd : decode c.code pc = .ok (.dup_x1, 1)) (hc : x.category = 1) (hc' : y.category = 1) (K : Goes p e below G (T.setTop (mkF m (pc + 1) Ls (x :: y :: x :: st)))) : Goes p e below G (T.setTop (mkF m pc Ls (x :: y :: st))) :=
  go (fun _ q => XT.dupX1 (g := mkF m pc Ls (x :: y :: st)) X.here hx rfl hd rfl hc hc' q) K
theorem gDup2 (X : Stand p l e R s m args below meth c T locs cells slots) (hx : p.tables.exec = Jvm.exec) {pc : Nat} {Ls : Array Slot} {st : List Value} {x y : Value} (hd : decode c.code pc = .ok (.dup2, 1)) (hc : x.category = 1) (hc' : y.category = 1) (K : Goes p e below G (T.setTop (mkF m (pc + 1) Ls (x :: y :: x :: y :: st)))) : Goes p e below G (T.setTop (mkF m pc Ls (x :: y :: st))) :=
  go (fun _ q => XT.dup2 (g := mkF m pc Ls (x :: y :: st)) X.here hx rfl hd rfl hc hc' q) K
theorem gIinc (X : Stand p l e R s m args below meth c T locs cells slots) (hx : p.tables.exec = Jvm.exec) {pc : Nat} {Ls : Array Slot} {st : List Value} {k : Nat} {i : Int} {x v : Int32} {l' : Array Slot} (hd : decode c.code pc = .ok (.iinc k i, 3)) (hv : x + Int32.ofInt i = v) (hl : Ls[k]? = some (.val (.int x))) (hl' : storeLocals Ls k (.int v) = some l') (K : Goes p e below G (T.setTop (mkF m (pc + 3) l' st))) : Goes p e below G (T.setTop (mkF m pc Ls st)) := by
  subst hv
  exact go (fun _ q => XS.iinc (g := mkF m pc Ls st) X.here hx rfl hd hl hl' q) K
theorem gIrem (X : Stand p l e R s m args below meth c T locs cells slots) (hx : p.tables.exec = Jvm.exec) {pc : Nat} {Ls : Array Slot} {st : List Value} {x y : Int32} (hd : decode c.code pc = .ok (.irem, 1)) (hy : y ≠ 0) (K : Goes p e below G (T.setTop (mkF m (pc + 1) Ls (.int (x % y) :: st)))) : Goes p e below G (T.setTop (mkF m pc Ls (.int y :: .int x :: st))) :=
  go (fun _ q => iremM X hx (g := mkF m pc Ls (.int y :: .int x :: st)) rfl hd rfl hy q) K
theorem gIdiv (X : Stand p l e R s m args below meth c T locs cells slots) (hx : p.tables.exec = Jvm.exec) {pc : Nat} {Ls : Array Slot} {st : List Value} {x y : Int32} (hd : decode c.code pc = .ok (.idiv, 1)) (hy : y ≠ 0) (K : Goes p e below G (T.setTop (mkF m (pc + 1) Ls (.int (x / y) :: st)))) : Goes p e below G (T.setTop (mkF m pc Ls (.int y :: .int x :: st))) :=
  go (fun _ q => XS.idiv (g := mkF m pc Ls (.int y :: .int x :: st)) X.here hx rfl hd rfl hy q) K
theorem gGoto (X : Stand p l e R s m args below meth c T locs cells slots) (hx : p.tables.exec = Jvm.exec) {pc : Nat} {Ls : Array Slot} {st : List Value} {o : Int} {pc' : Nat} (hd : decode c.code pc = .ok (.goto o, 3)) (ho : 0 ≤ (pc : Int) + o) (hp : ((pc : Int) + o).toNat = pc') (K : Goes p e below G (T.setTop (mkF m pc' Ls (st)))) : Goes p e below G (T.setTop (mkF m pc Ls (st))) :=
  go (fun _ q => XS.goto (g := mkF m pc Ls (st)) X.here hx rfl rfl hd ho hp q) K
theorem gIfY (X : Stand p l e R s m args below meth c T locs cells slots) (hx : p.tables.exec = Jvm.exec) {pc : Nat} {Ls : Array Slot} {st : List Value} {cd : ClassFile.Cond} {x : Int32} {o : Int} {pc' : Nat} (hd : decode c.code pc = .ok (.ifCond cd o, 3)) (hc : ifCond.holds cd x = true) (ho : 0 ≤ (pc : Int) + o) (hp : ((pc : Int) + o).toNat = pc') (K : Goes p e below G (T.setTop (mkF m pc' Ls (st)))) : Goes p e below G (T.setTop (mkF m pc Ls (.int x :: st))) :=
  go (fun _ q => XS.ifYes (g := mkF m pc Ls (.int x :: st)) X.here hx rfl rfl hd rfl hc ho hp q) K
theorem gIfN (X : Stand p l e R s m args below meth c T locs cells slots) (hx : p.tables.exec = Jvm.exec) {pc : Nat} {Ls : Array Slot} {st : List Value} {cd : ClassFile.Cond} {x : Int32} {o : Int} (hd : decode c.code pc = .ok (.ifCond cd o, 3)) (hc : ifCond.holds cd x = false) (K : Goes p e below G (T.setTop (mkF m (pc + 3) Ls (st)))) : Goes p e below G (T.setTop (mkF m pc Ls (.int x :: st))) :=
  go (fun _ q => XS.ifNo (g := mkF m pc Ls (.int x :: st)) X.here hx rfl hd rfl hc q) K
theorem gIcmpY (X : Stand p l e R s m args below meth c T locs cells slots) (hx : p.tables.exec = Jvm.exec) {pc : Nat} {Ls : Array Slot} {st : List Value} {cd : ClassFile.Cond} {x y : Int32} {o : Int} {pc' : Nat} (hd : decode c.code pc = .ok (.if_icmp cd o, 3)) (hc : if_icmp.holds cd x y = true) (ho : 0 ≤ (pc : Int) + o) (hp : ((pc : Int) + o).toNat = pc') (K : Goes p e below G (T.setTop (mkF m pc' Ls (st)))) : Goes p e below G (T.setTop (mkF m pc Ls (.int y :: .int x :: st))) :=
  go (fun _ q => XS.icmpYes (g := mkF m pc Ls (.int y :: .int x :: st)) X.here hx rfl rfl hd rfl hc ho hp q) K
theorem gIcmpN (X : Stand p l e R s m args below meth c T locs cells slots) (hx : p.tables.exec = Jvm.exec) {pc : Nat} {Ls : Array Slot} {st : List Value} {cd : ClassFile.Cond} {x y : Int32} {o : Int} (hd : decode c.code pc = .ok (.if_icmp cd o, 3)) (hc : if_icmp.holds cd x y = false) (K : Goes p e below G (T.setTop (mkF m (pc + 3) Ls (st)))) : Goes p e below G (T.setTop (mkF m pc Ls (.int y :: .int x :: st))) :=
  go (fun _ q => XS.icmpNo (g := mkF m pc Ls (.int y :: .int x :: st)) X.here hx rfl hd rfl hc q) K
theorem gAcmpY (X : Stand p l e R s m args below meth c T locs cells slots) (hx : p.tables.exec = Jvm.exec) {pc : Nat} {Ls : Array Slot} {st : List Value} {cd : ClassFile.ACond} {x y : Value} {o : Int} {pc' : Nat} (hd : decode c.code pc = .ok (.if_acmp cd o, 3)) (hx' : x.isRef = true) (hy' : y.isRef = true) (hc : XT.acmp cd x y = true) (ho : 0 ≤ (pc : Int) + o) (hp : ((pc : Int) + o).toNat = pc') (K : Goes p e below G (T.setTop (mkF m pc' Ls (st)))) : Goes p e below G (T.setTop (mkF m pc Ls (y :: x :: st))) :=
  go (fun _ q => XT.acmpYes (g := mkF m pc Ls (y :: x :: st)) X.here hx rfl rfl hd rfl hx' hy' hc ho hp q) K
theorem gAcmpN (X : Stand p l e R s m args below meth c T locs cells slots) (hx : p.tables.exec = Jvm.exec) {pc : Nat} {Ls : Array Slot} {st : List Value} {cd : ClassFile.ACond} {x y : Value} {o : Int} (hd : decode c.code pc = .ok (.if_acmp cd o, 3)) (hx' : x.isRef = true) (hy' : y.isRef = true) (hc : XT.acmp cd x y = false) (K : Goes p e below G (T.setTop (mkF m (pc + 3) Ls (st)))) : Goes p e below G (T.setTop (mkF m pc Ls (y :: x :: st))) :=
  go (fun _ q => XT.acmpNo (g := mkF m pc Ls (y :: x :: st)) X.here hx rfl hd rfl hx' hy' hc q) K
theorem gNullY (X : Stand p l e R s m args below meth c T locs cells slots) (hx : p.tables.exec = Jvm.exec) {pc : Nat} {Ls : Array Slot} {st : List Value} {o : Int} {pc' : Nat} (hd : decode c.code pc = .ok (.ifnull o, 3)) (ho : 0 ≤ (pc : Int) + o) (hp : ((pc : Int) + o).toNat = pc') (K : Goes p e below G (T.setTop (mkF m pc' Ls (st)))) : Goes p e below G (T.setTop (mkF m pc Ls (.null :: st))) :=
  go (fun _ q => XS.ifnullYes (g := mkF m pc Ls (.null :: st)) X.here hx rfl rfl hd rfl ho hp q) K
theorem gNullN (X : Stand p l e R s m args below meth c T locs cells slots) (hx : p.tables.exec = Jvm.exec) {pc : Nat} {Ls : Array Slot} {st : List Value} {b : Addr} {o : Int} (hd : decode c.code pc = .ok (.ifnull o, 3))  (K : Goes p e below G (T.setTop (mkF m (pc + 3) Ls (st)))) : Goes p e below G (T.setTop (mkF m pc Ls (.ref b :: st))) :=
  go (fun _ q => XS.ifnullNo (g := mkF m pc Ls (.ref b :: st)) X.here hx rfl hd rfl q) K
theorem gNonnullY (X : Stand p l e R s m args below meth c T locs cells slots) (hx : p.tables.exec = Jvm.exec) {pc : Nat} {Ls : Array Slot} {st : List Value} {b : Addr} {o : Int} {pc' : Nat} (hd : decode c.code pc = .ok (.ifnonnull o, 3)) (ho : 0 ≤ (pc : Int) + o) (hp : ((pc : Int) + o).toNat = pc') (K : Goes p e below G (T.setTop (mkF m pc' Ls (st)))) : Goes p e below G (T.setTop (mkF m pc Ls (.ref b :: st))) :=
  go (fun _ q => XT.ifnonnullYes (g := mkF m pc Ls (.ref b :: st)) X.here hx rfl rfl hd rfl ho hp q) K
theorem gNonnullN (X : Stand p l e R s m args below meth c T locs cells slots) (hx : p.tables.exec = Jvm.exec) {pc : Nat} {Ls : Array Slot} {st : List Value} {o : Int} (hd : decode c.code pc = .ok (.ifnonnull o, 3))  (K : Goes p e below G (T.setTop (mkF m (pc + 3) Ls (st)))) : Goes p e below G (T.setTop (mkF m pc Ls (.null :: st))) :=
  go (fun _ q => XT.ifnonnullNo (g := mkF m pc Ls (.null :: st)) X.here hx rfl hd rfl q) K
theorem gLdcI (X : Stand p l e R s m args below meth c T locs cells slots) (hx : p.tables.exec = Jvm.exec) {pc : Nat} {Ls : Array Slot} {st : List Value} (hZ : Z.Warmed39 s.vm) {own : String} (hown : s.vm.findClass own = some m.cls) {i : Nat} {v : Int32} (w : (Cond.constant own i v).before a0 Z = true) (hd : decode c.code pc = .ok (.ldc i, 2)) (K : Goes p e below G (T.setTop (mkF m (pc + 2) Ls (.int v :: st)))) : Goes p e below G (T.setTop (mkF m pc Ls st)) :=
  go (fun _ q => X.ldcI hx hown (mvT hZ w) (g := mkF m pc Ls st) rfl hd q) K
theorem gLdcWI (X : Stand p l e R s m args below meth c T locs cells slots) (hx : p.tables.exec = Jvm.exec) {pc : Nat} {Ls : Array Slot} {st : List Value} (hZ : Z.Warmed39 s.vm) {own : String} (hown : s.vm.findClass own = some m.cls) {i : Nat} {v : Int32} (w : (Cond.constant own i v).before a0 Z = true) (hd : decode c.code pc = .ok (.ldc_w i, 3)) (K : Goes p e below G (T.setTop (mkF m (pc + 3) Ls (.int v :: st)))) : Goes p e below G (T.setTop (mkF m pc Ls st)) :=
  go (fun _ q => X.ldcWI hx hown (mvT hZ w) (g := mkF m pc Ls st) rfl hd q) K
theorem gLdc2J (X : Stand p l e R s m args below meth c T locs cells slots) (hx : p.tables.exec = Jvm.exec) {pc : Nat} {Ls : Array Slot} {st : List Value} (hZ : Z.Warmed39 s.vm) {own : String} (hown : s.vm.findClass own = some m.cls) {i : Nat} {v : Int64} (w : (Cond.constantLong own i v).before a0 Z = true) (hd : decode c.code pc = .ok (.ldc2_w i, 3)) (K : Goes p e below G (T.setTop (mkF m (pc + 3) Ls (.long v :: st)))) : Goes p e below G (T.setTop (mkF m pc Ls st)) :=
  go (fun _ q => X.ldc2J hx hown (mvT hZ w) (g := mkF m pc Ls st) rfl hd q) K
theorem gLdc2D (X : Stand p l e R s m args below meth c T locs cells slots) (hx : p.tables.exec = Jvm.exec) {pc : Nat} {Ls : Array Slot} {st : List Value} (hZ : Z.Warmed39 s.vm) {own : String} (hown : s.vm.findClass own = some m.cls) {i : Nat} {v : UInt64} (w : (Cond.constantDouble own i v).before a0 Z = true) (hd : decode c.code pc = .ok (.ldc2_w i, 3)) (K : Goes p e below G (T.setTop (mkF m (pc + 3) Ls (.double v :: st)))) : Goes p e below G (T.setTop (mkF m pc Ls st)) :=
  go (fun _ q => X.ldc2DoubleC hx hown (mvT hZ w) (g := mkF m pc Ls st) rfl hd _ q) K
end Own
end Jvm.OwnWalk
namespace Jvm.Pilot.@@N@@
open Jvm Jvm.ClassFile Sem Op Lib Jvm.Free Jvm.Stand Jvm.LawKit Jvm.RoadKit Jvm.OwnWalk Bundle Jvm.Pilot.@@N@@.Jvm.D
theorem d_jdk_32_method_1_0 : decode jdk_32_method_1_code 0 = .ok (.getstatic 1, 3) := by decide +kernel
theorem d_jdk_32_method_1_3 : decode jdk_32_method_1_code 3 = .ok (.astore_n 0, 1) := by decide +kernel
theorem d_jdk_32_method_1_4 : decode jdk_32_method_1_code 4 = .ok (.aload_n 0, 1) := by decide +kernel
theorem d_jdk_32_method_1_5 : decode jdk_32_method_1_code 5 = .ok (.areturn, 1) := by decide +kernel
theorem pn_0 : plainName "java/util/Optional" = true := by first | (simp [plainName, overriddenIn]; done) | decide +kernel
theorem ef_rm2 (m : MethodId)  : entryFrame m #[] 1 = mkF m 0 #[.unset] [] := by first | (simp [entryFrame, mkF, argsToLocals, Value.category]; done) | rfl
set_option maxRecDepth 65536 in
set_option maxHeartbeats 40000000 in
theorem rm2 (l : Launch) (Z : State) (a0 : Array Value) (hw : ∀ d ∈ tables_1, d.before a0 Z = true) (w1 : Addr)  (h0 : Heap) (O0 : Ext Z.heap h0) (S_E : Sta Z Z.heap "java/util/Optional" "EMPTY" "Ljava/util/Optional;" (.ref w1)) :
    Ctr l Z (⟨"java/util/Optional", "empty", "()Ljava/util/Optional;"⟩ : MethodName) jdk_32_method_1_code 1 (some (.object "java/util/Optional")) [] ({ frames := 0, cells := 0, slots := 0, locals := 0 } : Room) #[] h0 (fun v h L => v = some (.ref w1) ∧ Fr Z.heap.size L ∧ h = h0) := by
  refine ctr (plainFor_of_name pn_0) ?_
  intro p e s m below meth c s₁ hx hby hml hown hnm hret hlocks hZ X0 e0
  have N0 := Fr.nil Z.heap.size
  have hsz : ∀ {Ls : Array Slot}, Ls.size = 1 → Ls.size = c.maxLocals := fun q => q.trans hml.symm
  refine goE (ef_rm2 m ) ?_
  show Goes p e below _ (s₁.setTop (mkF m 0 #[.unset] []))
  obtain ⟨Tt1, Xt1, et1, stt1⟩ := getS2 X0 hx hZ hown (host := "") (Or.inl (hw _ (List.mem_of_getElem? (i := 11) rfl))) Via.refl e0 (S_E.ext O0) (g := (mkF m 0 #[.unset] [])) rfl (hb hby d_jdk_32_method_1_0)
  refine go stt1 ?_
  show Goes p e below _ (Tt1.setTop (mkF m 3 #[.unset] [(.ref w1)]))
  refine gAstoreN Xt1 hx (hb hby d_jdk_32_method_1_3) rfl (l' := #[.val (.ref w1)]) rfl ?_
  refine gAloadN Xt1 hx (hb hby d_jdk_32_method_1_4) rfl rfl ?_
  exact goRetA Xt1 hx hret hlocks rfl rfl (hb hby d_jdk_32_method_1_5) (by decide) (by decide) et1 (⟨rfl, N0, rfl⟩)
theorem d_prog_39_method_1_0 : decode prog_39_method_1_code 0 = .ok (.aload_n 0, 1) := by decide +kernel
theorem d_prog_39_method_1_1 : decode prog_39_method_1_code 1 = .ok (.invokespecial 1, 3) := by decide +kernel
theorem d_prog_39_method_1_4 : decode prog_39_method_1_code 4 = .ok (.aload_n 0, 1) := by decide +kernel
theorem d_prog_39_method_1_5 : decode prog_39_method_1_code 5 = .ok (.iload_n 1, 1) := by decide +kernel
theorem d_prog_39_method_1_6 : decode prog_39_method_1_code 6 = .ok (.putfield 7, 3) := by decide +kernel
theorem d_prog_39_method_1_9 : decode prog_39_method_1_code 9 = .ok (.aload_n 0, 1) := by decide +kernel
theorem d_prog_39_method_1_10 : decode prog_39_method_1_code 10 = .ok (.aload_n 2, 1) := by decide +kernel
theorem d_prog_39_method_1_11 : decode prog_39_method_1_code 11 = .ok (.putfield 13, 3) := by decide +kernel
theorem d_prog_39_method_1_14 : decode prog_39_method_1_code 14 = .ok (.return_, 1) := by decide +kernel
theorem pn_1 : plainName "com/example/rolegate/rolegate/server/Listeners" = true := by first | (simp [plainName, overriddenIn]; done) | decide +kernel
theorem ef_rm3 (m : MethodId) (x0 : Addr) (x1 : Int32) (x2 : Addr) : entryFrame m #[(.ref x0), (.int x1), (.ref x2)] 3 = mkF m 0 #[.val (.ref x0), .val (.int x1), .val (.ref x2)] [] := by first | (simp [entryFrame, mkF, argsToLocals, Value.category]; done) | rfl
set_option maxRecDepth 65536 in
set_option maxHeartbeats 40000000 in
theorem rm3 (l : Launch) (Z : State) (a0 : Array Value) (hw : ∀ d ∈ tables_1, d.before a0 Z = true)  (a1 : Addr) (p2 : Int32) (a3 : Addr) (h0 : Heap) (O0 : Ext Z.heap h0) (E1 : Exa Z h0 a1 "com/example/rolegate/rolegate/server/Listeners") (F1 : Fld Z h0 a1 "com/example/rolegate/rolegate/server/Listeners" "port" "I" (.int (0 : Int32))) (F2 : Fld Z h0 a1 "com/example/rolegate/rolegate/server/Listeners" "https" "Ljava/util/Optional;" .null) (fr1 : Z.heap.size ≤ a1) :
    Ctr l Z (⟨"com/example/rolegate/rolegate/server/Listeners", "<init>", "(ILjava/util/Optional;)V"⟩ : MethodName) prog_39_method_1_code 3 none [] ({ frames := 1, cells := 0, slots := 0, locals := 12 } : Room) #[(.ref a1), (.int p2), (.ref a3)] h0 (fun v h L => v = none ∧ Fr Z.heap.size L ∧ Keep h0 h [a1] ∧ Fld Z h a1 "com/example/rolegate/rolegate/server/Listeners" "port" "I" (.int p2) ∧ Fld Z h a1 "com/example/rolegate/rolegate/server/Listeners" "https" "Ljava/util/Optional;" (.ref a3)) := by
  refine ctr (plainFor_of_name pn_1) ?_
  intro p e s m below meth c s₁ hx hby hml hown hnm hret hlocks hZ X0 e0
  have N0 := Fr.nil Z.heap.size
  have hsz : ∀ {Ls : Array Slot}, Ls.size = 3 → Ls.size = c.maxLocals := fun q => q.trans hml.symm
  have K0 := Keep.refl h0 [a1]
  refine goE (ef_rm3 m (a1) (p2) (a3)) ?_
  show Goes p e below _ (s₁.setTop (mkF m 0 #[.val (.ref a1), .val (.int p2), .val (.ref a3)] []))
  refine gAloadN X0 hx (hb hby d_prog_39_method_1_0) rfl rfl ?_
  obtain ⟨Tt1, Xt1, et1, stt1⟩ := initO X0 hx hZ hown (hw _ (List.mem_of_getElem? (i := 15) rfl)) (hw _ (List.mem_of_getElem? (i := 16) rfl)) (hw _ (List.mem_of_getElem? (i := 17) rfl)) e0 (g := (mkF m 1 #[.val (.ref a1), .val (.int p2), .val (.ref a3)] [(.ref a1)])) rfl (by rw [hml]; rfl) rfl (hb hby d_prog_39_method_1_1) (by decide) (W := 0) (Nat.le_of_eq rfl) (by decide)
  refine go stt1 ?_
  show Goes p e below _ (Tt1.setTop (mkF m 4 #[.val (.ref a1), .val (.int p2), .val (.ref a3)] []))
  refine gAloadN Xt1 hx (hb hby d_prog_39_method_1_4) rfl rfl ?_
  refine gIloadN Xt1 hx (hb hby d_prog_39_method_1_5) rfl ?_
  obtain ⟨Tt2, ht2, Xt2, et2, Wt2, stt2⟩ := putF Xt1 hx hZ hown (host := "") (Or.inl (hw _ (List.mem_of_getElem? (i := 18) rfl))) Via.refl et1 F1 E1 (Or.inr ⟨(hw _ (List.mem_of_getElem? (i := 19) rfl)), rfl, hnm⟩) (hw _ (List.mem_of_getElem? (i := 6) rfl)) (ty := .int) (by decide) rfl rfl (g := (mkF m 6 #[.val (.ref a1), .val (.int p2), .val (.ref a3)] [(.int p2), (.ref a1)])) rfl rfl (hb hby d_prog_39_method_1_6)
  refine go stt2 ?_
  have N3 := Fr.snoc Xt2 N0 fr1
  replace F1 := F1.same Wt2
  replace E1 := E1.wr Wt2
  replace F2 := F2.other Wt2 (Or.inr (slot_ne (Or.inr (hw _ (List.mem_of_getElem? (i := 21) rfl))) (Or.inr (hw _ (List.mem_of_getElem? (i := 19) rfl))) (by decide) (t := (.object "java/util/Optional")) (by decide) (t' := .int) (by decide)))
  have O4 : Ext Z.heap ht2 := extW O0 Wt2 fr1
  have K5 := K0.wr Wt2 (Or.inl (by simp))
  show Goes p e below _ (Tt2.setTop (mkF m 9 #[.val (.ref a1), .val (.int p2), .val (.ref a3)] []))
  refine gAloadN Xt2 hx (hb hby d_prog_39_method_1_9) rfl rfl ?_
  refine gAloadN Xt2 hx (hb hby d_prog_39_method_1_10) rfl rfl ?_
  obtain ⟨Tt6, ht6, Xt6, et6, Wt6, stt6⟩ := putF Xt2 hx hZ hown (host := "") (Or.inl (hw _ (List.mem_of_getElem? (i := 20) rfl))) Via.refl et2 F2 E1 (Or.inr ⟨(hw _ (List.mem_of_getElem? (i := 21) rfl)), rfl, hnm⟩) (hw _ (List.mem_of_getElem? (i := 6) rfl)) (ty := (.object "java/util/Optional")) (by decide) rfl rfl (g := (mkF m 11 #[.val (.ref a1), .val (.int p2), .val (.ref a3)] [(.ref a3), (.ref a1)])) rfl rfl (hb hby d_prog_39_method_1_11)
  refine go stt6 ?_
  have N7 := Fr.snoc Xt6 N3 fr1
  replace F2 := F2.same Wt6
  replace E1 := E1.wr Wt6
  replace F1 := F1.other Wt6 (Or.inr (slot_ne (Or.inr (hw _ (List.mem_of_getElem? (i := 19) rfl))) (Or.inr (hw _ (List.mem_of_getElem? (i := 21) rfl))) (by decide) (t := .int) (by decide) (t' := (.object "java/util/Optional")) (by decide)))
  have O8 : Ext Z.heap ht6 := extW O4 Wt6 fr1
  have K9 := K5.wr Wt6 (Or.inl (by simp))
  show Goes p e below _ (Tt6.setTop (mkF m 14 #[.val (.ref a1), .val (.int p2), .val (.ref a3)] []))
  exact goRet0 Xt6 hx hret hlocks (hb hby d_prog_39_method_1_14) (by decide) (by decide) et6 (⟨rfl, N7, K9, F1, F2⟩)
theorem d_prog_39_method_2_0 : decode prog_39_method_2_code 0 = .ok (.new 8, 3) := by decide +kernel
theorem d_prog_39_method_2_3 : decode prog_39_method_2_code 3 = .ok (.dup, 1) := by decide +kernel
theorem d_prog_39_method_2_4 : decode prog_39_method_2_code 4 = .ok (.iload_n 0, 1) := by decide +kernel
theorem pd_0 : parseMethodDescriptor "()Ljava/util/Optional;" = some ⟨[], some (.object "java/util/Optional")⟩ := by decide +kernel
theorem d_prog_39_method_2_5 : decode prog_39_method_2_code 5 = .ok (.invokestatic 17, 3) := by decide +kernel
theorem pd_1 : parseMethodDescriptor "(ILjava/util/Optional;)V" = some ⟨[.int, (.object "java/util/Optional")], none⟩ := by decide +kernel
theorem d_prog_39_method_2_8 : decode prog_39_method_2_code 8 = .ok (.invokespecial 23, 3) := by decide +kernel
theorem d_prog_39_method_2_11 : decode prog_39_method_2_code 11 = .ok (.areturn, 1) := by decide +kernel
theorem ef_rm1 (m : MethodId) (x0 : Int32) : entryFrame m #[(.int x0)] 1 = mkF m 0 #[.val (.int x0)] [] := by first | (simp [entryFrame, mkF, argsToLocals, Value.category]; done) | rfl
set_option maxRecDepth 65536 in
set_option maxHeartbeats 40000000 in
theorem rm1 (l : Launch) (Z : State) (a0 : Array Value) (hw : ∀ d ∈ tables_1, d.before a0 Z = true) (w1 : Addr) (p1 : Int32) (h0 : Heap) (O0 : Ext Z.heap h0) (S_E : Sta Z Z.heap "java/util/Optional" "EMPTY" "Ljava/util/Optional;" (.ref w1)) :
    Ctr l Z (⟨"com/example/rolegate/rolegate/server/Listeners", "http", "(I)Lcom/example/rolegate/rolegate/server/Listeners;"⟩ : MethodName) prog_39_method_2_code 1 (some (.object "com/example/rolegate/rolegate/server/Listeners")) [] ({ frames := 2, cells := 1, slots := 2, locals := 29 } : Room) #[(.int p1)] h0 (fun v h L => ∃ b, v = some (.ref b) ∧ Fr Z.heap.size L ∧ Keep h0 h [] ∧ h0.size ≤ b ∧ Exa Z h b "com/example/rolegate/rolegate/server/Listeners" ∧ Fld Z h b "com/example/rolegate/rolegate/server/Listeners" "port" "I" (.int p1) ∧ Fld Z h b "com/example/rolegate/rolegate/server/Listeners" "https" "Ljava/util/Optional;" (.ref w1)) := by
  refine ctr (plainFor_of_name pn_1) ?_
  intro p e s m below meth c s₁ hx hby hml hown hnm hret hlocks hZ X0 e0
  have N0 := Fr.nil Z.heap.size
  have hsz : ∀ {Ls : Array Slot}, Ls.size = 1 → Ls.size = c.maxLocals := fun q => q.trans hml.symm
  have K0 := Keep.refl h0 []
  refine goE (ef_rm1 m (p1)) ?_
  show Goes p e below _ (s₁.setTop (mkF m 0 #[.val (.int p1)] []))
  obtain ⟨Tt1, ht1, Xt1, et1, Et1, At1, Dt1, -, stt1⟩ := newO X0 hx hZ hown (hw _ (List.mem_of_getElem? (i := 5) rfl)) (hw _ (List.mem_of_getElem? (i := 6) rfl)) (hw _ (List.mem_of_getElem? (i := 3) rfl)) e0 (g := (mkF m 0 #[.val (.int p1)] [])) rfl (hb hby d_prog_39_method_2_0) (by decide) (by decide)
  obtain ⟨b2, gb2⟩ : ∃ z, z = h0.size := ⟨_, rfl⟩
  rw [← gb2] at At1 Dt1 stt1
  refine go stt1 ?_
  have fr_b2 : Z.heap.size ≤ b2 := gb2 ▸ O0.1
  have pa_b2 : h0.size ≤ b2 := gb2 ▸ K0.1
  have O3 : Ext Z.heap ht1 := extT O0 Et1
  have K4 := K0.ext Et1
  have F_port_b2 : Fld Z ht1 b2 "com/example/rolegate/rolegate/server/Listeners" "port" "I" (.int (0 : Int32)) := Dt1 (Or.inr (hw _ (List.mem_of_getElem? (i := 19) rfl))) (ty := .int) (by decide)
  have F_https_b2 : Fld Z ht1 b2 "com/example/rolegate/rolegate/server/Listeners" "https" "Ljava/util/Optional;" .null := Dt1 (Or.inr (hw _ (List.mem_of_getElem? (i := 21) rfl))) (ty := (.object "java/util/Optional")) (by decide)
  show Goes p e below _ (Tt1.setTop (mkF m 3 #[.val (.int p1)] [(.ref b2)]))
  refine gDup Xt1 hx (hb hby d_prog_39_method_2_3) rfl ?_
  refine gIloadN Xt1 hx (hb hby d_prog_39_method_2_4) rfl ?_
  refine goCallS Xt1 hx hZ hown (hw _ (List.mem_of_getElem? (i := 7) rfl)) (hw _ (List.mem_of_getElem? (i := 8) rfl)) (hw _ (List.mem_of_getElem? (i := 9) rfl)) (hw _ (List.mem_of_getElem? (i := 10) rfl)) (by decide) (rm2 l Z a0 hw w1 ht1 O3 S_E) 3 (by decide) (by decide) et1 (hsz rfl) [] [(.int p1), (.ref b2), (.ref b2)] pd_0 rfl rfl rfl (Nat.le_of_eq rfl) (hb hby d_prog_39_method_2_5) (by decide) (by decide) (fun Tt5 vt5 Lt5 Xt5 qt5 => ?_)
  obtain ⟨rfl, N6, et5⟩ := qt5
  have N7 := Fr.app N0 N6
  show Goes p e below _ (Tt5.setTop (mkF m 8 #[.val (.int p1)] [(.ref w1), (.int p1), (.ref b2), (.ref b2)]))
  refine goCallI Xt5 hx hZ rfl hown (hw _ (List.mem_of_getElem? (i := 12) rfl)) (hw _ (List.mem_of_getElem? (i := 13) rfl)) (hw _ (List.mem_of_getElem? (i := 3) rfl)) (hw _ (List.mem_of_getElem? (i := 14) rfl)) (by decide) (rm3 l Z a0 hw b2 p1 w1 ht1 O3 At1 F_port_b2 F_https_b2 fr_b2) 1 (by decide) (by decide) et5 (hsz rfl) b2 [(.int p1), (.ref w1)] [(.ref b2)] pd_1 rfl rfl rfl (Nat.le_of_eq rfl) (hb hby d_prog_39_method_2_8) (by decide) (by decide) (fun Tt8 vt8 Lt8 Xt8 qt8 => ?_)
  obtain ⟨ht8, et8⟩ : ∃ z, Tt8.heap = z := ⟨_, rfl⟩
  rw [et8] at qt8
  obtain ⟨rfl, N9, Kct8, F1, F2⟩ := qt8
  have N10 := Fr.app N7 N9
  replace At1 := At1.keep Kct8
  have O11 : Ext Z.heap ht8 := extK O3 Kct8 (allS fr_b2 all0)
  have K12 := K4.trans Kct8 (allS (Or.inr pa_b2) all0)
  show Goes p e below _ (Tt8.setTop (mkF m 11 #[.val (.int p1)] [(.ref b2)]))
  exact goRetA Xt8 hx hret hlocks rfl rfl (hb hby d_prog_39_method_2_11) (by decide) (by decide) et8 (⟨b2, rfl, N10, K12, pa_b2, At1, F1, F2⟩)
theorem d_prog_39_method_4_0 : decode prog_39_method_4_code 0 = .ok (.aload_n 0, 1) := by decide +kernel
theorem d_prog_39_method_4_1 : decode prog_39_method_4_code 1 = .ok (.getfield 7, 3) := by decide +kernel
theorem d_prog_39_method_4_4 : decode prog_39_method_4_code 4 = .ok (.ireturn, 1) := by decide +kernel
theorem ef_rm5 (m : MethodId) (x0 : Addr) : entryFrame m #[(.ref x0)] 1 = mkF m 0 #[.val (.ref x0)] [] := by first | (simp [entryFrame, mkF, argsToLocals, Value.category]; done) | rfl
set_option maxRecDepth 65536 in
set_option maxHeartbeats 40000000 in
theorem rm5 (l : Launch) (Z : State) (a0 : Array Value) (hw : ∀ d ∈ tables_1, d.before a0 Z = true) (p2 : Int32) (a1 : Addr) (h0 : Heap) (O0 : Ext Z.heap h0) (F1 : Fld Z h0 a1 "com/example/rolegate/rolegate/server/Listeners" "port" "I" (.int p2)) :
    Ctr l Z (⟨"com/example/rolegate/rolegate/server/Listeners", "port", "()I"⟩ : MethodName) prog_39_method_4_code 1 (some .int) [] ({ frames := 0, cells := 0, slots := 0, locals := 0 } : Room) #[(.ref a1)] h0 (fun v h L => v = some (.int p2) ∧ Fr Z.heap.size L ∧ h = h0) := by
  refine ctr (plainFor_of_name pn_1) ?_
  intro p e s m below meth c s₁ hx hby hml hown hnm hret hlocks hZ X0 e0
  have N0 := Fr.nil Z.heap.size
  have hsz : ∀ {Ls : Array Slot}, Ls.size = 1 → Ls.size = c.maxLocals := fun q => q.trans hml.symm
  refine goE (ef_rm5 m (a1)) ?_
  show Goes p e below _ (s₁.setTop (mkF m 0 #[.val (.ref a1)] []))
  refine gAloadN X0 hx (hb hby d_prog_39_method_4_0) rfl rfl ?_
  obtain ⟨Tt1, Xt1, et1, stt1⟩ := getF X0 hx hZ hown (host := "") (Or.inl (hw _ (List.mem_of_getElem? (i := 18) rfl))) Via.refl e0 F1 (g := (mkF m 1 #[.val (.ref a1)] [(.ref a1)])) rfl rfl (hb hby d_prog_39_method_4_1)
  refine go stt1 ?_
  show Goes p e below _ (Tt1.setTop (mkF m 4 #[.val (.ref a1)] [(.int p2)]))
  exact goRetI Xt1 hx hret hlocks (hb hby d_prog_39_method_4_4) (by decide) (by decide) et1 (⟨rfl, N0, rfl⟩)
theorem d_prog_39_method_5_0 : decode prog_39_method_5_code 0 = .ok (.aload_n 0, 1) := by decide +kernel
theorem d_prog_39_method_5_1 : decode prog_39_method_5_code 1 = .ok (.getfield 13, 3) := by decide +kernel
theorem d_prog_39_method_5_4 : decode prog_39_method_5_code 4 = .ok (.areturn, 1) := by decide +kernel
theorem ef_rm6 (m : MethodId) (x0 : Addr) : entryFrame m #[(.ref x0)] 1 = mkF m 0 #[.val (.ref x0)] [] := by first | (simp [entryFrame, mkF, argsToLocals, Value.category]; done) | rfl
set_option maxRecDepth 65536 in
set_option maxHeartbeats 40000000 in
theorem rm6 (l : Launch) (Z : State) (a0 : Array Value) (hw : ∀ d ∈ tables_1, d.before a0 Z = true) (a2 : Addr) (a1 : Addr) (h0 : Heap) (O0 : Ext Z.heap h0) (F1 : Fld Z h0 a1 "com/example/rolegate/rolegate/server/Listeners" "https" "Ljava/util/Optional;" (.ref a2)) :
    Ctr l Z (⟨"com/example/rolegate/rolegate/server/Listeners", "https", "()Ljava/util/Optional;"⟩ : MethodName) prog_39_method_5_code 1 (some (.object "java/util/Optional")) [] ({ frames := 0, cells := 0, slots := 0, locals := 0 } : Room) #[(.ref a1)] h0 (fun v h L => v = some (.ref a2) ∧ Fr Z.heap.size L ∧ h = h0) := by
  refine ctr (plainFor_of_name pn_1) ?_
  intro p e s m below meth c s₁ hx hby hml hown hnm hret hlocks hZ X0 e0
  have N0 := Fr.nil Z.heap.size
  have hsz : ∀ {Ls : Array Slot}, Ls.size = 1 → Ls.size = c.maxLocals := fun q => q.trans hml.symm
  refine goE (ef_rm6 m (a1)) ?_
  show Goes p e below _ (s₁.setTop (mkF m 0 #[.val (.ref a1)] []))
  refine gAloadN X0 hx (hb hby d_prog_39_method_5_0) rfl rfl ?_
  obtain ⟨Tt1, Xt1, et1, stt1⟩ := getF X0 hx hZ hown (host := "") (Or.inl (hw _ (List.mem_of_getElem? (i := 20) rfl))) Via.refl e0 F1 (g := (mkF m 1 #[.val (.ref a1)] [(.ref a1)])) rfl rfl (hb hby d_prog_39_method_5_1)
  refine go stt1 ?_
  show Goes p e below _ (Tt1.setTop (mkF m 4 #[.val (.ref a1)] [(.ref a2)]))
  exact goRetA Xt1 hx hret hlocks rfl rfl (hb hby d_prog_39_method_5_4) (by decide) (by decide) et1 (⟨rfl, N0, rfl⟩)
theorem d_jdk_32_method_6_0 : decode jdk_32_method_6_code 0 = .ok (.aload_n 0, 1) := by decide +kernel
theorem d_jdk_32_method_6_1 : decode jdk_32_method_6_code 1 = .ok (.getfield 13, 3) := by decide +kernel
theorem d_jdk_32_method_6_4 : decode jdk_32_method_6_code 4 = .ok (.ifnull 7, 3) := by decide +kernel
theorem d_jdk_32_method_6_11 : decode jdk_32_method_6_code 11 = .ok (.iconst 0, 1) := by decide +kernel
theorem d_jdk_32_method_6_12 : decode jdk_32_method_6_code 12 = .ok (.ireturn, 1) := by decide +kernel
theorem ef_rm7 (m : MethodId) (x0 : Addr) : entryFrame m #[(.ref x0)] 1 = mkF m 0 #[.val (.ref x0)] [] := by first | (simp [entryFrame, mkF, argsToLocals, Value.category]; done) | rfl
set_option maxRecDepth 65536 in
set_option maxHeartbeats 40000000 in
theorem rm7 (l : Launch) (Z : State) (a0 : Array Value) (hw : ∀ d ∈ tables_1, d.before a0 Z = true)  (a1 : Addr) (h0 : Heap) (O0 : Ext Z.heap h0) (F1 : Fld Z h0 a1 "java/util/Optional" "value" "Ljava/lang/Object;" .null) :
    Ctr l Z (⟨"java/util/Optional", "isPresent", "()Z"⟩ : MethodName) jdk_32_method_6_code 1 (some .boolean) [] ({ frames := 0, cells := 0, slots := 0, locals := 0 } : Room) #[(.ref a1)] h0 (fun v h L => v = some (.int 0) ∧ Fr Z.heap.size L ∧ h = h0) := by
  refine ctr (plainFor_of_name pn_0) ?_
  intro p e s m below meth c s₁ hx hby hml hown hnm hret hlocks hZ X0 e0
  have N0 := Fr.nil Z.heap.size
  have hsz : ∀ {Ls : Array Slot}, Ls.size = 1 → Ls.size = c.maxLocals := fun q => q.trans hml.symm
  refine goE (ef_rm7 m (a1)) ?_
  show Goes p e below _ (s₁.setTop (mkF m 0 #[.val (.ref a1)] []))
  refine gAloadN X0 hx (hb hby d_jdk_32_method_6_0) rfl rfl ?_
  obtain ⟨Tt1, Xt1, et1, stt1⟩ := getF X0 hx hZ hown (host := "") (Or.inl (hw _ (List.mem_of_getElem? (i := 37) rfl))) Via.refl e0 F1 (g := (mkF m 1 #[.val (.ref a1)] [(.ref a1)])) rfl rfl (hb hby d_jdk_32_method_6_1)
  refine go stt1 ?_
  show Goes p e below _ (Tt1.setTop (mkF m 4 #[.val (.ref a1)] [.null]))
  refine gNullY Xt1 hx (hb hby d_jdk_32_method_6_4) (pc' := 11) (by decide) (by decide) ?_
  show Goes p e below _ (Tt1.setTop (mkF m 11 #[.val (.ref a1)] []))
  refine gIconst Xt1 hx (hb hby d_jdk_32_method_6_11) (v := (0 : Int32)) rfl ?_
  exact goRetN Xt1 hx (t := .boolean) hret hlocks (by simp) (hb hby d_jdk_32_method_6_12) (z' := (0 : Int32)) rfl (by decide) (by decide) et1 (⟨rfl, N0, rfl⟩)
theorem pd_2 : parseMethodDescriptor "(I)Lcom/example/rolegate/rolegate/server/Listeners;" = some ⟨[.int], some (.object "com/example/rolegate/rolegate/server/Listeners")⟩ := by decide +kernel
theorem pd_3 : parseMethodDescriptor "()I" = some ⟨[], some .int⟩ := by decide +kernel
theorem pd_4 : parseMethodDescriptor "()Z" = some ⟨[], some .boolean⟩ := by decide +kernel
theorem pn_2 : plainName "com/example/rolegate/rolegate/server/ListenersHttpPinLaw" = true := by first | (simp [plainName, overriddenIn]; done) | decide +kernel
theorem ef_rm0 (m : MethodId) (x0 : Int32) (x1 : Int32) : entryFrame m #[(.int x0), (.int x1)] maxLocals = mkF m 0 #[.val (.int x0), .val (.int x1), .unset, .unset, .unset, .unset] [] := by first | (simp [entryFrame, mkF, argsToLocals, Value.category, maxLocals]; done) | rfl
set_option maxRecDepth 65536 in
set_option maxHeartbeats 40000000 in
theorem rm0 (l : Launch) (Z : State) (a0 : Array Value) (hw : ∀ d ∈ tables_1, d.before a0 Z = true) (w1 : Addr) (p1 : Int32) (p2 : Int32) (h0 : Heap) (O0 : Ext Z.heap h0) (S_E : Sta Z Z.heap "java/util/Optional" "EMPTY" "Ljava/util/Optional;" (.ref w1)) (E1 : Exa Z h0 w1 "java/util/Optional") (F1 : Fld Z h0 w1 "java/util/Optional" "value" "Ljava/lang/Object;" .null) :
    Ctr l Z x code maxLocals ret tables_1 room_1 #[(.int p1), (.int p2)] h0 (fun v h L => v = some (.int 1) ∧ Fr Z.heap.size L) := by
  refine ctr (plainFor_of_name pn_2) ?_
  intro p e s m below meth c s₁ hx hby hml hown hnm hret hlocks hZ X0 e0
  have N0 := Fr.nil Z.heap.size
  have hsz : ∀ {Ls : Array Slot}, Ls.size = 6 → Ls.size = c.maxLocals := fun q => q.trans hml.symm
  refine goE (ef_rm0 m (p1) (p2)) ?_
  show Goes p e below _ (s₁.setTop (mkF m 0 #[.val (.int p1), .val (.int p2), .unset, .unset, .unset, .unset] []))
  refine gIloadN X0 hx (hb hby at_0) rfl ?_
  refine gLdcI X0 hx hZ hown (hw _ (List.mem_of_getElem? (i := 0) rfl)) (hb hby at_1) ?_
  refine gIand X0 hx (hb hby at_3) ?_
  refine gIstoreN X0 hx (hb hby at_4) (l' := #[.val (.int p1), .val (.int p2), .val (.int (p1 &&& (65535 : Int32))), .unset, .unset, .unset]) rfl ?_
  refine gIloadN X0 hx (hb hby at_5) rfl ?_
  refine gLdcI X0 hx hZ hown (hw _ (List.mem_of_getElem? (i := 0) rfl)) (hb hby at_6) ?_
  refine gIand X0 hx (hb hby at_8) ?_
  show Goes p e below _ (s₁.setTop (mkF m 9 #[.val (.int p1), .val (.int p2), .val (.int (p1 &&& (65535 : Int32))), .unset, .unset, .unset] [(.int (p2 &&& (65535 : Int32)))]))
  refine gIstoreN X0 hx (hb hby at_9) (l' := #[.val (.int p1), .val (.int p2), .val (.int (p1 &&& (65535 : Int32))), .val (.int (p2 &&& (65535 : Int32))), .unset, .unset]) rfl ?_
  refine gIloadN X0 hx (hb hby at_10) rfl ?_
  refine goCallS X0 hx hZ hown (hw _ (List.mem_of_getElem? (i := 1) rfl)) (hw _ (List.mem_of_getElem? (i := 2) rfl)) (hw _ (List.mem_of_getElem? (i := 3) rfl)) (hw _ (List.mem_of_getElem? (i := 4) rfl)) (by decide) (rm1 l Z a0 hw w1 (p1 &&& (65535 : Int32)) h0 O0 S_E) 0 (by decide) (by decide) e0 (hsz rfl) [(.int (p1 &&& (65535 : Int32)))] [] pd_2 rfl rfl rfl (Nat.le_of_eq rfl) (hb hby at_11) (by decide) (by decide) (fun Tt1 vt1 Lt1 Xt1 qt1 => ?_)
  obtain ⟨ht1, et1⟩ : ∃ z, Tt1.heap = z := ⟨_, rfl⟩
  rw [et1] at qt1
  obtain ⟨b1, rfl, N2, Kct1, pa_b1, E_b1, Fp_b1, Fs_b1⟩ := qt1
  have N3 := Fr.app N0 N2
  replace E1 := E1.keep Kct1
  replace F1 := F1.keep Kct1 nin0
  have O4 : Ext Z.heap ht1 := extK O0 Kct1 all0
  show Goes p e below _ (Tt1.setTop (mkF m 14 #[.val (.int p1), .val (.int p2), .val (.int (p1 &&& (65535 : Int32))), .val (.int (p2 &&& (65535 : Int32))), .unset, .unset] [(.ref b1)]))
  refine gAstore Xt1 hx (hb hby at_14) rfl (l' := #[.val (.int p1), .val (.int p2), .val (.int (p1 &&& (65535 : Int32))), .val (.int (p2 &&& (65535 : Int32))), .val (.ref b1), .unset]) rfl ?_
  refine gIloadN Xt1 hx (hb hby at_16) rfl ?_
  refine goCallS Xt1 hx hZ hown (hw _ (List.mem_of_getElem? (i := 1) rfl)) (hw _ (List.mem_of_getElem? (i := 2) rfl)) (hw _ (List.mem_of_getElem? (i := 3) rfl)) (hw _ (List.mem_of_getElem? (i := 4) rfl)) (by decide) (rm1 l Z a0 hw w1 (p2 &&& (65535 : Int32)) ht1 O4 S_E) 0 (by decide) (by decide) et1 (hsz rfl) [(.int (p2 &&& (65535 : Int32)))] [] pd_2 rfl rfl rfl (Nat.le_of_eq rfl) (hb hby at_17) (by decide) (by decide) (fun Tt5 vt5 Lt5 Xt5 qt5 => ?_)
  obtain ⟨ht5, et5⟩ : ∃ z, Tt5.heap = z := ⟨_, rfl⟩
  rw [et5] at qt5
  obtain ⟨b2, rfl, N6, Kct5, pa_b2, E_b2, Fp_b2, Fs_b2⟩ := qt5
  have N7 := Fr.app N3 N6
  replace E1 := E1.keep Kct5
  replace F1 := F1.keep Kct5 nin0
  replace E_b1 := E_b1.keep Kct5
  replace Fp_b1 := Fp_b1.keep Kct5 nin0
  replace Fs_b1 := Fs_b1.keep Kct5 nin0
  have O8 : Ext Z.heap ht5 := extK O4 Kct5 all0
  show Goes p e below _ (Tt5.setTop (mkF m 20 #[.val (.int p1), .val (.int p2), .val (.int (p1 &&& (65535 : Int32))), .val (.int (p2 &&& (65535 : Int32))), .val (.ref b1), .unset] [(.ref b2)]))
  refine gAstore Xt5 hx (hb hby at_20) rfl (l' := #[.val (.int p1), .val (.int p2), .val (.int (p1 &&& (65535 : Int32))), .val (.int (p2 &&& (65535 : Int32))), .val (.ref b1), .val (.ref b2)]) rfl ?_
  refine gAload Xt5 hx (hb hby at_22) rfl rfl ?_
  refine gNullN Xt5 hx (hb hby at_24) ?_
  show Goes p e below _ (Tt5.setTop (mkF m 27 #[.val (.int p1), .val (.int p2), .val (.int (p1 &&& (65535 : Int32))), .val (.int (p2 &&& (65535 : Int32))), .val (.ref b1), .val (.ref b2)] []))
  refine gAload Xt5 hx (hb hby at_27) rfl rfl ?_
  refine gNonnullY Xt5 hx (hb hby at_29) (pc' := 34) (by decide) (by decide) ?_
  show Goes p e below _ (Tt5.setTop (mkF m 34 #[.val (.int p1), .val (.int p2), .val (.int (p1 &&& (65535 : Int32))), .val (.int (p2 &&& (65535 : Int32))), .val (.ref b1), .val (.ref b2)] []))
  refine gAload Xt5 hx (hb hby at_34) rfl rfl ?_
  refine goCallV Xt5 hx hZ hown (hw _ (List.mem_of_getElem? (i := 22) rfl)) (hw _ (List.mem_of_getElem? (i := 23) rfl)) (hw _ (List.mem_of_getElem? (i := 25) rfl)) (hw _ (List.mem_of_getElem? (i := 24) rfl)) (hw _ (List.mem_of_getElem? (i := 3) rfl)) (hw _ (List.mem_of_getElem? (i := 26) rfl)) (by decide) (rm5 l Z a0 hw (p1 &&& (65535 : Int32)) b1 ht5 O8 Fp_b1) 0 (by decide) (by decide) et5 E_b1 (hsz rfl) [] [] pd_3 rfl rfl rfl (Nat.le_of_eq rfl) (hb hby at_36) (by decide) (by decide) (fun Tt9 vt9 Lt9 Xt9 qt9 => ?_)
  obtain ⟨rfl, N10, et9⟩ := qt9
  have N11 := Fr.app N7 N10
  show Goes p e below _ (Tt9.setTop (mkF m 39 #[.val (.int p1), .val (.int p2), .val (.int (p1 &&& (65535 : Int32))), .val (.int (p2 &&& (65535 : Int32))), .val (.ref b1), .val (.ref b2)] [(.int (p1 &&& (65535 : Int32)))]))
  refine gIloadN Xt9 hx (hb hby at_39) rfl ?_
  refine gIcmpN Xt9 hx (hb hby at_40) (XT.ii_ne_f rfl) ?_
  show Goes p e below _ (Tt9.setTop (mkF m 43 #[.val (.int p1), .val (.int p2), .val (.int (p1 &&& (65535 : Int32))), .val (.int (p2 &&& (65535 : Int32))), .val (.ref b1), .val (.ref b2)] []))
  refine gAload Xt9 hx (hb hby at_43) rfl rfl ?_
  refine goCallV Xt9 hx hZ hown (hw _ (List.mem_of_getElem? (i := 22) rfl)) (hw _ (List.mem_of_getElem? (i := 23) rfl)) (hw _ (List.mem_of_getElem? (i := 25) rfl)) (hw _ (List.mem_of_getElem? (i := 24) rfl)) (hw _ (List.mem_of_getElem? (i := 3) rfl)) (hw _ (List.mem_of_getElem? (i := 26) rfl)) (by decide) (rm5 l Z a0 hw (p2 &&& (65535 : Int32)) b2 ht5 O8 Fp_b2) 0 (by decide) (by decide) et9 E_b2 (hsz rfl) [] [] pd_3 rfl rfl rfl (Nat.le_of_eq rfl) (hb hby at_45) (by decide) (by decide) (fun Tt12 vt12 Lt12 Xt12 qt12 => ?_)
  obtain ⟨rfl, N13, et12⟩ := qt12
  have N14 := Fr.app N11 N13
  show Goes p e below _ (Tt12.setTop (mkF m 48 #[.val (.int p1), .val (.int p2), .val (.int (p1 &&& (65535 : Int32))), .val (.int (p2 &&& (65535 : Int32))), .val (.ref b1), .val (.ref b2)] [(.int (p2 &&& (65535 : Int32)))]))
  refine gIloadN Xt12 hx (hb hby at_48) rfl ?_
  refine gIcmpY Xt12 hx (hb hby at_49) (pc' := 54) (XT.ii_eq_t rfl) (by decide) (by decide) ?_
  show Goes p e below _ (Tt12.setTop (mkF m 54 #[.val (.int p1), .val (.int p2), .val (.int (p1 &&& (65535 : Int32))), .val (.int (p2 &&& (65535 : Int32))), .val (.ref b1), .val (.ref b2)] []))
  refine gAload Xt12 hx (hb hby at_54) rfl rfl ?_
  refine goCallV Xt12 hx hZ hown (hw _ (List.mem_of_getElem? (i := 27) rfl)) (hw _ (List.mem_of_getElem? (i := 28) rfl)) (hw _ (List.mem_of_getElem? (i := 30) rfl)) (hw _ (List.mem_of_getElem? (i := 29) rfl)) (hw _ (List.mem_of_getElem? (i := 3) rfl)) (hw _ (List.mem_of_getElem? (i := 31) rfl)) (by decide) (rm6 l Z a0 hw w1 b1 ht5 O8 Fs_b1) 0 (by decide) (by decide) et12 E_b1 (hsz rfl) [] [] pd_0 rfl rfl rfl (Nat.le_of_eq rfl) (hb hby at_56) (by decide) (by decide) (fun Tt15 vt15 Lt15 Xt15 qt15 => ?_)
  obtain ⟨rfl, N16, et15⟩ := qt15
  have N17 := Fr.app N14 N16
  show Goes p e below _ (Tt15.setTop (mkF m 59 #[.val (.int p1), .val (.int p2), .val (.int (p1 &&& (65535 : Int32))), .val (.int (p2 &&& (65535 : Int32))), .val (.ref b1), .val (.ref b2)] [(.ref w1)]))
  refine gNullN Xt15 hx (hb hby at_59) ?_
  show Goes p e below _ (Tt15.setTop (mkF m 62 #[.val (.int p1), .val (.int p2), .val (.int (p1 &&& (65535 : Int32))), .val (.int (p2 &&& (65535 : Int32))), .val (.ref b1), .val (.ref b2)] []))
  refine gAload Xt15 hx (hb hby at_62) rfl rfl ?_
  refine goCallV Xt15 hx hZ hown (hw _ (List.mem_of_getElem? (i := 27) rfl)) (hw _ (List.mem_of_getElem? (i := 28) rfl)) (hw _ (List.mem_of_getElem? (i := 30) rfl)) (hw _ (List.mem_of_getElem? (i := 29) rfl)) (hw _ (List.mem_of_getElem? (i := 3) rfl)) (hw _ (List.mem_of_getElem? (i := 31) rfl)) (by decide) (rm6 l Z a0 hw w1 b2 ht5 O8 Fs_b2) 0 (by decide) (by decide) et15 E_b2 (hsz rfl) [] [] pd_0 rfl rfl rfl (Nat.le_of_eq rfl) (hb hby at_64) (by decide) (by decide) (fun Tt18 vt18 Lt18 Xt18 qt18 => ?_)
  obtain ⟨rfl, N19, et18⟩ := qt18
  have N20 := Fr.app N17 N19
  show Goes p e below _ (Tt18.setTop (mkF m 67 #[.val (.int p1), .val (.int p2), .val (.int (p1 &&& (65535 : Int32))), .val (.int (p2 &&& (65535 : Int32))), .val (.ref b1), .val (.ref b2)] [(.ref w1)]))
  refine gNonnullY Xt18 hx (hb hby at_67) (pc' := 72) (by decide) (by decide) ?_
  show Goes p e below _ (Tt18.setTop (mkF m 72 #[.val (.int p1), .val (.int p2), .val (.int (p1 &&& (65535 : Int32))), .val (.int (p2 &&& (65535 : Int32))), .val (.ref b1), .val (.ref b2)] []))
  refine gAload Xt18 hx (hb hby at_72) rfl rfl ?_
  refine goCallV Xt18 hx hZ hown (hw _ (List.mem_of_getElem? (i := 27) rfl)) (hw _ (List.mem_of_getElem? (i := 28) rfl)) (hw _ (List.mem_of_getElem? (i := 30) rfl)) (hw _ (List.mem_of_getElem? (i := 29) rfl)) (hw _ (List.mem_of_getElem? (i := 3) rfl)) (hw _ (List.mem_of_getElem? (i := 31) rfl)) (by decide) (rm6 l Z a0 hw w1 b1 ht5 O8 Fs_b1) 0 (by decide) (by decide) et18 E_b1 (hsz rfl) [] [] pd_0 rfl rfl rfl (Nat.le_of_eq rfl) (hb hby at_74) (by decide) (by decide) (fun Tt21 vt21 Lt21 Xt21 qt21 => ?_)
  obtain ⟨rfl, N22, et21⟩ := qt21
  have N23 := Fr.app N20 N22
  show Goes p e below _ (Tt21.setTop (mkF m 77 #[.val (.int p1), .val (.int p2), .val (.int (p1 &&& (65535 : Int32))), .val (.int (p2 &&& (65535 : Int32))), .val (.ref b1), .val (.ref b2)] [(.ref w1)]))
  refine goCallV Xt21 hx hZ hown (hw _ (List.mem_of_getElem? (i := 32) rfl)) (hw _ (List.mem_of_getElem? (i := 33) rfl)) (hw _ (List.mem_of_getElem? (i := 35) rfl)) (hw _ (List.mem_of_getElem? (i := 34) rfl)) (hw _ (List.mem_of_getElem? (i := 9) rfl)) (hw _ (List.mem_of_getElem? (i := 36) rfl)) (by decide) (rm7 l Z a0 hw w1 ht5 O8 F1) 0 (by decide) (by decide) et21 E1 (hsz rfl) [] [] pd_4 rfl rfl rfl (Nat.le_of_eq rfl) (hb hby at_77) (by decide) (by decide) (fun Tt24 vt24 Lt24 Xt24 qt24 => ?_)
  obtain ⟨rfl, N25, et24⟩ := qt24
  have N26 := Fr.app N23 N25
  show Goes p e below _ (Tt24.setTop (mkF m 80 #[.val (.int p1), .val (.int p2), .val (.int (p1 &&& (65535 : Int32))), .val (.int (p2 &&& (65535 : Int32))), .val (.ref b1), .val (.ref b2)] [(.int (0 : Int32))]))
  refine gIfN Xt24 hx (hb hby at_80) (XT.i0_ne_f rfl) ?_
  show Goes p e below _ (Tt24.setTop (mkF m 83 #[.val (.int p1), .val (.int p2), .val (.int (p1 &&& (65535 : Int32))), .val (.int (p2 &&& (65535 : Int32))), .val (.ref b1), .val (.ref b2)] []))
  refine gAload Xt24 hx (hb hby at_83) rfl rfl ?_
  refine goCallV Xt24 hx hZ hown (hw _ (List.mem_of_getElem? (i := 27) rfl)) (hw _ (List.mem_of_getElem? (i := 28) rfl)) (hw _ (List.mem_of_getElem? (i := 30) rfl)) (hw _ (List.mem_of_getElem? (i := 29) rfl)) (hw _ (List.mem_of_getElem? (i := 3) rfl)) (hw _ (List.mem_of_getElem? (i := 31) rfl)) (by decide) (rm6 l Z a0 hw w1 b2 ht5 O8 Fs_b2) 0 (by decide) (by decide) et24 E_b2 (hsz rfl) [] [] pd_0 rfl rfl rfl (Nat.le_of_eq rfl) (hb hby at_85) (by decide) (by decide) (fun Tt27 vt27 Lt27 Xt27 qt27 => ?_)
  obtain ⟨rfl, N28, et27⟩ := qt27
  have N29 := Fr.app N26 N28
  show Goes p e below _ (Tt27.setTop (mkF m 88 #[.val (.int p1), .val (.int p2), .val (.int (p1 &&& (65535 : Int32))), .val (.int (p2 &&& (65535 : Int32))), .val (.ref b1), .val (.ref b2)] [(.ref w1)]))
  refine goCallV Xt27 hx hZ hown (hw _ (List.mem_of_getElem? (i := 32) rfl)) (hw _ (List.mem_of_getElem? (i := 33) rfl)) (hw _ (List.mem_of_getElem? (i := 35) rfl)) (hw _ (List.mem_of_getElem? (i := 34) rfl)) (hw _ (List.mem_of_getElem? (i := 9) rfl)) (hw _ (List.mem_of_getElem? (i := 36) rfl)) (by decide) (rm7 l Z a0 hw w1 ht5 O8 F1) 0 (by decide) (by decide) et27 E1 (hsz rfl) [] [] pd_4 rfl rfl rfl (Nat.le_of_eq rfl) (hb hby at_88) (by decide) (by decide) (fun Tt30 vt30 Lt30 Xt30 qt30 => ?_)
  obtain ⟨rfl, N31, et30⟩ := qt30
  have N32 := Fr.app N29 N31
  show Goes p e below _ (Tt30.setTop (mkF m 91 #[.val (.int p1), .val (.int p2), .val (.int (p1 &&& (65535 : Int32))), .val (.int (p2 &&& (65535 : Int32))), .val (.ref b1), .val (.ref b2)] [(.int (0 : Int32))]))
  refine gIfN Xt30 hx (hb hby at_91) (XT.i0_ne_f rfl) ?_
  show Goes p e below _ (Tt30.setTop (mkF m 94 #[.val (.int p1), .val (.int p2), .val (.int (p1 &&& (65535 : Int32))), .val (.int (p2 &&& (65535 : Int32))), .val (.ref b1), .val (.ref b2)] []))
  refine gIconst Xt30 hx (hb hby at_94) (v := (1 : Int32)) rfl ?_
  refine gGoto Xt30 hx (hb hby at_95) (pc' := 99) (by decide) (by decide) ?_
  show Goes p e below _ (Tt30.setTop (mkF m 99 #[.val (.int p1), .val (.int p2), .val (.int (p1 &&& (65535 : Int32))), .val (.int (p2 &&& (65535 : Int32))), .val (.ref b1), .val (.ref b2)] [(.int (1 : Int32))]))
  exact goRetN Xt30 hx (t := .boolean) hret hlocks (by simp) (hb hby at_99) (z' := (1 : Int32)) rfl (by decide) (by decide) et30 (⟨rfl, N32⟩)
set_option maxRecDepth 65536 in
set_option maxHeartbeats 40000000 in
theorem comes_1 {Post : Tables → Env → Array Value → State → Outcome → State → Prop} (hpost : ∀ tb e args s v u, (limb_1_1.after args s (.returned v) u = true ∧ limb_1_2.after args s (.returned v) u = true ∧ True) → FrameEnd s (.returned v) u (Jvm.fieldLocs frame_1_writes args s ++ Jvm.arrayLocs frame_1_arrays args s ++ Jvm.staticLocs frame_1_statics s) 16 128 → Post tb e args s (.returned v) u) :
    ArmFor flags0 classFile x code maxLocals ret World_1 tables_1 room_1 Calls_1 rest_1 Pre_1 Post := by
  intro l hfl _ _ p e ha hc hk s m args below hf hA hF happ hP
  obtain ⟨hcalls, hrest, hpre⟩ := hP
  obtain ⟨-, -, -, hnamed, -, -, -, hat⟩ := (Spec.applies_iff hf).mp happ
  obtain ⟨hg, hn⟩ := and_e (Cond.before_iff.mp (show (Jvm.Cond.and given_1 narrow_1).before args s = true from hpre))
  obtain ⟨hc0, r0⟩ := and_e hg
  obtain ⟨c0, r1⟩ := and_e r0
  have c1 := r1
  obtain ⟨w0, w1, rfl⟩ : ∃ w0 w1 : Value, args = #[w0, w1] := by
    have hs : args.size = 2 := by simpa [Cond.value, given_1] using hc0
    obtain ⟨L⟩ := args
    match L, hs with
    | [w0, w1], _ => exact ⟨w0, w1, rfl⟩
  have hw := fun d (hd : d ∈ tables_1) => atoms_spec (ws := Jvm.Cond.code x code maxLocals ret :: tables_1) hat d (List.mem_cons_of_mem _ hd)
  obtain ⟨hsets, hown0⟩ := atoms_of _ (rest_1_c_eq ▸ (show rest_1_c.before _ s = true from hrest))
  have hfit : Fit s := fun {y c} hc i hi => by
    obtain ⟨ha, rfl⟩ := Array.getElem?_eq_some_iff.mp hc
    have q := List.all_eq_true.mp ((Array.all_eq_true_iff_forall_mem.mp hF) _ (Array.getElem_mem ha)) i (List.mem_range.mpr hi)
    simpa [Array.getElem?_eq_getElem hi] using q
  obtain ⟨x0, y0⟩ := is_v c0
  obtain rfl : w0 = (.int x0) := Option.some.inj y0
  obtain ⟨x1, y1⟩ := is_v c1
  obtain rfl : w1 = (.int x1) := Option.some.inj y1
  obtain ⟨w1, q1⟩ := exa_v (Cond.before_iff.mp (hsets _ (List.mem_of_getElem? (i := 2) rfl)))
  have S_E : Sta s s.heap "java/util/Optional" "EMPTY" "Ljava/util/Optional;" (.ref w1) := Sta.start q1 (Or.inl (hsets _ (List.mem_of_getElem? (i := 1) rfl)))
  have E1 : Exa s s.heap w1 "java/util/Optional" := Exa.start q1 (Cond.before_iff.mp (hsets _ (List.mem_of_getElem? (i := 2) rfl)))
  have F1 : Fld s s.heap w1 "java/util/Optional" "value" "Ljava/lang/Object;" .null := Fld.start ((fld_at q1).symm.trans (null_v (Cond.before_iff.mp (hsets _ (List.mem_of_getElem? (i := 3) rfl)))))
  obtain ⟨n, o, h1, h2, h3, _, L, rfl, ⟨rfl, N⟩, hq⟩ := rm0 l s _ hw w1 x0 x1 s.heap ⟨Nat.le_refl _, fun _ _ q => q⟩ S_E E1 F1 p e ha hc hk s m _ below hf ((Spec.applies_iff_loose hf).mp happ).1 ⟨rfl, State.Warmed39.refl s, rfl⟩ trivial
  refine ⟨n, _, h1, h2, h3, hpost _ _ _ _ _ _ ⟨Cond.after_iff.mpr rfl, Cond.after_iff.mpr (eq_i res_at (Term.int_eval (1)) rfl), trivial⟩ ⟨hq.1, hq.2.1, (hq.2.2.sift fun y hy => Or.inr (N y hy)).mono (by decide) (by decide)⟩⟩
theorem main_1_1 : Claimed_1_1 := comes_1 fun _ _ _ _ _ _ h hF => ⟨h.1, hF⟩
theorem main_1_2 : Claimed_1_2 := comes_1 fun _ _ _ _ _ _ h hF => ⟨h.2.1, hF⟩
end Jvm.Pilot.@@N@@
namespace Jvm.Pilot.@@N@@
open Jvm Jvm.ClassFile Sem Op Lib Jvm.Free Jvm.Stand Jvm.Pilot.@@N@@.Jvm.D
/-! MADE BY PROGRAM (witnessworld.py) out of the Statement's table words and the real class files: 10 classes; the members and pool entries that the words name. The judged class is class 1, her method 1. -/
namespace start1
open Jvm.ClassFile
def u (s : String) : CpInfo := .utf8 (stringToUtf16 s)
/-- a pool by its gaps: so many unusable entries, then the entry; so many at the end -/
def gap : Nat → List CpInfo → List CpInfo
  | 0, r => r
  | n + 1, r => .unusable :: gap n r
def poolList (es : List (Nat × CpInfo)) (last : Nat) : List CpInfo := es.foldr (fun e r => gap e.1 (e.2 :: r)) (gap last [])
def pool (es : List (Nat × CpInfo)) (last : Nat) : Array CpInfo := ⟨poolList es last⟩
def fileOf (pool : Array CpInfo) (this : Nat) (attrs : Array Attribute := #[]) (ms : Array MethodInfo := #[]) (fl : Nat := 33) (sup : Nat := 0) (ifs : Array Nat := #[]) (fds : Array FieldInfo := #[]) : ClassFile where
  minorVersion := 0
  majorVersion := 65
  constantPool := pool
  accessFlags := fl
  thisClass := this
  superClass := sup
  interfaces := ifs
  fields := fds
  methods := ms
  attributes := attrs
def plain (name : String) (sup : Option ClassId) : Class where
  name := name
  kind := .ordinary
  loader := none
  accessFlags := 33
  super := sup
  interfaces := #[]
  cf := none
  fields := #[]
  methods := #[]
  instanceTypes := #[]
  staticTypes := #[]
  resolved := #[]
  callSites := []
  init := .initialized
  statics := none
  mirror := none

def pool0 : Array CpInfo := pool [(5, u "<init>"), (0, u "()V"), (1, .class_ 10), (1, u "java/lang/Object")] 113

def k0c0 : Code := { maxStack := 0, maxLocals := 1, code := object_method_1_code, exceptionTable := #[], attributes := #[] }
def k0m0 : Method := { name := "<init>", desc := "()V", sig := { parameters := [], returnType := none }, accessFlags := 1, code := some k0c0 }
/-- java/lang/Object -/
def k0 : Class := { plain "java/lang/Object" none with
  accessFlags := 33
  interfaces := #[]
  cf := some (fileOf pool0 8 #[] #[{ accessFlags := 1, nameIndex := 5, descriptorIndex := 6, attributes := #[] }] 33 0 #[] #[])
  fields := #[]
  methods := #[k0m0]
  instanceTypes := #[]
  staticTypes := #[]
  resolved := Array.replicate 124 none
  statics := none }

def pool1 : Array CpInfo := pool [(2, .class_ 4), (1, u "java/lang/Object"), (0, u "<init>"), (0, u "()V"), (0, .integer 65535), (0, .methodref 9 10), (0, .class_ 11), (0, .nameAndType 12 13), (0, u "com/example/rolegate/rolegate/server/Listeners"), (0, u "http"), (0, u "(I)Lcom/example/rolegate/rolegate/server/Listeners;"), (0, .methodref 9 15), (0, .nameAndType 16 17), (0, u "port"), (0, u "()I"), (0, .methodref 9 19), (0, .nameAndType 20 21), (0, u "https"), (0, u "()Ljava/util/Optional;"), (0, .methodref 23 24), (0, .class_ 25), (0, .nameAndType 26 27), (0, u "java/util/Optional"), (0, u "isPresent"), (0, u "()Z"), (0, .class_ 29), (0, u "com/example/rolegate/rolegate/server/ListenersHttpPinLaw"), (2, u "law"), (0, u "(II)Z")] 3

def k1m0 : Method := { name := "<init>", desc := "()V", sig := { parameters := [], returnType := none }, accessFlags := 1, code := none }
def k1c1 : Code := { maxStack := 2, maxLocals := 6, code := code, exceptionTable := #[], attributes := #[] }
def k1m1 : Method := { name := "law", desc := "(II)Z", sig := { parameters := [.int, .int], returnType := some .boolean }, accessFlags := 9, code := some k1c1 }
/-- com/example/rolegate/rolegate/server/ListenersHttpPinLaw -/
def k1 : Class := { plain "com/example/rolegate/rolegate/server/ListenersHttpPinLaw" (some 0) with
  accessFlags := 49
  interfaces := #[]
  cf := some (fileOf pool1 28 #[] #[{ accessFlags := 1, nameIndex := 5, descriptorIndex := 6, attributes := #[] }, { accessFlags := 9, nameIndex := 32, descriptorIndex := 33, attributes := #[] }] 49 2 #[] #[])
  fields := #[]
  methods := #[k1m0, k1m1]
  instanceTypes := #[]
  staticTypes := #[]
  resolved := Array.replicate 37 none
  statics := none }

def pool2 : Array CpInfo := pool [(1, .methodref 2 3), (0, .class_ 4), (0, .nameAndType 5 6), (0, u "java/lang/Object"), (0, u "<init>"), (0, u "()V"), (0, .fieldref 8 9), (0, .class_ 10), (0, .nameAndType 11 12), (0, u "com/example/rolegate/rolegate/server/Listeners"), (0, u "port"), (0, u "I"), (0, .fieldref 8 14), (0, .nameAndType 15 16), (0, u "https"), (0, u "Ljava/util/Optional;"), (0, .methodref 18 19), (0, .class_ 20), (0, .nameAndType 21 22), (0, u "java/util/Optional"), (0, u "empty"), (0, u "()Ljava/util/Optional;"), (0, .methodref 8 24), (0, .nameAndType 5 25), (0, u "(ILjava/util/Optional;)V"), (0, .class_ 27), (0, u "com/example/rolegate/rolegate/server/Listeners$Https"), (136, u "KEYSTORE_TYPE"), (0, u "Ljava/lang/String;"), (6, u "http"), (0, u "(I)Lcom/example/rolegate/rolegate/server/Listeners;"), (3, u "()I")] 38

def k2c0 : Code := { maxStack := 2, maxLocals := 3, code := prog_39_method_1_code, exceptionTable := #[], attributes := #[] }
def k2m0 : Method := { name := "<init>", desc := "(ILjava/util/Optional;)V", sig := { parameters := [.int, (.object "java/util/Optional")], returnType := none }, accessFlags := 2, code := some k2c0 }
def k2c1 : Code := { maxStack := 4, maxLocals := 1, code := prog_39_method_2_code, exceptionTable := #[], attributes := #[] }
def k2m1 : Method := { name := "http", desc := "(I)Lcom/example/rolegate/rolegate/server/Listeners;", sig := { parameters := [.int], returnType := some (.object "com/example/rolegate/rolegate/server/Listeners") }, accessFlags := 9, code := some k2c1 }
def k2c2 : Code := { maxStack := 1, maxLocals := 1, code := prog_39_method_4_code, exceptionTable := #[], attributes := #[] }
def k2m2 : Method := { name := "port", desc := "()I", sig := { parameters := [], returnType := some .int }, accessFlags := 0, code := some k2c2 }
def k2c3 : Code := { maxStack := 1, maxLocals := 1, code := prog_39_method_5_code, exceptionTable := #[], attributes := #[] }
def k2m3 : Method := { name := "https", desc := "()Ljava/util/Optional;", sig := { parameters := [], returnType := some (.object "java/util/Optional") }, accessFlags := 0, code := some k2c3 }
/-- com/example/rolegate/rolegate/server/Listeners -/
def k2 : Class := { plain "com/example/rolegate/rolegate/server/Listeners" (some 0) with
  accessFlags := 49
  interfaces := #[]
  cf := some (fileOf pool2 8 #[.nestMembers #[26]] #[{ accessFlags := 2, nameIndex := 5, descriptorIndex := 25, attributes := #[] }, { accessFlags := 9, nameIndex := 172, descriptorIndex := 173, attributes := #[] }, { accessFlags := 0, nameIndex := 11, descriptorIndex := 177, attributes := #[] }, { accessFlags := 0, nameIndex := 15, descriptorIndex := 22, attributes := #[] }] 49 2 #[] #[{ accessFlags := 26, nameIndex := 164, descriptorIndex := 165, attributes := #[] }, { accessFlags := 18, nameIndex := 11, descriptorIndex := 12, attributes := #[] }, { accessFlags := 18, nameIndex := 15, descriptorIndex := 16, attributes := #[] }])
  fields := #[{ name := "KEYSTORE_TYPE", type := (.object "java/lang/String"), accessFlags := 26, slot := 0, constantValue := 0 }, { name := "port", type := .int, accessFlags := 18, slot := 0, constantValue := 0 }, { name := "https", type := (.object "java/util/Optional"), accessFlags := 18, slot := 1, constantValue := 0 }]
  methods := #[k2m0, k2m1, k2m2, k2m3]
  instanceTypes := #[.int, (.object "java/util/Optional")]
  staticTypes := #[(.object "java/lang/String")]
  resolved := Array.replicate 216 none
  statics := none }

def pool3 : Array CpInfo := pool [(1, .fieldref 2 3), (0, .class_ 4), (0, .nameAndType 5 6), (0, u "java/util/Optional"), (0, u "EMPTY"), (0, u "Ljava/util/Optional;"), (1, .class_ 10), (1, u "java/lang/Object"), (2, .fieldref 2 14), (0, .nameAndType 15 16), (0, u "value"), (0, u "Ljava/lang/Object;"), (29, u "()Z"), (8, u "empty"), (0, u "()Ljava/util/Optional;"), (11, u "isPresent")] 118

def k3c0 : Code := { maxStack := 1, maxLocals := 1, code := jdk_32_method_1_code, exceptionTable := #[], attributes := #[] }
def k3m0 : Method := { name := "empty", desc := "()Ljava/util/Optional;", sig := { parameters := [], returnType := some (.object "java/util/Optional") }, accessFlags := 9, code := some k3c0 }
def k3c1 : Code := { maxStack := 1, maxLocals := 1, code := jdk_32_method_6_code, exceptionTable := #[], attributes := #[] }
def k3m1 : Method := { name := "isPresent", desc := "()Z", sig := { parameters := [], returnType := some .boolean }, accessFlags := 1, code := some k3c1 }
/-- java/util/Optional -/
def k3 : Class := { plain "java/util/Optional" (some 0) with
  accessFlags := 49
  interfaces := #[]
  cf := some (fileOf pool3 2 #[] #[{ accessFlags := 9, nameIndex := 55, descriptorIndex := 56, attributes := #[] }, { accessFlags := 1, nameIndex := 68, descriptorIndex := 46, attributes := #[] }] 49 8 #[] #[{ accessFlags := 26, nameIndex := 5, descriptorIndex := 6, attributes := #[] }, { accessFlags := 18, nameIndex := 15, descriptorIndex := 16, attributes := #[] }])
  fields := #[{ name := "EMPTY", type := (.object "java/util/Optional"), accessFlags := 26, slot := 0, constantValue := 0 }, { name := "value", type := (.object "java/lang/Object"), accessFlags := 18, slot := 0, constantValue := 0 }]
  methods := #[k3m0, k3m1]
  instanceTypes := #[(.object "java/lang/Object")]
  staticTypes := #[(.object "java/util/Optional")]
  resolved := Array.replicate 187 none
  statics := some 0 }

def pool4 : Array CpInfo := pool [(1, u "java/lang/Cloneable"), (0, .class_ 1), (0, u "java/lang/Object"), (0, .class_ 3)] 3

/-- java/lang/Cloneable -/
def k4 : Class := { plain "java/lang/Cloneable" (some 0) with
  accessFlags := 1537
  interfaces := #[]
  cf := some (fileOf pool4 2 #[] #[] 1537 4 #[] #[])
  fields := #[]
  methods := #[]
  instanceTypes := #[]
  staticTypes := #[]
  resolved := Array.replicate 8 none
  statics := none }

def pool5 : Array CpInfo := pool [(1, u "java/io/Serializable"), (0, .class_ 1), (0, u "java/lang/Object"), (0, .class_ 3)] 3

/-- java/io/Serializable -/
def k5 : Class := { plain "java/io/Serializable" (some 0) with
  accessFlags := 1537
  interfaces := #[]
  cf := some (fileOf pool5 2 #[] #[] 1537 4 #[] #[])
  fields := #[]
  methods := #[]
  instanceTypes := #[]
  staticTypes := #[]
  resolved := Array.replicate 8 none
  statics := none }

/-- the primitive byte -/
def k6 : Class := { plain "byte" none with kind := .primitive 'B', accessFlags := 0x411 }
/-- [B -/
def k7 : Class := { plain "[B" (some 0) with kind := .array 6 .byte, interfaces := #[4, 5], accessFlags := 1041 }

/-- the primitive int -/
def k8 : Class := { plain "int" none with kind := .primitive 'I', accessFlags := 0x411 }
/-- [I -/
def k9 : Class := { plain "[I" (some 0) with kind := .array 8 .int, interfaces := #[4, 5], accessFlags := 1041 }

def heap : Heap := #[{ cls := 3, slots := #[.ref 1], vm := .statics 3 },
  { cls := 3, slots := #[.null], vm := .none }]
def classes : Array Class := #[k0, k1, k2, k3, k4, k5, k6, k7, k8, k9]
def interned : List (Array UInt16 × Addr) := []
def slotsUsed : Nat := 2
def theMethod : MethodId := ⟨1, 1⟩
def args0 : Array Value := #[.int 5, .int 80]
def aboutOver (below : List Frame) : State where
  vm := { classes := classes, interned := interned.toArray }
  heap := heap
  slotsUsed := slotsUsed
  threads := #[{ frames := .invoking theMethod args0 :: below }]
def below0 : List Frame := [.native { method := ⟨0, 0⟩, args := #[] }]
def about1 : State := aboutOver below0
def p0 : Program := .bare "" "" ""
def e0 : Env := launch0.env 0 0 0
theorem w_frames : about1.frames = Frame.invoking theMethod args0 :: below0 := rfl
set_option maxRecDepth 65536 in
theorem w_args : argsFit about1.vm theMethod args0 = true := by decide +kernel
set_option maxRecDepth 65536 in
theorem w_heap : heapFits about1 = true := by decide +kernel
set_option maxRecDepth 65536 in
theorem w_runnable : about1.curStatus? = some .runnable := by decide +kernel
set_option maxRecDepth 65536 in
theorem w_alone : about1.alone = true := by decide +kernel
set_option maxRecDepth 65536 in
theorem w_named : about1.methodNamed? x = some theMethod := by decide +kernel
set_option maxRecDepth 65536 in
theorem w_hears : about1.hears theMethod below0 = true := by decide +kernel
set_option maxRecDepth 65536 in
theorem w_ripe : about1.ripe theMethod args0 below0 = true := by decide +kernel
theorem w_running : about1.status = .running := rfl
set_option maxRecDepth 65536 in
theorem w_room : about1.hasRoom e0.platform room_1 = true :=
  launch0.hasRoom_least _ room_1 (by decide +kernel) (by decide +kernel) (by decide +kernel) (by decide +kernel) (by decide +kernel) (by decide +kernel)
theorem allAtoms_all (ts : List Jvm.Cond) (a : Array Jvm.Value) (st : Jvm.State) : (allAtoms ts).before a st = ts.all (fun c => c.before a st) := by
  induction ts with
  | nil => rfl
  | cons c t ih =>
    show (Jvm.Cond.and c (allAtoms t)).before a st = _
    rw [Jvm.Cond.before_and, ih, List.all_cons]
def words1 : List Jvm.Cond := Jvm.Cond.code x code maxLocals ret :: tables_1
/-- a 'code' word, met by the world's own term for the bytes: nothing is compared byte by byte -/
theorem code_word {y : MethodName} {bytes : ByteArray} {mx : Nat} {rt : Option FieldType} {a : Array Value} {s : State} {m : MethodId} {meth : Method} {c : Code} (h1 : s.methodNamed? y = some m) (h2 : s.vm.method? m = some meth) (h3 : meth.code = some c) (h4 : c.code = bytes)
    (h5 : (c.maxLocals == mx && c.exceptionTable.isEmpty && decide (c.maxStack ≤ mostOperands) && decide (meth.sig.returnType = rt) && !meth.locks && decide (parseMethodDescriptor y.desc = some meth.sig)) = true) : (Jvm.Cond.code y bytes mx rt).before a s = true := by
  simp only [Bool.and_eq_true, beq_iff_eq, Bool.not_eq_true', decide_eq_true_eq] at h5
  obtain ⟨⟨⟨⟨⟨g1, g2⟩, g3⟩, g4⟩, g5⟩, g6⟩ := h5
  simp [Cond.before, Cond.holds, Cond.value, h1, h2, h3, h4, g1, g2, g3, g4, g5, g6]
def isCode : Jvm.Cond → Bool
  | .code _ _ _ _ => true
  | _ => false
theorem all_split {L : List Jvm.Cond} {P : Jvm.Cond → Bool} (h1 : L.all (fun c => isCode c || P c) = true) (h2 : ∀ c ∈ L.filter isCode, P c = true) : L.all P = true := by
  refine List.all_eq_true.mpr fun c hc => ?_
  have h := List.all_eq_true.mp h1 c hc
  rcases Bool.eq_false_or_eq_true (isCode c) with hi | hi
  · exact h2 c (List.mem_filter.mpr ⟨hc, hi⟩)
  · simpa [hi] using h
set_option maxRecDepth 65536 in
theorem w_c0 : (Jvm.Cond.code x code maxLocals ret).before args0 about1 = true := code_word (m := ⟨1, 1⟩) (meth := k1m1) (c := k1c1) (by decide +kernel) rfl rfl rfl (by decide +kernel)
set_option maxRecDepth 65536 in
theorem w_c1 : (Jvm.Cond.code ({ cls := "com/example/rolegate/rolegate/server/Listeners", name := "http", desc := "(I)Lcom/example/rolegate/rolegate/server/Listeners;" } : Jvm.MethodName) prog_39_method_2_code (1 : Nat) (Option.some (Jvm.ClassFile.FieldType.object "com/example/rolegate/rolegate/server/Listeners"))).before args0 about1 = true := code_word (m := ⟨2, 1⟩) (meth := k2m1) (c := k2c1) (by decide +kernel) rfl rfl rfl (by decide +kernel)
set_option maxRecDepth 65536 in
theorem w_c2 : (Jvm.Cond.code ({ cls := "java/util/Optional", name := "empty", desc := "()Ljava/util/Optional;" } : Jvm.MethodName) jdk_32_method_1_code (1 : Nat) (Option.some (Jvm.ClassFile.FieldType.object "java/util/Optional"))).before args0 about1 = true := code_word (m := ⟨3, 0⟩) (meth := k3m0) (c := k3c0) (by decide +kernel) rfl rfl rfl (by decide +kernel)
set_option maxRecDepth 65536 in
theorem w_c3 : (Jvm.Cond.code ({ cls := "com/example/rolegate/rolegate/server/Listeners", name := "<init>", desc := "(ILjava/util/Optional;)V" } : Jvm.MethodName) prog_39_method_1_code (3 : Nat) (Option.none : Option Jvm.ClassFile.FieldType)).before args0 about1 = true := code_word (m := ⟨2, 0⟩) (meth := k2m0) (c := k2c0) (by decide +kernel) rfl rfl rfl (by decide +kernel)
set_option maxRecDepth 65536 in
theorem w_c4 : (Jvm.Cond.code ({ cls := "java/lang/Object", name := "<init>", desc := "()V" } : Jvm.MethodName) object_method_1_code (1 : Nat) (Option.none : Option Jvm.ClassFile.FieldType)).before args0 about1 = true := code_word (m := ⟨0, 0⟩) (meth := k0m0) (c := k0c0) (by decide +kernel) rfl rfl rfl (by decide +kernel)
set_option maxRecDepth 65536 in
theorem w_c5 : (Jvm.Cond.code ({ cls := "com/example/rolegate/rolegate/server/Listeners", name := "port", desc := "()I" } : Jvm.MethodName) prog_39_method_4_code (1 : Nat) (Option.some Jvm.ClassFile.FieldType.int)).before args0 about1 = true := code_word (m := ⟨2, 2⟩) (meth := k2m2) (c := k2c2) (by decide +kernel) rfl rfl rfl (by decide +kernel)
set_option maxRecDepth 65536 in
theorem w_c6 : (Jvm.Cond.code ({ cls := "com/example/rolegate/rolegate/server/Listeners", name := "https", desc := "()Ljava/util/Optional;" } : Jvm.MethodName) prog_39_method_5_code (1 : Nat) (Option.some (Jvm.ClassFile.FieldType.object "java/util/Optional"))).before args0 about1 = true := code_word (m := ⟨2, 3⟩) (meth := k2m3) (c := k2c3) (by decide +kernel) rfl rfl rfl (by decide +kernel)
set_option maxRecDepth 65536 in
theorem w_c7 : (Jvm.Cond.code ({ cls := "java/util/Optional", name := "isPresent", desc := "()Z" } : Jvm.MethodName) jdk_32_method_6_code (1 : Nat) (Option.some Jvm.ClassFile.FieldType.boolean)).before args0 about1 = true := code_word (m := ⟨3, 1⟩) (meth := k3m1) (c := k3c1) (by decide +kernel) rfl rfl rfl (by decide +kernel)
def codes1 : List Jvm.Cond := [Jvm.Cond.code x code maxLocals ret, Jvm.Cond.code ({ cls := "com/example/rolegate/rolegate/server/Listeners", name := "http", desc := "(I)Lcom/example/rolegate/rolegate/server/Listeners;" } : Jvm.MethodName) prog_39_method_2_code (1 : Nat) (Option.some (Jvm.ClassFile.FieldType.object "com/example/rolegate/rolegate/server/Listeners")), Jvm.Cond.code ({ cls := "java/util/Optional", name := "empty", desc := "()Ljava/util/Optional;" } : Jvm.MethodName) jdk_32_method_1_code (1 : Nat) (Option.some (Jvm.ClassFile.FieldType.object "java/util/Optional")), Jvm.Cond.code ({ cls := "com/example/rolegate/rolegate/server/Listeners", name := "<init>", desc := "(ILjava/util/Optional;)V" } : Jvm.MethodName) prog_39_method_1_code (3 : Nat) (Option.none : Option Jvm.ClassFile.FieldType), Jvm.Cond.code ({ cls := "java/lang/Object", name := "<init>", desc := "()V" } : Jvm.MethodName) object_method_1_code (1 : Nat) (Option.none : Option Jvm.ClassFile.FieldType), Jvm.Cond.code ({ cls := "com/example/rolegate/rolegate/server/Listeners", name := "port", desc := "()I" } : Jvm.MethodName) prog_39_method_4_code (1 : Nat) (Option.some Jvm.ClassFile.FieldType.int), Jvm.Cond.code ({ cls := "com/example/rolegate/rolegate/server/Listeners", name := "https", desc := "()Ljava/util/Optional;" } : Jvm.MethodName) prog_39_method_5_code (1 : Nat) (Option.some (Jvm.ClassFile.FieldType.object "java/util/Optional")), Jvm.Cond.code ({ cls := "java/util/Optional", name := "isPresent", desc := "()Z" } : Jvm.MethodName) jdk_32_method_6_code (1 : Nat) (Option.some Jvm.ClassFile.FieldType.boolean)]
set_option maxRecDepth 65536 in
theorem codes_eq : words1.filter isCode = codes1 := rfl
theorem w_codes : ∀ c ∈ words1.filter isCode, c.before args0 about1 = true := by
  rw [codes_eq]
  intro c hc
  simp only [codes1, List.mem_cons, List.not_mem_nil, or_false] at hc
  rcases hc with rfl | rfl | rfl | rfl | rfl | rfl | rfl | rfl
  · exact w_c0
  · exact w_c1
  · exact w_c2
  · exact w_c3
  · exact w_c4
  · exact w_c5
  · exact w_c6
  · exact w_c7
set_option maxRecDepth 65536 in
theorem w_t1 : (words1.take 24).all (fun c => isCode c || c.before args0 about1) = true := by decide +kernel
set_option maxRecDepth 65536 in
theorem w_t2 : (words1.drop 24).all (fun c => isCode c || c.before args0 about1) = true := by decide +kernel
theorem w_tables : (allAtoms (Jvm.Cond.code x code maxLocals ret :: tables_1)).before args0 about1 = true := by
  rw [allAtoms_all]
  show words1.all (fun c => c.before args0 about1) = true
  refine all_split ?_ w_codes
  rw [← List.take_append_drop 24 words1, List.all_append, w_t1, w_t2]
  rfl
set_option maxRecDepth 65536 in
theorem w_rest : rest_1_c.before args0 about1 = true := by decide +kernel
set_option maxRecDepth 65536 in
theorem w_case : (Jvm.Cond.and given_1 narrow_1).before args0 about1 = true := by decide +kernel
theorem w_applies : (headSpec (Jvm.Cond.code x code maxLocals ret :: tables_1) room_1).applies x e0.platform about1 = true :=
  (Spec.applies_iff w_frames).mpr ⟨w_running, w_runnable, w_alone, w_named, w_hears, w_ripe, w_room, w_tables⟩
theorem atStart : AtStart classFile x code maxLocals ret World_1 tables_1 room_1 Calls_1 rest_1 Pre_1 launch0 p0 e0 about1 theMethod args0 below0 :=
  ⟨lists_1, trivial, launch0.admits_env _ _ _, launch0.least_env, fairChoices_fair.cas, fairChoices_fair.clock, w_frames, w_args, w_heap, w_applies, trivial, w_rest, w_case⟩
end start1
theorem witness_1 : WitnessClaimed_1 := ⟨start1.p0, start1.e0, start1.about1, start1.theMethod, start1.args0, start1.below0, start1.atStart⟩
end Jvm.Pilot.@@N@@
