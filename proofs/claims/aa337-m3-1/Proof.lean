import JvmDerived
import JvmDerived.Pilot.@@N@@Statement
import JvmDerived.Pilot.@@N@@Code
set_option linter.unusedVariables false
set_option linter.unusedSimpArgs false
namespace Jvm.OwnWalk
open Sem ClassFile Op Lib Jvm.Stand Jvm.Free Jvm.LawKit Jvm.RoadKit
section Own
variable {p : Program} {l : Launch} {e : Env} {R : Room} {s : State} {m : MethodId} {args : Array Value} {below : List Frame} {meth : Method} {c : Code} {T : State} {locs : List Loc} {cells slots : Nat} {Z : State} {a0 : Array Value} {h h' : Heap} {Q : Option Value → Heap → List Loc → Prop} {kc ks : Nat} {G : Outcome → State → Prop} {A B : State}
/-- from A the invocation comes to its end, and Q holds of what it returns, of the heap and of the places written -/
def Goes (p : Program) (e : Env) (below : List Frame) (G : Outcome → State → Prop) (A : State) : Prop :=
  ∃ s₂ o, Steps p.tables e below A s₂ ∧ s₂.status = .running ∧ Ended s₂ below o ∧ G o s₂
def EndN (s : State) (Q : Option Value → Heap → List Loc → Prop) (kc ks : Nat) (o : Outcome) (t : State) : Prop := ∃ v L, o = .returned v ∧ Q v t.heap L ∧ FrameEnd s o t L kc ks
theorem go (k : ∀ t, Steps p.tables e below B t → Steps p.tables e below A t) (g : Goes p e below G B) : Goes p e below G A := by
  obtain ⟨s₂, o, st, r⟩ := g
  exact ⟨s₂, o, k _ st, r⟩
theorem goE {g g' : JFrame} (q : g = g') (k : Goes p e below G (T.setTop g')) : Goes p e below G (T.setTop g) := q ▸ k
theorem goEnd (X : Stand p l e R s m args below meth c T locs cells slots) {v : Option Value} (hv : meth.sig.returnType = none → v = none) (hlocks : meth.locks = false) (hc : cells ≤ kc) (hs : slots ≤ ks) (eT : T.heap = h) (hq : Q v h locs)
    (k : ∀ fs, (∀ (f : JFrame) (acts : List Action), f.method = m → f.locked = none → f.entered = [] → (doReturn e (T.setTop f) acts v).1 = T.setFrames fs) → Steps p.tables e below A (T.setFrames fs)) : Goes p e below (EndN s Q kc ks) A := by
  obtain ⟨fs, hr, hrun, hended, hW, hsame⟩ := X.leave hv hlocks
  exact ⟨_, _, k fs hr, hrun, hended, _, _, rfl, (by show Q v T.heap locs; rw [eT]; exact hq), ⟨_, rfl⟩, hW, hsame.mono hc hs⟩
theorem goRetV (X : Stand p l e R s m args below meth c T locs cells slots) (hx : p.tables.exec = Jvm.exec) {pc : Nat} {Ls : Array Slot} {w : Value} {t : FieldType} {i : Instr} {rest : List Value} (hret : meth.sig.returnType = some t) (hlocks : meth.locks = false) (hd : decode c.code pc = .ok (i, 1)) (hn : narrow t w = w)
    (hi : (i = .ireturn ∧ (t = .int ∨ t = .boolean ∨ t = .byte ∨ t = .char ∨ t = .short) ∧ ∃ z, w = .int z) ∨ (i = .lreturn ∧ t = .long ∧ ∃ z, w = .long z) ∨ (i = .dreturn ∧ t = .double ∧ ∃ z, w = .double z) ∨ (i = .freturn ∧ t = .float ∧ ∃ z, w = .float z) ∨ (i = .areturn ∧ t.isReference = true ∧ w.isRef = true))
    (hc : cells ≤ kc) (hs : slots ≤ ks) (eT : T.heap = h) (hq : Q (some w) h locs) : Goes p e below (EndN s Q kc ks) (T.setTop (mkF m pc Ls (w :: rest))) :=
  goEnd X (v := some w) (fun q => by rw [hret] at q; cases q) hlocks hc hs eT hq fun fs hr => retOut X hx hret hn hi hd hr
theorem goRetI (X : Stand p l e R s m args below meth c T locs cells slots) (hx : p.tables.exec = Jvm.exec) {pc : Nat} {Ls : Array Slot} {z : Int32} {rest : List Value} (hret : meth.sig.returnType = some .int) (hlocks : meth.locks = false) (hd : decode c.code pc = .ok (.ireturn, 1))
    (hc : cells ≤ kc) (hs : slots ≤ ks) (eT : T.heap = h) (hq : Q (some (.int z)) h locs) : Goes p e below (EndN s Q kc ks) (T.setTop (mkF m pc Ls (.int z :: rest))) :=
  goRetV X hx hret hlocks hd rfl (Or.inl ⟨rfl, Or.inl rfl, _, rfl⟩) hc hs eT hq
theorem goRetJ (X : Stand p l e R s m args below meth c T locs cells slots) (hx : p.tables.exec = Jvm.exec) {pc : Nat} {Ls : Array Slot} {z : Int64} {rest : List Value} (hret : meth.sig.returnType = some .long) (hlocks : meth.locks = false) (hd : decode c.code pc = .ok (.lreturn, 1))
    (hc : cells ≤ kc) (hs : slots ≤ ks) (eT : T.heap = h) (hq : Q (some (.long z)) h locs) : Goes p e below (EndN s Q kc ks) (T.setTop (mkF m pc Ls (.long z :: rest))) :=
  goRetV X hx hret hlocks hd rfl (Or.inr (Or.inl ⟨rfl, rfl, _, rfl⟩)) hc hs eT hq
theorem goRetD (X : Stand p l e R s m args below meth c T locs cells slots) (hx : p.tables.exec = Jvm.exec) {pc : Nat} {Ls : Array Slot} {z : UInt64} {rest : List Value} (hret : meth.sig.returnType = some .double) (hlocks : meth.locks = false) (hd : decode c.code pc = .ok (.dreturn, 1))
    (hc : cells ≤ kc) (hs : slots ≤ ks) (eT : T.heap = h) (hq : Q (some (.double z)) h locs) : Goes p e below (EndN s Q kc ks) (T.setTop (mkF m pc Ls (.double z :: rest))) :=
  goRetV X hx hret hlocks hd rfl (Or.inr (Or.inr (Or.inl ⟨rfl, rfl, _, rfl⟩))) hc hs eT hq
theorem goRetA (X : Stand p l e R s m args below meth c T locs cells slots) (hx : p.tables.exec = Jvm.exec) {pc : Nat} {Ls : Array Slot} {w : Value} {t : FieldType} {rest : List Value} (hret : meth.sig.returnType = some t) (hlocks : meth.locks = false) (ht : t.isReference = true) (hw : w.isRef = true) (hd : decode c.code pc = .ok (.areturn, 1))
    (hc : cells ≤ kc) (hs : slots ≤ ks) (eT : T.heap = h) (hq : Q (some w) h locs) : Goes p e below (EndN s Q kc ks) (T.setTop (mkF m pc Ls (w :: rest))) :=
  goRetV X hx hret hlocks hd (by cases t <;> first | (cases ht; done) | rfl) (Or.inr (Or.inr (Or.inr (Or.inr ⟨rfl, ht, hw⟩)))) hc hs eT hq
theorem goRetN (X : Stand p l e R s m args below meth c T locs cells slots) (hx : p.tables.exec = Jvm.exec) {pc : Nat} {Ls : Array Slot} {z z' : Int32} {t : FieldType} {rest : List Value} (hret : meth.sig.returnType = some t) (hlocks : meth.locks = false) (ht : t = .boolean ∨ t = .byte ∨ t = .char ∨ t = .short) (hd : decode c.code pc = .ok (.ireturn, 1)) (hz : nar t z = z')
    (hc : cells ≤ kc) (hs : slots ≤ ks) (eT : T.heap = h) (hq : Q (some (.int z')) h locs) : Goes p e below (EndN s Q kc ks) (T.setTop (mkF m pc Ls (.int z :: rest))) := by
  subst hz
  exact goEnd X (v := some (.int (nar t z))) (fun q => by rw [hret] at q; cases q) hlocks hc hs eT hq fun fs hr => retN X hx hret ht hd hr
theorem goRet0 (X : Stand p l e R s m args below meth c T locs cells slots) (hx : p.tables.exec = Jvm.exec) {pc : Nat} {Ls : Array Slot} (hret : meth.sig.returnType = none) (hlocks : meth.locks = false) (hd : decode c.code pc = .ok (.return_, 1))
    (hc : cells ≤ kc) (hs : slots ≤ ks) (eT : T.heap = h) (hq : Q none h locs) : Goes p e below (EndN s Q kc ks) (T.setTop (mkF m pc Ls [])) :=
  goEnd X (v := none) (fun _ => rfl) hlocks hc hs eT hq fun fs hr => X.returnOut hx hret hd hr
/-- a body's contract: called with these arguments at this heap it returns, and Q holds -/
def Ctr (l : Launch) (Z : State) (y : MethodName) (bytes : ByteArray) (maxL : Nat) (ret : Option FieldType) (ws : List Cond) (rm : Room) (as : Array Value) (h0 : Heap) (Q : Option Value → Heap → List Loc → Prop) : Prop :=
  MetFree l y (head1 (Cond.code y bytes maxL ret :: ws) rm) (fun a U => a = as ∧ Z.Warmed39 U.vm ∧ U.heap = h0) (fun _ _ _ _ _ => True) (fun _ U o U' => ∃ v L, o = .returned v ∧ Q v U'.heap L ∧ FrameEnd U o U' L rm.cells rm.slots)
theorem ctr {y : MethodName} {bytes : ByteArray} {maxL : Nat} {ret : Option FieldType} {ws : List Cond} {rm : Room} {as : Array Value} {h0 : Heap} (hpn : plainFor y = true)
    (body : ∀ (p : Program) (e : Env) (s : State) (m : MethodId) (below : List Frame) (meth : Method) (c : Code) (s₁ : State), p.tables.exec = Jvm.exec → c.code = bytes → c.maxLocals = maxL → s.vm.findClass y.cls = some m.cls → meth.name = y.name → meth.sig.returnType = ret → meth.locks = false → Z.Warmed39 s.vm →
      Stand p l e rm s m as below meth c s₁ [] 0 0 → s₁.heap = h0 → Goes p e below (EndN s Q rm.cells rm.slots) (s₁.setTop (entryFrame m as maxL))) : Ctr l Z y bytes maxL ret ws rm as h0 Q := by
  refine MetFree.of_bodySF hpn hisR ?_
  intro p e s m args below meth c s₁ Bd hml0 hP hK
  obtain ⟨rfl, hZ, hh⟩ := hP
  exact body p e s m below meth c s₁ Bd.exec Bd.bytes hml0 (findClass_of_methodNamed Bd.named) (name_of_methodNamed Bd.named Bd.method).1 Bd.returns Bd.notSynchronized hZ (Stand.of_body Bd) (by rw [← hh, Bd.state]; rfl)
theorem goCallS (X : Stand p l e R s m args below meth c T locs cells slots) (hx : p.tables.exec = Jvm.exec) (hZ : Z.Warmed39 s.vm) {own : String} {index : Nat} {y : MethodName} {bytes : ByteArray} {maxL : Nat} {ret : Option FieldType} (hown : s.vm.findClass own = some m.cls)
    (w1 : (Cond.methodLink own index y).before a0 Z = true) (w2 : (Cond.static y).before a0 Z = true) (w3 : (Cond.initialized y.cls).before a0 Z = true) (w4 : (Cond.code y bytes maxL ret).before a0 Z = true) (hy : y.cls ≠ "java/lang/invoke/MethodHandle" ∧ y.cls ≠ "java/lang/invoke/VarHandle")
    {rm : Room} {as : Array Value} {Q' : Option Value → Heap → List Loc → Prop} (hM : Ctr l Z y bytes maxL ret [] rm as h Q') (W : Nat) (hf : rm.frames + 1 ≤ R.frames) (hl : W + (maxL + 11) + rm.locals ≤ R.locals) (eT : T.heap = h)
    {pc : Nat} {Ls : Array Slot} {st : List Value} (hsize : Ls.size = c.maxLocals) (argsL rest : List Value) {ps : List FieldType} {rt : Option FieldType} (hpd : parseMethodDescriptor y.desc = some ⟨ps, rt⟩) (hlen : argsL.length = ps.length) (hst : st = argsL.reverse ++ rest) (has : argsL.toArray = as) (hW : (rest.map fun v => v.category).sum ≤ W)
    (hd : decode c.code pc = .ok (.invokestatic index, 3)) (hc : cells + rm.cells ≤ R.cells) (hs : slots + rm.slots ≤ R.slots)
    (k : ∀ T' v L, Stand p l e R s m args below meth c T' (locs ++ L) (cells + rm.cells) (slots + rm.slots) → Q' v T'.heap L → Goes p e below G (T'.setTop (mkF m (pc + 3) Ls (v.toList ++ rest)))) : Goes p e below G (T.setTop (mkF m pc Ls st)) := by
  subst hst
  obtain ⟨v, _, ⟨T', L', k', n'⟩, -, X', ⟨L, hQ, l1, y1, z1⟩, st⟩ := Jvm.LawKit.callS X hx (y := y) hown (mvT hZ w1) (mvT hZ w2) (mvT hZ w3) (mvT hZ w4) hy (backOf (W := W) hM hZ w4 w3 hf hl) (g := mkF m pc Ls (argsL.reverse ++ rest)) rfl hsize (argsL := argsL) (rest := rest) (lenOf hpd hlen) rfl (by show 2 * 0 + _ ≤ _; omega) hd (fun _ _ => ⟨has, eT, hc, hs⟩)
  dsimp only [Pt.U, Pt.locs, Pt.cells, Pt.slots] at X' l1 y1 z1 st hQ
  subst l1 y1 z1
  exact go st (k T' v L X' hQ)
theorem goCallI (X : Stand p l e R s m args below meth c T locs cells slots) (hx : p.tables.exec = Jvm.exec) (hZ : Z.Warmed39 s.vm) {own : String} {index : Nat} {y : MethodName} {bytes : ByteArray} {maxL : Nat} (hy1 : y.name = "<init>") (hown : s.vm.findClass own = some m.cls)
    (w1 : (Cond.methodLink own index y).before a0 Z = true) (w2 : (Cond.instanceMethod y).before a0 Z = true) (w3 : (Cond.initialized y.cls).before a0 Z = true) (w4 : (Cond.code y bytes maxL none).before a0 Z = true) (hy : y.cls ≠ "java/lang/invoke/MethodHandle" ∧ y.cls ≠ "java/lang/invoke/VarHandle")
    {rm : Room} {as : Array Value} {Q' : Option Value → Heap → List Loc → Prop} (hM : Ctr l Z y bytes maxL none [] rm as h Q') (W : Nat) (hf : rm.frames + 1 ≤ R.frames) (hl : W + (maxL + 11) + rm.locals ≤ R.locals) (eT : T.heap = h)
    {pc : Nat} {Ls : Array Slot} {st : List Value} (hsize : Ls.size = c.maxLocals) (a : Addr) (argsL rest : List Value) {ps : List FieldType} {rt : Option FieldType} (hpd : parseMethodDescriptor y.desc = some ⟨ps, rt⟩) (hlen : argsL.length = ps.length) (hst : st = argsL.reverse ++ .ref a :: rest) (has : (.ref a :: argsL).toArray = as) (hW : (rest.map fun v => v.category).sum ≤ W)
    (hd : decode c.code pc = .ok (.invokespecial index, 3)) (hc : cells + rm.cells ≤ R.cells) (hs : slots + rm.slots ≤ R.slots)
    (k : ∀ T' v L, Stand p l e R s m args below meth c T' (locs ++ L) (cells + rm.cells) (slots + rm.slots) → Q' v T'.heap L → Goes p e below G (T'.setTop (mkF m (pc + 3) Ls (v.toList ++ rest)))) : Goes p e below G (T.setTop (mkF m pc Ls st)) := by
  subst hst
  obtain ⟨v, _, ⟨T', L', k', n'⟩, -, X', ⟨L, hQ, l1, y1, z1⟩, st⟩ := X.specialBack hx (y := y) hy1 hown (mvT hZ w1) (mvT hZ w2) (mvT hZ w4) hy (backOf (W := W) hM hZ w4 w3 hf hl) (g := mkF m pc Ls (argsL.reverse ++ .ref a :: rest)) rfl hsize (Steps.refl _) (a := a) (argsL := argsL) (rest := rest) (lenOf hpd hlen) rfl (by show 2 * 0 + _ ≤ _; omega) hd (fun _ _ => ⟨has, eT, hc, hs⟩)
  dsimp only [Pt.U, Pt.locs, Pt.cells, Pt.slots] at X' l1 y1 z1 st hQ
  subst l1 y1 z1
  exact go (fun _ => st.trans) (k T' v L X' hQ)
theorem goCallV (X : Stand p l e R s m args below meth c T locs cells slots) (hx : p.tables.exec = Jvm.exec) (hZ : Z.Warmed39 s.vm) {own C : String} {index : Nat} {y : MethodName} {bytes : ByteArray} {maxL : Nat} {ret : Option FieldType} (hown : s.vm.findClass own = some m.cls)
    (w1 : (Cond.methodLink own index y).before a0 Z = true) (w2 : (Cond.declares y).before a0 Z = true) (w5 : (Cond.selects C y y).before a0 Z = true) (w6 : (Cond.instanceMethod y).before a0 Z = true) (w3 : (Cond.initialized y.cls).before a0 Z = true) (w4 : (Cond.code y bytes maxL ret).before a0 Z = true) (hy : y.cls ≠ "java/lang/invoke/MethodHandle" ∧ y.cls ≠ "java/lang/invoke/VarHandle")
    {rm : Room} {as : Array Value} {Q' : Option Value → Heap → List Loc → Prop} (hM : Ctr l Z y bytes maxL ret [] rm as h Q') (W : Nat) (hf : rm.frames + 1 ≤ R.frames) (hl : W + (maxL + 11) + rm.locals ≤ R.locals) (eT : T.heap = h) {a : Addr} (E : Exa Z h a C)
    {pc : Nat} {Ls : Array Slot} {st : List Value} (hsize : Ls.size = c.maxLocals) (argsL rest : List Value) {ps : List FieldType} {rt : Option FieldType} (hpd : parseMethodDescriptor y.desc = some ⟨ps, rt⟩) (hlen : argsL.length = ps.length) (hst : st = argsL.reverse ++ .ref a :: rest) (has : (.ref a :: argsL).toArray = as) (hW : (rest.map fun v => v.category).sum ≤ W)
    (hd : decode c.code pc = .ok (.invokevirtual index, 3)) (hc : cells + rm.cells ≤ R.cells) (hs : slots + rm.slots ≤ R.slots)
    (k : ∀ T' v L, Stand p l e R s m args below meth c T' (locs ++ L) (cells + rm.cells) (slots + rm.slots) → Q' v T'.heap L → Goes p e below G (T'.setTop (mkF m (pc + 3) Ls (v.toList ++ rest)))) : Goes p e below G (T.setTop (mkF m pc Ls st)) := by
  subst hst
  obtain ⟨cq, kq, qa, qb, qc⟩ := isOf hZ eT E
  obtain ⟨v, _, ⟨T', L', k', n'⟩, -, X', ⟨L, hQ, l1, y1, z1⟩, st⟩ := X.virtualBack hx (y := y) (z := y) hown (mvT hZ w1) (mvT hZ w2) (notFace_of_selects (args := #[]) (mvT hZ w5)) (mvT hZ w5) (mvT hZ w6) hy (backOf (W := W) hM hZ w4 w3 hf hl) qa qc (g := mkF m pc Ls (argsL.reverse ++ .ref a :: rest)) rfl hsize (Steps.refl _) (argsL := argsL) (rest := rest) (lenOf hpd hlen) rfl (by show 2 * 0 + _ ≤ _; omega) hd (fun _ _ => ⟨has, eT, hc, hs⟩)
  dsimp only [Pt.U, Pt.locs, Pt.cells, Pt.slots] at X' l1 y1 z1 st hQ
  subst l1 y1 z1
  exact go (fun _ => st.trans) (k T' v L X' hQ)
theorem extT {h0 : Heap} (O : Ext h0 h) (E : Ext h h') : Ext h0 h' := ⟨Nat.le_trans O.1 E.1, fun x c q => E.2 x c (O.2 x c q)⟩
theorem extK {h0 : Heap} {ws : List Addr} (O : Ext h0 h) (K : Keep h h' ws) (q : ∀ x ∈ ws, h0.size ≤ x) : Ext h0 h' := ⟨Nat.le_trans O.1 K.1, fun x c r => K.2.1 x c (O.2 x c r) fun z => absurd (Array.getElem?_eq_some_iff.mp r).1 (Nat.not_lt.mpr (q x z))⟩
theorem extW {h0 : Heap} {a : Addr} {sl : Nat} {v : Value} (O : Ext h0 h) (W : Wr h h' a sl v) (q : h0.size ≤ a) : Ext h0 h' := extK O (Keep.of_wr W) (allS q all0)
theorem eqI_v {t : Term} {k : Int32} {first s : State} {o : Option Outcome} {idx : List Nat} {args : Array Value} (h : (Cond.eq t (.int k)).value args first o s idx = some true) : t.eval args first o idx s = some (.int k) := by
  simp only [Cond.value, Term.eval] at h
  cases ht : t.eval args first o idx s with
  | none => simp [ht] at h
  | some x => cases x <;> simp [ht] at h ⊢; exact h
/-- an array with these values -/
def Ary (Z : State) (h : Heap) (a : Addr) (ty : FieldType) (vs : List Value) : Prop := ∃ cl : Cell, Arr Z h a cl ty ∧ cl.slots.toList = vs ∧ vs.length < 2 ^ 31
variable {a b : Addr} {ty : FieldType} {vs : List Value}
theorem Ary.lt (F : Ary Z h a ty vs) : a < h.size := by obtain ⟨c, A, -⟩ := F; exact A.lt
theorem Ary.ext (F : Ary Z h a ty vs) (E : Ext h h') : Ary Z h' a ty vs := by obtain ⟨c, A, r⟩ := F; exact ⟨c, A.ext E, r⟩
theorem Ary.other (F : Ary Z h b ty vs) {sl : Nat} {v : Value} (W : Wr h h' a sl v) (q : b ≠ a) : Ary Z h' b ty vs := by obtain ⟨c, A, r⟩ := F; exact ⟨c, A.other W q, r⟩
theorem Ary.keep (F : Ary Z h a ty vs) {ws : List Addr} (K : Keep h h' ws) (q : a ∉ ws) : Ary Z h' a ty vs := by obtain ⟨c, A, r⟩ := F; exact ⟨c, ⟨K.2.1 a c A.1 q, A.2⟩, r⟩
theorem Ary.set (F : Ary Z h a ty vs) {j : Int32} {v : Value} (W : Wr h h' a j.toNatClampNeg v) {ws : List Value} (e : vs.set j.toNatClampNeg v = ws) : Ary Z h' a ty ws := by
  obtain ⟨c, A, r, q⟩ := F
  refine ⟨_, A.same W, ?_, ?_⟩
  · rw [← e, ← r]; simp [Cell.setSlot]
  · rw [← e, List.length_set]; exact q
theorem Ary.new {cA : ClassId} {n : Int32} (A : Arr Z h a (newA cA ty n) ty) (e : List.replicate n.toNatClampNeg (defaultValue ty) = vs) (q : vs.length < 2 ^ 31) : Ary Z h a ty vs := ⟨_, A, by rw [← e]; simp [newA], q⟩
theorem Ary.inb {cl : Cell} (r : cl.slots.toList = vs) {j : Int32} {v : Value} (hj : ¬ j < 0) (hv : vs[j.toNatClampNeg]? = some v) : ¬ (j < 0 ∨ cl.slots.size ≤ j.toNatClampNeg) := fun q => by
  rcases q with q | q
  · exact hj q
  · subst r
    have := (List.getElem?_eq_some_iff.mp hv).1
    rw [Array.length_toList] at this
    omega
theorem Ary.at {cl : Cell} (r : cl.slots.toList = vs) {j : Int32} {v : Value} (hv : vs[j.toNatClampNeg]? = some v) : cl.slots[j.toNatClampNeg]? = some v := by subst r; simpa using hv
theorem goIaload (X : Stand p l e R s m args below meth c T locs cells slots) (hx : p.tables.exec = Jvm.exec) (hZ : Z.Warmed39 s.vm) (eT : T.heap = h) {vs : List Value} (F : Ary Z h a .int vs) {j x : Int32} {pc : Nat} {Ls : Array Slot} {rest : List Value} (hd : decode c.code pc = .ok (.iaload, 1)) (hj : ¬ j < 0) (hv : vs[j.toNatClampNeg]? = some (.int x))
    (k : Goes p e below G (T.setTop (mkF m (pc + 1) Ls (.int x :: rest)))) : Goes p e below G (T.setTop (mkF m pc Ls (.int j :: .ref a :: rest))) := by
  obtain ⟨cl, A, r, q⟩ := F
  exact go (X.iaload hx (j := j) (v := .int x) (by rw [eT]; exact A.1) (State.isArrayOf_alike hZ.alike A.2.1) A.2.2 (Ary.inb r hj hv) (Ary.at r hv) (g := mkF m pc Ls (.int j :: .ref a :: rest)) rfl rfl hd) k
theorem goBaload (X : Stand p l e R s m args below meth c T locs cells slots) (hx : p.tables.exec = Jvm.exec) (hZ : Z.Warmed39 s.vm) (eT : T.heap = h) {vs : List Value} (F : Ary Z h a .byte vs) {j x : Int32} {pc : Nat} {Ls : Array Slot} {rest : List Value} (hd : decode c.code pc = .ok (.baload, 1)) (hj : ¬ j < 0) (hv : vs[j.toNatClampNeg]? = some (.int x))
    (k : Goes p e below G (T.setTop (mkF m (pc + 1) Ls (.int x :: rest)))) : Goes p e below G (T.setTop (mkF m pc Ls (.int j :: .ref a :: rest))) := by
  obtain ⟨cl, A, r, q⟩ := F
  exact go (X.baloadBytes hx (j := j) (v := .int x) (by rw [eT]; exact A.1) (State.isArrayOf_alike hZ.alike A.2.1) A.2.2 (Ary.inb r hj hv) (Ary.at r hv) (g := mkF m pc Ls (.int j :: .ref a :: rest)) rfl rfl hd) k
theorem goZaload (X : Stand p l e R s m args below meth c T locs cells slots) (hx : p.tables.exec = Jvm.exec) (hZ : Z.Warmed39 s.vm) (eT : T.heap = h) {vs : List Value} (F : Ary Z h a .boolean vs) {j x : Int32} {pc : Nat} {Ls : Array Slot} {rest : List Value} (hd : decode c.code pc = .ok (.baload, 1)) (hj : ¬ j < 0) (hv : vs[j.toNatClampNeg]? = some (.int x))
    (k : Goes p e below G (T.setTop (mkF m (pc + 1) Ls (.int x :: rest)))) : Goes p e below G (T.setTop (mkF m pc Ls (.int j :: .ref a :: rest))) := by
  obtain ⟨cl, A, r, q⟩ := F
  exact go (X.baloadBooleans hx (j := j) (v := .int x) (by rw [eT]; exact A.1) (State.isArrayOf_alike hZ.alike A.2.1) A.2.2 (Ary.inb r hj hv) (Ary.at r hv) (g := mkF m pc Ls (.int j :: .ref a :: rest)) rfl rfl hd) k
theorem goCaload (X : Stand p l e R s m args below meth c T locs cells slots) (hx : p.tables.exec = Jvm.exec) (hZ : Z.Warmed39 s.vm) (eT : T.heap = h) {vs : List Value} (F : Ary Z h a .char vs) {j x : Int32} {pc : Nat} {Ls : Array Slot} {rest : List Value} (hd : decode c.code pc = .ok (.caload, 1)) (hj : ¬ j < 0) (hv : vs[j.toNatClampNeg]? = some (.int x))
    (k : Goes p e below G (T.setTop (mkF m (pc + 1) Ls (.int x :: rest)))) : Goes p e below G (T.setTop (mkF m pc Ls (.int j :: .ref a :: rest))) := by
  obtain ⟨cl, A, r, q⟩ := F
  exact go (X.caload hx (j := j) (v := .int x) (by rw [eT]; exact A.1) (State.isArrayOf_alike hZ.alike A.2.1) A.2.2 (Ary.inb r hj hv) (Ary.at r hv) (g := mkF m pc Ls (.int j :: .ref a :: rest)) rfl rfl hd) k
theorem goAlen (X : Stand p l e R s m args below meth c T locs cells slots) (hx : p.tables.exec = Jvm.exec) (hZ : Z.Warmed39 s.vm) (eT : T.heap = h) {vs : List Value} (F : Ary Z h a ty vs) {n : Int32} {pc : Nat} {Ls : Array Slot} {rest : List Value} (hd : decode c.code pc = .ok (.arraylength, 1)) (hn : vs.length.toInt32 = n)
    (k : Goes p e below G (T.setTop (mkF m (pc + 1) Ls (.int n :: rest)))) : Goes p e below G (T.setTop (mkF m pc Ls (.ref a :: rest))) := by
  obtain ⟨cl, A, r, q⟩ := F
  have e1 : cl.slots.size.toInt32 = n := by rw [← hn, ← r, Array.length_toList]
  refine go (X.arraylength hx (cell := cl) (by rw [eT]; exact A.1) (State.isArrayOf_alike hZ.alike A.2.1) (g := mkF m pc Ls (.ref a :: rest)) rfl (rest := rest) rfl hd) ?_
  rw [e1]
  exact k
theorem goIastore (X : Stand p l e R s m args below meth c T locs cells slots) (hx : p.tables.exec = Jvm.exec) (hZ : Z.Warmed39 s.vm) (eT : T.heap = h) {vs : List Value} (F : Ary Z h a .int vs) {j x : Int32} {v : Value} {pc : Nat} {Ls : Array Slot} {rest : List Value} (hd : decode c.code pc = .ok (.iastore, 1)) (hj : ¬ j < 0) (hv : vs[j.toNatClampNeg]? = some v)
    (k : ∀ T' h', Stand p l e R s m args below meth c T' (locs ++ [⟨a, j.toNatClampNeg⟩]) cells slots → T'.heap = h' → Wr h h' a j.toNatClampNeg (.int x) → Goes p e below G (T'.setTop (mkF m (pc + 1) Ls rest))) : Goes p e below G (T.setTop (mkF m pc Ls (.int x :: .int j :: .ref a :: rest))) := by
  obtain ⟨cl, A, r, q⟩ := F
  obtain ⟨T', h', X', e', W', st⟩ := stI X hx hZ eT A (j := j) (x := x) (Ary.inb r hj hv) (g := mkF m pc Ls (.int x :: .int j :: .ref a :: rest)) rfl rfl hd
  exact go st (k T' h' X' e' W')
theorem goBastore (X : Stand p l e R s m args below meth c T locs cells slots) (hx : p.tables.exec = Jvm.exec) (hZ : Z.Warmed39 s.vm) (eT : T.heap = h) {vs : List Value} (F : Ary Z h a .byte vs) {j x : Int32} {v : Value} {pc : Nat} {Ls : Array Slot} {rest : List Value} (hd : decode c.code pc = .ok (.bastore, 1)) (hj : ¬ j < 0) (hv : vs[j.toNatClampNeg]? = some v)
    (k : ∀ T' h', Stand p l e R s m args below meth c T' (locs ++ [⟨a, j.toNatClampNeg⟩]) cells slots → T'.heap = h' → Wr h h' a j.toNatClampNeg (.int (nar .byte x)) → Goes p e below G (T'.setTop (mkF m (pc + 1) Ls rest))) : Goes p e below G (T.setTop (mkF m pc Ls (.int x :: .int j :: .ref a :: rest))) := by
  obtain ⟨cl, A, r, q⟩ := F
  obtain ⟨T', h', X', e', W', st⟩ := stB X hx hZ eT A (j := j) (x := x) (Ary.inb r hj hv) (g := mkF m pc Ls (.int x :: .int j :: .ref a :: rest)) rfl rfl hd
  exact go st (k T' h' X' e' W')
theorem goZastore (X : Stand p l e R s m args below meth c T locs cells slots) (hx : p.tables.exec = Jvm.exec) (hZ : Z.Warmed39 s.vm) (eT : T.heap = h) {vs : List Value} (F : Ary Z h a .boolean vs) {j x : Int32} {v : Value} {pc : Nat} {Ls : Array Slot} {rest : List Value} (hd : decode c.code pc = .ok (.bastore, 1)) (hj : ¬ j < 0) (hv : vs[j.toNatClampNeg]? = some v)
    (k : ∀ T' h', Stand p l e R s m args below meth c T' (locs ++ [⟨a, j.toNatClampNeg⟩]) cells slots → T'.heap = h' → Wr h h' a j.toNatClampNeg (.int (nar .boolean x)) → Goes p e below G (T'.setTop (mkF m (pc + 1) Ls rest))) : Goes p e below G (T.setTop (mkF m pc Ls (.int x :: .int j :: .ref a :: rest))) := by
  obtain ⟨cl, A, r, q⟩ := F
  obtain ⟨T', h', X', e', W', st⟩ := stZ X hx hZ eT A (j := j) (x := x) (Ary.inb r hj hv) (g := mkF m pc Ls (.int x :: .int j :: .ref a :: rest)) rfl rfl hd
  exact go st (k T' h' X' e' W')
theorem goCastore (X : Stand p l e R s m args below meth c T locs cells slots) (hx : p.tables.exec = Jvm.exec) (hZ : Z.Warmed39 s.vm) (eT : T.heap = h) {vs : List Value} (F : Ary Z h a .char vs) {j x : Int32} {v : Value} {pc : Nat} {Ls : Array Slot} {rest : List Value} (hd : decode c.code pc = .ok (.castore, 1)) (hj : ¬ j < 0) (hv : vs[j.toNatClampNeg]? = some v)
    (k : ∀ T' h', Stand p l e R s m args below meth c T' (locs ++ [⟨a, j.toNatClampNeg⟩]) cells slots → T'.heap = h' → Wr h h' a j.toNatClampNeg (.int (nar .char x)) → Goes p e below G (T'.setTop (mkF m (pc + 1) Ls rest))) : Goes p e below G (T.setTop (mkF m pc Ls (.int x :: .int j :: .ref a :: rest))) := by
  obtain ⟨cl, A, r, q⟩ := F
  obtain ⟨T', h', X', e', W', st⟩ := stC X hx hZ eT A (j := j) (x := x) (Ary.inb r hj hv) (g := mkF m pc Ls (.int x :: .int j :: .ref a :: rest)) rfl rfl hd
  exact go st (k T' h' X' e' W')
theorem narb (x : Int32) : nar .byte x.toInt8.toInt32 = x.toInt8.toInt32 := by simp [nar]
theorem narc (x : Int32) : nar .char x.toUInt32.toUInt16.toUInt32.toInt32 = x.toUInt32.toUInt16.toUInt32.toInt32 := by simp only [nar, UInt32.toUInt32_toInt32, UInt16.toUInt16_toUInt32]
theorem gIload (X : Stand p l e R s m args below meth c T locs cells slots) (hx : p.tables.exec = Jvm.exec) {pc : Nat} {Ls : Array Slot} {st : List Value} {k : Nat} {v : Int32} (hd : decode c.code pc = .ok (.iload k, 2)) (hl : Ls[k]? = some (.val (.int v))) (K : Goes p e below G (T.setTop (mkF m (pc + 2) Ls (.int v :: st)))) : Goes p e below G (T.setTop (mkF m pc Ls (st))) :=
  go (fun _ q => XS.iload (g := mkF m pc Ls (st)) X.here hx rfl hd hl q) K
theorem gIloadN (X : Stand p l e R s m args below meth c T locs cells slots) (hx : p.tables.exec = Jvm.exec) {pc : Nat} {Ls : Array Slot} {st : List Value} {k : Fin 4} {v : Int32} (hd : decode c.code pc = .ok (.iload_n k, 1)) (hl : Ls[k.val]? = some (.val (.int v))) (K : Goes p e below G (T.setTop (mkF m (pc + 1) Ls (.int v :: st)))) : Goes p e below G (T.setTop (mkF m pc Ls (st))) :=
  go (fun _ q => XS.iloadN (g := mkF m pc Ls (st)) X.here hx rfl hd hl q) K
theorem gIstore (X : Stand p l e R s m args below meth c T locs cells slots) (hx : p.tables.exec = Jvm.exec) {pc : Nat} {Ls : Array Slot} {st : List Value} {k : Nat} {v : Int32} {l' : Array Slot} (hd : decode c.code pc = .ok (.istore k, 2)) (hl : storeLocals Ls k (.int v) = some l') (K : Goes p e below G (T.setTop (mkF m (pc + 2) l' (st)))) : Goes p e below G (T.setTop (mkF m pc Ls (.int v :: st))) :=
  go (fun _ q => XS.istore (g := mkF m pc Ls (.int v :: st)) X.here hx rfl hd rfl hl q) K
theorem gIstoreN (X : Stand p l e R s m args below meth c T locs cells slots) (hx : p.tables.exec = Jvm.exec) {pc : Nat} {Ls : Array Slot} {st : List Value} {k : Fin 4} {v : Int32} {l' : Array Slot} (hd : decode c.code pc = .ok (.istore_n k, 1)) (hl : storeLocals Ls k.val (.int v) = some l') (K : Goes p e below G (T.setTop (mkF m (pc + 1) l' (st)))) : Goes p e below G (T.setTop (mkF m pc Ls (.int v :: st))) :=
  go (fun _ q => XS.istoreN (g := mkF m pc Ls (.int v :: st)) X.here hx rfl hd rfl hl q) K
theorem gLload (X : Stand p l e R s m args below meth c T locs cells slots) (hx : p.tables.exec = Jvm.exec) {pc : Nat} {Ls : Array Slot} {st : List Value} {k : Nat} {v : Int64} (hd : decode c.code pc = .ok (.lload k, 2)) (hl : Ls[k]? = some (.val (.long v))) (K : Goes p e below G (T.setTop (mkF m (pc + 2) Ls (.long v :: st)))) : Goes p e below G (T.setTop (mkF m pc Ls (st))) :=
  go (fun _ q => XT.lload (g := mkF m pc Ls (st)) X.here hx rfl hd hl q) K
theorem gLloadN (X : Stand p l e R s m args below meth c T locs cells slots) (hx : p.tables.exec = Jvm.exec) {pc : Nat} {Ls : Array Slot} {st : List Value} {k : Fin 4} {v : Int64} (hd : decode c.code pc = .ok (.lload_n k, 1)) (hl : Ls[k.val]? = some (.val (.long v))) (K : Goes p e below G (T.setTop (mkF m (pc + 1) Ls (.long v :: st)))) : Goes p e below G (T.setTop (mkF m pc Ls (st))) :=
  go (fun _ q => XT.lloadN (g := mkF m pc Ls (st)) X.here hx rfl hd hl q) K
theorem gLstore (X : Stand p l e R s m args below meth c T locs cells slots) (hx : p.tables.exec = Jvm.exec) {pc : Nat} {Ls : Array Slot} {st : List Value} {k : Nat} {v : Int64} {l' : Array Slot} (hd : decode c.code pc = .ok (.lstore k, 2)) (hl : storeLocals Ls k (.long v) = some l') (K : Goes p e below G (T.setTop (mkF m (pc + 2) l' (st)))) : Goes p e below G (T.setTop (mkF m pc Ls (.long v :: st))) :=
  go (fun _ q => XT.lstore (g := mkF m pc Ls (.long v :: st)) X.here hx rfl hd rfl hl q) K
theorem gLstoreN (X : Stand p l e R s m args below meth c T locs cells slots) (hx : p.tables.exec = Jvm.exec) {pc : Nat} {Ls : Array Slot} {st : List Value} {k : Fin 4} {v : Int64} {l' : Array Slot} (hd : decode c.code pc = .ok (.lstore_n k, 1)) (hl : storeLocals Ls k.val (.long v) = some l') (K : Goes p e below G (T.setTop (mkF m (pc + 1) l' (st)))) : Goes p e below G (T.setTop (mkF m pc Ls (.long v :: st))) :=
  go (fun _ q => XT.lstoreN (g := mkF m pc Ls (.long v :: st)) X.here hx rfl hd rfl hl q) K
theorem gDload (X : Stand p l e R s m args below meth c T locs cells slots) (hx : p.tables.exec = Jvm.exec) {pc : Nat} {Ls : Array Slot} {st : List Value} {k : Nat} {v : UInt64} (hd : decode c.code pc = .ok (.dload k, 2)) (hl : Ls[k]? = some (.val (.double v))) (K : Goes p e below G (T.setTop (mkF m (pc + 2) Ls (.double v :: st)))) : Goes p e below G (T.setTop (mkF m pc Ls (st))) :=
  go (fun _ q => XS.dload (g := mkF m pc Ls (st)) X.here hx rfl hd hl q) K
theorem gDloadN (X : Stand p l e R s m args below meth c T locs cells slots) (hx : p.tables.exec = Jvm.exec) {pc : Nat} {Ls : Array Slot} {st : List Value} {k : Fin 4} {v : UInt64} (hd : decode c.code pc = .ok (.dload_n k, 1)) (hl : Ls[k.val]? = some (.val (.double v))) (K : Goes p e below G (T.setTop (mkF m (pc + 1) Ls (.double v :: st)))) : Goes p e below G (T.setTop (mkF m pc Ls (st))) :=
  go (fun _ q => XS.dloadN (g := mkF m pc Ls (st)) X.here hx rfl hd hl q) K
theorem gDstore (X : Stand p l e R s m args below meth c T locs cells slots) (hx : p.tables.exec = Jvm.exec) {pc : Nat} {Ls : Array Slot} {st : List Value} {k : Nat} {v : UInt64} {l' : Array Slot} (hd : decode c.code pc = .ok (.dstore k, 2)) (hl : storeLocals Ls k (.double v) = some l') (K : Goes p e below G (T.setTop (mkF m (pc + 2) l' (st)))) : Goes p e below G (T.setTop (mkF m pc Ls (.double v :: st))) :=
  go (fun _ q => XS.dstore (g := mkF m pc Ls (.double v :: st)) X.here hx rfl hd rfl hl q) K
theorem gDstoreN (X : Stand p l e R s m args below meth c T locs cells slots) (hx : p.tables.exec = Jvm.exec) {pc : Nat} {Ls : Array Slot} {st : List Value} {k : Fin 4} {v : UInt64} {l' : Array Slot} (hd : decode c.code pc = .ok (.dstore_n k, 1)) (hl : storeLocals Ls k.val (.double v) = some l') (K : Goes p e below G (T.setTop (mkF m (pc + 1) l' (st)))) : Goes p e below G (T.setTop (mkF m pc Ls (.double v :: st))) :=
  go (fun _ q => XS.dstoreN (g := mkF m pc Ls (.double v :: st)) X.here hx rfl hd rfl hl q) K
theorem gAload (X : Stand p l e R s m args below meth c T locs cells slots) (hx : p.tables.exec = Jvm.exec) {pc : Nat} {Ls : Array Slot} {st : List Value} {k : Nat} {v : Value} (hd : decode c.code pc = .ok (.aload k, 2)) (hl : Ls[k]? = some (.val v)) (hv : v.isRef = true) (K : Goes p e below G (T.setTop (mkF m (pc + 2) Ls (v :: st)))) : Goes p e below G (T.setTop (mkF m pc Ls (st))) :=
  go (fun _ q => XS.aload (g := mkF m pc Ls (st)) X.here hx rfl hd hl hv q) K
theorem gAloadN (X : Stand p l e R s m args below meth c T locs cells slots) (hx : p.tables.exec = Jvm.exec) {pc : Nat} {Ls : Array Slot} {st : List Value} {k : Fin 4} {v : Value} (hd : decode c.code pc = .ok (.aload_n k, 1)) (hl : Ls[k.val]? = some (.val v)) (hv : v.isRef = true) (K : Goes p e below G (T.setTop (mkF m (pc + 1) Ls (v :: st)))) : Goes p e below G (T.setTop (mkF m pc Ls (st))) :=
  go (fun _ q => XS.aloadN (g := mkF m pc Ls (st)) X.here hx rfl hd hl hv q) K
theorem gAstore (X : Stand p l e R s m args below meth c T locs cells slots) (hx : p.tables.exec = Jvm.exec) {pc : Nat} {Ls : Array Slot} {st : List Value} {k : Nat} {v : Value} {l' : Array Slot} (hd : decode c.code pc = .ok (.astore k, 2)) (hv : v.isRef = true) (hl : storeLocals Ls k v = some l') (K : Goes p e below G (T.setTop (mkF m (pc + 2) l' (st)))) : Goes p e below G (T.setTop (mkF m pc Ls (v :: st))) :=
  go (fun _ q => XS.astore (g := mkF m pc Ls (v :: st)) X.here hx rfl hd rfl hv hl q) K
theorem gAstoreN (X : Stand p l e R s m args below meth c T locs cells slots) (hx : p.tables.exec = Jvm.exec) {pc : Nat} {Ls : Array Slot} {st : List Value} {k : Fin 4} {v : Value} {l' : Array Slot} (hd : decode c.code pc = .ok (.astore_n k, 1)) (hv : v.isRef = true) (hl : storeLocals Ls k.val v = some l') (K : Goes p e below G (T.setTop (mkF m (pc + 1) l' (st)))) : Goes p e below G (T.setTop (mkF m pc Ls (v :: st))) :=
  go (fun _ q => XS.astoreN (g := mkF m pc Ls (v :: st)) X.here hx rfl hd rfl hv hl q) K
theorem gIstoreS (X : Stand p l e R s m args below meth c T locs cells slots) (hx : p.tables.exec = Jvm.exec) {pc : Nat} {Ls : Array Slot} {st : List Value} {k : Nat} {v : Int32} {o : Slot} (hd : decode c.code pc = .ok (.istore k, 2)) (hold : Ls[k]? = some o) (ho : o = .unset ∨ ∃ w, o = .val w ∧ w.category = 1) (K : Goes p e below G (T.setTop (mkF m (pc + 2) (Ls.setIfInBounds k (.val (.int v))) (st)))) : Goes p e below G (T.setTop (mkF m pc Ls (.int v :: st))) :=
  go (fun _ q => XS.istoreS (g := mkF m pc Ls (.int v :: st)) X.here hx rfl hd rfl hold ho q) K
theorem gIconst (X : Stand p l e R s m args below meth c T locs cells slots) (hx : p.tables.exec = Jvm.exec) {pc : Nat} {Ls : Array Slot} {st : List Value} {i : Int} {v : Int32} (hd : decode c.code pc = .ok (.iconst i, 1)) (hv : Int32.ofInt i = v) (K : Goes p e below G (T.setTop (mkF m (pc + 1) Ls (.int v :: st)))) : Goes p e below G (T.setTop (mkF m pc Ls st)) := by
  subst hv
  exact go (fun _ q => XS.iconst (g := mkF m pc Ls st) X.here hx rfl hd q) K
theorem gBipush (X : Stand p l e R s m args below meth c T locs cells slots) (hx : p.tables.exec = Jvm.exec) {pc : Nat} {Ls : Array Slot} {st : List Value} {i : Int} {v : Int32} (hd : decode c.code pc = .ok (.bipush i, 2)) (hv : (Int8.ofInt i).toInt32 = v) (K : Goes p e below G (T.setTop (mkF m (pc + 2) Ls (.int v :: st)))) : Goes p e below G (T.setTop (mkF m pc Ls st)) := by
  subst hv
  exact go (fun _ q => XS.bipush (g := mkF m pc Ls st) X.here hx rfl hd q) K
theorem gSipush (X : Stand p l e R s m args below meth c T locs cells slots) (hx : p.tables.exec = Jvm.exec) {pc : Nat} {Ls : Array Slot} {st : List Value} {i : Int} {v : Int32} (hd : decode c.code pc = .ok (.sipush i, 3)) (hv : (Int16.ofInt i).toInt32 = v) (K : Goes p e below G (T.setTop (mkF m (pc + 3) Ls (.int v :: st)))) : Goes p e below G (T.setTop (mkF m pc Ls st)) := by
  subst hv
  exact go (fun _ q => XS.sipush (g := mkF m pc Ls st) X.here hx rfl hd q) K
theorem gLconst (X : Stand p l e R s m args below meth c T locs cells slots) (hx : p.tables.exec = Jvm.exec) {pc : Nat} {Ls : Array Slot} {st : List Value} {i : Fin 2} {v : Int64} (hd : decode c.code pc = .ok (.lconst i, 1)) (hv : Int64.ofNat i = v) (K : Goes p e below G (T.setTop (mkF m (pc + 1) Ls (.long v :: st)))) : Goes p e below G (T.setTop (mkF m pc Ls st)) := by
  subst hv
  exact go (fun _ q => XT.lconst (g := mkF m pc Ls st) X.here hx rfl hd q) K
theorem gAnull (X : Stand p l e R s m args below meth c T locs cells slots) (hx : p.tables.exec = Jvm.exec) {pc : Nat} {Ls : Array Slot} {st : List Value}  (hd : decode c.code pc = .ok (.aconst_null, 1))  (K : Goes p e below G (T.setTop (mkF m (pc + 1) Ls (.null :: st)))) : Goes p e below G (T.setTop (mkF m pc Ls (st))) :=
  go (fun _ q => XS.aconstNull (g := mkF m pc Ls (st)) X.here hx rfl hd  q) K
theorem gDconst0 (X : Stand p l e R s m args below meth c T locs cells slots) (hx : p.tables.exec = Jvm.exec) {pc : Nat} {Ls : Array Slot} {st : List Value}  (hd : decode c.code pc = .ok (.dconst 0, 1))  (K : Goes p e below G (T.setTop (mkF m (pc + 1) Ls (.double FP.dconst0 :: st)))) : Goes p e below G (T.setTop (mkF m pc Ls (st))) :=
  go (fun _ q => XS.dconst0 (g := mkF m pc Ls (st)) X.here hx rfl hd rfl q) K
theorem gDconst1 (X : Stand p l e R s m args below meth c T locs cells slots) (hx : p.tables.exec = Jvm.exec) {pc : Nat} {Ls : Array Slot} {st : List Value}  (hd : decode c.code pc = .ok (.dconst 1, 1))  (K : Goes p e below G (T.setTop (mkF m (pc + 1) Ls (.double FP.dconst1 :: st)))) : Goes p e below G (T.setTop (mkF m pc Ls (st))) :=
  go (fun _ q => XS.dconst1 (g := mkF m pc Ls (st)) X.here hx rfl hd rfl q) K
theorem gIadd (X : Stand p l e R s m args below meth c T locs cells slots) (hx : p.tables.exec = Jvm.exec) {pc : Nat} {Ls : Array Slot} {st : List Value} {x y : Int32} (hd : decode c.code pc = .ok (.iadd, 1))  (K : Goes p e below G (T.setTop (mkF m (pc + 1) Ls (.int (x + y) :: st)))) : Goes p e below G (T.setTop (mkF m pc Ls (.int y :: .int x :: st))) :=
  go (fun _ q => XS.iadd (g := mkF m pc Ls (.int y :: .int x :: st)) X.here hx rfl hd rfl q) K
theorem gIsub (X : Stand p l e R s m args below meth c T locs cells slots) (hx : p.tables.exec = Jvm.exec) {pc : Nat} {Ls : Array Slot} {st : List Value} {x y : Int32} (hd : decode c.code pc = .ok (.isub, 1))  (K : Goes p e below G (T.setTop (mkF m (pc + 1) Ls (.int (x - y) :: st)))) : Goes p e below G (T.setTop (mkF m pc Ls (.int y :: .int x :: st))) :=
  go (fun _ q => XS.isub (g := mkF m pc Ls (.int y :: .int x :: st)) X.here hx rfl hd rfl q) K
theorem gImul (X : Stand p l e R s m args below meth c T locs cells slots) (hx : p.tables.exec = Jvm.exec) {pc : Nat} {Ls : Array Slot} {st : List Value} {x y : Int32} (hd : decode c.code pc = .ok (.imul, 1))  (K : Goes p e below G (T.setTop (mkF m (pc + 1) Ls (.int (x * y) :: st)))) : Goes p e below G (T.setTop (mkF m pc Ls (.int y :: .int x :: st))) :=
  go (fun _ q => XS.imul (g := mkF m pc Ls (.int y :: .int x :: st)) X.here hx rfl hd rfl q) K
theorem gIand (X : Stand p l e R s m args below meth c T locs cells slots) (hx : p.tables.exec = Jvm.exec) {pc : Nat} {Ls : Array Slot} {st : List Value} {x y : Int32} (hd : decode c.code pc = .ok (.iand, 1))  (K : Goes p e below G (T.setTop (mkF m (pc + 1) Ls (.int (x &&& y) :: st)))) : Goes p e below G (T.setTop (mkF m pc Ls (.int y :: .int x :: st))) :=
  go (fun _ q => XS.iand (g := mkF m pc Ls (.int y :: .int x :: st)) X.here hx rfl hd rfl q) K
theorem gIor (X : Stand p l e R s m args below meth c T locs cells slots) (hx : p.tables.exec = Jvm.exec) {pc : Nat} {Ls : Array Slot} {st : List Value} {x y : Int32} (hd : decode c.code pc = .ok (.ior, 1))  (K : Goes p e below G (T.setTop (mkF m (pc + 1) Ls (.int (x ||| y) :: st)))) : Goes p e below G (T.setTop (mkF m pc Ls (.int y :: .int x :: st))) :=
  go (fun _ q => XT.ior (g := mkF m pc Ls (.int y :: .int x :: st)) X.here hx rfl hd rfl q) K
theorem gIxor (X : Stand p l e R s m args below meth c T locs cells slots) (hx : p.tables.exec = Jvm.exec) {pc : Nat} {Ls : Array Slot} {st : List Value} {x y : Int32} (hd : decode c.code pc = .ok (.ixor, 1))  (K : Goes p e below G (T.setTop (mkF m (pc + 1) Ls (.int (x ^^^ y) :: st)))) : Goes p e below G (T.setTop (mkF m pc Ls (.int y :: .int x :: st))) :=
  go (fun _ q => XT.ixor (g := mkF m pc Ls (.int y :: .int x :: st)) X.here hx rfl hd rfl q) K
theorem gIshl (X : Stand p l e R s m args below meth c T locs cells slots) (hx : p.tables.exec = Jvm.exec) {pc : Nat} {Ls : Array Slot} {st : List Value} {x y : Int32} (hd : decode c.code pc = .ok (.ishl, 1))  (K : Goes p e below G (T.setTop (mkF m (pc + 1) Ls (.int (x <<< (y &&& 31)) :: st)))) : Goes p e below G (T.setTop (mkF m pc Ls (.int y :: .int x :: st))) :=
  go (fun _ q => XT.ishl (g := mkF m pc Ls (.int y :: .int x :: st)) X.here hx rfl hd rfl q) K
theorem gIshr (X : Stand p l e R s m args below meth c T locs cells slots) (hx : p.tables.exec = Jvm.exec) {pc : Nat} {Ls : Array Slot} {st : List Value} {x y : Int32} (hd : decode c.code pc = .ok (.ishr, 1))  (K : Goes p e below G (T.setTop (mkF m (pc + 1) Ls (.int (x >>> (y &&& 31)) :: st)))) : Goes p e below G (T.setTop (mkF m pc Ls (.int y :: .int x :: st))) :=
  go (fun _ q => XT.ishr (g := mkF m pc Ls (.int y :: .int x :: st)) X.here hx rfl hd rfl q) K
theorem gIushr (X : Stand p l e R s m args below meth c T locs cells slots) (hx : p.tables.exec = Jvm.exec) {pc : Nat} {Ls : Array Slot} {st : List Value} {x y : Int32} (hd : decode c.code pc = .ok (.iushr, 1))  (K : Goes p e below G (T.setTop (mkF m (pc + 1) Ls (.int (XT.ushr x y) :: st)))) : Goes p e below G (T.setTop (mkF m pc Ls (.int y :: .int x :: st))) :=
  go (fun _ q => XT.iushr (g := mkF m pc Ls (.int y :: .int x :: st)) X.here hx rfl hd rfl q) K
theorem gLadd (X : Stand p l e R s m args below meth c T locs cells slots) (hx : p.tables.exec = Jvm.exec) {pc : Nat} {Ls : Array Slot} {st : List Value} {x y : Int64} (hd : decode c.code pc = .ok (.ladd, 1))  (K : Goes p e below G (T.setTop (mkF m (pc + 1) Ls (.long (x + y) :: st)))) : Goes p e below G (T.setTop (mkF m pc Ls (.long y :: .long x :: st))) :=
  go (fun _ q => XT.ladd (g := mkF m pc Ls (.long y :: .long x :: st)) X.here hx rfl hd rfl q) K
theorem gLsub (X : Stand p l e R s m args below meth c T locs cells slots) (hx : p.tables.exec = Jvm.exec) {pc : Nat} {Ls : Array Slot} {st : List Value} {x y : Int64} (hd : decode c.code pc = .ok (.lsub, 1))  (K : Goes p e below G (T.setTop (mkF m (pc + 1) Ls (.long (x - y) :: st)))) : Goes p e below G (T.setTop (mkF m pc Ls (.long y :: .long x :: st))) :=
  go (fun _ q => XT.lsub (g := mkF m pc Ls (.long y :: .long x :: st)) X.here hx rfl hd rfl q) K
theorem gLmul (X : Stand p l e R s m args below meth c T locs cells slots) (hx : p.tables.exec = Jvm.exec) {pc : Nat} {Ls : Array Slot} {st : List Value} {x y : Int64} (hd : decode c.code pc = .ok (.lmul, 1))  (K : Goes p e below G (T.setTop (mkF m (pc + 1) Ls (.long (x * y) :: st)))) : Goes p e below G (T.setTop (mkF m pc Ls (.long y :: .long x :: st))) :=
  go (fun _ q => XT.lmul (g := mkF m pc Ls (.long y :: .long x :: st)) X.here hx rfl hd rfl q) K
theorem gLand (X : Stand p l e R s m args below meth c T locs cells slots) (hx : p.tables.exec = Jvm.exec) {pc : Nat} {Ls : Array Slot} {st : List Value} {x y : Int64} (hd : decode c.code pc = .ok (.land, 1))  (K : Goes p e below G (T.setTop (mkF m (pc + 1) Ls (.long (x &&& y) :: st)))) : Goes p e below G (T.setTop (mkF m pc Ls (.long y :: .long x :: st))) :=
  go (fun _ q => XT.land (g := mkF m pc Ls (.long y :: .long x :: st)) X.here hx rfl hd rfl q) K
theorem gLor (X : Stand p l e R s m args below meth c T locs cells slots) (hx : p.tables.exec = Jvm.exec) {pc : Nat} {Ls : Array Slot} {st : List Value} {x y : Int64} (hd : decode c.code pc = .ok (.lor, 1))  (K : Goes p e below G (T.setTop (mkF m (pc + 1) Ls (.long (x ||| y) :: st)))) : Goes p e below G (T.setTop (mkF m pc Ls (.long y :: .long x :: st))) :=
  go (fun _ q => XT.lor (g := mkF m pc Ls (.long y :: .long x :: st)) X.here hx rfl hd rfl q) K
theorem gLxor (X : Stand p l e R s m args below meth c T locs cells slots) (hx : p.tables.exec = Jvm.exec) {pc : Nat} {Ls : Array Slot} {st : List Value} {x y : Int64} (hd : decode c.code pc = .ok (.lxor, 1))  (K : Goes p e below G (T.setTop (mkF m (pc + 1) Ls (.long (x ^^^ y) :: st)))) : Goes p e below G (T.setTop (mkF m pc Ls (.long y :: .long x :: st))) :=
  go (fun _ q => XT.lxor (g := mkF m pc Ls (.long y :: .long x :: st)) X.here hx rfl hd rfl q) K
theorem gLshl (X : Stand p l e R s m args below meth c T locs cells slots) (hx : p.tables.exec = Jvm.exec) {pc : Nat} {Ls : Array Slot} {st : List Value} {x : Int64} {y : Int32} (hd : decode c.code pc = .ok (.lshl, 1))  (K : Goes p e below G (T.setTop (mkF m (pc + 1) Ls (.long (x <<< (y.toInt64 &&& 63)) :: st)))) : Goes p e below G (T.setTop (mkF m pc Ls (.int y :: .long x :: st))) :=
  go (fun _ q => XT.lshl (g := mkF m pc Ls (.int y :: .long x :: st)) X.here hx rfl hd rfl q) K
theorem gLshr (X : Stand p l e R s m args below meth c T locs cells slots) (hx : p.tables.exec = Jvm.exec) {pc : Nat} {Ls : Array Slot} {st : List Value} {x : Int64} {y : Int32} (hd : decode c.code pc = .ok (.lshr, 1))  (K : Goes p e below G (T.setTop (mkF m (pc + 1) Ls (.long (x >>> (y.toInt64 &&& 63)) :: st)))) : Goes p e below G (T.setTop (mkF m pc Ls (.int y :: .long x :: st))) :=
  go (fun _ q => XT.lshr (g := mkF m pc Ls (.int y :: .long x :: st)) X.here hx rfl hd rfl q) K
theorem gLushr (X : Stand p l e R s m args below meth c T locs cells slots) (hx : p.tables.exec = Jvm.exec) {pc : Nat} {Ls : Array Slot} {st : List Value} {x : Int64} {y : Int32} (hd : decode c.code pc = .ok (.lushr, 1))  (K : Goes p e below G (T.setTop (mkF m (pc + 1) Ls (.long (XT.ushrL x y) :: st)))) : Goes p e below G (T.setTop (mkF m pc Ls (.int y :: .long x :: st))) :=
  go (fun _ q => XT.lushr (g := mkF m pc Ls (.int y :: .long x :: st)) X.here hx rfl hd rfl q) K
theorem gIneg (X : Stand p l e R s m args below meth c T locs cells slots) (hx : p.tables.exec = Jvm.exec) {pc : Nat} {Ls : Array Slot} {st : List Value} {x : Int32} (hd : decode c.code pc = .ok (.ineg, 1))  (K : Goes p e below G (T.setTop (mkF m (pc + 1) Ls (.int (-x) :: st)))) : Goes p e below G (T.setTop (mkF m pc Ls (.int x :: st))) :=
  go (fun _ q => XS.ineg (g := mkF m pc Ls (.int x :: st)) X.here hx rfl hd rfl q) K
theorem gI2l (X : Stand p l e R s m args below meth c T locs cells slots) (hx : p.tables.exec = Jvm.exec) {pc : Nat} {Ls : Array Slot} {st : List Value} {x : Int32} (hd : decode c.code pc = .ok (.i2l, 1))  (K : Goes p e below G (T.setTop (mkF m (pc + 1) Ls (.long (x.toInt64) :: st)))) : Goes p e below G (T.setTop (mkF m pc Ls (.int x :: st))) :=
  go (fun _ q => XT.i2l (g := mkF m pc Ls (.int x :: st)) X.here hx rfl hd rfl q) K
theorem gL2i (X : Stand p l e R s m args below meth c T locs cells slots) (hx : p.tables.exec = Jvm.exec) {pc : Nat} {Ls : Array Slot} {st : List Value} {x : Int64} (hd : decode c.code pc = .ok (.l2i, 1))  (K : Goes p e below G (T.setTop (mkF m (pc + 1) Ls (.int (x.toInt32) :: st)))) : Goes p e below G (T.setTop (mkF m pc Ls (.long x :: st))) :=
  go (fun _ q => XT.l2i (g := mkF m pc Ls (.long x :: st)) X.here hx rfl hd rfl q) K
theorem gI2b (X : Stand p l e R s m args below meth c T locs cells slots) (hx : p.tables.exec = Jvm.exec) {pc : Nat} {Ls : Array Slot} {st : List Value} {x : Int32} (hd : decode c.code pc = .ok (.i2b, 1))  (K : Goes p e below G (T.setTop (mkF m (pc + 1) Ls (.int (x.toInt8.toInt32) :: st)))) : Goes p e below G (T.setTop (mkF m pc Ls (.int x :: st))) :=
  go (fun _ q => XT.i2b (g := mkF m pc Ls (.int x :: st)) X.here hx rfl hd rfl q) K
theorem gI2c (X : Stand p l e R s m args below meth c T locs cells slots) (hx : p.tables.exec = Jvm.exec) {pc : Nat} {Ls : Array Slot} {st : List Value} {x : Int32} (hd : decode c.code pc = .ok (.i2c, 1))  (K : Goes p e below G (T.setTop (mkF m (pc + 1) Ls (.int (x.toUInt32.toUInt16.toUInt32.toInt32) :: st)))) : Goes p e below G (T.setTop (mkF m pc Ls (.int x :: st))) :=
  go (fun _ q => XT.i2c (g := mkF m pc Ls (.int x :: st)) X.here hx rfl hd rfl q) K
theorem gI2d (X : Stand p l e R s m args below meth c T locs cells slots) (hx : p.tables.exec = Jvm.exec) {pc : Nat} {Ls : Array Slot} {st : List Value} {x : Int32} (hd : decode c.code pc = .ok (.i2d, 1))  (K : Goes p e below G (T.setTop (mkF m (pc + 1) Ls (.double (FP.i2d x) :: st)))) : Goes p e below G (T.setTop (mkF m pc Ls (.int x :: st))) :=
  go (fun _ q => XS.i2dS (g := mkF m pc Ls (.int x :: st)) X.here hx rfl hd rfl rfl q) K
theorem gL2d (X : Stand p l e R s m args below meth c T locs cells slots) (hx : p.tables.exec = Jvm.exec) {pc : Nat} {Ls : Array Slot} {st : List Value} {x : Int64} (hd : decode c.code pc = .ok (.l2d, 1))  (K : Goes p e below G (T.setTop (mkF m (pc + 1) Ls (.double (FP.l2d x) :: st)))) : Goes p e below G (T.setTop (mkF m pc Ls (.long x :: st))) :=
  go (fun _ q => XS.l2dS (g := mkF m pc Ls (.long x :: st)) X.here hx rfl hd rfl rfl q) K
theorem gDadd (X : Stand p l e R s m args below meth c T locs cells slots) (hx : p.tables.exec = Jvm.exec) {pc : Nat} {Ls : Array Slot} {st : List Value} {x y : UInt64} (hd : decode c.code pc = .ok (.dadd, 1)) (hn : Jvm.Free.Fl.NoNaN64 (FP.dadd x y)) (K : Goes p e below G (T.setTop (mkF m (pc + 1) Ls (.double (FP.dadd x y) :: st)))) : Goes p e below G (T.setTop (mkF m pc Ls (.double y :: .double x :: st))) :=
  go (fun _ q => XS.daddS (g := mkF m pc Ls (.double y :: .double x :: st)) X.here hx rfl hd rfl hn rfl q) K
theorem gDsub (X : Stand p l e R s m args below meth c T locs cells slots) (hx : p.tables.exec = Jvm.exec) {pc : Nat} {Ls : Array Slot} {st : List Value} {x y : UInt64} (hd : decode c.code pc = .ok (.dsub, 1)) (hn : Jvm.Free.Fl.NoNaN64 (FP.dsub x y)) (K : Goes p e below G (T.setTop (mkF m (pc + 1) Ls (.double (FP.dsub x y) :: st)))) : Goes p e below G (T.setTop (mkF m pc Ls (.double y :: .double x :: st))) :=
  go (fun _ q => XS.dsubS (g := mkF m pc Ls (.double y :: .double x :: st)) X.here hx rfl hd rfl hn rfl q) K
theorem gDmul (X : Stand p l e R s m args below meth c T locs cells slots) (hx : p.tables.exec = Jvm.exec) {pc : Nat} {Ls : Array Slot} {st : List Value} {x y : UInt64} (hd : decode c.code pc = .ok (.dmul, 1)) (hn : Jvm.Free.Fl.NoNaN64 (FP.dmul x y)) (K : Goes p e below G (T.setTop (mkF m (pc + 1) Ls (.double (FP.dmul x y) :: st)))) : Goes p e below G (T.setTop (mkF m pc Ls (.double y :: .double x :: st))) :=
  go (fun _ q => XS.dmulS (g := mkF m pc Ls (.double y :: .double x :: st)) X.here hx rfl hd rfl hn rfl q) K
theorem gDdiv (X : Stand p l e R s m args below meth c T locs cells slots) (hx : p.tables.exec = Jvm.exec) {pc : Nat} {Ls : Array Slot} {st : List Value} {x y : UInt64} (hd : decode c.code pc = .ok (.ddiv, 1)) (hn : Jvm.Free.Fl.NoNaN64 (FP.ddiv x y)) (K : Goes p e below G (T.setTop (mkF m (pc + 1) Ls (.double (FP.ddiv x y) :: st)))) : Goes p e below G (T.setTop (mkF m pc Ls (.double y :: .double x :: st))) :=
  go (fun _ q => XS.ddivS (g := mkF m pc Ls (.double y :: .double x :: st)) X.here hx rfl hd rfl hn rfl q) K
theorem gDcmp (X : Stand p l e R s m args below meth c T locs cells slots) (hx : p.tables.exec = Jvm.exec) {pc : Nat} {Ls : Array Slot} {st : List Value} {o : CmpOp} {x y : UInt64} (hd : decode c.code pc = .ok (.dcmp o, 1))  (K : Goes p e below G (T.setTop (mkF m (pc + 1) Ls (.int (cmpValue (FP.dcmp x y) o) :: st)))) : Goes p e below G (T.setTop (mkF m pc Ls (.double y :: .double x :: st))) :=
  go (fun _ q => XS.dcmpS (g := mkF m pc Ls (.double y :: .double x :: st)) X.here hx rfl hd rfl rfl q) K
theorem gLcmp (X : Stand p l e R s m args below meth c T locs cells slots) (hx : p.tables.exec = Jvm.exec) {pc : Nat} {Ls : Array Slot} {st : List Value} {x y : Int64} (hd : decode c.code pc = .ok (.lcmp, 1))  (K : Goes p e below G (T.setTop (mkF m (pc + 1) Ls (.int (XT.cmpL x y) :: st)))) : Goes p e below G (T.setTop (mkF m pc Ls (.long y :: .long x :: st))) :=
  go (fun _ q => XT.lcmp (g := mkF m pc Ls (.long y :: .long x :: st)) X.here hx rfl hd rfl q) K
theorem gDup (X : Stand p l e R s m args below meth c T locs cells slots) (hx : p.tables.exec = Jvm.exec) {pc : Nat} {Ls : Array Slot} {st : List Value} {x : Value} (hd : decode c.code pc = .ok (.dup, 1)) (hc : x.category = 1) (K : Goes p e below G (T.setTop (mkF m (pc + 1) Ls (x :: x :: st)))) : Goes p e below G (T.setTop (mkF m pc Ls (x :: st))) :=
  go (fun _ q => XS.dup (g := mkF m pc Ls (x :: st)) X.here hx rfl hd rfl hc q) K
theorem gPop (X : Stand p l e R s m args below meth c T locs cells slots) (hx : p.tables.exec = Jvm.exec) {pc : Nat} {Ls : Array Slot} {st : List Value} {x : Value} (hd : decode c.code pc = .ok (.pop, 1)) (hc : x.category = 1) (K : Goes p e below G (T.setTop (mkF m (pc + 1) Ls (st)))) : Goes p e below G (T.setTop (mkF m pc Ls (x :: st))) :=
  go (fun _ q => XT.pop (g := mkF m pc Ls (x :: st)) X.here hx rfl hd rfl hc q) K
theorem gDupX1 (X : Stand p l e R s m args below meth c T locs cells slots) (hx : p.tables.exec = Jvm.exec) {pc : Nat} {Ls : Array Slot} {st : List Value} {x y : Value} (hd : decode c.code pc = .ok (.dup_x1, 1)) (hc : x.category = 1) (hc' : y.category = 1) (K : Goes p e below G (T.setTop (mkF m (pc + 1) Ls (x :: y :: x :: st)))) : Goes p e below G (T.setTop (mkF m pc Ls (x :: y :: st))) :=
  go (fun _ q => XT.dupX1 (g := mkF m pc Ls (x :: y :: st)) X.here hx rfl hd rfl hc hc' q) K
theorem gDup2 (X : Stand p l e R s m args below meth c T locs cells slots) (hx : p.tables.exec = Jvm.exec) {pc : Nat} {Ls : Array Slot} {st : List Value} {x y : Value} (hd : decode c.code pc = .ok (.dup2, 1)) (hc : x.category = 1) (hc' : y.category = 1) (K : Goes p e below G (T.setTop (mkF m (pc + 1) Ls (x :: y :: x :: y :: st)))) : Goes p e below G (T.setTop (mkF m pc Ls (x :: y :: st))) :=
  go (fun _ q => XT.dup2 (g := mkF m pc Ls (x :: y :: st)) X.here hx rfl hd rfl hc hc' q) K
theorem gIinc (X : Stand p l e R s m args below meth c T locs cells slots) (hx : p.tables.exec = Jvm.exec) {pc : Nat} {Ls : Array Slot} {st : List Value} {k : Nat} {i : Int} {x v : Int32} {l' : Array Slot} (hd : decode c.code pc = .ok (.iinc k i, 3)) (hv : x + Int32.ofInt i = v) (hl : Ls[k]? = some (.val (.int x))) (hl' : storeLocals Ls k (.int v) = some l') (K : Goes p e below G (T.setTop (mkF m (pc + 3) l' st))) : Goes p e below G (T.setTop (mkF m pc Ls st)) := by
  subst hv
  exact go (fun _ q => XS.iinc (g := mkF m pc Ls st) X.here hx rfl hd hl hl' q) K
theorem gIrem (X : Stand p l e R s m args below meth c T locs cells slots) (hx : p.tables.exec = Jvm.exec) {pc : Nat} {Ls : Array Slot} {st : List Value} {x y : Int32} (hd : decode c.code pc = .ok (.irem, 1)) (hy : y ≠ 0) (K : Goes p e below G (T.setTop (mkF m (pc + 1) Ls (.int (x % y) :: st)))) : Goes p e below G (T.setTop (mkF m pc Ls (.int y :: .int x :: st))) :=
  go (fun _ q => iremM X hx (g := mkF m pc Ls (.int y :: .int x :: st)) rfl hd rfl hy q) K
theorem gIdiv (X : Stand p l e R s m args below meth c T locs cells slots) (hx : p.tables.exec = Jvm.exec) {pc : Nat} {Ls : Array Slot} {st : List Value} {x y : Int32} (hd : decode c.code pc = .ok (.idiv, 1)) (hy : y ≠ 0) (K : Goes p e below G (T.setTop (mkF m (pc + 1) Ls (.int (x / y) :: st)))) : Goes p e below G (T.setTop (mkF m pc Ls (.int y :: .int x :: st))) :=
  go (fun _ q => XS.idiv (g := mkF m pc Ls (.int y :: .int x :: st)) X.here hx rfl hd rfl hy q) K
theorem gGoto (X : Stand p l e R s m args below meth c T locs cells slots) (hx : p.tables.exec = Jvm.exec) {pc : Nat} {Ls : Array Slot} {st : List Value} {o : Int} {pc' : Nat} (hd : decode c.code pc = .ok (.goto o, 3)) (ho : 0 ≤ (pc : Int) + o) (hp : ((pc : Int) + o).toNat = pc') (K : Goes p e below G (T.setTop (mkF m pc' Ls (st)))) : Goes p e below G (T.setTop (mkF m pc Ls (st))) :=
  go (fun _ q => XS.goto (g := mkF m pc Ls (st)) X.here hx rfl rfl hd ho hp q) K
theorem gIfY (X : Stand p l e R s m args below meth c T locs cells slots) (hx : p.tables.exec = Jvm.exec) {pc : Nat} {Ls : Array Slot} {st : List Value} {cd : ClassFile.Cond} {x : Int32} {o : Int} {pc' : Nat} (hd : decode c.code pc = .ok (.ifCond cd o, 3)) (hc : ifCond.holds cd x = true) (ho : 0 ≤ (pc : Int) + o) (hp : ((pc : Int) + o).toNat = pc') (K : Goes p e below G (T.setTop (mkF m pc' Ls (st)))) : Goes p e below G (T.setTop (mkF m pc Ls (.int x :: st))) :=
  go (fun _ q => XS.ifYes (g := mkF m pc Ls (.int x :: st)) X.here hx rfl rfl hd rfl hc ho hp q) K
theorem gIfN (X : Stand p l e R s m args below meth c T locs cells slots) (hx : p.tables.exec = Jvm.exec) {pc : Nat} {Ls : Array Slot} {st : List Value} {cd : ClassFile.Cond} {x : Int32} {o : Int} (hd : decode c.code pc = .ok (.ifCond cd o, 3)) (hc : ifCond.holds cd x = false) (K : Goes p e below G (T.setTop (mkF m (pc + 3) Ls (st)))) : Goes p e below G (T.setTop (mkF m pc Ls (.int x :: st))) :=
  go (fun _ q => XS.ifNo (g := mkF m pc Ls (.int x :: st)) X.here hx rfl hd rfl hc q) K
theorem gIcmpY (X : Stand p l e R s m args below meth c T locs cells slots) (hx : p.tables.exec = Jvm.exec) {pc : Nat} {Ls : Array Slot} {st : List Value} {cd : ClassFile.Cond} {x y : Int32} {o : Int} {pc' : Nat} (hd : decode c.code pc = .ok (.if_icmp cd o, 3)) (hc : if_icmp.holds cd x y = true) (ho : 0 ≤ (pc : Int) + o) (hp : ((pc : Int) + o).toNat = pc') (K : Goes p e below G (T.setTop (mkF m pc' Ls (st)))) : Goes p e below G (T.setTop (mkF m pc Ls (.int y :: .int x :: st))) :=
  go (fun _ q => XS.icmpYes (g := mkF m pc Ls (.int y :: .int x :: st)) X.here hx rfl rfl hd rfl hc ho hp q) K
theorem gIcmpN (X : Stand p l e R s m args below meth c T locs cells slots) (hx : p.tables.exec = Jvm.exec) {pc : Nat} {Ls : Array Slot} {st : List Value} {cd : ClassFile.Cond} {x y : Int32} {o : Int} (hd : decode c.code pc = .ok (.if_icmp cd o, 3)) (hc : if_icmp.holds cd x y = false) (K : Goes p e below G (T.setTop (mkF m (pc + 3) Ls (st)))) : Goes p e below G (T.setTop (mkF m pc Ls (.int y :: .int x :: st))) :=
  go (fun _ q => XS.icmpNo (g := mkF m pc Ls (.int y :: .int x :: st)) X.here hx rfl hd rfl hc q) K
theorem gAcmpY (X : Stand p l e R s m args below meth c T locs cells slots) (hx : p.tables.exec = Jvm.exec) {pc : Nat} {Ls : Array Slot} {st : List Value} {cd : ClassFile.ACond} {x y : Value} {o : Int} {pc' : Nat} (hd : decode c.code pc = .ok (.if_acmp cd o, 3)) (hx' : x.isRef = true) (hy' : y.isRef = true) (hc : XT.acmp cd x y = true) (ho : 0 ≤ (pc : Int) + o) (hp : ((pc : Int) + o).toNat = pc') (K : Goes p e below G (T.setTop (mkF m pc' Ls (st)))) : Goes p e below G (T.setTop (mkF m pc Ls (y :: x :: st))) :=
  go (fun _ q => XT.acmpYes (g := mkF m pc Ls (y :: x :: st)) X.here hx rfl rfl hd rfl hx' hy' hc ho hp q) K
theorem gAcmpN (X : Stand p l e R s m args below meth c T locs cells slots) (hx : p.tables.exec = Jvm.exec) {pc : Nat} {Ls : Array Slot} {st : List Value} {cd : ClassFile.ACond} {x y : Value} {o : Int} (hd : decode c.code pc = .ok (.if_acmp cd o, 3)) (hx' : x.isRef = true) (hy' : y.isRef = true) (hc : XT.acmp cd x y = false) (K : Goes p e below G (T.setTop (mkF m (pc + 3) Ls (st)))) : Goes p e below G (T.setTop (mkF m pc Ls (y :: x :: st))) :=
  go (fun _ q => XT.acmpNo (g := mkF m pc Ls (y :: x :: st)) X.here hx rfl hd rfl hx' hy' hc q) K
theorem gNullY (X : Stand p l e R s m args below meth c T locs cells slots) (hx : p.tables.exec = Jvm.exec) {pc : Nat} {Ls : Array Slot} {st : List Value} {o : Int} {pc' : Nat} (hd : decode c.code pc = .ok (.ifnull o, 3)) (ho : 0 ≤ (pc : Int) + o) (hp : ((pc : Int) + o).toNat = pc') (K : Goes p e below G (T.setTop (mkF m pc' Ls (st)))) : Goes p e below G (T.setTop (mkF m pc Ls (.null :: st))) :=
  go (fun _ q => XS.ifnullYes (g := mkF m pc Ls (.null :: st)) X.here hx rfl rfl hd rfl ho hp q) K
theorem gNullN (X : Stand p l e R s m args below meth c T locs cells slots) (hx : p.tables.exec = Jvm.exec) {pc : Nat} {Ls : Array Slot} {st : List Value} {b : Addr} {o : Int} (hd : decode c.code pc = .ok (.ifnull o, 3))  (K : Goes p e below G (T.setTop (mkF m (pc + 3) Ls (st)))) : Goes p e below G (T.setTop (mkF m pc Ls (.ref b :: st))) :=
  go (fun _ q => XS.ifnullNo (g := mkF m pc Ls (.ref b :: st)) X.here hx rfl hd rfl q) K
theorem gNonnullY (X : Stand p l e R s m args below meth c T locs cells slots) (hx : p.tables.exec = Jvm.exec) {pc : Nat} {Ls : Array Slot} {st : List Value} {b : Addr} {o : Int} {pc' : Nat} (hd : decode c.code pc = .ok (.ifnonnull o, 3)) (ho : 0 ≤ (pc : Int) + o) (hp : ((pc : Int) + o).toNat = pc') (K : Goes p e below G (T.setTop (mkF m pc' Ls (st)))) : Goes p e below G (T.setTop (mkF m pc Ls (.ref b :: st))) :=
  go (fun _ q => XT.ifnonnullYes (g := mkF m pc Ls (.ref b :: st)) X.here hx rfl rfl hd rfl ho hp q) K
theorem gNonnullN (X : Stand p l e R s m args below meth c T locs cells slots) (hx : p.tables.exec = Jvm.exec) {pc : Nat} {Ls : Array Slot} {st : List Value} {o : Int} (hd : decode c.code pc = .ok (.ifnonnull o, 3))  (K : Goes p e below G (T.setTop (mkF m (pc + 3) Ls (st)))) : Goes p e below G (T.setTop (mkF m pc Ls (.null :: st))) :=
  go (fun _ q => XT.ifnonnullNo (g := mkF m pc Ls (.null :: st)) X.here hx rfl hd rfl q) K
theorem gLdcI (X : Stand p l e R s m args below meth c T locs cells slots) (hx : p.tables.exec = Jvm.exec) {pc : Nat} {Ls : Array Slot} {st : List Value} (hZ : Z.Warmed39 s.vm) {own : String} (hown : s.vm.findClass own = some m.cls) {i : Nat} {v : Int32} (w : (Cond.constant own i v).before a0 Z = true) (hd : decode c.code pc = .ok (.ldc i, 2)) (K : Goes p e below G (T.setTop (mkF m (pc + 2) Ls (.int v :: st)))) : Goes p e below G (T.setTop (mkF m pc Ls st)) :=
  go (fun _ q => X.ldcI hx hown (mvT hZ w) (g := mkF m pc Ls st) rfl hd q) K
theorem gLdcWI (X : Stand p l e R s m args below meth c T locs cells slots) (hx : p.tables.exec = Jvm.exec) {pc : Nat} {Ls : Array Slot} {st : List Value} (hZ : Z.Warmed39 s.vm) {own : String} (hown : s.vm.findClass own = some m.cls) {i : Nat} {v : Int32} (w : (Cond.constant own i v).before a0 Z = true) (hd : decode c.code pc = .ok (.ldc_w i, 3)) (K : Goes p e below G (T.setTop (mkF m (pc + 3) Ls (.int v :: st)))) : Goes p e below G (T.setTop (mkF m pc Ls st)) :=
  go (fun _ q => X.ldcWI hx hown (mvT hZ w) (g := mkF m pc Ls st) rfl hd q) K
theorem gLdc2J (X : Stand p l e R s m args below meth c T locs cells slots) (hx : p.tables.exec = Jvm.exec) {pc : Nat} {Ls : Array Slot} {st : List Value} (hZ : Z.Warmed39 s.vm) {own : String} (hown : s.vm.findClass own = some m.cls) {i : Nat} {v : Int64} (w : (Cond.constantLong own i v).before a0 Z = true) (hd : decode c.code pc = .ok (.ldc2_w i, 3)) (K : Goes p e below G (T.setTop (mkF m (pc + 3) Ls (.long v :: st)))) : Goes p e below G (T.setTop (mkF m pc Ls st)) :=
  go (fun _ q => X.ldc2J hx hown (mvT hZ w) (g := mkF m pc Ls st) rfl hd q) K
theorem gLdc2D (X : Stand p l e R s m args below meth c T locs cells slots) (hx : p.tables.exec = Jvm.exec) {pc : Nat} {Ls : Array Slot} {st : List Value} (hZ : Z.Warmed39 s.vm) {own : String} (hown : s.vm.findClass own = some m.cls) {i : Nat} {v : UInt64} (w : (Cond.constantDouble own i v).before a0 Z = true) (hd : decode c.code pc = .ok (.ldc2_w i, 3)) (K : Goes p e below G (T.setTop (mkF m (pc + 3) Ls (.double v :: st)))) : Goes p e below G (T.setTop (mkF m pc Ls st)) :=
  go (fun _ q => X.ldc2DoubleC hx hown (mvT hZ w) (g := mkF m pc Ls st) rfl hd _ q) K
end Own
end Jvm.OwnWalk
namespace Jvm.Pilot.@@N@@
open Jvm Jvm.ClassFile Sem Op Lib Jvm.Free Jvm.Stand Jvm.LawKit Jvm.RoadKit Jvm.OwnWalk Bundle Jvm.Pilot.@@N@@.Jvm.D
open Jvm.Free.Fl in
def own_nnn (x : UInt64) : Prop := NoNaN64 x
def own_st (s : UInt64) (r' r k : Int32) : UInt64 := if r' < r then FP.dadd s (FP.ddiv (FP.i2d r) (FP.i2d k)) else s
def own_ls (s : UInt64) (b c : Int32) (k : UInt64) : UInt64 := if b = 0 then s else FP.dadd s (FP.ddiv (FP.i2d c) k)
def own_rt (s : UInt64) (p : Int32) : UInt64 := if 0 < p then FP.ddiv s (FP.i2d p) else FP.dconst0
theorem own_nb {b : Int32} (h : b = 0 ∨ b = 1) : nar .boolean b = b := by rcases h with rfl | rfl <;> decide
theorem own_k5 (p : Int32) : (p &&& 7) % 5 = 0 ∨ (p &&& 7) % 5 = 1 ∨ (p &&& 7) % 5 = 2 ∨ (p &&& 7) % 5 = 3 ∨ (p &&& 7) % 5 = 4 := by
  have a : (p &&& 7).toInt = p.toInt % 8 := c_mask p 7 3 (by decide) (by decide)
  have b := (c_irem (p &&& 7) 5 5 (by decide)).1 (by rw [a]; exact Int.emod_nonneg _ (by decide))
  simp only [← Int32.toInt_inj, b]
  show _ = 0 ∨ _ = 1 ∨ _ = 2 ∨ _ = 3 ∨ _ = 4
  omega
instance own_dn (x : UInt64) : Decidable (Jvm.Free.Fl.NoNaN64 x) := by unfold Jvm.Free.Fl.NoNaN64; infer_instance
theorem own_qa1 (b0 : Int32) (hb0 : b0 = 0 ∨ b0 = 1) : Jvm.Free.Fl.NoNaN64 (FP.ddiv (FP.i2d ((0 : Int32) + b0)) (FP.i2d (1 : Int32))) := by rcases hb0 with rfl | rfl <;> decide +kernel
theorem own_da1 (b0 : Int32) (hb0 : b0 = 0 ∨ b0 = 1) : Jvm.Free.Fl.NoNaN64 (FP.dadd FP.dconst0 (FP.ddiv (FP.i2d ((0 : Int32) + b0)) (FP.i2d (1 : Int32)))) := by rcases hb0 with rfl | rfl <;> decide +kernel
theorem own_ql1 (b0 : Int32) (hb0 : b0 = 0 ∨ b0 = 1) : Jvm.Free.Fl.NoNaN64 (FP.ddiv (FP.i2d b0) FP.dconst1) := by rcases hb0 with rfl | rfl <;> decide +kernel
theorem own_dl1 (b0 : Int32) (hb0 : b0 = 0 ∨ b0 = 1) : Jvm.Free.Fl.NoNaN64 (FP.dadd FP.dconst0 (FP.ddiv (FP.i2d b0) FP.dconst1)) := by rcases hb0 with rfl | rfl <;> decide +kernel
theorem own_qa2 (b0 b1 : Int32) (hb0 : b0 = 0 ∨ b0 = 1) (hb1 : b1 = 0 ∨ b1 = 1) : Jvm.Free.Fl.NoNaN64 (FP.ddiv (FP.i2d (((0 : Int32) + b0) + b1)) (FP.i2d (2 : Int32))) := by rcases hb0 with rfl | rfl <;> rcases hb1 with rfl | rfl <;> decide +kernel
theorem own_da2 (b0 b1 : Int32) (hb0 : b0 = 0 ∨ b0 = 1) (hb1 : b1 = 0 ∨ b1 = 1) : Jvm.Free.Fl.NoNaN64 (FP.dadd (own_st FP.dconst0 (0 : Int32) ((0 : Int32) + b0) (1 : Int32)) (FP.ddiv (FP.i2d (((0 : Int32) + b0) + b1)) (FP.i2d (2 : Int32)))) := by rcases hb0 with rfl | rfl <;> rcases hb1 with rfl | rfl <;> decide +kernel
theorem own_ql2 (b0 b1 : Int32) (hb0 : b0 = 0 ∨ b0 = 1) (hb1 : b1 = 0 ∨ b1 = 1) : Jvm.Free.Fl.NoNaN64 (FP.ddiv (FP.i2d (b0 + b1)) (4611686018427387904 : UInt64)) := by rcases hb0 with rfl | rfl <;> rcases hb1 with rfl | rfl <;> decide +kernel
theorem own_dl2 (b0 b1 : Int32) (hb0 : b0 = 0 ∨ b0 = 1) (hb1 : b1 = 0 ∨ b1 = 1) : Jvm.Free.Fl.NoNaN64 (FP.dadd (own_ls FP.dconst0 b0 b0 FP.dconst1) (FP.ddiv (FP.i2d (b0 + b1)) (4611686018427387904 : UInt64))) := by rcases hb0 with rfl | rfl <;> rcases hb1 with rfl | rfl <;> decide +kernel
theorem own_qa3 (b0 b1 b2 : Int32) (hb0 : b0 = 0 ∨ b0 = 1) (hb1 : b1 = 0 ∨ b1 = 1) (hb2 : b2 = 0 ∨ b2 = 1) : Jvm.Free.Fl.NoNaN64 (FP.ddiv (FP.i2d ((((0 : Int32) + b0) + b1) + b2)) (FP.i2d (3 : Int32))) := by rcases hb0 with rfl | rfl <;> rcases hb1 with rfl | rfl <;> rcases hb2 with rfl | rfl <;> decide +kernel
theorem own_da3 (b0 b1 b2 : Int32) (hb0 : b0 = 0 ∨ b0 = 1) (hb1 : b1 = 0 ∨ b1 = 1) (hb2 : b2 = 0 ∨ b2 = 1) : Jvm.Free.Fl.NoNaN64 (FP.dadd (own_st (own_st FP.dconst0 (0 : Int32) ((0 : Int32) + b0) (1 : Int32)) ((0 : Int32) + b0) (((0 : Int32) + b0) + b1) (2 : Int32)) (FP.ddiv (FP.i2d ((((0 : Int32) + b0) + b1) + b2)) (FP.i2d (3 : Int32)))) := by rcases hb0 with rfl | rfl <;> rcases hb1 with rfl | rfl <;> rcases hb2 with rfl | rfl <;> decide +kernel
theorem own_ql3 (b0 b1 b2 : Int32) (hb0 : b0 = 0 ∨ b0 = 1) (hb1 : b1 = 0 ∨ b1 = 1) (hb2 : b2 = 0 ∨ b2 = 1) : Jvm.Free.Fl.NoNaN64 (FP.ddiv (FP.i2d ((b0 + b1) + b2)) (4613937818241073152 : UInt64)) := by rcases hb0 with rfl | rfl <;> rcases hb1 with rfl | rfl <;> rcases hb2 with rfl | rfl <;> decide +kernel
theorem own_dl3 (b0 b1 b2 : Int32) (hb0 : b0 = 0 ∨ b0 = 1) (hb1 : b1 = 0 ∨ b1 = 1) (hb2 : b2 = 0 ∨ b2 = 1) : Jvm.Free.Fl.NoNaN64 (FP.dadd (own_ls (own_ls FP.dconst0 b0 b0 FP.dconst1) b1 (b0 + b1) (4611686018427387904 : UInt64)) (FP.ddiv (FP.i2d ((b0 + b1) + b2)) (4613937818241073152 : UInt64))) := by rcases hb0 with rfl | rfl <;> rcases hb1 with rfl | rfl <;> rcases hb2 with rfl | rfl <;> decide +kernel
theorem own_qa4 (b0 b1 b2 b3 : Int32) (hb0 : b0 = 0 ∨ b0 = 1) (hb1 : b1 = 0 ∨ b1 = 1) (hb2 : b2 = 0 ∨ b2 = 1) (hb3 : b3 = 0 ∨ b3 = 1) : Jvm.Free.Fl.NoNaN64 (FP.ddiv (FP.i2d (((((0 : Int32) + b0) + b1) + b2) + b3)) (FP.i2d (4 : Int32))) := by rcases hb0 with rfl | rfl <;> rcases hb1 with rfl | rfl <;> rcases hb2 with rfl | rfl <;> rcases hb3 with rfl | rfl <;> decide +kernel
theorem own_da4 (b0 b1 b2 b3 : Int32) (hb0 : b0 = 0 ∨ b0 = 1) (hb1 : b1 = 0 ∨ b1 = 1) (hb2 : b2 = 0 ∨ b2 = 1) (hb3 : b3 = 0 ∨ b3 = 1) : Jvm.Free.Fl.NoNaN64 (FP.dadd (own_st (own_st (own_st FP.dconst0 (0 : Int32) ((0 : Int32) + b0) (1 : Int32)) ((0 : Int32) + b0) (((0 : Int32) + b0) + b1) (2 : Int32)) (((0 : Int32) + b0) + b1) ((((0 : Int32) + b0) + b1) + b2) (3 : Int32)) (FP.ddiv (FP.i2d (((((0 : Int32) + b0) + b1) + b2) + b3)) (FP.i2d (4 : Int32)))) := by rcases hb0 with rfl | rfl <;> rcases hb1 with rfl | rfl <;> rcases hb2 with rfl | rfl <;> rcases hb3 with rfl | rfl <;> decide +kernel
theorem own_ql4 (b0 b1 b2 b3 : Int32) (hb0 : b0 = 0 ∨ b0 = 1) (hb1 : b1 = 0 ∨ b1 = 1) (hb2 : b2 = 0 ∨ b2 = 1) (hb3 : b3 = 0 ∨ b3 = 1) : Jvm.Free.Fl.NoNaN64 (FP.ddiv (FP.i2d (((b0 + b1) + b2) + b3)) (4616189618054758400 : UInt64)) := by rcases hb0 with rfl | rfl <;> rcases hb1 with rfl | rfl <;> rcases hb2 with rfl | rfl <;> rcases hb3 with rfl | rfl <;> decide +kernel
theorem own_dl4 (b0 b1 b2 b3 : Int32) (hb0 : b0 = 0 ∨ b0 = 1) (hb1 : b1 = 0 ∨ b1 = 1) (hb2 : b2 = 0 ∨ b2 = 1) (hb3 : b3 = 0 ∨ b3 = 1) : Jvm.Free.Fl.NoNaN64 (FP.dadd (own_ls (own_ls (own_ls FP.dconst0 b0 b0 FP.dconst1) b1 (b0 + b1) (4611686018427387904 : UInt64)) b2 ((b0 + b1) + b2) (4613937818241073152 : UInt64)) (FP.ddiv (FP.i2d (((b0 + b1) + b2) + b3)) (4616189618054758400 : UInt64))) := by rcases hb0 with rfl | rfl <;> rcases hb1 with rfl | rfl <;> rcases hb2 with rfl | rfl <;> rcases hb3 with rfl | rfl <;> decide +kernel
theorem own_same1 (b0 : Int32) (hb0 : b0 = 0 ∨ b0 = 1) : (own_st FP.dconst0 (0 : Int32) ((0 : Int32) + b0) (1 : Int32)) = (own_ls FP.dconst0 b0 b0 FP.dconst1) := by rcases hb0 with rfl | rfl <;> decide +kernel
theorem own_ns1 (b0 : Int32) (hb0 : b0 = 0 ∨ b0 = 1) : Jvm.Free.Fl.NoNaN64 (own_st FP.dconst0 (0 : Int32) ((0 : Int32) + b0) (1 : Int32)) := by rcases hb0 with rfl | rfl <;> decide +kernel
theorem own_same2 (b0 b1 : Int32) (hb0 : b0 = 0 ∨ b0 = 1) (hb1 : b1 = 0 ∨ b1 = 1) : (own_st (own_st FP.dconst0 (0 : Int32) ((0 : Int32) + b0) (1 : Int32)) ((0 : Int32) + b0) (((0 : Int32) + b0) + b1) (2 : Int32)) = (own_ls (own_ls FP.dconst0 b0 b0 FP.dconst1) b1 (b0 + b1) (4611686018427387904 : UInt64)) := by rcases hb0 with rfl | rfl <;> rcases hb1 with rfl | rfl <;> decide +kernel
theorem own_ns2 (b0 b1 : Int32) (hb0 : b0 = 0 ∨ b0 = 1) (hb1 : b1 = 0 ∨ b1 = 1) : Jvm.Free.Fl.NoNaN64 (own_st (own_st FP.dconst0 (0 : Int32) ((0 : Int32) + b0) (1 : Int32)) ((0 : Int32) + b0) (((0 : Int32) + b0) + b1) (2 : Int32)) := by rcases hb0 with rfl | rfl <;> rcases hb1 with rfl | rfl <;> decide +kernel
theorem own_same3 (b0 b1 b2 : Int32) (hb0 : b0 = 0 ∨ b0 = 1) (hb1 : b1 = 0 ∨ b1 = 1) (hb2 : b2 = 0 ∨ b2 = 1) : (own_st (own_st (own_st FP.dconst0 (0 : Int32) ((0 : Int32) + b0) (1 : Int32)) ((0 : Int32) + b0) (((0 : Int32) + b0) + b1) (2 : Int32)) (((0 : Int32) + b0) + b1) ((((0 : Int32) + b0) + b1) + b2) (3 : Int32)) = (own_ls (own_ls (own_ls FP.dconst0 b0 b0 FP.dconst1) b1 (b0 + b1) (4611686018427387904 : UInt64)) b2 ((b0 + b1) + b2) (4613937818241073152 : UInt64)) := by rcases hb0 with rfl | rfl <;> rcases hb1 with rfl | rfl <;> rcases hb2 with rfl | rfl <;> decide +kernel
theorem own_ns3 (b0 b1 b2 : Int32) (hb0 : b0 = 0 ∨ b0 = 1) (hb1 : b1 = 0 ∨ b1 = 1) (hb2 : b2 = 0 ∨ b2 = 1) : Jvm.Free.Fl.NoNaN64 (own_st (own_st (own_st FP.dconst0 (0 : Int32) ((0 : Int32) + b0) (1 : Int32)) ((0 : Int32) + b0) (((0 : Int32) + b0) + b1) (2 : Int32)) (((0 : Int32) + b0) + b1) ((((0 : Int32) + b0) + b1) + b2) (3 : Int32)) := by rcases hb0 with rfl | rfl <;> rcases hb1 with rfl | rfl <;> rcases hb2 with rfl | rfl <;> decide +kernel
theorem own_same4 (b0 b1 b2 b3 : Int32) (hb0 : b0 = 0 ∨ b0 = 1) (hb1 : b1 = 0 ∨ b1 = 1) (hb2 : b2 = 0 ∨ b2 = 1) (hb3 : b3 = 0 ∨ b3 = 1) : (own_st (own_st (own_st (own_st FP.dconst0 (0 : Int32) ((0 : Int32) + b0) (1 : Int32)) ((0 : Int32) + b0) (((0 : Int32) + b0) + b1) (2 : Int32)) (((0 : Int32) + b0) + b1) ((((0 : Int32) + b0) + b1) + b2) (3 : Int32)) ((((0 : Int32) + b0) + b1) + b2) (((((0 : Int32) + b0) + b1) + b2) + b3) (4 : Int32)) = (own_ls (own_ls (own_ls (own_ls FP.dconst0 b0 b0 FP.dconst1) b1 (b0 + b1) (4611686018427387904 : UInt64)) b2 ((b0 + b1) + b2) (4613937818241073152 : UInt64)) b3 (((b0 + b1) + b2) + b3) (4616189618054758400 : UInt64)) := by rcases hb0 with rfl | rfl <;> rcases hb1 with rfl | rfl <;> rcases hb2 with rfl | rfl <;> rcases hb3 with rfl | rfl <;> decide +kernel
theorem own_ns4 (b0 b1 b2 b3 : Int32) (hb0 : b0 = 0 ∨ b0 = 1) (hb1 : b1 = 0 ∨ b1 = 1) (hb2 : b2 = 0 ∨ b2 = 1) (hb3 : b3 = 0 ∨ b3 = 1) : Jvm.Free.Fl.NoNaN64 (own_st (own_st (own_st (own_st FP.dconst0 (0 : Int32) ((0 : Int32) + b0) (1 : Int32)) ((0 : Int32) + b0) (((0 : Int32) + b0) + b1) (2 : Int32)) (((0 : Int32) + b0) + b1) ((((0 : Int32) + b0) + b1) + b2) (3 : Int32)) ((((0 : Int32) + b0) + b1) + b2) (((((0 : Int32) + b0) + b1) + b2) + b3) (4 : Int32)) := by rcases hb0 with rfl | rfl <;> rcases hb1 with rfl | rfl <;> rcases hb2 with rfl | rfl <;> rcases hb3 with rfl | rfl <;> decide +kernel
theorem own_same0 : FP.dconst0 = FP.dconst0 := rfl
theorem own_ns0 : Jvm.Free.Fl.NoNaN64 FP.dconst0 := by decide +kernel
theorem own_div {s : UInt64} (h : Jvm.Free.Fl.NoNaN64 s) {p : Int32} (hp : 0 < p) : Jvm.Free.Fl.NoNaN64 (FP.ddiv s (FP.i2d p)) := Jvm.Free.Fl.ddiv_out h (Jvm.Free.Fl.i2d_fin p) (Jvm.Free.Fl.i2d_nz (fun q => by rw [q] at hp; exact absurd hp (by decide)))
theorem own_rtn {s : UInt64} (h : Jvm.Free.Fl.NoNaN64 s) (p : Int32) : Jvm.Free.Fl.NoNaN64 (own_rt s p) := by
  unfold own_rt; split
  · exact own_div h (by assumption)
  · exact own_ns0
theorem d_prog_10_method_9_0 : decode prog_10_method_9_code 0 = .ok (.iload_n 2, 1) := by decide +kernel
theorem d_prog_10_method_9_1 : decode prog_10_method_9_code 1 = .ok (.ifCond .le 10, 3) := by decide +kernel
theorem d_prog_10_method_9_4 : decode prog_10_method_9_code 4 = .ok (.dload_n 0, 1) := by decide +kernel
theorem d_prog_10_method_9_5 : decode prog_10_method_9_code 5 = .ok (.iload_n 2, 1) := by decide +kernel
theorem d_prog_10_method_9_6 : decode prog_10_method_9_code 6 = .ok (.i2d, 1) := by decide +kernel
theorem d_prog_10_method_9_7 : decode prog_10_method_9_code 7 = .ok (.ddiv, 1) := by decide +kernel
theorem d_prog_10_method_9_8 : decode prog_10_method_9_code 8 = .ok (.goto 4, 3) := by decide +kernel
theorem d_prog_10_method_9_12 : decode prog_10_method_9_code 12 = .ok (.dreturn, 1) := by decide +kernel
theorem d_prog_10_method_9_11 : decode prog_10_method_9_code 11 = .ok (.dconst 0, 1) := by decide +kernel
theorem pn_0 : plainName "com/example/almaden/almaden/eval/JudgedRanking" = true := by first | (simp [plainName, overriddenIn]; done) | decide +kernel
theorem ef_rmR (m : MethodId) (x0 : UInt64) (x1 : Int32) : entryFrame m #[(.double x0), (.int x1)] 3 = mkF m 0 #[.val (.double x0), .second, .val (.int x1)] [] := by first | (simp [entryFrame, mkF, argsToLocals, Value.category]; done) | rfl
set_option maxRecDepth 65536 in
set_option maxHeartbeats 40000000 in
theorem rmR (l : Launch) (Z : State) (a0 : Array Value) (hw : ∀ d ∈ tables_1, d.before a0 Z = true)  (x1 : UInt64) (p2 : Int32) (h0 : Heap) (O0 : Ext Z.heap h0) (hn : Jvm.Free.Fl.NoNaN64 x1) :
    Ctr l Z (⟨"com/example/almaden/almaden/eval/JudgedRanking", "ratio", "(DI)D"⟩ : MethodName) prog_10_method_9_code 3 (some .double) [] ({ frames := 0, cells := 0, slots := 0, locals := 0 } : Room) #[(.double x1), (.int p2)] h0 (fun v h L => v = some (.double (own_rt x1 p2)) ∧ Fr Z.heap.size L ∧ h = h0) := by
  refine ctr (plainFor_of_name pn_0) ?_
  intro p e s m below meth c s₁ hx hby hml hown hnm hret hlocks hZ X0 e0
  have N0 := Fr.nil Z.heap.size
  have hsz : ∀ {Ls : Array Slot}, Ls.size = 3 → Ls.size = c.maxLocals := fun q => q.trans hml.symm
  refine goE (ef_rmR m (x1) (p2)) ?_
  show Goes p e below _ (s₁.setTop (mkF m 0 #[.val (.double x1), .second, .val (.int p2)] []))
  refine gIloadN X0 hx (hb hby d_prog_10_method_9_0) rfl ?_
  by_cases g : 0 < p2
  · refine gIfN X0 hx (hb hby d_prog_10_method_9_1) (XT.i0_le_f g) ?_
    show Goes p e below _ (s₁.setTop (mkF m 4 #[.val (.double x1), .second, .val (.int p2)] []))
    refine gDloadN X0 hx (hb hby d_prog_10_method_9_4) rfl ?_
    refine gIloadN X0 hx (hb hby d_prog_10_method_9_5) rfl ?_
    refine gI2d X0 hx (hb hby d_prog_10_method_9_6) ?_
    refine gDdiv X0 hx (hb hby d_prog_10_method_9_7) (own_div hn g) ?_
    refine gGoto X0 hx (hb hby d_prog_10_method_9_8) (pc' := 12) (by decide) (by decide) ?_
    show Goes p e below _ (s₁.setTop (mkF m 12 #[.val (.double x1), .second, .val (.int p2)] [(.double (FP.ddiv x1 (FP.i2d p2)))]))
    exact goRetD X0 hx hret hlocks (hb hby d_prog_10_method_9_12) (by decide) (by decide) e0 (⟨by simp [own_rt, g], N0, rfl⟩)
  · refine gIfY X0 hx (hb hby d_prog_10_method_9_1) (pc' := 11) (XT.i0_le_t g) (by decide) (by decide) ?_
    show Goes p e below _ (s₁.setTop (mkF m 11 #[.val (.double x1), .second, .val (.int p2)] []))
    refine gDconst0 X0 hx (hb hby d_prog_10_method_9_11) ?_
    exact goRetD X0 hx hret hlocks (hb hby d_prog_10_method_9_12) (by decide) (by decide) e0 (⟨by simp [own_rt, g], N0, rfl⟩)
theorem d_prog_10_method_1_0 : decode prog_10_method_1_code 0 = .ok (.aload_n 0, 1) := by decide +kernel
theorem d_prog_10_method_1_1 : decode prog_10_method_1_code 1 = .ok (.invokespecial 1, 3) := by decide +kernel
theorem d_prog_10_method_1_4 : decode prog_10_method_1_code 4 = .ok (.aload_n 0, 1) := by decide +kernel
theorem d_prog_10_method_1_5 : decode prog_10_method_1_code 5 = .ok (.aload_n 1, 1) := by decide +kernel
theorem d_prog_10_method_1_6 : decode prog_10_method_1_code 6 = .ok (.arraylength, 1) := by decide +kernel
theorem d_prog_10_method_1_7 : decode prog_10_method_1_code 7 = .ok (.iconst 1, 1) := by decide +kernel
theorem d_prog_10_method_1_8 : decode prog_10_method_1_code 8 = .ok (.iadd, 1) := by decide +kernel
theorem d_prog_10_method_1_9 : decode prog_10_method_1_code 9 = .ok (.newarray .int, 2) := by decide +kernel
theorem d_prog_10_method_1_11 : decode prog_10_method_1_code 11 = .ok (.putfield 7, 3) := by decide +kernel
theorem d_prog_10_method_1_14 : decode prog_10_method_1_code 14 = .ok (.iconst 0, 1) := by decide +kernel
theorem d_prog_10_method_1_15 : decode prog_10_method_1_code 15 = .ok (.istore_n 3, 1) := by decide +kernel
theorem d_prog_10_method_1_16 : decode prog_10_method_1_code 16 = .ok (.iload_n 3, 1) := by decide +kernel
theorem d_prog_10_method_1_17 : decode prog_10_method_1_code 17 = .ok (.aload_n 1, 1) := by decide +kernel
theorem d_prog_10_method_1_18 : decode prog_10_method_1_code 18 = .ok (.arraylength, 1) := by decide +kernel
theorem d_prog_10_method_1_19 : decode prog_10_method_1_code 19 = .ok (.if_icmp .ge 35, 3) := by decide +kernel
theorem d_prog_10_method_1_54 : decode prog_10_method_1_code 54 = .ok (.aload_n 0, 1) := by decide +kernel
theorem d_prog_10_method_1_55 : decode prog_10_method_1_code 55 = .ok (.iload_n 2, 1) := by decide +kernel
theorem d_prog_10_method_1_56 : decode prog_10_method_1_code 56 = .ok (.putfield 13, 3) := by decide +kernel
theorem d_prog_10_method_1_59 : decode prog_10_method_1_code 59 = .ok (.return_, 1) := by decide +kernel
theorem ef_rmI0 (m : MethodId) (x0 : Addr) (x1 : Addr) (x2 : Int32) : entryFrame m #[(.ref x0), (.ref x1), (.int x2)] 4 = mkF m 0 #[.val (.ref x0), .val (.ref x1), .val (.int x2), .unset] [] := by first | (simp [entryFrame, mkF, argsToLocals, Value.category]; done) | rfl
set_option maxRecDepth 65536 in
set_option maxHeartbeats 40000000 in
theorem rmI0 (l : Launch) (Z : State) (a0 : Array Value) (hw : ∀ d ∈ tables_1, d.before a0 Z = true)  (a1 : Addr) (a2 : Addr) (p3 : Int32) (h0 : Heap) (O0 : Ext Z.heap h0) (E1 : Exa Z h0 a1 "com/example/almaden/almaden/eval/JudgedRanking") (F1 : Fld Z h0 a1 "com/example/almaden/almaden/eval/JudgedRanking" "relevantWithin" "[I" .null) (F2 : Fld Z h0 a1 "com/example/almaden/almaden/eval/JudgedRanking" "relevant" "I" (.int (0 : Int32))) (Y2 : Ary Z h0 a2 .boolean []) (ne : a1 ≠ a2) (fr1 : Z.heap.size ≤ a1)  :
    Ctr l Z (⟨"com/example/almaden/almaden/eval/JudgedRanking", "<init>", "([ZI)V"⟩ : MethodName) prog_10_method_1_code 4 none [] ({ frames := 1, cells := 1, slots := 1, locals := 13 } : Room) #[(.ref a1), (.ref a2), (.int p3)] h0 (fun v h L => v = none ∧ Fr Z.heap.size L ∧ Keep h0 h [a1] ∧ ∃ u, h0.size ≤ u ∧ Fld Z h a1 "com/example/almaden/almaden/eval/JudgedRanking" "relevantWithin" "[I" (.ref u) ∧ Fld Z h a1 "com/example/almaden/almaden/eval/JudgedRanking" "relevant" "I" (.int p3) ∧ Ary Z h u .int [(.int (0 : Int32))]) := by
  refine ctr (plainFor_of_name pn_0) ?_
  intro p e s m below meth c s₁ hx hby hml hown hnm hret hlocks hZ X0 e0
  have N0 := Fr.nil Z.heap.size
  have hsz : ∀ {Ls : Array Slot}, Ls.size = 4 → Ls.size = c.maxLocals := fun q => q.trans hml.symm
  have K0 := Keep.refl h0 [a1]
  refine goE (ef_rmI0 m (a1) (a2) (p3)) ?_
  show Goes p e below _ (s₁.setTop (mkF m 0 #[.val (.ref a1), .val (.ref a2), .val (.int p3), .unset] []))
  refine gAloadN X0 hx (hb hby d_prog_10_method_1_0) rfl rfl ?_
  obtain ⟨Tt1, Xt1, et1, stt1⟩ := initO X0 hx hZ hown (hw _ (List.mem_of_getElem? (i := 7) rfl)) (hw _ (List.mem_of_getElem? (i := 8) rfl)) (hw _ (List.mem_of_getElem? (i := 9) rfl)) e0 (g := (mkF m 1 #[.val (.ref a1), .val (.ref a2), .val (.int p3), .unset] [(.ref a1)])) rfl (by rw [hml]; rfl) rfl (hb hby d_prog_10_method_1_1) (by decide) (W := 0) (Nat.le_of_eq rfl) (by decide)
  refine go stt1 ?_
  show Goes p e below _ (Tt1.setTop (mkF m 4 #[.val (.ref a1), .val (.ref a2), .val (.int p3), .unset] []))
  refine gAloadN Xt1 hx (hb hby d_prog_10_method_1_4) rfl rfl ?_
  refine gAloadN Xt1 hx (hb hby d_prog_10_method_1_5) rfl rfl ?_
  refine goAlen Xt1 hx hZ et1 Y2 (n := (0 : Int32)) (hb hby d_prog_10_method_1_6) rfl ?_
  refine gIconst Xt1 hx (hb hby d_prog_10_method_1_7) (v := (1 : Int32)) rfl ?_
  refine gIadd Xt1 hx (hb hby d_prog_10_method_1_8) ?_
  obtain ⟨Tt2, ht2, kt2, Xt2, et2, Et2, At2, stt2⟩ := newP Xt1 hx hZ (hw _ (List.mem_of_getElem? (i := 10) rfl)) et1 (g := (mkF m 9 #[.val (.ref a1), .val (.ref a2), .val (.int p3), .unset] [(.int (1 : Int32)), (.ref a1)])) rfl (hb hby d_prog_10_method_1_9) rfl (by decide) (cap := 1) (by decide) (by decide) (by decide) (by decide)
  obtain ⟨ob3, gob3⟩ : ∃ z, z = h0.size := ⟨_, rfl⟩
  rw [← gob3] at At2 stt2
  refine go stt2 ?_
  have ne_a1_ob3 : a1 ≠ ob3 := Nat.ne_of_lt (gob3 ▸ E1.lt)
  have ne_a2_ob3 : a2 ≠ ob3 := Nat.ne_of_lt (gob3 ▸ Y2.lt)
  have fr_ob3 : Z.heap.size ≤ ob3 := gob3 ▸ O0.1
  have pa_ob3 : h0.size ≤ ob3 := gob3 ▸ K0.1
  replace E1 := E1.ext Et2
  replace F1 := F1.ext Et2
  replace F2 := F2.ext Et2
  replace Y2 := Y2.ext Et2
  have O4 : Ext Z.heap ht2 := extT O0 Et2
  have K5 := K0.ext Et2
  have Y_ob3 : Ary Z ht2 ob3 .int [(.int (0 : Int32))] := Ary.new At2 rfl (by decide)
  show Goes p e below _ (Tt2.setTop (mkF m 11 #[.val (.ref a1), .val (.ref a2), .val (.int p3), .unset] [(.ref ob3), (.ref a1)]))
  obtain ⟨Tt6, ht6, Xt6, et6, Wt6, stt6⟩ := putF Xt2 hx hZ hown (host := "") (Or.inl (hw _ (List.mem_of_getElem? (i := 11) rfl))) Via.refl et2 F1 E1 (Or.inr ⟨(hw _ (List.mem_of_getElem? (i := 12) rfl)), rfl, hnm⟩) (hw _ (List.mem_of_getElem? (i := 2) rfl)) (ty := (.array .int)) (by decide) rfl rfl (g := (mkF m 11 #[.val (.ref a1), .val (.ref a2), .val (.int p3), .unset] [(.ref ob3), (.ref a1)])) rfl rfl (hb hby d_prog_10_method_1_11)
  refine go stt6 ?_
  have N7 := Fr.snoc Xt6 N0 fr1
  replace F1 := F1.same Wt6
  replace E1 := E1.wr Wt6
  replace F2 := F2.other Wt6 (Or.inr (slot_ne (Or.inr (hw _ (List.mem_of_getElem? (i := 14) rfl))) (Or.inr (hw _ (List.mem_of_getElem? (i := 12) rfl))) (by decide) (t := .int) (by decide) (t' := (.array .int)) (by decide)))
  replace Y2 := Y2.other Wt6 (Ne.symm ne)
  replace Y_ob3 := Y_ob3.other Wt6 (Ne.symm ne_a1_ob3)
  have O8 : Ext Z.heap ht6 := extW O4 Wt6 fr1
  have K9 := K5.wr Wt6 (Or.inl (by simp))
  show Goes p e below _ (Tt6.setTop (mkF m 14 #[.val (.ref a1), .val (.ref a2), .val (.int p3), .unset] []))
  refine gIconst Xt6 hx (hb hby d_prog_10_method_1_14) (v := (0 : Int32)) rfl ?_
  refine gIstoreN Xt6 hx (hb hby d_prog_10_method_1_15) (l' := #[.val (.ref a1), .val (.ref a2), .val (.int p3), .val (.int (0 : Int32))]) rfl ?_
  refine gIloadN Xt6 hx (hb hby d_prog_10_method_1_16) rfl ?_
  refine gAloadN Xt6 hx (hb hby d_prog_10_method_1_17) rfl rfl ?_
  refine goAlen Xt6 hx hZ et6 Y2 (n := (0 : Int32)) (hb hby d_prog_10_method_1_18) rfl ?_
  refine gIcmpY Xt6 hx (hb hby d_prog_10_method_1_19) (pc' := 54) (XT.ii_ge_t (by decide)) (by decide) (by decide) ?_
  show Goes p e below _ (Tt6.setTop (mkF m 54 #[.val (.ref a1), .val (.ref a2), .val (.int p3), .val (.int (0 : Int32))] []))
  refine gAloadN Xt6 hx (hb hby d_prog_10_method_1_54) rfl rfl ?_
  refine gIloadN Xt6 hx (hb hby d_prog_10_method_1_55) rfl ?_
  obtain ⟨Tt10, ht10, Xt10, et10, Wt10, stt10⟩ := putF Xt6 hx hZ hown (host := "") (Or.inl (hw _ (List.mem_of_getElem? (i := 13) rfl))) Via.refl et6 F2 E1 (Or.inr ⟨(hw _ (List.mem_of_getElem? (i := 14) rfl)), rfl, hnm⟩) (hw _ (List.mem_of_getElem? (i := 2) rfl)) (ty := .int) (by decide) rfl rfl (g := (mkF m 56 #[.val (.ref a1), .val (.ref a2), .val (.int p3), .val (.int (0 : Int32))] [(.int p3), (.ref a1)])) rfl rfl (hb hby d_prog_10_method_1_56)
  refine go stt10 ?_
  have N11 := Fr.snoc Xt10 N7 fr1
  replace F2 := F2.same Wt10
  replace E1 := E1.wr Wt10
  replace F1 := F1.other Wt10 (Or.inr (slot_ne (Or.inr (hw _ (List.mem_of_getElem? (i := 12) rfl))) (Or.inr (hw _ (List.mem_of_getElem? (i := 14) rfl))) (by decide) (t := (.array .int)) (by decide) (t' := .int) (by decide)))
  replace Y2 := Y2.other Wt10 (Ne.symm ne)
  replace Y_ob3 := Y_ob3.other Wt10 (Ne.symm ne_a1_ob3)
  have O12 : Ext Z.heap ht10 := extW O8 Wt10 fr1
  have K13 := K9.wr Wt10 (Or.inl (by simp))
  show Goes p e below _ (Tt10.setTop (mkF m 59 #[.val (.ref a1), .val (.ref a2), .val (.int p3), .val (.int (0 : Int32))] []))
  exact goRet0 Xt10 hx hret hlocks (hb hby d_prog_10_method_1_59) (by decide) (by decide) et10 (⟨rfl, N11, K13, ob3, pa_ob3, F1, F2, Y_ob3⟩)
theorem d_prog_10_method_2_0 : decode prog_10_method_2_code 0 = .ok (.aload_n 0, 1) := by decide +kernel
theorem d_prog_10_method_2_1 : decode prog_10_method_2_code 1 = .ok (.getfield 7, 3) := by decide +kernel
theorem d_prog_10_method_2_4 : decode prog_10_method_2_code 4 = .ok (.arraylength, 1) := by decide +kernel
theorem d_prog_10_method_2_5 : decode prog_10_method_2_code 5 = .ok (.iconst 1, 1) := by decide +kernel
theorem d_prog_10_method_2_6 : decode prog_10_method_2_code 6 = .ok (.isub, 1) := by decide +kernel
theorem d_prog_10_method_2_7 : decode prog_10_method_2_code 7 = .ok (.ireturn, 1) := by decide +kernel
theorem ef_rmT0 (m : MethodId) (x0 : Addr) : entryFrame m #[(.ref x0)] 1 = mkF m 0 #[.val (.ref x0)] [] := by first | (simp [entryFrame, mkF, argsToLocals, Value.category]; done) | rfl
set_option maxRecDepth 65536 in
set_option maxHeartbeats 40000000 in
theorem rmT0 (l : Launch) (Z : State) (a0 : Array Value) (hw : ∀ d ∈ tables_1, d.before a0 Z = true) (u : Addr) (r0 : Int32) (a1 : Addr) (h0 : Heap) (O0 : Ext Z.heap h0) (F1 : Fld Z h0 a1 "com/example/almaden/almaden/eval/JudgedRanking" "relevantWithin" "[I" (.ref u)) (Y1 : Ary Z h0 u .int [(.int r0)]) :
    Ctr l Z (⟨"com/example/almaden/almaden/eval/JudgedRanking", "retrieved", "()I"⟩ : MethodName) prog_10_method_2_code 1 (some .int) [] ({ frames := 0, cells := 0, slots := 0, locals := 0 } : Room) #[(.ref a1)] h0 (fun v h L => v = some (.int (0 : Int32)) ∧ Fr Z.heap.size L ∧ h = h0) := by
  refine ctr (plainFor_of_name pn_0) ?_
  intro p e s m below meth c s₁ hx hby hml hown hnm hret hlocks hZ X0 e0
  have N0 := Fr.nil Z.heap.size
  have hsz : ∀ {Ls : Array Slot}, Ls.size = 1 → Ls.size = c.maxLocals := fun q => q.trans hml.symm
  refine goE (ef_rmT0 m (a1)) ?_
  show Goes p e below _ (s₁.setTop (mkF m 0 #[.val (.ref a1)] []))
  refine gAloadN X0 hx (hb hby d_prog_10_method_2_0) rfl rfl ?_
  obtain ⟨Tt1, Xt1, et1, stt1⟩ := getF X0 hx hZ hown (host := "") (Or.inl (hw _ (List.mem_of_getElem? (i := 11) rfl))) Via.refl e0 F1 (g := (mkF m 1 #[.val (.ref a1)] [(.ref a1)])) rfl rfl (hb hby d_prog_10_method_2_1)
  refine go stt1 ?_
  show Goes p e below _ (Tt1.setTop (mkF m 4 #[.val (.ref a1)] [(.ref u)]))
  refine goAlen Xt1 hx hZ et1 Y1 (n := (1 : Int32)) (hb hby d_prog_10_method_2_4) rfl ?_
  refine gIconst Xt1 hx (hb hby d_prog_10_method_2_5) (v := (1 : Int32)) rfl ?_
  refine gIsub Xt1 hx (hb hby d_prog_10_method_2_6) ?_
  exact goRetI Xt1 hx hret hlocks (hb hby d_prog_10_method_2_7) (by decide) (by decide) et1 (⟨rfl, N0, rfl⟩)
theorem d_prog_10_method_5_0 : decode prog_10_method_5_code 0 = .ok (.dconst 0, 1) := by decide +kernel
theorem d_prog_10_method_5_1 : decode prog_10_method_5_code 1 = .ok (.dstore_n 1, 1) := by decide +kernel
theorem d_prog_10_method_5_2 : decode prog_10_method_5_code 2 = .ok (.iconst 1, 1) := by decide +kernel
theorem d_prog_10_method_5_3 : decode prog_10_method_5_code 3 = .ok (.istore_n 3, 1) := by decide +kernel
theorem d_prog_10_method_5_4 : decode prog_10_method_5_code 4 = .ok (.iload_n 3, 1) := by decide +kernel
theorem d_prog_10_method_5_5 : decode prog_10_method_5_code 5 = .ok (.aload_n 0, 1) := by decide +kernel
theorem pd_0 : parseMethodDescriptor "()I" = some ⟨[], some .int⟩ := by decide +kernel
theorem d_prog_10_method_5_6 : decode prog_10_method_5_code 6 = .ok (.invokevirtual 17, 3) := by decide +kernel
theorem d_prog_10_method_5_9 : decode prog_10_method_5_code 9 = .ok (.if_icmp .gt 39, 3) := by decide +kernel
theorem d_prog_10_method_5_48 : decode prog_10_method_5_code 48 = .ok (.dload_n 1, 1) := by decide +kernel
theorem d_prog_10_method_5_49 : decode prog_10_method_5_code 49 = .ok (.aload_n 0, 1) := by decide +kernel
theorem d_prog_10_method_5_50 : decode prog_10_method_5_code 50 = .ok (.getfield 13, 3) := by decide +kernel
theorem pd_1 : parseMethodDescriptor "(DI)D" = some ⟨[.double, .int], some .double⟩ := by decide +kernel
theorem d_prog_10_method_5_53 : decode prog_10_method_5_code 53 = .ok (.invokestatic 27, 3) := by decide +kernel
theorem d_prog_10_method_5_56 : decode prog_10_method_5_code 56 = .ok (.dreturn, 1) := by decide +kernel
theorem ef_rmA0 (m : MethodId) (x0 : Addr) : entryFrame m #[(.ref x0)] 4 = mkF m 0 #[.val (.ref x0), .unset, .unset, .unset] [] := by first | (simp [entryFrame, mkF, argsToLocals, Value.category]; done) | rfl
set_option maxRecDepth 65536 in
set_option maxHeartbeats 40000000 in
theorem rmA0 (l : Launch) (Z : State) (a0 : Array Value) (hw : ∀ d ∈ tables_1, d.before a0 Z = true) (u : Addr) (p3 : Int32)  (a1 : Addr) (h0 : Heap) (O0 : Ext Z.heap h0) (E1 : Exa Z h0 a1 "com/example/almaden/almaden/eval/JudgedRanking") (F1 : Fld Z h0 a1 "com/example/almaden/almaden/eval/JudgedRanking" "relevantWithin" "[I" (.ref u)) (F2 : Fld Z h0 a1 "com/example/almaden/almaden/eval/JudgedRanking" "relevant" "I" (.int p3)) (Y1 : Ary Z h0 u .int [(.int (0 : Int32))])  :
    Ctr l Z (⟨"com/example/almaden/almaden/eval/JudgedRanking", "averagePrecision", "()D"⟩ : MethodName) prog_10_method_5_code 4 (some .double) [] ({ frames := 1, cells := 0, slots := 0, locals := 20 } : Room) #[(.ref a1)] h0 (fun v h L => v = some (.double (own_rt FP.dconst0 p3)) ∧ Fr Z.heap.size L ∧ h = h0) := by
  refine ctr (plainFor_of_name pn_0) ?_
  intro p e s m below meth c s₁ hx hby hml hown hnm hret hlocks hZ X0 e0
  have N0 := Fr.nil Z.heap.size
  have hsz : ∀ {Ls : Array Slot}, Ls.size = 4 → Ls.size = c.maxLocals := fun q => q.trans hml.symm
  refine goE (ef_rmA0 m (a1)) ?_
  show Goes p e below _ (s₁.setTop (mkF m 0 #[.val (.ref a1), .unset, .unset, .unset] []))
  refine gDconst0 X0 hx (hb hby d_prog_10_method_5_0) ?_
  refine gDstoreN X0 hx (hb hby d_prog_10_method_5_1) (l' := #[.val (.ref a1), .val (.double FP.dconst0), .second, .unset]) rfl ?_
  refine gIconst X0 hx (hb hby d_prog_10_method_5_2) (v := (1 : Int32)) rfl ?_
  refine gIstoreN X0 hx (hb hby d_prog_10_method_5_3) (l' := #[.val (.ref a1), .val (.double FP.dconst0), .second, .val (.int (1 : Int32))]) rfl ?_
  refine gIloadN X0 hx (hb hby d_prog_10_method_5_4) rfl ?_
  refine gAloadN X0 hx (hb hby d_prog_10_method_5_5) rfl rfl ?_
  refine goCallV X0 hx hZ hown (hw _ (List.mem_of_getElem? (i := 20) rfl)) (hw _ (List.mem_of_getElem? (i := 21) rfl)) (hw _ (List.mem_of_getElem? (i := 23) rfl)) (hw _ (List.mem_of_getElem? (i := 22) rfl)) (hw _ (List.mem_of_getElem? (i := 3) rfl)) (hw _ (List.mem_of_getElem? (i := 24) rfl)) (by decide) (rmT0 l Z a0 hw u (0 : Int32) a1 h0 O0 F1 Y1) 1 (by decide) (by decide) e0 E1 (hsz rfl) [] [(.int (1 : Int32))] pd_0 rfl rfl rfl (Nat.le_of_eq rfl) (hb hby d_prog_10_method_5_6) (by decide) (by decide) (fun Tt1 vt1 Lt1 Xt1 qt1 => ?_)
  obtain ⟨rfl, N2, et1⟩ := qt1
  have N3 := Fr.app N0 N2
  show Goes p e below _ (Tt1.setTop (mkF m 9 #[.val (.ref a1), .val (.double FP.dconst0), .second, .val (.int (1 : Int32))] [(.int (0 : Int32)), (.int (1 : Int32))]))
  refine gIcmpY Xt1 hx (hb hby d_prog_10_method_5_9) (pc' := 48) (XT.ii_gt_t (by decide)) (by decide) (by decide) ?_
  show Goes p e below _ (Tt1.setTop (mkF m 48 #[.val (.ref a1), .val (.double FP.dconst0), .second, .val (.int (1 : Int32))] []))
  refine gDloadN Xt1 hx (hb hby d_prog_10_method_5_48) rfl ?_
  refine gAloadN Xt1 hx (hb hby d_prog_10_method_5_49) rfl rfl ?_
  obtain ⟨Tt4, Xt4, et4, stt4⟩ := getF Xt1 hx hZ hown (host := "") (Or.inl (hw _ (List.mem_of_getElem? (i := 13) rfl))) Via.refl et1 F2 (g := (mkF m 50 #[.val (.ref a1), .val (.double FP.dconst0), .second, .val (.int (1 : Int32))] [(.ref a1), (.double FP.dconst0)])) rfl rfl (hb hby d_prog_10_method_5_50)
  refine go stt4 ?_
  show Goes p e below _ (Tt4.setTop (mkF m 53 #[.val (.ref a1), .val (.double FP.dconst0), .second, .val (.int (1 : Int32))] [(.int p3), (.double FP.dconst0)]))
  refine goCallS Xt4 hx hZ hown (hw _ (List.mem_of_getElem? (i := 25) rfl)) (hw _ (List.mem_of_getElem? (i := 26) rfl)) (hw _ (List.mem_of_getElem? (i := 3) rfl)) (hw _ (List.mem_of_getElem? (i := 27) rfl)) (by decide) (rmR l Z a0 hw FP.dconst0 p3 h0 O0 (own_ns0  )) 0 (by decide) (by decide) et4 (hsz rfl) [(.double FP.dconst0), (.int p3)] [] pd_1 rfl rfl rfl (Nat.le_of_eq rfl) (hb hby d_prog_10_method_5_53) (by decide) (by decide) (fun Tt5 vt5 Lt5 Xt5 qt5 => ?_)
  obtain ⟨rfl, N6, et5⟩ := qt5
  have N7 := Fr.app N3 N6
  show Goes p e below _ (Tt5.setTop (mkF m 56 #[.val (.ref a1), .val (.double FP.dconst0), .second, .val (.int (1 : Int32))] [(.double (own_rt FP.dconst0 p3))]))
  exact goRetD Xt5 hx hret hlocks (hb hby d_prog_10_method_5_56) (by decide) (by decide) et5 (⟨rfl, N7, rfl⟩)
theorem d_prog_10_method_1_22 : decode prog_10_method_1_code 22 = .ok (.aload_n 0, 1) := by decide +kernel
theorem d_prog_10_method_1_23 : decode prog_10_method_1_code 23 = .ok (.getfield 7, 3) := by decide +kernel
theorem d_prog_10_method_1_26 : decode prog_10_method_1_code 26 = .ok (.iload_n 3, 1) := by decide +kernel
theorem d_prog_10_method_1_27 : decode prog_10_method_1_code 27 = .ok (.iconst 1, 1) := by decide +kernel
theorem d_prog_10_method_1_28 : decode prog_10_method_1_code 28 = .ok (.iadd, 1) := by decide +kernel
theorem d_prog_10_method_1_29 : decode prog_10_method_1_code 29 = .ok (.aload_n 0, 1) := by decide +kernel
theorem d_prog_10_method_1_30 : decode prog_10_method_1_code 30 = .ok (.getfield 7, 3) := by decide +kernel
theorem d_prog_10_method_1_33 : decode prog_10_method_1_code 33 = .ok (.iload_n 3, 1) := by decide +kernel
theorem d_prog_10_method_1_34 : decode prog_10_method_1_code 34 = .ok (.iaload, 1) := by decide +kernel
theorem d_prog_10_method_1_35 : decode prog_10_method_1_code 35 = .ok (.aload_n 1, 1) := by decide +kernel
theorem d_prog_10_method_1_36 : decode prog_10_method_1_code 36 = .ok (.iload_n 3, 1) := by decide +kernel
theorem d_prog_10_method_1_37 : decode prog_10_method_1_code 37 = .ok (.baload, 1) := by decide +kernel
theorem d_prog_10_method_1_38 : decode prog_10_method_1_code 38 = .ok (.ifCond .eq 7, 3) := by decide +kernel
theorem d_prog_10_method_1_45 : decode prog_10_method_1_code 45 = .ok (.iconst 0, 1) := by decide +kernel
theorem d_prog_10_method_1_41 : decode prog_10_method_1_code 41 = .ok (.iconst 1, 1) := by decide +kernel
theorem d_prog_10_method_1_42 : decode prog_10_method_1_code 42 = .ok (.goto 4, 3) := by decide +kernel
theorem d_prog_10_method_1_46 : decode prog_10_method_1_code 46 = .ok (.iadd, 1) := by decide +kernel
theorem d_prog_10_method_1_47 : decode prog_10_method_1_code 47 = .ok (.iastore, 1) := by decide +kernel
theorem d_prog_10_method_1_48 : decode prog_10_method_1_code 48 = .ok (.iinc 3 1, 3) := by decide +kernel
theorem d_prog_10_method_1_51 : decode prog_10_method_1_code 51 = .ok (.goto (-35), 3) := by decide +kernel
theorem ef_rmI1 (m : MethodId) (x0 : Addr) (x1 : Addr) (x2 : Int32) : entryFrame m #[(.ref x0), (.ref x1), (.int x2)] 4 = mkF m 0 #[.val (.ref x0), .val (.ref x1), .val (.int x2), .unset] [] := by first | (simp [entryFrame, mkF, argsToLocals, Value.category]; done) | rfl
set_option maxRecDepth 65536 in
set_option maxHeartbeats 40000000 in
theorem rmI1 (l : Launch) (Z : State) (a0 : Array Value) (hw : ∀ d ∈ tables_1, d.before a0 Z = true) (b0 : Int32) (a1 : Addr) (a2 : Addr) (p3 : Int32) (h0 : Heap) (O0 : Ext Z.heap h0) (E1 : Exa Z h0 a1 "com/example/almaden/almaden/eval/JudgedRanking") (F1 : Fld Z h0 a1 "com/example/almaden/almaden/eval/JudgedRanking" "relevantWithin" "[I" .null) (F2 : Fld Z h0 a1 "com/example/almaden/almaden/eval/JudgedRanking" "relevant" "I" (.int (0 : Int32))) (Y2 : Ary Z h0 a2 .boolean [(.int b0)]) (ne : a1 ≠ a2) (fr1 : Z.heap.size ≤ a1) (hb0 : b0 = 0 ∨ b0 = 1) :
    Ctr l Z (⟨"com/example/almaden/almaden/eval/JudgedRanking", "<init>", "([ZI)V"⟩ : MethodName) prog_10_method_1_code 4 none [] ({ frames := 1, cells := 1, slots := 2, locals := 13 } : Room) #[(.ref a1), (.ref a2), (.int p3)] h0 (fun v h L => v = none ∧ Fr Z.heap.size L ∧ Keep h0 h [a1] ∧ ∃ u, h0.size ≤ u ∧ Fld Z h a1 "com/example/almaden/almaden/eval/JudgedRanking" "relevantWithin" "[I" (.ref u) ∧ Fld Z h a1 "com/example/almaden/almaden/eval/JudgedRanking" "relevant" "I" (.int p3) ∧ Ary Z h u .int [(.int (0 : Int32)), (.int ((0 : Int32) + b0))]) := by
  refine ctr (plainFor_of_name pn_0) ?_
  intro p e s m below meth c s₁ hx hby hml hown hnm hret hlocks hZ X0 e0
  have N0 := Fr.nil Z.heap.size
  have hsz : ∀ {Ls : Array Slot}, Ls.size = 4 → Ls.size = c.maxLocals := fun q => q.trans hml.symm
  have K0 := Keep.refl h0 [a1]
  refine goE (ef_rmI1 m (a1) (a2) (p3)) ?_
  show Goes p e below _ (s₁.setTop (mkF m 0 #[.val (.ref a1), .val (.ref a2), .val (.int p3), .unset] []))
  refine gAloadN X0 hx (hb hby d_prog_10_method_1_0) rfl rfl ?_
  obtain ⟨Tt1, Xt1, et1, stt1⟩ := initO X0 hx hZ hown (hw _ (List.mem_of_getElem? (i := 7) rfl)) (hw _ (List.mem_of_getElem? (i := 8) rfl)) (hw _ (List.mem_of_getElem? (i := 9) rfl)) e0 (g := (mkF m 1 #[.val (.ref a1), .val (.ref a2), .val (.int p3), .unset] [(.ref a1)])) rfl (by rw [hml]; rfl) rfl (hb hby d_prog_10_method_1_1) (by decide) (W := 0) (Nat.le_of_eq rfl) (by decide)
  refine go stt1 ?_
  show Goes p e below _ (Tt1.setTop (mkF m 4 #[.val (.ref a1), .val (.ref a2), .val (.int p3), .unset] []))
  refine gAloadN Xt1 hx (hb hby d_prog_10_method_1_4) rfl rfl ?_
  refine gAloadN Xt1 hx (hb hby d_prog_10_method_1_5) rfl rfl ?_
  refine goAlen Xt1 hx hZ et1 Y2 (n := (1 : Int32)) (hb hby d_prog_10_method_1_6) rfl ?_
  refine gIconst Xt1 hx (hb hby d_prog_10_method_1_7) (v := (1 : Int32)) rfl ?_
  refine gIadd Xt1 hx (hb hby d_prog_10_method_1_8) ?_
  obtain ⟨Tt2, ht2, kt2, Xt2, et2, Et2, At2, stt2⟩ := newP Xt1 hx hZ (hw _ (List.mem_of_getElem? (i := 10) rfl)) et1 (g := (mkF m 9 #[.val (.ref a1), .val (.ref a2), .val (.int p3), .unset] [(.int (2 : Int32)), (.ref a1)])) rfl (hb hby d_prog_10_method_1_9) rfl (by decide) (cap := 2) (by decide) (by decide) (by decide) (by decide)
  obtain ⟨ob3, gob3⟩ : ∃ z, z = h0.size := ⟨_, rfl⟩
  rw [← gob3] at At2 stt2
  refine go stt2 ?_
  have ne_a1_ob3 : a1 ≠ ob3 := Nat.ne_of_lt (gob3 ▸ E1.lt)
  have ne_a2_ob3 : a2 ≠ ob3 := Nat.ne_of_lt (gob3 ▸ Y2.lt)
  have fr_ob3 : Z.heap.size ≤ ob3 := gob3 ▸ O0.1
  have pa_ob3 : h0.size ≤ ob3 := gob3 ▸ K0.1
  replace E1 := E1.ext Et2
  replace F1 := F1.ext Et2
  replace F2 := F2.ext Et2
  replace Y2 := Y2.ext Et2
  have O4 : Ext Z.heap ht2 := extT O0 Et2
  have K5 := K0.ext Et2
  have Y_ob3 : Ary Z ht2 ob3 .int [(.int (0 : Int32)), (.int (0 : Int32))] := Ary.new At2 rfl (by decide)
  show Goes p e below _ (Tt2.setTop (mkF m 11 #[.val (.ref a1), .val (.ref a2), .val (.int p3), .unset] [(.ref ob3), (.ref a1)]))
  obtain ⟨Tt6, ht6, Xt6, et6, Wt6, stt6⟩ := putF Xt2 hx hZ hown (host := "") (Or.inl (hw _ (List.mem_of_getElem? (i := 11) rfl))) Via.refl et2 F1 E1 (Or.inr ⟨(hw _ (List.mem_of_getElem? (i := 12) rfl)), rfl, hnm⟩) (hw _ (List.mem_of_getElem? (i := 2) rfl)) (ty := (.array .int)) (by decide) rfl rfl (g := (mkF m 11 #[.val (.ref a1), .val (.ref a2), .val (.int p3), .unset] [(.ref ob3), (.ref a1)])) rfl rfl (hb hby d_prog_10_method_1_11)
  refine go stt6 ?_
  have N7 := Fr.snoc Xt6 N0 fr1
  replace F1 := F1.same Wt6
  replace E1 := E1.wr Wt6
  replace F2 := F2.other Wt6 (Or.inr (slot_ne (Or.inr (hw _ (List.mem_of_getElem? (i := 14) rfl))) (Or.inr (hw _ (List.mem_of_getElem? (i := 12) rfl))) (by decide) (t := .int) (by decide) (t' := (.array .int)) (by decide)))
  replace Y2 := Y2.other Wt6 (Ne.symm ne)
  replace Y_ob3 := Y_ob3.other Wt6 (Ne.symm ne_a1_ob3)
  have O8 : Ext Z.heap ht6 := extW O4 Wt6 fr1
  have K9 := K5.wr Wt6 (Or.inl (by simp))
  show Goes p e below _ (Tt6.setTop (mkF m 14 #[.val (.ref a1), .val (.ref a2), .val (.int p3), .unset] []))
  refine gIconst Xt6 hx (hb hby d_prog_10_method_1_14) (v := (0 : Int32)) rfl ?_
  refine gIstoreN Xt6 hx (hb hby d_prog_10_method_1_15) (l' := #[.val (.ref a1), .val (.ref a2), .val (.int p3), .val (.int (0 : Int32))]) rfl ?_
  refine gIloadN Xt6 hx (hb hby d_prog_10_method_1_16) rfl ?_
  refine gAloadN Xt6 hx (hb hby d_prog_10_method_1_17) rfl rfl ?_
  refine goAlen Xt6 hx hZ et6 Y2 (n := (1 : Int32)) (hb hby d_prog_10_method_1_18) rfl ?_
  refine gIcmpN Xt6 hx (hb hby d_prog_10_method_1_19) (XT.ii_ge_f (by decide)) ?_
  show Goes p e below _ (Tt6.setTop (mkF m 22 #[.val (.ref a1), .val (.ref a2), .val (.int p3), .val (.int (0 : Int32))] []))
  refine gAloadN Xt6 hx (hb hby d_prog_10_method_1_22) rfl rfl ?_
  obtain ⟨Tt10, Xt10, et10, stt10⟩ := getF Xt6 hx hZ hown (host := "") (Or.inl (hw _ (List.mem_of_getElem? (i := 11) rfl))) Via.refl et6 F1 (g := (mkF m 23 #[.val (.ref a1), .val (.ref a2), .val (.int p3), .val (.int (0 : Int32))] [(.ref a1)])) rfl rfl (hb hby d_prog_10_method_1_23)
  refine go stt10 ?_
  show Goes p e below _ (Tt10.setTop (mkF m 26 #[.val (.ref a1), .val (.ref a2), .val (.int p3), .val (.int (0 : Int32))] [(.ref ob3)]))
  refine gIloadN Xt10 hx (hb hby d_prog_10_method_1_26) rfl ?_
  refine gIconst Xt10 hx (hb hby d_prog_10_method_1_27) (v := (1 : Int32)) rfl ?_
  refine gIadd Xt10 hx (hb hby d_prog_10_method_1_28) ?_
  refine gAloadN Xt10 hx (hb hby d_prog_10_method_1_29) rfl rfl ?_
  obtain ⟨Tt11, Xt11, et11, stt11⟩ := getF Xt10 hx hZ hown (host := "") (Or.inl (hw _ (List.mem_of_getElem? (i := 11) rfl))) Via.refl et10 F1 (g := (mkF m 30 #[.val (.ref a1), .val (.ref a2), .val (.int p3), .val (.int (0 : Int32))] [(.ref a1), (.int (1 : Int32)), (.ref ob3)])) rfl rfl (hb hby d_prog_10_method_1_30)
  refine go stt11 ?_
  show Goes p e below _ (Tt11.setTop (mkF m 33 #[.val (.ref a1), .val (.ref a2), .val (.int p3), .val (.int (0 : Int32))] [(.ref ob3), (.int (1 : Int32)), (.ref ob3)]))
  refine gIloadN Xt11 hx (hb hby d_prog_10_method_1_33) rfl ?_
  refine goIaload Xt11 hx hZ et11 Y_ob3 (x := (0 : Int32)) (hb hby d_prog_10_method_1_34) (by decide) rfl ?_
  refine gAloadN Xt11 hx (hb hby d_prog_10_method_1_35) rfl rfl ?_
  refine gIloadN Xt11 hx (hb hby d_prog_10_method_1_36) rfl ?_
  refine goZaload Xt11 hx hZ et11 Y2 (x := b0) (hb hby d_prog_10_method_1_37) (by decide) rfl ?_
  have J0 : ∀ (z0_ : Int32), b0 = z0_ → Goes p e below (EndN s (fun v h L => v = none ∧ Fr Z.heap.size L ∧ Keep h0 h [a1] ∧ ∃ u, h0.size ≤ u ∧ Fld Z h a1 "com/example/almaden/almaden/eval/JudgedRanking" "relevantWithin" "[I" (.ref u) ∧ Fld Z h a1 "com/example/almaden/almaden/eval/JudgedRanking" "relevant" "I" (.int p3) ∧ Ary Z h u .int [(.int (0 : Int32)), (.int ((0 : Int32) + b0))]) ({ frames := 1, cells := 1, slots := 2, locals := 13 } : Room).cells ({ frames := 1, cells := 1, slots := 2, locals := 13 } : Room).slots) (Tt11.setTop (mkF m 46 #[.val (.ref a1), .val (.ref a2), .val (.int p3), .val (.int (0 : Int32))] [(.int z0_), (.int (0 : Int32)), (.int (1 : Int32)), (.ref ob3)])) := by
    intro z0_ hz
    subst hz
    show Goes p e below _ (Tt11.setTop (mkF m 46 #[.val (.ref a1), .val (.ref a2), .val (.int p3), .val (.int (0 : Int32))] [(.int b0), (.int (0 : Int32)), (.int (1 : Int32)), (.ref ob3)]))
    refine gIadd Xt11 hx (hb hby d_prog_10_method_1_46) ?_
    refine goIastore Xt11 hx hZ et11 Y_ob3 (hb hby d_prog_10_method_1_47) (by decide) rfl (fun Tt12 ht12 Xt12 et12 Wt12 => ?_)
    have N13 := Fr.snoc Xt12 N7 fr_ob3
    replace Y_ob3 : Ary Z ht12 ob3 .int [(.int (0 : Int32)), (.int ((0 : Int32) + b0))] := Y_ob3.set Wt12 rfl
    replace E1 := E1.wr Wt12
    replace F1 := F1.other Wt12 (Or.inl ne_a1_ob3)
    replace F2 := F2.other Wt12 (Or.inl ne_a1_ob3)
    replace Y2 := Y2.other Wt12 ne_a2_ob3
    have O14 : Ext Z.heap ht12 := extW O8 Wt12 fr_ob3
    have K15 := K9.wr Wt12 (Or.inr pa_ob3)
    show Goes p e below _ (Tt12.setTop (mkF m 48 #[.val (.ref a1), .val (.ref a2), .val (.int p3), .val (.int (0 : Int32))] []))
    refine gIinc Xt12 hx (hb hby d_prog_10_method_1_48) (v := (1 : Int32)) rfl rfl (l' := #[.val (.ref a1), .val (.ref a2), .val (.int p3), .val (.int (1 : Int32))]) rfl ?_
    refine gGoto Xt12 hx (hb hby d_prog_10_method_1_51) (pc' := 16) (by decide) (by decide) ?_
    show Goes p e below _ (Tt12.setTop (mkF m 16 #[.val (.ref a1), .val (.ref a2), .val (.int p3), .val (.int (1 : Int32))] []))
    refine gIloadN Xt12 hx (hb hby d_prog_10_method_1_16) rfl ?_
    refine gAloadN Xt12 hx (hb hby d_prog_10_method_1_17) rfl rfl ?_
    refine goAlen Xt12 hx hZ et12 Y2 (n := (1 : Int32)) (hb hby d_prog_10_method_1_18) rfl ?_
    refine gIcmpY Xt12 hx (hb hby d_prog_10_method_1_19) (pc' := 54) (XT.ii_ge_t (by decide)) (by decide) (by decide) ?_
    show Goes p e below _ (Tt12.setTop (mkF m 54 #[.val (.ref a1), .val (.ref a2), .val (.int p3), .val (.int (1 : Int32))] []))
    refine gAloadN Xt12 hx (hb hby d_prog_10_method_1_54) rfl rfl ?_
    refine gIloadN Xt12 hx (hb hby d_prog_10_method_1_55) rfl ?_
    obtain ⟨Tt16, ht16, Xt16, et16, Wt16, stt16⟩ := putF Xt12 hx hZ hown (host := "") (Or.inl (hw _ (List.mem_of_getElem? (i := 13) rfl))) Via.refl et12 F2 E1 (Or.inr ⟨(hw _ (List.mem_of_getElem? (i := 14) rfl)), rfl, hnm⟩) (hw _ (List.mem_of_getElem? (i := 2) rfl)) (ty := .int) (by decide) rfl rfl (g := (mkF m 56 #[.val (.ref a1), .val (.ref a2), .val (.int p3), .val (.int (1 : Int32))] [(.int p3), (.ref a1)])) rfl rfl (hb hby d_prog_10_method_1_56)
    refine go stt16 ?_
    have N17 := Fr.snoc Xt16 N13 fr1
    replace F2 := F2.same Wt16
    replace E1 := E1.wr Wt16
    replace F1 := F1.other Wt16 (Or.inr (slot_ne (Or.inr (hw _ (List.mem_of_getElem? (i := 12) rfl))) (Or.inr (hw _ (List.mem_of_getElem? (i := 14) rfl))) (by decide) (t := (.array .int)) (by decide) (t' := .int) (by decide)))
    replace Y2 := Y2.other Wt16 (Ne.symm ne)
    replace Y_ob3 := Y_ob3.other Wt16 (Ne.symm ne_a1_ob3)
    have O18 : Ext Z.heap ht16 := extW O14 Wt16 fr1
    have K19 := K15.wr Wt16 (Or.inl (by simp))
    show Goes p e below _ (Tt16.setTop (mkF m 59 #[.val (.ref a1), .val (.ref a2), .val (.int p3), .val (.int (1 : Int32))] []))
    exact goRet0 Xt16 hx hret hlocks (hb hby d_prog_10_method_1_59) (by decide) (by decide) et16 (⟨rfl, N17, K19, ob3, pa_ob3, F1, F2, Y_ob3⟩)
  by_cases g : b0 = 0
  · refine gIfY Xt11 hx (hb hby d_prog_10_method_1_38) (pc' := 45) (XT.i0_eq_t g) (by decide) (by decide) ?_
    show Goes p e below _ (Tt11.setTop (mkF m 45 #[.val (.ref a1), .val (.ref a2), .val (.int p3), .val (.int (0 : Int32))] [(.int (0 : Int32)), (.int (1 : Int32)), (.ref ob3)]))
    refine gIconst Xt11 hx (hb hby d_prog_10_method_1_45) (v := (0 : Int32)) rfl ?_
    exact J0 _ g
  · refine gIfN Xt11 hx (hb hby d_prog_10_method_1_38) (XT.i0_eq_f g) ?_
    show Goes p e below _ (Tt11.setTop (mkF m 41 #[.val (.ref a1), .val (.ref a2), .val (.int p3), .val (.int (0 : Int32))] [(.int (0 : Int32)), (.int (1 : Int32)), (.ref ob3)]))
    refine gIconst Xt11 hx (hb hby d_prog_10_method_1_41) (v := (1 : Int32)) rfl ?_
    refine gGoto Xt11 hx (hb hby d_prog_10_method_1_42) (pc' := 46) (by decide) (by decide) ?_
    show Goes p e below _ (Tt11.setTop (mkF m 46 #[.val (.ref a1), .val (.ref a2), .val (.int p3), .val (.int (0 : Int32))] [(.int (1 : Int32)), (.int (0 : Int32)), (.int (1 : Int32)), (.ref ob3)]))
    exact J0 _ (hb0.resolve_left g)
theorem ef_rmT1 (m : MethodId) (x0 : Addr) : entryFrame m #[(.ref x0)] 1 = mkF m 0 #[.val (.ref x0)] [] := by first | (simp [entryFrame, mkF, argsToLocals, Value.category]; done) | rfl
set_option maxRecDepth 65536 in
set_option maxHeartbeats 40000000 in
theorem rmT1 (l : Launch) (Z : State) (a0 : Array Value) (hw : ∀ d ∈ tables_1, d.before a0 Z = true) (u : Addr) (r0 r1 : Int32) (a1 : Addr) (h0 : Heap) (O0 : Ext Z.heap h0) (F1 : Fld Z h0 a1 "com/example/almaden/almaden/eval/JudgedRanking" "relevantWithin" "[I" (.ref u)) (Y1 : Ary Z h0 u .int [(.int r0), (.int r1)]) :
    Ctr l Z (⟨"com/example/almaden/almaden/eval/JudgedRanking", "retrieved", "()I"⟩ : MethodName) prog_10_method_2_code 1 (some .int) [] ({ frames := 0, cells := 0, slots := 0, locals := 0 } : Room) #[(.ref a1)] h0 (fun v h L => v = some (.int (1 : Int32)) ∧ Fr Z.heap.size L ∧ h = h0) := by
  refine ctr (plainFor_of_name pn_0) ?_
  intro p e s m below meth c s₁ hx hby hml hown hnm hret hlocks hZ X0 e0
  have N0 := Fr.nil Z.heap.size
  have hsz : ∀ {Ls : Array Slot}, Ls.size = 1 → Ls.size = c.maxLocals := fun q => q.trans hml.symm
  refine goE (ef_rmT1 m (a1)) ?_
  show Goes p e below _ (s₁.setTop (mkF m 0 #[.val (.ref a1)] []))
  refine gAloadN X0 hx (hb hby d_prog_10_method_2_0) rfl rfl ?_
  obtain ⟨Tt1, Xt1, et1, stt1⟩ := getF X0 hx hZ hown (host := "") (Or.inl (hw _ (List.mem_of_getElem? (i := 11) rfl))) Via.refl e0 F1 (g := (mkF m 1 #[.val (.ref a1)] [(.ref a1)])) rfl rfl (hb hby d_prog_10_method_2_1)
  refine go stt1 ?_
  show Goes p e below _ (Tt1.setTop (mkF m 4 #[.val (.ref a1)] [(.ref u)]))
  refine goAlen Xt1 hx hZ et1 Y1 (n := (2 : Int32)) (hb hby d_prog_10_method_2_4) rfl ?_
  refine gIconst Xt1 hx (hb hby d_prog_10_method_2_5) (v := (1 : Int32)) rfl ?_
  refine gIsub Xt1 hx (hb hby d_prog_10_method_2_6) ?_
  exact goRetI Xt1 hx hret hlocks (hb hby d_prog_10_method_2_7) (by decide) (by decide) et1 (⟨rfl, N0, rfl⟩)
theorem d_prog_10_method_5_12 : decode prog_10_method_5_code 12 = .ok (.aload_n 0, 1) := by decide +kernel
theorem d_prog_10_method_5_13 : decode prog_10_method_5_code 13 = .ok (.getfield 7, 3) := by decide +kernel
theorem d_prog_10_method_5_16 : decode prog_10_method_5_code 16 = .ok (.iload_n 3, 1) := by decide +kernel
theorem d_prog_10_method_5_17 : decode prog_10_method_5_code 17 = .ok (.iaload, 1) := by decide +kernel
theorem d_prog_10_method_5_18 : decode prog_10_method_5_code 18 = .ok (.aload_n 0, 1) := by decide +kernel
theorem d_prog_10_method_5_19 : decode prog_10_method_5_code 19 = .ok (.getfield 7, 3) := by decide +kernel
theorem d_prog_10_method_5_22 : decode prog_10_method_5_code 22 = .ok (.iload_n 3, 1) := by decide +kernel
theorem d_prog_10_method_5_23 : decode prog_10_method_5_code 23 = .ok (.iconst 1, 1) := by decide +kernel
theorem d_prog_10_method_5_24 : decode prog_10_method_5_code 24 = .ok (.isub, 1) := by decide +kernel
theorem d_prog_10_method_5_25 : decode prog_10_method_5_code 25 = .ok (.iaload, 1) := by decide +kernel
theorem d_prog_10_method_5_26 : decode prog_10_method_5_code 26 = .ok (.if_icmp .le 16, 3) := by decide +kernel
theorem d_prog_10_method_5_29 : decode prog_10_method_5_code 29 = .ok (.dload_n 1, 1) := by decide +kernel
theorem d_prog_10_method_5_30 : decode prog_10_method_5_code 30 = .ok (.aload_n 0, 1) := by decide +kernel
theorem d_prog_10_method_5_31 : decode prog_10_method_5_code 31 = .ok (.getfield 7, 3) := by decide +kernel
theorem d_prog_10_method_5_34 : decode prog_10_method_5_code 34 = .ok (.iload_n 3, 1) := by decide +kernel
theorem d_prog_10_method_5_35 : decode prog_10_method_5_code 35 = .ok (.iaload, 1) := by decide +kernel
theorem d_prog_10_method_5_36 : decode prog_10_method_5_code 36 = .ok (.i2d, 1) := by decide +kernel
theorem d_prog_10_method_5_37 : decode prog_10_method_5_code 37 = .ok (.iload_n 3, 1) := by decide +kernel
theorem d_prog_10_method_5_38 : decode prog_10_method_5_code 38 = .ok (.i2d, 1) := by decide +kernel
theorem d_prog_10_method_5_39 : decode prog_10_method_5_code 39 = .ok (.ddiv, 1) := by decide +kernel
theorem d_prog_10_method_5_40 : decode prog_10_method_5_code 40 = .ok (.dadd, 1) := by decide +kernel
theorem d_prog_10_method_5_41 : decode prog_10_method_5_code 41 = .ok (.dstore_n 1, 1) := by decide +kernel
theorem d_prog_10_method_5_42 : decode prog_10_method_5_code 42 = .ok (.iinc 3 1, 3) := by decide +kernel
theorem d_prog_10_method_5_45 : decode prog_10_method_5_code 45 = .ok (.goto (-41), 3) := by decide +kernel
theorem ef_rmA1 (m : MethodId) (x0 : Addr) : entryFrame m #[(.ref x0)] 4 = mkF m 0 #[.val (.ref x0), .unset, .unset, .unset] [] := by first | (simp [entryFrame, mkF, argsToLocals, Value.category]; done) | rfl
set_option maxRecDepth 65536 in
set_option maxHeartbeats 40000000 in
theorem rmA1 (l : Launch) (Z : State) (a0 : Array Value) (hw : ∀ d ∈ tables_1, d.before a0 Z = true) (u : Addr) (p3 : Int32) (b0 : Int32) (a1 : Addr) (h0 : Heap) (O0 : Ext Z.heap h0) (E1 : Exa Z h0 a1 "com/example/almaden/almaden/eval/JudgedRanking") (F1 : Fld Z h0 a1 "com/example/almaden/almaden/eval/JudgedRanking" "relevantWithin" "[I" (.ref u)) (F2 : Fld Z h0 a1 "com/example/almaden/almaden/eval/JudgedRanking" "relevant" "I" (.int p3)) (Y1 : Ary Z h0 u .int [(.int (0 : Int32)), (.int ((0 : Int32) + b0))]) (hb0 : b0 = 0 ∨ b0 = 1) :
    Ctr l Z (⟨"com/example/almaden/almaden/eval/JudgedRanking", "averagePrecision", "()D"⟩ : MethodName) prog_10_method_5_code 4 (some .double) [] ({ frames := 1, cells := 0, slots := 0, locals := 20 } : Room) #[(.ref a1)] h0 (fun v h L => v = some (.double (own_rt (own_st FP.dconst0 (0 : Int32) ((0 : Int32) + b0) (1 : Int32)) p3)) ∧ Fr Z.heap.size L ∧ h = h0) := by
  refine ctr (plainFor_of_name pn_0) ?_
  intro p e s m below meth c s₁ hx hby hml hown hnm hret hlocks hZ X0 e0
  have N0 := Fr.nil Z.heap.size
  have hsz : ∀ {Ls : Array Slot}, Ls.size = 4 → Ls.size = c.maxLocals := fun q => q.trans hml.symm
  refine goE (ef_rmA1 m (a1)) ?_
  show Goes p e below _ (s₁.setTop (mkF m 0 #[.val (.ref a1), .unset, .unset, .unset] []))
  refine gDconst0 X0 hx (hb hby d_prog_10_method_5_0) ?_
  refine gDstoreN X0 hx (hb hby d_prog_10_method_5_1) (l' := #[.val (.ref a1), .val (.double FP.dconst0), .second, .unset]) rfl ?_
  refine gIconst X0 hx (hb hby d_prog_10_method_5_2) (v := (1 : Int32)) rfl ?_
  refine gIstoreN X0 hx (hb hby d_prog_10_method_5_3) (l' := #[.val (.ref a1), .val (.double FP.dconst0), .second, .val (.int (1 : Int32))]) rfl ?_
  refine gIloadN X0 hx (hb hby d_prog_10_method_5_4) rfl ?_
  refine gAloadN X0 hx (hb hby d_prog_10_method_5_5) rfl rfl ?_
  refine goCallV X0 hx hZ hown (hw _ (List.mem_of_getElem? (i := 20) rfl)) (hw _ (List.mem_of_getElem? (i := 21) rfl)) (hw _ (List.mem_of_getElem? (i := 23) rfl)) (hw _ (List.mem_of_getElem? (i := 22) rfl)) (hw _ (List.mem_of_getElem? (i := 3) rfl)) (hw _ (List.mem_of_getElem? (i := 24) rfl)) (by decide) (rmT1 l Z a0 hw u (0 : Int32) ((0 : Int32) + b0) a1 h0 O0 F1 Y1) 1 (by decide) (by decide) e0 E1 (hsz rfl) [] [(.int (1 : Int32))] pd_0 rfl rfl rfl (Nat.le_of_eq rfl) (hb hby d_prog_10_method_5_6) (by decide) (by decide) (fun Tt1 vt1 Lt1 Xt1 qt1 => ?_)
  obtain ⟨rfl, N2, et1⟩ := qt1
  have N3 := Fr.app N0 N2
  show Goes p e below _ (Tt1.setTop (mkF m 9 #[.val (.ref a1), .val (.double FP.dconst0), .second, .val (.int (1 : Int32))] [(.int (1 : Int32)), (.int (1 : Int32))]))
  refine gIcmpN Xt1 hx (hb hby d_prog_10_method_5_9) (XT.ii_gt_f (by decide)) ?_
  show Goes p e below _ (Tt1.setTop (mkF m 12 #[.val (.ref a1), .val (.double FP.dconst0), .second, .val (.int (1 : Int32))] []))
  refine gAloadN Xt1 hx (hb hby d_prog_10_method_5_12) rfl rfl ?_
  obtain ⟨Tt4, Xt4, et4, stt4⟩ := getF Xt1 hx hZ hown (host := "") (Or.inl (hw _ (List.mem_of_getElem? (i := 11) rfl))) Via.refl et1 F1 (g := (mkF m 13 #[.val (.ref a1), .val (.double FP.dconst0), .second, .val (.int (1 : Int32))] [(.ref a1)])) rfl rfl (hb hby d_prog_10_method_5_13)
  refine go stt4 ?_
  show Goes p e below _ (Tt4.setTop (mkF m 16 #[.val (.ref a1), .val (.double FP.dconst0), .second, .val (.int (1 : Int32))] [(.ref u)]))
  refine gIloadN Xt4 hx (hb hby d_prog_10_method_5_16) rfl ?_
  refine goIaload Xt4 hx hZ et4 Y1 (x := ((0 : Int32) + b0)) (hb hby d_prog_10_method_5_17) (by decide) rfl ?_
  refine gAloadN Xt4 hx (hb hby d_prog_10_method_5_18) rfl rfl ?_
  obtain ⟨Tt5, Xt5, et5, stt5⟩ := getF Xt4 hx hZ hown (host := "") (Or.inl (hw _ (List.mem_of_getElem? (i := 11) rfl))) Via.refl et4 F1 (g := (mkF m 19 #[.val (.ref a1), .val (.double FP.dconst0), .second, .val (.int (1 : Int32))] [(.ref a1), (.int ((0 : Int32) + b0))])) rfl rfl (hb hby d_prog_10_method_5_19)
  refine go stt5 ?_
  show Goes p e below _ (Tt5.setTop (mkF m 22 #[.val (.ref a1), .val (.double FP.dconst0), .second, .val (.int (1 : Int32))] [(.ref u), (.int ((0 : Int32) + b0))]))
  refine gIloadN Xt5 hx (hb hby d_prog_10_method_5_22) rfl ?_
  refine gIconst Xt5 hx (hb hby d_prog_10_method_5_23) (v := (1 : Int32)) rfl ?_
  refine gIsub Xt5 hx (hb hby d_prog_10_method_5_24) ?_
  refine goIaload Xt5 hx hZ et5 Y1 (x := (0 : Int32)) (hb hby d_prog_10_method_5_25) (by decide) rfl ?_
  have J1 : ∀ (z1_ : UInt64) (T_ : State) (lc_ : List Loc), (z1_ = (own_st FP.dconst0 (0 : Int32) ((0 : Int32) + b0) (1 : Int32))) → (Stand p l e ({ frames := 1, cells := 0, slots := 0, locals := 20 } : Room) s m #[(.ref a1)] below meth c T_ lc_ 0 0) → (T_.heap = h0) → (Fr Z.heap.size lc_) → Goes p e below (EndN s (fun v h L => v = some (.double (own_rt (own_st FP.dconst0 (0 : Int32) ((0 : Int32) + b0) (1 : Int32)) p3)) ∧ Fr Z.heap.size L ∧ h = h0) ({ frames := 1, cells := 0, slots := 0, locals := 20 } : Room).cells ({ frames := 1, cells := 0, slots := 0, locals := 20 } : Room).slots) (T_.setTop (mkF m 42 #[.val (.ref a1), .val (.double z1_), .second, .val (.int (1 : Int32))] [])) := by
    intro z1_ T_ lc_ hz X_ e_ N_
    subst hz
    show Goes p e below _ (T_.setTop (mkF m 42 #[.val (.ref a1), .val (.double (own_st FP.dconst0 (0 : Int32) ((0 : Int32) + b0) (1 : Int32))), .second, .val (.int (1 : Int32))] []))
    refine gIinc X_ hx (hb hby d_prog_10_method_5_42) (v := (2 : Int32)) rfl rfl (l' := #[.val (.ref a1), .val (.double (own_st FP.dconst0 (0 : Int32) ((0 : Int32) + b0) (1 : Int32))), .second, .val (.int (2 : Int32))]) rfl ?_
    refine gGoto X_ hx (hb hby d_prog_10_method_5_45) (pc' := 4) (by decide) (by decide) ?_
    show Goes p e below _ (T_.setTop (mkF m 4 #[.val (.ref a1), .val (.double (own_st FP.dconst0 (0 : Int32) ((0 : Int32) + b0) (1 : Int32))), .second, .val (.int (2 : Int32))] []))
    refine gIloadN X_ hx (hb hby d_prog_10_method_5_4) rfl ?_
    refine gAloadN X_ hx (hb hby d_prog_10_method_5_5) rfl rfl ?_
    refine goCallV X_ hx hZ hown (hw _ (List.mem_of_getElem? (i := 20) rfl)) (hw _ (List.mem_of_getElem? (i := 21) rfl)) (hw _ (List.mem_of_getElem? (i := 23) rfl)) (hw _ (List.mem_of_getElem? (i := 22) rfl)) (hw _ (List.mem_of_getElem? (i := 3) rfl)) (hw _ (List.mem_of_getElem? (i := 24) rfl)) (by decide) (rmT1 l Z a0 hw u (0 : Int32) ((0 : Int32) + b0) a1 h0 O0 F1 Y1) 1 (by decide) (by decide) e_ E1 (hsz rfl) [] [(.int (2 : Int32))] pd_0 rfl rfl rfl (Nat.le_of_eq rfl) (hb hby d_prog_10_method_5_6) (by decide) (by decide) (fun Tt7 vt7 Lt7 Xt7 qt7 => ?_)
    obtain ⟨rfl, N8, et7⟩ := qt7
    have N9 := Fr.app N_ N8
    show Goes p e below _ (Tt7.setTop (mkF m 9 #[.val (.ref a1), .val (.double (own_st FP.dconst0 (0 : Int32) ((0 : Int32) + b0) (1 : Int32))), .second, .val (.int (2 : Int32))] [(.int (1 : Int32)), (.int (2 : Int32))]))
    refine gIcmpY Xt7 hx (hb hby d_prog_10_method_5_9) (pc' := 48) (XT.ii_gt_t (by decide)) (by decide) (by decide) ?_
    show Goes p e below _ (Tt7.setTop (mkF m 48 #[.val (.ref a1), .val (.double (own_st FP.dconst0 (0 : Int32) ((0 : Int32) + b0) (1 : Int32))), .second, .val (.int (2 : Int32))] []))
    refine gDloadN Xt7 hx (hb hby d_prog_10_method_5_48) rfl ?_
    refine gAloadN Xt7 hx (hb hby d_prog_10_method_5_49) rfl rfl ?_
    obtain ⟨Tt10, Xt10, et10, stt10⟩ := getF Xt7 hx hZ hown (host := "") (Or.inl (hw _ (List.mem_of_getElem? (i := 13) rfl))) Via.refl et7 F2 (g := (mkF m 50 #[.val (.ref a1), .val (.double (own_st FP.dconst0 (0 : Int32) ((0 : Int32) + b0) (1 : Int32))), .second, .val (.int (2 : Int32))] [(.ref a1), (.double (own_st FP.dconst0 (0 : Int32) ((0 : Int32) + b0) (1 : Int32)))])) rfl rfl (hb hby d_prog_10_method_5_50)
    refine go stt10 ?_
    show Goes p e below _ (Tt10.setTop (mkF m 53 #[.val (.ref a1), .val (.double (own_st FP.dconst0 (0 : Int32) ((0 : Int32) + b0) (1 : Int32))), .second, .val (.int (2 : Int32))] [(.int p3), (.double (own_st FP.dconst0 (0 : Int32) ((0 : Int32) + b0) (1 : Int32)))]))
    refine goCallS Xt10 hx hZ hown (hw _ (List.mem_of_getElem? (i := 25) rfl)) (hw _ (List.mem_of_getElem? (i := 26) rfl)) (hw _ (List.mem_of_getElem? (i := 3) rfl)) (hw _ (List.mem_of_getElem? (i := 27) rfl)) (by decide) (rmR l Z a0 hw (own_st FP.dconst0 (0 : Int32) ((0 : Int32) + b0) (1 : Int32)) p3 h0 O0 (own_ns1 b0 hb0)) 0 (by decide) (by decide) et10 (hsz rfl) [(.double (own_st FP.dconst0 (0 : Int32) ((0 : Int32) + b0) (1 : Int32))), (.int p3)] [] pd_1 rfl rfl rfl (Nat.le_of_eq rfl) (hb hby d_prog_10_method_5_53) (by decide) (by decide) (fun Tt11 vt11 Lt11 Xt11 qt11 => ?_)
    obtain ⟨rfl, N12, et11⟩ := qt11
    have N13 := Fr.app N9 N12
    show Goes p e below _ (Tt11.setTop (mkF m 56 #[.val (.ref a1), .val (.double (own_st FP.dconst0 (0 : Int32) ((0 : Int32) + b0) (1 : Int32))), .second, .val (.int (2 : Int32))] [(.double (own_rt (own_st FP.dconst0 (0 : Int32) ((0 : Int32) + b0) (1 : Int32)) p3))]))
    exact goRetD Xt11 hx hret hlocks (hb hby d_prog_10_method_5_56) (by decide) (by decide) et11 (⟨rfl, N13, rfl⟩)
  by_cases g : (0 : Int32) < ((0 : Int32) + b0)
  · refine gIcmpN Xt5 hx (hb hby d_prog_10_method_5_26) (XT.ii_le_f g) ?_
    show Goes p e below _ (Tt5.setTop (mkF m 29 #[.val (.ref a1), .val (.double FP.dconst0), .second, .val (.int (1 : Int32))] []))
    refine gDloadN Xt5 hx (hb hby d_prog_10_method_5_29) rfl ?_
    refine gAloadN Xt5 hx (hb hby d_prog_10_method_5_30) rfl rfl ?_
    obtain ⟨Tt6, Xt6, et6, stt6⟩ := getF Xt5 hx hZ hown (host := "") (Or.inl (hw _ (List.mem_of_getElem? (i := 11) rfl))) Via.refl et5 F1 (g := (mkF m 31 #[.val (.ref a1), .val (.double FP.dconst0), .second, .val (.int (1 : Int32))] [(.ref a1), (.double FP.dconst0)])) rfl rfl (hb hby d_prog_10_method_5_31)
    refine go stt6 ?_
    show Goes p e below _ (Tt6.setTop (mkF m 34 #[.val (.ref a1), .val (.double FP.dconst0), .second, .val (.int (1 : Int32))] [(.ref u), (.double FP.dconst0)]))
    refine gIloadN Xt6 hx (hb hby d_prog_10_method_5_34) rfl ?_
    refine goIaload Xt6 hx hZ et6 Y1 (x := ((0 : Int32) + b0)) (hb hby d_prog_10_method_5_35) (by decide) rfl ?_
    refine gI2d Xt6 hx (hb hby d_prog_10_method_5_36) ?_
    refine gIloadN Xt6 hx (hb hby d_prog_10_method_5_37) rfl ?_
    refine gI2d Xt6 hx (hb hby d_prog_10_method_5_38) ?_
    refine gDdiv Xt6 hx (hb hby d_prog_10_method_5_39) (own_qa1 b0 hb0) ?_
    refine gDadd Xt6 hx (hb hby d_prog_10_method_5_40) (own_da1 b0 hb0) ?_
    show Goes p e below _ (Tt6.setTop (mkF m 41 #[.val (.ref a1), .val (.double FP.dconst0), .second, .val (.int (1 : Int32))] [(.double (FP.dadd FP.dconst0 (FP.ddiv (FP.i2d ((0 : Int32) + b0)) (FP.i2d (1 : Int32)))))]))
    refine gDstoreN Xt6 hx (hb hby d_prog_10_method_5_41) (l' := #[.val (.ref a1), .val (.double (FP.dadd FP.dconst0 (FP.ddiv (FP.i2d ((0 : Int32) + b0)) (FP.i2d (1 : Int32))))), .second, .val (.int (1 : Int32))]) rfl ?_
    exact J1 _ Tt6 _ (if_pos g).symm Xt6 et6 N3
  · refine gIcmpY Xt5 hx (hb hby d_prog_10_method_5_26) (pc' := 42) (XT.ii_le_t g) (by decide) (by decide) ?_
    show Goes p e below _ (Tt5.setTop (mkF m 42 #[.val (.ref a1), .val (.double FP.dconst0), .second, .val (.int (1 : Int32))] []))
    exact J1 _ Tt5 _ (if_neg g).symm Xt5 et5 N3
theorem ef_rmI2 (m : MethodId) (x0 : Addr) (x1 : Addr) (x2 : Int32) : entryFrame m #[(.ref x0), (.ref x1), (.int x2)] 4 = mkF m 0 #[.val (.ref x0), .val (.ref x1), .val (.int x2), .unset] [] := by first | (simp [entryFrame, mkF, argsToLocals, Value.category]; done) | rfl
set_option maxRecDepth 65536 in
set_option maxHeartbeats 40000000 in
theorem rmI2 (l : Launch) (Z : State) (a0 : Array Value) (hw : ∀ d ∈ tables_1, d.before a0 Z = true) (b0 b1 : Int32) (a1 : Addr) (a2 : Addr) (p3 : Int32) (h0 : Heap) (O0 : Ext Z.heap h0) (E1 : Exa Z h0 a1 "com/example/almaden/almaden/eval/JudgedRanking") (F1 : Fld Z h0 a1 "com/example/almaden/almaden/eval/JudgedRanking" "relevantWithin" "[I" .null) (F2 : Fld Z h0 a1 "com/example/almaden/almaden/eval/JudgedRanking" "relevant" "I" (.int (0 : Int32))) (Y2 : Ary Z h0 a2 .boolean [(.int b0), (.int b1)]) (ne : a1 ≠ a2) (fr1 : Z.heap.size ≤ a1) (hb0 : b0 = 0 ∨ b0 = 1) (hb1 : b1 = 0 ∨ b1 = 1) :
    Ctr l Z (⟨"com/example/almaden/almaden/eval/JudgedRanking", "<init>", "([ZI)V"⟩ : MethodName) prog_10_method_1_code 4 none [] ({ frames := 1, cells := 1, slots := 3, locals := 13 } : Room) #[(.ref a1), (.ref a2), (.int p3)] h0 (fun v h L => v = none ∧ Fr Z.heap.size L ∧ Keep h0 h [a1] ∧ ∃ u, h0.size ≤ u ∧ Fld Z h a1 "com/example/almaden/almaden/eval/JudgedRanking" "relevantWithin" "[I" (.ref u) ∧ Fld Z h a1 "com/example/almaden/almaden/eval/JudgedRanking" "relevant" "I" (.int p3) ∧ Ary Z h u .int [(.int (0 : Int32)), (.int ((0 : Int32) + b0)), (.int (((0 : Int32) + b0) + b1))]) := by
  refine ctr (plainFor_of_name pn_0) ?_
  intro p e s m below meth c s₁ hx hby hml hown hnm hret hlocks hZ X0 e0
  have N0 := Fr.nil Z.heap.size
  have hsz : ∀ {Ls : Array Slot}, Ls.size = 4 → Ls.size = c.maxLocals := fun q => q.trans hml.symm
  have K0 := Keep.refl h0 [a1]
  refine goE (ef_rmI2 m (a1) (a2) (p3)) ?_
  show Goes p e below _ (s₁.setTop (mkF m 0 #[.val (.ref a1), .val (.ref a2), .val (.int p3), .unset] []))
  refine gAloadN X0 hx (hb hby d_prog_10_method_1_0) rfl rfl ?_
  obtain ⟨Tt1, Xt1, et1, stt1⟩ := initO X0 hx hZ hown (hw _ (List.mem_of_getElem? (i := 7) rfl)) (hw _ (List.mem_of_getElem? (i := 8) rfl)) (hw _ (List.mem_of_getElem? (i := 9) rfl)) e0 (g := (mkF m 1 #[.val (.ref a1), .val (.ref a2), .val (.int p3), .unset] [(.ref a1)])) rfl (by rw [hml]; rfl) rfl (hb hby d_prog_10_method_1_1) (by decide) (W := 0) (Nat.le_of_eq rfl) (by decide)
  refine go stt1 ?_
  show Goes p e below _ (Tt1.setTop (mkF m 4 #[.val (.ref a1), .val (.ref a2), .val (.int p3), .unset] []))
  refine gAloadN Xt1 hx (hb hby d_prog_10_method_1_4) rfl rfl ?_
  refine gAloadN Xt1 hx (hb hby d_prog_10_method_1_5) rfl rfl ?_
  refine goAlen Xt1 hx hZ et1 Y2 (n := (2 : Int32)) (hb hby d_prog_10_method_1_6) rfl ?_
  refine gIconst Xt1 hx (hb hby d_prog_10_method_1_7) (v := (1 : Int32)) rfl ?_
  refine gIadd Xt1 hx (hb hby d_prog_10_method_1_8) ?_
  obtain ⟨Tt2, ht2, kt2, Xt2, et2, Et2, At2, stt2⟩ := newP Xt1 hx hZ (hw _ (List.mem_of_getElem? (i := 10) rfl)) et1 (g := (mkF m 9 #[.val (.ref a1), .val (.ref a2), .val (.int p3), .unset] [(.int (3 : Int32)), (.ref a1)])) rfl (hb hby d_prog_10_method_1_9) rfl (by decide) (cap := 3) (by decide) (by decide) (by decide) (by decide)
  obtain ⟨ob3, gob3⟩ : ∃ z, z = h0.size := ⟨_, rfl⟩
  rw [← gob3] at At2 stt2
  refine go stt2 ?_
  have ne_a1_ob3 : a1 ≠ ob3 := Nat.ne_of_lt (gob3 ▸ E1.lt)
  have ne_a2_ob3 : a2 ≠ ob3 := Nat.ne_of_lt (gob3 ▸ Y2.lt)
  have fr_ob3 : Z.heap.size ≤ ob3 := gob3 ▸ O0.1
  have pa_ob3 : h0.size ≤ ob3 := gob3 ▸ K0.1
  replace E1 := E1.ext Et2
  replace F1 := F1.ext Et2
  replace F2 := F2.ext Et2
  replace Y2 := Y2.ext Et2
  have O4 : Ext Z.heap ht2 := extT O0 Et2
  have K5 := K0.ext Et2
  have Y_ob3 : Ary Z ht2 ob3 .int [(.int (0 : Int32)), (.int (0 : Int32)), (.int (0 : Int32))] := Ary.new At2 rfl (by decide)
  show Goes p e below _ (Tt2.setTop (mkF m 11 #[.val (.ref a1), .val (.ref a2), .val (.int p3), .unset] [(.ref ob3), (.ref a1)]))
  obtain ⟨Tt6, ht6, Xt6, et6, Wt6, stt6⟩ := putF Xt2 hx hZ hown (host := "") (Or.inl (hw _ (List.mem_of_getElem? (i := 11) rfl))) Via.refl et2 F1 E1 (Or.inr ⟨(hw _ (List.mem_of_getElem? (i := 12) rfl)), rfl, hnm⟩) (hw _ (List.mem_of_getElem? (i := 2) rfl)) (ty := (.array .int)) (by decide) rfl rfl (g := (mkF m 11 #[.val (.ref a1), .val (.ref a2), .val (.int p3), .unset] [(.ref ob3), (.ref a1)])) rfl rfl (hb hby d_prog_10_method_1_11)
  refine go stt6 ?_
  have N7 := Fr.snoc Xt6 N0 fr1
  replace F1 := F1.same Wt6
  replace E1 := E1.wr Wt6
  replace F2 := F2.other Wt6 (Or.inr (slot_ne (Or.inr (hw _ (List.mem_of_getElem? (i := 14) rfl))) (Or.inr (hw _ (List.mem_of_getElem? (i := 12) rfl))) (by decide) (t := .int) (by decide) (t' := (.array .int)) (by decide)))
  replace Y2 := Y2.other Wt6 (Ne.symm ne)
  replace Y_ob3 := Y_ob3.other Wt6 (Ne.symm ne_a1_ob3)
  have O8 : Ext Z.heap ht6 := extW O4 Wt6 fr1
  have K9 := K5.wr Wt6 (Or.inl (by simp))
  show Goes p e below _ (Tt6.setTop (mkF m 14 #[.val (.ref a1), .val (.ref a2), .val (.int p3), .unset] []))
  refine gIconst Xt6 hx (hb hby d_prog_10_method_1_14) (v := (0 : Int32)) rfl ?_
  refine gIstoreN Xt6 hx (hb hby d_prog_10_method_1_15) (l' := #[.val (.ref a1), .val (.ref a2), .val (.int p3), .val (.int (0 : Int32))]) rfl ?_
  refine gIloadN Xt6 hx (hb hby d_prog_10_method_1_16) rfl ?_
  refine gAloadN Xt6 hx (hb hby d_prog_10_method_1_17) rfl rfl ?_
  refine goAlen Xt6 hx hZ et6 Y2 (n := (2 : Int32)) (hb hby d_prog_10_method_1_18) rfl ?_
  refine gIcmpN Xt6 hx (hb hby d_prog_10_method_1_19) (XT.ii_ge_f (by decide)) ?_
  show Goes p e below _ (Tt6.setTop (mkF m 22 #[.val (.ref a1), .val (.ref a2), .val (.int p3), .val (.int (0 : Int32))] []))
  refine gAloadN Xt6 hx (hb hby d_prog_10_method_1_22) rfl rfl ?_
  obtain ⟨Tt10, Xt10, et10, stt10⟩ := getF Xt6 hx hZ hown (host := "") (Or.inl (hw _ (List.mem_of_getElem? (i := 11) rfl))) Via.refl et6 F1 (g := (mkF m 23 #[.val (.ref a1), .val (.ref a2), .val (.int p3), .val (.int (0 : Int32))] [(.ref a1)])) rfl rfl (hb hby d_prog_10_method_1_23)
  refine go stt10 ?_
  show Goes p e below _ (Tt10.setTop (mkF m 26 #[.val (.ref a1), .val (.ref a2), .val (.int p3), .val (.int (0 : Int32))] [(.ref ob3)]))
  refine gIloadN Xt10 hx (hb hby d_prog_10_method_1_26) rfl ?_
  refine gIconst Xt10 hx (hb hby d_prog_10_method_1_27) (v := (1 : Int32)) rfl ?_
  refine gIadd Xt10 hx (hb hby d_prog_10_method_1_28) ?_
  refine gAloadN Xt10 hx (hb hby d_prog_10_method_1_29) rfl rfl ?_
  obtain ⟨Tt11, Xt11, et11, stt11⟩ := getF Xt10 hx hZ hown (host := "") (Or.inl (hw _ (List.mem_of_getElem? (i := 11) rfl))) Via.refl et10 F1 (g := (mkF m 30 #[.val (.ref a1), .val (.ref a2), .val (.int p3), .val (.int (0 : Int32))] [(.ref a1), (.int (1 : Int32)), (.ref ob3)])) rfl rfl (hb hby d_prog_10_method_1_30)
  refine go stt11 ?_
  show Goes p e below _ (Tt11.setTop (mkF m 33 #[.val (.ref a1), .val (.ref a2), .val (.int p3), .val (.int (0 : Int32))] [(.ref ob3), (.int (1 : Int32)), (.ref ob3)]))
  refine gIloadN Xt11 hx (hb hby d_prog_10_method_1_33) rfl ?_
  refine goIaload Xt11 hx hZ et11 Y_ob3 (x := (0 : Int32)) (hb hby d_prog_10_method_1_34) (by decide) rfl ?_
  refine gAloadN Xt11 hx (hb hby d_prog_10_method_1_35) rfl rfl ?_
  refine gIloadN Xt11 hx (hb hby d_prog_10_method_1_36) rfl ?_
  refine goZaload Xt11 hx hZ et11 Y2 (x := b0) (hb hby d_prog_10_method_1_37) (by decide) rfl ?_
  have J0 : ∀ (z0_ : Int32), b0 = z0_ → Goes p e below (EndN s (fun v h L => v = none ∧ Fr Z.heap.size L ∧ Keep h0 h [a1] ∧ ∃ u, h0.size ≤ u ∧ Fld Z h a1 "com/example/almaden/almaden/eval/JudgedRanking" "relevantWithin" "[I" (.ref u) ∧ Fld Z h a1 "com/example/almaden/almaden/eval/JudgedRanking" "relevant" "I" (.int p3) ∧ Ary Z h u .int [(.int (0 : Int32)), (.int ((0 : Int32) + b0)), (.int (((0 : Int32) + b0) + b1))]) ({ frames := 1, cells := 1, slots := 3, locals := 13 } : Room).cells ({ frames := 1, cells := 1, slots := 3, locals := 13 } : Room).slots) (Tt11.setTop (mkF m 46 #[.val (.ref a1), .val (.ref a2), .val (.int p3), .val (.int (0 : Int32))] [(.int z0_), (.int (0 : Int32)), (.int (1 : Int32)), (.ref ob3)])) := by
    intro z0_ hz
    subst hz
    show Goes p e below _ (Tt11.setTop (mkF m 46 #[.val (.ref a1), .val (.ref a2), .val (.int p3), .val (.int (0 : Int32))] [(.int b0), (.int (0 : Int32)), (.int (1 : Int32)), (.ref ob3)]))
    refine gIadd Xt11 hx (hb hby d_prog_10_method_1_46) ?_
    refine goIastore Xt11 hx hZ et11 Y_ob3 (hb hby d_prog_10_method_1_47) (by decide) rfl (fun Tt12 ht12 Xt12 et12 Wt12 => ?_)
    have N13 := Fr.snoc Xt12 N7 fr_ob3
    replace Y_ob3 : Ary Z ht12 ob3 .int [(.int (0 : Int32)), (.int ((0 : Int32) + b0)), (.int (0 : Int32))] := Y_ob3.set Wt12 rfl
    replace E1 := E1.wr Wt12
    replace F1 := F1.other Wt12 (Or.inl ne_a1_ob3)
    replace F2 := F2.other Wt12 (Or.inl ne_a1_ob3)
    replace Y2 := Y2.other Wt12 ne_a2_ob3
    have O14 : Ext Z.heap ht12 := extW O8 Wt12 fr_ob3
    have K15 := K9.wr Wt12 (Or.inr pa_ob3)
    show Goes p e below _ (Tt12.setTop (mkF m 48 #[.val (.ref a1), .val (.ref a2), .val (.int p3), .val (.int (0 : Int32))] []))
    refine gIinc Xt12 hx (hb hby d_prog_10_method_1_48) (v := (1 : Int32)) rfl rfl (l' := #[.val (.ref a1), .val (.ref a2), .val (.int p3), .val (.int (1 : Int32))]) rfl ?_
    refine gGoto Xt12 hx (hb hby d_prog_10_method_1_51) (pc' := 16) (by decide) (by decide) ?_
    show Goes p e below _ (Tt12.setTop (mkF m 16 #[.val (.ref a1), .val (.ref a2), .val (.int p3), .val (.int (1 : Int32))] []))
    refine gIloadN Xt12 hx (hb hby d_prog_10_method_1_16) rfl ?_
    refine gAloadN Xt12 hx (hb hby d_prog_10_method_1_17) rfl rfl ?_
    refine goAlen Xt12 hx hZ et12 Y2 (n := (2 : Int32)) (hb hby d_prog_10_method_1_18) rfl ?_
    refine gIcmpN Xt12 hx (hb hby d_prog_10_method_1_19) (XT.ii_ge_f (by decide)) ?_
    show Goes p e below _ (Tt12.setTop (mkF m 22 #[.val (.ref a1), .val (.ref a2), .val (.int p3), .val (.int (1 : Int32))] []))
    refine gAloadN Xt12 hx (hb hby d_prog_10_method_1_22) rfl rfl ?_
    obtain ⟨Tt16, Xt16, et16, stt16⟩ := getF Xt12 hx hZ hown (host := "") (Or.inl (hw _ (List.mem_of_getElem? (i := 11) rfl))) Via.refl et12 F1 (g := (mkF m 23 #[.val (.ref a1), .val (.ref a2), .val (.int p3), .val (.int (1 : Int32))] [(.ref a1)])) rfl rfl (hb hby d_prog_10_method_1_23)
    refine go stt16 ?_
    show Goes p e below _ (Tt16.setTop (mkF m 26 #[.val (.ref a1), .val (.ref a2), .val (.int p3), .val (.int (1 : Int32))] [(.ref ob3)]))
    refine gIloadN Xt16 hx (hb hby d_prog_10_method_1_26) rfl ?_
    refine gIconst Xt16 hx (hb hby d_prog_10_method_1_27) (v := (1 : Int32)) rfl ?_
    refine gIadd Xt16 hx (hb hby d_prog_10_method_1_28) ?_
    refine gAloadN Xt16 hx (hb hby d_prog_10_method_1_29) rfl rfl ?_
    obtain ⟨Tt17, Xt17, et17, stt17⟩ := getF Xt16 hx hZ hown (host := "") (Or.inl (hw _ (List.mem_of_getElem? (i := 11) rfl))) Via.refl et16 F1 (g := (mkF m 30 #[.val (.ref a1), .val (.ref a2), .val (.int p3), .val (.int (1 : Int32))] [(.ref a1), (.int (2 : Int32)), (.ref ob3)])) rfl rfl (hb hby d_prog_10_method_1_30)
    refine go stt17 ?_
    show Goes p e below _ (Tt17.setTop (mkF m 33 #[.val (.ref a1), .val (.ref a2), .val (.int p3), .val (.int (1 : Int32))] [(.ref ob3), (.int (2 : Int32)), (.ref ob3)]))
    refine gIloadN Xt17 hx (hb hby d_prog_10_method_1_33) rfl ?_
    refine goIaload Xt17 hx hZ et17 Y_ob3 (x := ((0 : Int32) + b0)) (hb hby d_prog_10_method_1_34) (by decide) rfl ?_
    refine gAloadN Xt17 hx (hb hby d_prog_10_method_1_35) rfl rfl ?_
    refine gIloadN Xt17 hx (hb hby d_prog_10_method_1_36) rfl ?_
    refine goZaload Xt17 hx hZ et17 Y2 (x := b1) (hb hby d_prog_10_method_1_37) (by decide) rfl ?_
    have J1 : ∀ (z1_ : Int32), b1 = z1_ → Goes p e below (EndN s (fun v h L => v = none ∧ Fr Z.heap.size L ∧ Keep h0 h [a1] ∧ ∃ u, h0.size ≤ u ∧ Fld Z h a1 "com/example/almaden/almaden/eval/JudgedRanking" "relevantWithin" "[I" (.ref u) ∧ Fld Z h a1 "com/example/almaden/almaden/eval/JudgedRanking" "relevant" "I" (.int p3) ∧ Ary Z h u .int [(.int (0 : Int32)), (.int ((0 : Int32) + b0)), (.int (((0 : Int32) + b0) + b1))]) ({ frames := 1, cells := 1, slots := 3, locals := 13 } : Room).cells ({ frames := 1, cells := 1, slots := 3, locals := 13 } : Room).slots) (Tt17.setTop (mkF m 46 #[.val (.ref a1), .val (.ref a2), .val (.int p3), .val (.int (1 : Int32))] [(.int z1_), (.int ((0 : Int32) + b0)), (.int (2 : Int32)), (.ref ob3)])) := by
      intro z1_ hz
      subst hz
      show Goes p e below _ (Tt17.setTop (mkF m 46 #[.val (.ref a1), .val (.ref a2), .val (.int p3), .val (.int (1 : Int32))] [(.int b1), (.int ((0 : Int32) + b0)), (.int (2 : Int32)), (.ref ob3)]))
      refine gIadd Xt17 hx (hb hby d_prog_10_method_1_46) ?_
      refine goIastore Xt17 hx hZ et17 Y_ob3 (hb hby d_prog_10_method_1_47) (by decide) rfl (fun Tt18 ht18 Xt18 et18 Wt18 => ?_)
      have N19 := Fr.snoc Xt18 N13 fr_ob3
      replace Y_ob3 : Ary Z ht18 ob3 .int [(.int (0 : Int32)), (.int ((0 : Int32) + b0)), (.int (((0 : Int32) + b0) + b1))] := Y_ob3.set Wt18 rfl
      replace E1 := E1.wr Wt18
      replace F1 := F1.other Wt18 (Or.inl ne_a1_ob3)
      replace F2 := F2.other Wt18 (Or.inl ne_a1_ob3)
      replace Y2 := Y2.other Wt18 ne_a2_ob3
      have O20 : Ext Z.heap ht18 := extW O14 Wt18 fr_ob3
      have K21 := K15.wr Wt18 (Or.inr pa_ob3)
      show Goes p e below _ (Tt18.setTop (mkF m 48 #[.val (.ref a1), .val (.ref a2), .val (.int p3), .val (.int (1 : Int32))] []))
      refine gIinc Xt18 hx (hb hby d_prog_10_method_1_48) (v := (2 : Int32)) rfl rfl (l' := #[.val (.ref a1), .val (.ref a2), .val (.int p3), .val (.int (2 : Int32))]) rfl ?_
      refine gGoto Xt18 hx (hb hby d_prog_10_method_1_51) (pc' := 16) (by decide) (by decide) ?_
      show Goes p e below _ (Tt18.setTop (mkF m 16 #[.val (.ref a1), .val (.ref a2), .val (.int p3), .val (.int (2 : Int32))] []))
      refine gIloadN Xt18 hx (hb hby d_prog_10_method_1_16) rfl ?_
      refine gAloadN Xt18 hx (hb hby d_prog_10_method_1_17) rfl rfl ?_
      refine goAlen Xt18 hx hZ et18 Y2 (n := (2 : Int32)) (hb hby d_prog_10_method_1_18) rfl ?_
      refine gIcmpY Xt18 hx (hb hby d_prog_10_method_1_19) (pc' := 54) (XT.ii_ge_t (by decide)) (by decide) (by decide) ?_
      show Goes p e below _ (Tt18.setTop (mkF m 54 #[.val (.ref a1), .val (.ref a2), .val (.int p3), .val (.int (2 : Int32))] []))
      refine gAloadN Xt18 hx (hb hby d_prog_10_method_1_54) rfl rfl ?_
      refine gIloadN Xt18 hx (hb hby d_prog_10_method_1_55) rfl ?_
      obtain ⟨Tt22, ht22, Xt22, et22, Wt22, stt22⟩ := putF Xt18 hx hZ hown (host := "") (Or.inl (hw _ (List.mem_of_getElem? (i := 13) rfl))) Via.refl et18 F2 E1 (Or.inr ⟨(hw _ (List.mem_of_getElem? (i := 14) rfl)), rfl, hnm⟩) (hw _ (List.mem_of_getElem? (i := 2) rfl)) (ty := .int) (by decide) rfl rfl (g := (mkF m 56 #[.val (.ref a1), .val (.ref a2), .val (.int p3), .val (.int (2 : Int32))] [(.int p3), (.ref a1)])) rfl rfl (hb hby d_prog_10_method_1_56)
      refine go stt22 ?_
      have N23 := Fr.snoc Xt22 N19 fr1
      replace F2 := F2.same Wt22
      replace E1 := E1.wr Wt22
      replace F1 := F1.other Wt22 (Or.inr (slot_ne (Or.inr (hw _ (List.mem_of_getElem? (i := 12) rfl))) (Or.inr (hw _ (List.mem_of_getElem? (i := 14) rfl))) (by decide) (t := (.array .int)) (by decide) (t' := .int) (by decide)))
      replace Y2 := Y2.other Wt22 (Ne.symm ne)
      replace Y_ob3 := Y_ob3.other Wt22 (Ne.symm ne_a1_ob3)
      have O24 : Ext Z.heap ht22 := extW O20 Wt22 fr1
      have K25 := K21.wr Wt22 (Or.inl (by simp))
      show Goes p e below _ (Tt22.setTop (mkF m 59 #[.val (.ref a1), .val (.ref a2), .val (.int p3), .val (.int (2 : Int32))] []))
      exact goRet0 Xt22 hx hret hlocks (hb hby d_prog_10_method_1_59) (by decide) (by decide) et22 (⟨rfl, N23, K25, ob3, pa_ob3, F1, F2, Y_ob3⟩)
    by_cases g : b1 = 0
    · refine gIfY Xt17 hx (hb hby d_prog_10_method_1_38) (pc' := 45) (XT.i0_eq_t g) (by decide) (by decide) ?_
      show Goes p e below _ (Tt17.setTop (mkF m 45 #[.val (.ref a1), .val (.ref a2), .val (.int p3), .val (.int (1 : Int32))] [(.int ((0 : Int32) + b0)), (.int (2 : Int32)), (.ref ob3)]))
      refine gIconst Xt17 hx (hb hby d_prog_10_method_1_45) (v := (0 : Int32)) rfl ?_
      exact J1 _ g
    · refine gIfN Xt17 hx (hb hby d_prog_10_method_1_38) (XT.i0_eq_f g) ?_
      show Goes p e below _ (Tt17.setTop (mkF m 41 #[.val (.ref a1), .val (.ref a2), .val (.int p3), .val (.int (1 : Int32))] [(.int ((0 : Int32) + b0)), (.int (2 : Int32)), (.ref ob3)]))
      refine gIconst Xt17 hx (hb hby d_prog_10_method_1_41) (v := (1 : Int32)) rfl ?_
      refine gGoto Xt17 hx (hb hby d_prog_10_method_1_42) (pc' := 46) (by decide) (by decide) ?_
      show Goes p e below _ (Tt17.setTop (mkF m 46 #[.val (.ref a1), .val (.ref a2), .val (.int p3), .val (.int (1 : Int32))] [(.int (1 : Int32)), (.int ((0 : Int32) + b0)), (.int (2 : Int32)), (.ref ob3)]))
      exact J1 _ (hb1.resolve_left g)
  by_cases g : b0 = 0
  · refine gIfY Xt11 hx (hb hby d_prog_10_method_1_38) (pc' := 45) (XT.i0_eq_t g) (by decide) (by decide) ?_
    show Goes p e below _ (Tt11.setTop (mkF m 45 #[.val (.ref a1), .val (.ref a2), .val (.int p3), .val (.int (0 : Int32))] [(.int (0 : Int32)), (.int (1 : Int32)), (.ref ob3)]))
    refine gIconst Xt11 hx (hb hby d_prog_10_method_1_45) (v := (0 : Int32)) rfl ?_
    exact J0 _ g
  · refine gIfN Xt11 hx (hb hby d_prog_10_method_1_38) (XT.i0_eq_f g) ?_
    show Goes p e below _ (Tt11.setTop (mkF m 41 #[.val (.ref a1), .val (.ref a2), .val (.int p3), .val (.int (0 : Int32))] [(.int (0 : Int32)), (.int (1 : Int32)), (.ref ob3)]))
    refine gIconst Xt11 hx (hb hby d_prog_10_method_1_41) (v := (1 : Int32)) rfl ?_
    refine gGoto Xt11 hx (hb hby d_prog_10_method_1_42) (pc' := 46) (by decide) (by decide) ?_
    show Goes p e below _ (Tt11.setTop (mkF m 46 #[.val (.ref a1), .val (.ref a2), .val (.int p3), .val (.int (0 : Int32))] [(.int (1 : Int32)), (.int (0 : Int32)), (.int (1 : Int32)), (.ref ob3)]))
    exact J0 _ (hb0.resolve_left g)
theorem ef_rmT2 (m : MethodId) (x0 : Addr) : entryFrame m #[(.ref x0)] 1 = mkF m 0 #[.val (.ref x0)] [] := by first | (simp [entryFrame, mkF, argsToLocals, Value.category]; done) | rfl
set_option maxRecDepth 65536 in
set_option maxHeartbeats 40000000 in
theorem rmT2 (l : Launch) (Z : State) (a0 : Array Value) (hw : ∀ d ∈ tables_1, d.before a0 Z = true) (u : Addr) (r0 r1 r2 : Int32) (a1 : Addr) (h0 : Heap) (O0 : Ext Z.heap h0) (F1 : Fld Z h0 a1 "com/example/almaden/almaden/eval/JudgedRanking" "relevantWithin" "[I" (.ref u)) (Y1 : Ary Z h0 u .int [(.int r0), (.int r1), (.int r2)]) :
    Ctr l Z (⟨"com/example/almaden/almaden/eval/JudgedRanking", "retrieved", "()I"⟩ : MethodName) prog_10_method_2_code 1 (some .int) [] ({ frames := 0, cells := 0, slots := 0, locals := 0 } : Room) #[(.ref a1)] h0 (fun v h L => v = some (.int (2 : Int32)) ∧ Fr Z.heap.size L ∧ h = h0) := by
  refine ctr (plainFor_of_name pn_0) ?_
  intro p e s m below meth c s₁ hx hby hml hown hnm hret hlocks hZ X0 e0
  have N0 := Fr.nil Z.heap.size
  have hsz : ∀ {Ls : Array Slot}, Ls.size = 1 → Ls.size = c.maxLocals := fun q => q.trans hml.symm
  refine goE (ef_rmT2 m (a1)) ?_
  show Goes p e below _ (s₁.setTop (mkF m 0 #[.val (.ref a1)] []))
  refine gAloadN X0 hx (hb hby d_prog_10_method_2_0) rfl rfl ?_
  obtain ⟨Tt1, Xt1, et1, stt1⟩ := getF X0 hx hZ hown (host := "") (Or.inl (hw _ (List.mem_of_getElem? (i := 11) rfl))) Via.refl e0 F1 (g := (mkF m 1 #[.val (.ref a1)] [(.ref a1)])) rfl rfl (hb hby d_prog_10_method_2_1)
  refine go stt1 ?_
  show Goes p e below _ (Tt1.setTop (mkF m 4 #[.val (.ref a1)] [(.ref u)]))
  refine goAlen Xt1 hx hZ et1 Y1 (n := (3 : Int32)) (hb hby d_prog_10_method_2_4) rfl ?_
  refine gIconst Xt1 hx (hb hby d_prog_10_method_2_5) (v := (1 : Int32)) rfl ?_
  refine gIsub Xt1 hx (hb hby d_prog_10_method_2_6) ?_
  exact goRetI Xt1 hx hret hlocks (hb hby d_prog_10_method_2_7) (by decide) (by decide) et1 (⟨rfl, N0, rfl⟩)
theorem ef_rmA2 (m : MethodId) (x0 : Addr) : entryFrame m #[(.ref x0)] 4 = mkF m 0 #[.val (.ref x0), .unset, .unset, .unset] [] := by first | (simp [entryFrame, mkF, argsToLocals, Value.category]; done) | rfl
set_option maxRecDepth 65536 in
set_option maxHeartbeats 40000000 in
theorem rmA2 (l : Launch) (Z : State) (a0 : Array Value) (hw : ∀ d ∈ tables_1, d.before a0 Z = true) (u : Addr) (p3 : Int32) (b0 b1 : Int32) (a1 : Addr) (h0 : Heap) (O0 : Ext Z.heap h0) (E1 : Exa Z h0 a1 "com/example/almaden/almaden/eval/JudgedRanking") (F1 : Fld Z h0 a1 "com/example/almaden/almaden/eval/JudgedRanking" "relevantWithin" "[I" (.ref u)) (F2 : Fld Z h0 a1 "com/example/almaden/almaden/eval/JudgedRanking" "relevant" "I" (.int p3)) (Y1 : Ary Z h0 u .int [(.int (0 : Int32)), (.int ((0 : Int32) + b0)), (.int (((0 : Int32) + b0) + b1))]) (hb0 : b0 = 0 ∨ b0 = 1) (hb1 : b1 = 0 ∨ b1 = 1) :
    Ctr l Z (⟨"com/example/almaden/almaden/eval/JudgedRanking", "averagePrecision", "()D"⟩ : MethodName) prog_10_method_5_code 4 (some .double) [] ({ frames := 1, cells := 0, slots := 0, locals := 20 } : Room) #[(.ref a1)] h0 (fun v h L => v = some (.double (own_rt (own_st (own_st FP.dconst0 (0 : Int32) ((0 : Int32) + b0) (1 : Int32)) ((0 : Int32) + b0) (((0 : Int32) + b0) + b1) (2 : Int32)) p3)) ∧ Fr Z.heap.size L ∧ h = h0) := by
  refine ctr (plainFor_of_name pn_0) ?_
  intro p e s m below meth c s₁ hx hby hml hown hnm hret hlocks hZ X0 e0
  have N0 := Fr.nil Z.heap.size
  have hsz : ∀ {Ls : Array Slot}, Ls.size = 4 → Ls.size = c.maxLocals := fun q => q.trans hml.symm
  refine goE (ef_rmA2 m (a1)) ?_
  show Goes p e below _ (s₁.setTop (mkF m 0 #[.val (.ref a1), .unset, .unset, .unset] []))
  refine gDconst0 X0 hx (hb hby d_prog_10_method_5_0) ?_
  refine gDstoreN X0 hx (hb hby d_prog_10_method_5_1) (l' := #[.val (.ref a1), .val (.double FP.dconst0), .second, .unset]) rfl ?_
  refine gIconst X0 hx (hb hby d_prog_10_method_5_2) (v := (1 : Int32)) rfl ?_
  refine gIstoreN X0 hx (hb hby d_prog_10_method_5_3) (l' := #[.val (.ref a1), .val (.double FP.dconst0), .second, .val (.int (1 : Int32))]) rfl ?_
  refine gIloadN X0 hx (hb hby d_prog_10_method_5_4) rfl ?_
  refine gAloadN X0 hx (hb hby d_prog_10_method_5_5) rfl rfl ?_
  refine goCallV X0 hx hZ hown (hw _ (List.mem_of_getElem? (i := 20) rfl)) (hw _ (List.mem_of_getElem? (i := 21) rfl)) (hw _ (List.mem_of_getElem? (i := 23) rfl)) (hw _ (List.mem_of_getElem? (i := 22) rfl)) (hw _ (List.mem_of_getElem? (i := 3) rfl)) (hw _ (List.mem_of_getElem? (i := 24) rfl)) (by decide) (rmT2 l Z a0 hw u (0 : Int32) ((0 : Int32) + b0) (((0 : Int32) + b0) + b1) a1 h0 O0 F1 Y1) 1 (by decide) (by decide) e0 E1 (hsz rfl) [] [(.int (1 : Int32))] pd_0 rfl rfl rfl (Nat.le_of_eq rfl) (hb hby d_prog_10_method_5_6) (by decide) (by decide) (fun Tt1 vt1 Lt1 Xt1 qt1 => ?_)
  obtain ⟨rfl, N2, et1⟩ := qt1
  have N3 := Fr.app N0 N2
  show Goes p e below _ (Tt1.setTop (mkF m 9 #[.val (.ref a1), .val (.double FP.dconst0), .second, .val (.int (1 : Int32))] [(.int (2 : Int32)), (.int (1 : Int32))]))
  refine gIcmpN Xt1 hx (hb hby d_prog_10_method_5_9) (XT.ii_gt_f (by decide)) ?_
  show Goes p e below _ (Tt1.setTop (mkF m 12 #[.val (.ref a1), .val (.double FP.dconst0), .second, .val (.int (1 : Int32))] []))
  refine gAloadN Xt1 hx (hb hby d_prog_10_method_5_12) rfl rfl ?_
  obtain ⟨Tt4, Xt4, et4, stt4⟩ := getF Xt1 hx hZ hown (host := "") (Or.inl (hw _ (List.mem_of_getElem? (i := 11) rfl))) Via.refl et1 F1 (g := (mkF m 13 #[.val (.ref a1), .val (.double FP.dconst0), .second, .val (.int (1 : Int32))] [(.ref a1)])) rfl rfl (hb hby d_prog_10_method_5_13)
  refine go stt4 ?_
  show Goes p e below _ (Tt4.setTop (mkF m 16 #[.val (.ref a1), .val (.double FP.dconst0), .second, .val (.int (1 : Int32))] [(.ref u)]))
  refine gIloadN Xt4 hx (hb hby d_prog_10_method_5_16) rfl ?_
  refine goIaload Xt4 hx hZ et4 Y1 (x := ((0 : Int32) + b0)) (hb hby d_prog_10_method_5_17) (by decide) rfl ?_
  refine gAloadN Xt4 hx (hb hby d_prog_10_method_5_18) rfl rfl ?_
  obtain ⟨Tt5, Xt5, et5, stt5⟩ := getF Xt4 hx hZ hown (host := "") (Or.inl (hw _ (List.mem_of_getElem? (i := 11) rfl))) Via.refl et4 F1 (g := (mkF m 19 #[.val (.ref a1), .val (.double FP.dconst0), .second, .val (.int (1 : Int32))] [(.ref a1), (.int ((0 : Int32) + b0))])) rfl rfl (hb hby d_prog_10_method_5_19)
  refine go stt5 ?_
  show Goes p e below _ (Tt5.setTop (mkF m 22 #[.val (.ref a1), .val (.double FP.dconst0), .second, .val (.int (1 : Int32))] [(.ref u), (.int ((0 : Int32) + b0))]))
  refine gIloadN Xt5 hx (hb hby d_prog_10_method_5_22) rfl ?_
  refine gIconst Xt5 hx (hb hby d_prog_10_method_5_23) (v := (1 : Int32)) rfl ?_
  refine gIsub Xt5 hx (hb hby d_prog_10_method_5_24) ?_
  refine goIaload Xt5 hx hZ et5 Y1 (x := (0 : Int32)) (hb hby d_prog_10_method_5_25) (by decide) rfl ?_
  have J1 : ∀ (z1_ : UInt64) (T_ : State) (lc_ : List Loc), (z1_ = (own_st FP.dconst0 (0 : Int32) ((0 : Int32) + b0) (1 : Int32))) → (Stand p l e ({ frames := 1, cells := 0, slots := 0, locals := 20 } : Room) s m #[(.ref a1)] below meth c T_ lc_ 0 0) → (T_.heap = h0) → (Fr Z.heap.size lc_) → Goes p e below (EndN s (fun v h L => v = some (.double (own_rt (own_st (own_st FP.dconst0 (0 : Int32) ((0 : Int32) + b0) (1 : Int32)) ((0 : Int32) + b0) (((0 : Int32) + b0) + b1) (2 : Int32)) p3)) ∧ Fr Z.heap.size L ∧ h = h0) ({ frames := 1, cells := 0, slots := 0, locals := 20 } : Room).cells ({ frames := 1, cells := 0, slots := 0, locals := 20 } : Room).slots) (T_.setTop (mkF m 42 #[.val (.ref a1), .val (.double z1_), .second, .val (.int (1 : Int32))] [])) := by
    intro z1_ T_ lc_ hz X_ e_ N_
    subst hz
    show Goes p e below _ (T_.setTop (mkF m 42 #[.val (.ref a1), .val (.double (own_st FP.dconst0 (0 : Int32) ((0 : Int32) + b0) (1 : Int32))), .second, .val (.int (1 : Int32))] []))
    refine gIinc X_ hx (hb hby d_prog_10_method_5_42) (v := (2 : Int32)) rfl rfl (l' := #[.val (.ref a1), .val (.double (own_st FP.dconst0 (0 : Int32) ((0 : Int32) + b0) (1 : Int32))), .second, .val (.int (2 : Int32))]) rfl ?_
    refine gGoto X_ hx (hb hby d_prog_10_method_5_45) (pc' := 4) (by decide) (by decide) ?_
    show Goes p e below _ (T_.setTop (mkF m 4 #[.val (.ref a1), .val (.double (own_st FP.dconst0 (0 : Int32) ((0 : Int32) + b0) (1 : Int32))), .second, .val (.int (2 : Int32))] []))
    refine gIloadN X_ hx (hb hby d_prog_10_method_5_4) rfl ?_
    refine gAloadN X_ hx (hb hby d_prog_10_method_5_5) rfl rfl ?_
    refine goCallV X_ hx hZ hown (hw _ (List.mem_of_getElem? (i := 20) rfl)) (hw _ (List.mem_of_getElem? (i := 21) rfl)) (hw _ (List.mem_of_getElem? (i := 23) rfl)) (hw _ (List.mem_of_getElem? (i := 22) rfl)) (hw _ (List.mem_of_getElem? (i := 3) rfl)) (hw _ (List.mem_of_getElem? (i := 24) rfl)) (by decide) (rmT2 l Z a0 hw u (0 : Int32) ((0 : Int32) + b0) (((0 : Int32) + b0) + b1) a1 h0 O0 F1 Y1) 1 (by decide) (by decide) e_ E1 (hsz rfl) [] [(.int (2 : Int32))] pd_0 rfl rfl rfl (Nat.le_of_eq rfl) (hb hby d_prog_10_method_5_6) (by decide) (by decide) (fun Tt7 vt7 Lt7 Xt7 qt7 => ?_)
    obtain ⟨rfl, N8, et7⟩ := qt7
    have N9 := Fr.app N_ N8
    show Goes p e below _ (Tt7.setTop (mkF m 9 #[.val (.ref a1), .val (.double (own_st FP.dconst0 (0 : Int32) ((0 : Int32) + b0) (1 : Int32))), .second, .val (.int (2 : Int32))] [(.int (2 : Int32)), (.int (2 : Int32))]))
    refine gIcmpN Xt7 hx (hb hby d_prog_10_method_5_9) (XT.ii_gt_f (by decide)) ?_
    show Goes p e below _ (Tt7.setTop (mkF m 12 #[.val (.ref a1), .val (.double (own_st FP.dconst0 (0 : Int32) ((0 : Int32) + b0) (1 : Int32))), .second, .val (.int (2 : Int32))] []))
    refine gAloadN Xt7 hx (hb hby d_prog_10_method_5_12) rfl rfl ?_
    obtain ⟨Tt10, Xt10, et10, stt10⟩ := getF Xt7 hx hZ hown (host := "") (Or.inl (hw _ (List.mem_of_getElem? (i := 11) rfl))) Via.refl et7 F1 (g := (mkF m 13 #[.val (.ref a1), .val (.double (own_st FP.dconst0 (0 : Int32) ((0 : Int32) + b0) (1 : Int32))), .second, .val (.int (2 : Int32))] [(.ref a1)])) rfl rfl (hb hby d_prog_10_method_5_13)
    refine go stt10 ?_
    show Goes p e below _ (Tt10.setTop (mkF m 16 #[.val (.ref a1), .val (.double (own_st FP.dconst0 (0 : Int32) ((0 : Int32) + b0) (1 : Int32))), .second, .val (.int (2 : Int32))] [(.ref u)]))
    refine gIloadN Xt10 hx (hb hby d_prog_10_method_5_16) rfl ?_
    refine goIaload Xt10 hx hZ et10 Y1 (x := (((0 : Int32) + b0) + b1)) (hb hby d_prog_10_method_5_17) (by decide) rfl ?_
    refine gAloadN Xt10 hx (hb hby d_prog_10_method_5_18) rfl rfl ?_
    obtain ⟨Tt11, Xt11, et11, stt11⟩ := getF Xt10 hx hZ hown (host := "") (Or.inl (hw _ (List.mem_of_getElem? (i := 11) rfl))) Via.refl et10 F1 (g := (mkF m 19 #[.val (.ref a1), .val (.double (own_st FP.dconst0 (0 : Int32) ((0 : Int32) + b0) (1 : Int32))), .second, .val (.int (2 : Int32))] [(.ref a1), (.int (((0 : Int32) + b0) + b1))])) rfl rfl (hb hby d_prog_10_method_5_19)
    refine go stt11 ?_
    show Goes p e below _ (Tt11.setTop (mkF m 22 #[.val (.ref a1), .val (.double (own_st FP.dconst0 (0 : Int32) ((0 : Int32) + b0) (1 : Int32))), .second, .val (.int (2 : Int32))] [(.ref u), (.int (((0 : Int32) + b0) + b1))]))
    refine gIloadN Xt11 hx (hb hby d_prog_10_method_5_22) rfl ?_
    refine gIconst Xt11 hx (hb hby d_prog_10_method_5_23) (v := (1 : Int32)) rfl ?_
    refine gIsub Xt11 hx (hb hby d_prog_10_method_5_24) ?_
    refine goIaload Xt11 hx hZ et11 Y1 (x := ((0 : Int32) + b0)) (hb hby d_prog_10_method_5_25) (by decide) rfl ?_
    have J2 : ∀ (z2_ : UInt64) (T_ : State) (lc_ : List Loc), (z2_ = (own_st (own_st FP.dconst0 (0 : Int32) ((0 : Int32) + b0) (1 : Int32)) ((0 : Int32) + b0) (((0 : Int32) + b0) + b1) (2 : Int32))) → (Stand p l e ({ frames := 1, cells := 0, slots := 0, locals := 20 } : Room) s m #[(.ref a1)] below meth c T_ lc_ 0 0) → (T_.heap = h0) → (Fr Z.heap.size lc_) → Goes p e below (EndN s (fun v h L => v = some (.double (own_rt (own_st (own_st FP.dconst0 (0 : Int32) ((0 : Int32) + b0) (1 : Int32)) ((0 : Int32) + b0) (((0 : Int32) + b0) + b1) (2 : Int32)) p3)) ∧ Fr Z.heap.size L ∧ h = h0) ({ frames := 1, cells := 0, slots := 0, locals := 20 } : Room).cells ({ frames := 1, cells := 0, slots := 0, locals := 20 } : Room).slots) (T_.setTop (mkF m 42 #[.val (.ref a1), .val (.double z2_), .second, .val (.int (2 : Int32))] [])) := by
      intro z2_ T_ lc_ hz X_ e_ N_
      subst hz
      show Goes p e below _ (T_.setTop (mkF m 42 #[.val (.ref a1), .val (.double (own_st (own_st FP.dconst0 (0 : Int32) ((0 : Int32) + b0) (1 : Int32)) ((0 : Int32) + b0) (((0 : Int32) + b0) + b1) (2 : Int32))), .second, .val (.int (2 : Int32))] []))
      refine gIinc X_ hx (hb hby d_prog_10_method_5_42) (v := (3 : Int32)) rfl rfl (l' := #[.val (.ref a1), .val (.double (own_st (own_st FP.dconst0 (0 : Int32) ((0 : Int32) + b0) (1 : Int32)) ((0 : Int32) + b0) (((0 : Int32) + b0) + b1) (2 : Int32))), .second, .val (.int (3 : Int32))]) rfl ?_
      refine gGoto X_ hx (hb hby d_prog_10_method_5_45) (pc' := 4) (by decide) (by decide) ?_
      show Goes p e below _ (T_.setTop (mkF m 4 #[.val (.ref a1), .val (.double (own_st (own_st FP.dconst0 (0 : Int32) ((0 : Int32) + b0) (1 : Int32)) ((0 : Int32) + b0) (((0 : Int32) + b0) + b1) (2 : Int32))), .second, .val (.int (3 : Int32))] []))
      refine gIloadN X_ hx (hb hby d_prog_10_method_5_4) rfl ?_
      refine gAloadN X_ hx (hb hby d_prog_10_method_5_5) rfl rfl ?_
      refine goCallV X_ hx hZ hown (hw _ (List.mem_of_getElem? (i := 20) rfl)) (hw _ (List.mem_of_getElem? (i := 21) rfl)) (hw _ (List.mem_of_getElem? (i := 23) rfl)) (hw _ (List.mem_of_getElem? (i := 22) rfl)) (hw _ (List.mem_of_getElem? (i := 3) rfl)) (hw _ (List.mem_of_getElem? (i := 24) rfl)) (by decide) (rmT2 l Z a0 hw u (0 : Int32) ((0 : Int32) + b0) (((0 : Int32) + b0) + b1) a1 h0 O0 F1 Y1) 1 (by decide) (by decide) e_ E1 (hsz rfl) [] [(.int (3 : Int32))] pd_0 rfl rfl rfl (Nat.le_of_eq rfl) (hb hby d_prog_10_method_5_6) (by decide) (by decide) (fun Tt13 vt13 Lt13 Xt13 qt13 => ?_)
      obtain ⟨rfl, N14, et13⟩ := qt13
      have N15 := Fr.app N_ N14
      show Goes p e below _ (Tt13.setTop (mkF m 9 #[.val (.ref a1), .val (.double (own_st (own_st FP.dconst0 (0 : Int32) ((0 : Int32) + b0) (1 : Int32)) ((0 : Int32) + b0) (((0 : Int32) + b0) + b1) (2 : Int32))), .second, .val (.int (3 : Int32))] [(.int (2 : Int32)), (.int (3 : Int32))]))
      refine gIcmpY Xt13 hx (hb hby d_prog_10_method_5_9) (pc' := 48) (XT.ii_gt_t (by decide)) (by decide) (by decide) ?_
      show Goes p e below _ (Tt13.setTop (mkF m 48 #[.val (.ref a1), .val (.double (own_st (own_st FP.dconst0 (0 : Int32) ((0 : Int32) + b0) (1 : Int32)) ((0 : Int32) + b0) (((0 : Int32) + b0) + b1) (2 : Int32))), .second, .val (.int (3 : Int32))] []))
      refine gDloadN Xt13 hx (hb hby d_prog_10_method_5_48) rfl ?_
      refine gAloadN Xt13 hx (hb hby d_prog_10_method_5_49) rfl rfl ?_
      obtain ⟨Tt16, Xt16, et16, stt16⟩ := getF Xt13 hx hZ hown (host := "") (Or.inl (hw _ (List.mem_of_getElem? (i := 13) rfl))) Via.refl et13 F2 (g := (mkF m 50 #[.val (.ref a1), .val (.double (own_st (own_st FP.dconst0 (0 : Int32) ((0 : Int32) + b0) (1 : Int32)) ((0 : Int32) + b0) (((0 : Int32) + b0) + b1) (2 : Int32))), .second, .val (.int (3 : Int32))] [(.ref a1), (.double (own_st (own_st FP.dconst0 (0 : Int32) ((0 : Int32) + b0) (1 : Int32)) ((0 : Int32) + b0) (((0 : Int32) + b0) + b1) (2 : Int32)))])) rfl rfl (hb hby d_prog_10_method_5_50)
      refine go stt16 ?_
      show Goes p e below _ (Tt16.setTop (mkF m 53 #[.val (.ref a1), .val (.double (own_st (own_st FP.dconst0 (0 : Int32) ((0 : Int32) + b0) (1 : Int32)) ((0 : Int32) + b0) (((0 : Int32) + b0) + b1) (2 : Int32))), .second, .val (.int (3 : Int32))] [(.int p3), (.double (own_st (own_st FP.dconst0 (0 : Int32) ((0 : Int32) + b0) (1 : Int32)) ((0 : Int32) + b0) (((0 : Int32) + b0) + b1) (2 : Int32)))]))
      refine goCallS Xt16 hx hZ hown (hw _ (List.mem_of_getElem? (i := 25) rfl)) (hw _ (List.mem_of_getElem? (i := 26) rfl)) (hw _ (List.mem_of_getElem? (i := 3) rfl)) (hw _ (List.mem_of_getElem? (i := 27) rfl)) (by decide) (rmR l Z a0 hw (own_st (own_st FP.dconst0 (0 : Int32) ((0 : Int32) + b0) (1 : Int32)) ((0 : Int32) + b0) (((0 : Int32) + b0) + b1) (2 : Int32)) p3 h0 O0 (own_ns2 b0 b1 hb0 hb1)) 0 (by decide) (by decide) et16 (hsz rfl) [(.double (own_st (own_st FP.dconst0 (0 : Int32) ((0 : Int32) + b0) (1 : Int32)) ((0 : Int32) + b0) (((0 : Int32) + b0) + b1) (2 : Int32))), (.int p3)] [] pd_1 rfl rfl rfl (Nat.le_of_eq rfl) (hb hby d_prog_10_method_5_53) (by decide) (by decide) (fun Tt17 vt17 Lt17 Xt17 qt17 => ?_)
      obtain ⟨rfl, N18, et17⟩ := qt17
      have N19 := Fr.app N15 N18
      show Goes p e below _ (Tt17.setTop (mkF m 56 #[.val (.ref a1), .val (.double (own_st (own_st FP.dconst0 (0 : Int32) ((0 : Int32) + b0) (1 : Int32)) ((0 : Int32) + b0) (((0 : Int32) + b0) + b1) (2 : Int32))), .second, .val (.int (3 : Int32))] [(.double (own_rt (own_st (own_st FP.dconst0 (0 : Int32) ((0 : Int32) + b0) (1 : Int32)) ((0 : Int32) + b0) (((0 : Int32) + b0) + b1) (2 : Int32)) p3))]))
      exact goRetD Xt17 hx hret hlocks (hb hby d_prog_10_method_5_56) (by decide) (by decide) et17 (⟨rfl, N19, rfl⟩)
    by_cases g : ((0 : Int32) + b0) < (((0 : Int32) + b0) + b1)
    · refine gIcmpN Xt11 hx (hb hby d_prog_10_method_5_26) (XT.ii_le_f g) ?_
      show Goes p e below _ (Tt11.setTop (mkF m 29 #[.val (.ref a1), .val (.double (own_st FP.dconst0 (0 : Int32) ((0 : Int32) + b0) (1 : Int32))), .second, .val (.int (2 : Int32))] []))
      refine gDloadN Xt11 hx (hb hby d_prog_10_method_5_29) rfl ?_
      refine gAloadN Xt11 hx (hb hby d_prog_10_method_5_30) rfl rfl ?_
      obtain ⟨Tt12, Xt12, et12, stt12⟩ := getF Xt11 hx hZ hown (host := "") (Or.inl (hw _ (List.mem_of_getElem? (i := 11) rfl))) Via.refl et11 F1 (g := (mkF m 31 #[.val (.ref a1), .val (.double (own_st FP.dconst0 (0 : Int32) ((0 : Int32) + b0) (1 : Int32))), .second, .val (.int (2 : Int32))] [(.ref a1), (.double (own_st FP.dconst0 (0 : Int32) ((0 : Int32) + b0) (1 : Int32)))])) rfl rfl (hb hby d_prog_10_method_5_31)
      refine go stt12 ?_
      show Goes p e below _ (Tt12.setTop (mkF m 34 #[.val (.ref a1), .val (.double (own_st FP.dconst0 (0 : Int32) ((0 : Int32) + b0) (1 : Int32))), .second, .val (.int (2 : Int32))] [(.ref u), (.double (own_st FP.dconst0 (0 : Int32) ((0 : Int32) + b0) (1 : Int32)))]))
      refine gIloadN Xt12 hx (hb hby d_prog_10_method_5_34) rfl ?_
      refine goIaload Xt12 hx hZ et12 Y1 (x := (((0 : Int32) + b0) + b1)) (hb hby d_prog_10_method_5_35) (by decide) rfl ?_
      refine gI2d Xt12 hx (hb hby d_prog_10_method_5_36) ?_
      refine gIloadN Xt12 hx (hb hby d_prog_10_method_5_37) rfl ?_
      refine gI2d Xt12 hx (hb hby d_prog_10_method_5_38) ?_
      refine gDdiv Xt12 hx (hb hby d_prog_10_method_5_39) (own_qa2 b0 b1 hb0 hb1) ?_
      refine gDadd Xt12 hx (hb hby d_prog_10_method_5_40) (own_da2 b0 b1 hb0 hb1) ?_
      show Goes p e below _ (Tt12.setTop (mkF m 41 #[.val (.ref a1), .val (.double (own_st FP.dconst0 (0 : Int32) ((0 : Int32) + b0) (1 : Int32))), .second, .val (.int (2 : Int32))] [(.double (FP.dadd (own_st FP.dconst0 (0 : Int32) ((0 : Int32) + b0) (1 : Int32)) (FP.ddiv (FP.i2d (((0 : Int32) + b0) + b1)) (FP.i2d (2 : Int32)))))]))
      refine gDstoreN Xt12 hx (hb hby d_prog_10_method_5_41) (l' := #[.val (.ref a1), .val (.double (FP.dadd (own_st FP.dconst0 (0 : Int32) ((0 : Int32) + b0) (1 : Int32)) (FP.ddiv (FP.i2d (((0 : Int32) + b0) + b1)) (FP.i2d (2 : Int32))))), .second, .val (.int (2 : Int32))]) rfl ?_
      exact J2 _ Tt12 _ (if_pos g).symm Xt12 et12 N9
    · refine gIcmpY Xt11 hx (hb hby d_prog_10_method_5_26) (pc' := 42) (XT.ii_le_t g) (by decide) (by decide) ?_
      show Goes p e below _ (Tt11.setTop (mkF m 42 #[.val (.ref a1), .val (.double (own_st FP.dconst0 (0 : Int32) ((0 : Int32) + b0) (1 : Int32))), .second, .val (.int (2 : Int32))] []))
      exact J2 _ Tt11 _ (if_neg g).symm Xt11 et11 N9
  by_cases g : (0 : Int32) < ((0 : Int32) + b0)
  · refine gIcmpN Xt5 hx (hb hby d_prog_10_method_5_26) (XT.ii_le_f g) ?_
    show Goes p e below _ (Tt5.setTop (mkF m 29 #[.val (.ref a1), .val (.double FP.dconst0), .second, .val (.int (1 : Int32))] []))
    refine gDloadN Xt5 hx (hb hby d_prog_10_method_5_29) rfl ?_
    refine gAloadN Xt5 hx (hb hby d_prog_10_method_5_30) rfl rfl ?_
    obtain ⟨Tt6, Xt6, et6, stt6⟩ := getF Xt5 hx hZ hown (host := "") (Or.inl (hw _ (List.mem_of_getElem? (i := 11) rfl))) Via.refl et5 F1 (g := (mkF m 31 #[.val (.ref a1), .val (.double FP.dconst0), .second, .val (.int (1 : Int32))] [(.ref a1), (.double FP.dconst0)])) rfl rfl (hb hby d_prog_10_method_5_31)
    refine go stt6 ?_
    show Goes p e below _ (Tt6.setTop (mkF m 34 #[.val (.ref a1), .val (.double FP.dconst0), .second, .val (.int (1 : Int32))] [(.ref u), (.double FP.dconst0)]))
    refine gIloadN Xt6 hx (hb hby d_prog_10_method_5_34) rfl ?_
    refine goIaload Xt6 hx hZ et6 Y1 (x := ((0 : Int32) + b0)) (hb hby d_prog_10_method_5_35) (by decide) rfl ?_
    refine gI2d Xt6 hx (hb hby d_prog_10_method_5_36) ?_
    refine gIloadN Xt6 hx (hb hby d_prog_10_method_5_37) rfl ?_
    refine gI2d Xt6 hx (hb hby d_prog_10_method_5_38) ?_
    refine gDdiv Xt6 hx (hb hby d_prog_10_method_5_39) (own_qa1 b0 hb0) ?_
    refine gDadd Xt6 hx (hb hby d_prog_10_method_5_40) (own_da1 b0 hb0) ?_
    show Goes p e below _ (Tt6.setTop (mkF m 41 #[.val (.ref a1), .val (.double FP.dconst0), .second, .val (.int (1 : Int32))] [(.double (FP.dadd FP.dconst0 (FP.ddiv (FP.i2d ((0 : Int32) + b0)) (FP.i2d (1 : Int32)))))]))
    refine gDstoreN Xt6 hx (hb hby d_prog_10_method_5_41) (l' := #[.val (.ref a1), .val (.double (FP.dadd FP.dconst0 (FP.ddiv (FP.i2d ((0 : Int32) + b0)) (FP.i2d (1 : Int32))))), .second, .val (.int (1 : Int32))]) rfl ?_
    exact J1 _ Tt6 _ (if_pos g).symm Xt6 et6 N3
  · refine gIcmpY Xt5 hx (hb hby d_prog_10_method_5_26) (pc' := 42) (XT.ii_le_t g) (by decide) (by decide) ?_
    show Goes p e below _ (Tt5.setTop (mkF m 42 #[.val (.ref a1), .val (.double FP.dconst0), .second, .val (.int (1 : Int32))] []))
    exact J1 _ Tt5 _ (if_neg g).symm Xt5 et5 N3
theorem ef_rmI3 (m : MethodId) (x0 : Addr) (x1 : Addr) (x2 : Int32) : entryFrame m #[(.ref x0), (.ref x1), (.int x2)] 4 = mkF m 0 #[.val (.ref x0), .val (.ref x1), .val (.int x2), .unset] [] := by first | (simp [entryFrame, mkF, argsToLocals, Value.category]; done) | rfl
set_option maxRecDepth 65536 in
set_option maxHeartbeats 40000000 in
theorem rmI3 (l : Launch) (Z : State) (a0 : Array Value) (hw : ∀ d ∈ tables_1, d.before a0 Z = true) (b0 b1 b2 : Int32) (a1 : Addr) (a2 : Addr) (p3 : Int32) (h0 : Heap) (O0 : Ext Z.heap h0) (E1 : Exa Z h0 a1 "com/example/almaden/almaden/eval/JudgedRanking") (F1 : Fld Z h0 a1 "com/example/almaden/almaden/eval/JudgedRanking" "relevantWithin" "[I" .null) (F2 : Fld Z h0 a1 "com/example/almaden/almaden/eval/JudgedRanking" "relevant" "I" (.int (0 : Int32))) (Y2 : Ary Z h0 a2 .boolean [(.int b0), (.int b1), (.int b2)]) (ne : a1 ≠ a2) (fr1 : Z.heap.size ≤ a1) (hb0 : b0 = 0 ∨ b0 = 1) (hb1 : b1 = 0 ∨ b1 = 1) (hb2 : b2 = 0 ∨ b2 = 1) :
    Ctr l Z (⟨"com/example/almaden/almaden/eval/JudgedRanking", "<init>", "([ZI)V"⟩ : MethodName) prog_10_method_1_code 4 none [] ({ frames := 1, cells := 1, slots := 4, locals := 13 } : Room) #[(.ref a1), (.ref a2), (.int p3)] h0 (fun v h L => v = none ∧ Fr Z.heap.size L ∧ Keep h0 h [a1] ∧ ∃ u, h0.size ≤ u ∧ Fld Z h a1 "com/example/almaden/almaden/eval/JudgedRanking" "relevantWithin" "[I" (.ref u) ∧ Fld Z h a1 "com/example/almaden/almaden/eval/JudgedRanking" "relevant" "I" (.int p3) ∧ Ary Z h u .int [(.int (0 : Int32)), (.int ((0 : Int32) + b0)), (.int (((0 : Int32) + b0) + b1)), (.int ((((0 : Int32) + b0) + b1) + b2))]) := by
  refine ctr (plainFor_of_name pn_0) ?_
  intro p e s m below meth c s₁ hx hby hml hown hnm hret hlocks hZ X0 e0
  have N0 := Fr.nil Z.heap.size
  have hsz : ∀ {Ls : Array Slot}, Ls.size = 4 → Ls.size = c.maxLocals := fun q => q.trans hml.symm
  have K0 := Keep.refl h0 [a1]
  refine goE (ef_rmI3 m (a1) (a2) (p3)) ?_
  show Goes p e below _ (s₁.setTop (mkF m 0 #[.val (.ref a1), .val (.ref a2), .val (.int p3), .unset] []))
  refine gAloadN X0 hx (hb hby d_prog_10_method_1_0) rfl rfl ?_
  obtain ⟨Tt1, Xt1, et1, stt1⟩ := initO X0 hx hZ hown (hw _ (List.mem_of_getElem? (i := 7) rfl)) (hw _ (List.mem_of_getElem? (i := 8) rfl)) (hw _ (List.mem_of_getElem? (i := 9) rfl)) e0 (g := (mkF m 1 #[.val (.ref a1), .val (.ref a2), .val (.int p3), .unset] [(.ref a1)])) rfl (by rw [hml]; rfl) rfl (hb hby d_prog_10_method_1_1) (by decide) (W := 0) (Nat.le_of_eq rfl) (by decide)
  refine go stt1 ?_
  show Goes p e below _ (Tt1.setTop (mkF m 4 #[.val (.ref a1), .val (.ref a2), .val (.int p3), .unset] []))
  refine gAloadN Xt1 hx (hb hby d_prog_10_method_1_4) rfl rfl ?_
  refine gAloadN Xt1 hx (hb hby d_prog_10_method_1_5) rfl rfl ?_
  refine goAlen Xt1 hx hZ et1 Y2 (n := (3 : Int32)) (hb hby d_prog_10_method_1_6) rfl ?_
  refine gIconst Xt1 hx (hb hby d_prog_10_method_1_7) (v := (1 : Int32)) rfl ?_
  refine gIadd Xt1 hx (hb hby d_prog_10_method_1_8) ?_
  obtain ⟨Tt2, ht2, kt2, Xt2, et2, Et2, At2, stt2⟩ := newP Xt1 hx hZ (hw _ (List.mem_of_getElem? (i := 10) rfl)) et1 (g := (mkF m 9 #[.val (.ref a1), .val (.ref a2), .val (.int p3), .unset] [(.int (4 : Int32)), (.ref a1)])) rfl (hb hby d_prog_10_method_1_9) rfl (by decide) (cap := 4) (by decide) (by decide) (by decide) (by decide)
  obtain ⟨ob3, gob3⟩ : ∃ z, z = h0.size := ⟨_, rfl⟩
  rw [← gob3] at At2 stt2
  refine go stt2 ?_
  have ne_a1_ob3 : a1 ≠ ob3 := Nat.ne_of_lt (gob3 ▸ E1.lt)
  have ne_a2_ob3 : a2 ≠ ob3 := Nat.ne_of_lt (gob3 ▸ Y2.lt)
  have fr_ob3 : Z.heap.size ≤ ob3 := gob3 ▸ O0.1
  have pa_ob3 : h0.size ≤ ob3 := gob3 ▸ K0.1
  replace E1 := E1.ext Et2
  replace F1 := F1.ext Et2
  replace F2 := F2.ext Et2
  replace Y2 := Y2.ext Et2
  have O4 : Ext Z.heap ht2 := extT O0 Et2
  have K5 := K0.ext Et2
  have Y_ob3 : Ary Z ht2 ob3 .int [(.int (0 : Int32)), (.int (0 : Int32)), (.int (0 : Int32)), (.int (0 : Int32))] := Ary.new At2 rfl (by decide)
  show Goes p e below _ (Tt2.setTop (mkF m 11 #[.val (.ref a1), .val (.ref a2), .val (.int p3), .unset] [(.ref ob3), (.ref a1)]))
  obtain ⟨Tt6, ht6, Xt6, et6, Wt6, stt6⟩ := putF Xt2 hx hZ hown (host := "") (Or.inl (hw _ (List.mem_of_getElem? (i := 11) rfl))) Via.refl et2 F1 E1 (Or.inr ⟨(hw _ (List.mem_of_getElem? (i := 12) rfl)), rfl, hnm⟩) (hw _ (List.mem_of_getElem? (i := 2) rfl)) (ty := (.array .int)) (by decide) rfl rfl (g := (mkF m 11 #[.val (.ref a1), .val (.ref a2), .val (.int p3), .unset] [(.ref ob3), (.ref a1)])) rfl rfl (hb hby d_prog_10_method_1_11)
  refine go stt6 ?_
  have N7 := Fr.snoc Xt6 N0 fr1
  replace F1 := F1.same Wt6
  replace E1 := E1.wr Wt6
  replace F2 := F2.other Wt6 (Or.inr (slot_ne (Or.inr (hw _ (List.mem_of_getElem? (i := 14) rfl))) (Or.inr (hw _ (List.mem_of_getElem? (i := 12) rfl))) (by decide) (t := .int) (by decide) (t' := (.array .int)) (by decide)))
  replace Y2 := Y2.other Wt6 (Ne.symm ne)
  replace Y_ob3 := Y_ob3.other Wt6 (Ne.symm ne_a1_ob3)
  have O8 : Ext Z.heap ht6 := extW O4 Wt6 fr1
  have K9 := K5.wr Wt6 (Or.inl (by simp))
  show Goes p e below _ (Tt6.setTop (mkF m 14 #[.val (.ref a1), .val (.ref a2), .val (.int p3), .unset] []))
  refine gIconst Xt6 hx (hb hby d_prog_10_method_1_14) (v := (0 : Int32)) rfl ?_
  refine gIstoreN Xt6 hx (hb hby d_prog_10_method_1_15) (l' := #[.val (.ref a1), .val (.ref a2), .val (.int p3), .val (.int (0 : Int32))]) rfl ?_
  refine gIloadN Xt6 hx (hb hby d_prog_10_method_1_16) rfl ?_
  refine gAloadN Xt6 hx (hb hby d_prog_10_method_1_17) rfl rfl ?_
  refine goAlen Xt6 hx hZ et6 Y2 (n := (3 : Int32)) (hb hby d_prog_10_method_1_18) rfl ?_
  refine gIcmpN Xt6 hx (hb hby d_prog_10_method_1_19) (XT.ii_ge_f (by decide)) ?_
  show Goes p e below _ (Tt6.setTop (mkF m 22 #[.val (.ref a1), .val (.ref a2), .val (.int p3), .val (.int (0 : Int32))] []))
  refine gAloadN Xt6 hx (hb hby d_prog_10_method_1_22) rfl rfl ?_
  obtain ⟨Tt10, Xt10, et10, stt10⟩ := getF Xt6 hx hZ hown (host := "") (Or.inl (hw _ (List.mem_of_getElem? (i := 11) rfl))) Via.refl et6 F1 (g := (mkF m 23 #[.val (.ref a1), .val (.ref a2), .val (.int p3), .val (.int (0 : Int32))] [(.ref a1)])) rfl rfl (hb hby d_prog_10_method_1_23)
  refine go stt10 ?_
  show Goes p e below _ (Tt10.setTop (mkF m 26 #[.val (.ref a1), .val (.ref a2), .val (.int p3), .val (.int (0 : Int32))] [(.ref ob3)]))
  refine gIloadN Xt10 hx (hb hby d_prog_10_method_1_26) rfl ?_
  refine gIconst Xt10 hx (hb hby d_prog_10_method_1_27) (v := (1 : Int32)) rfl ?_
  refine gIadd Xt10 hx (hb hby d_prog_10_method_1_28) ?_
  refine gAloadN Xt10 hx (hb hby d_prog_10_method_1_29) rfl rfl ?_
  obtain ⟨Tt11, Xt11, et11, stt11⟩ := getF Xt10 hx hZ hown (host := "") (Or.inl (hw _ (List.mem_of_getElem? (i := 11) rfl))) Via.refl et10 F1 (g := (mkF m 30 #[.val (.ref a1), .val (.ref a2), .val (.int p3), .val (.int (0 : Int32))] [(.ref a1), (.int (1 : Int32)), (.ref ob3)])) rfl rfl (hb hby d_prog_10_method_1_30)
  refine go stt11 ?_
  show Goes p e below _ (Tt11.setTop (mkF m 33 #[.val (.ref a1), .val (.ref a2), .val (.int p3), .val (.int (0 : Int32))] [(.ref ob3), (.int (1 : Int32)), (.ref ob3)]))
  refine gIloadN Xt11 hx (hb hby d_prog_10_method_1_33) rfl ?_
  refine goIaload Xt11 hx hZ et11 Y_ob3 (x := (0 : Int32)) (hb hby d_prog_10_method_1_34) (by decide) rfl ?_
  refine gAloadN Xt11 hx (hb hby d_prog_10_method_1_35) rfl rfl ?_
  refine gIloadN Xt11 hx (hb hby d_prog_10_method_1_36) rfl ?_
  refine goZaload Xt11 hx hZ et11 Y2 (x := b0) (hb hby d_prog_10_method_1_37) (by decide) rfl ?_
  have J0 : ∀ (z0_ : Int32), b0 = z0_ → Goes p e below (EndN s (fun v h L => v = none ∧ Fr Z.heap.size L ∧ Keep h0 h [a1] ∧ ∃ u, h0.size ≤ u ∧ Fld Z h a1 "com/example/almaden/almaden/eval/JudgedRanking" "relevantWithin" "[I" (.ref u) ∧ Fld Z h a1 "com/example/almaden/almaden/eval/JudgedRanking" "relevant" "I" (.int p3) ∧ Ary Z h u .int [(.int (0 : Int32)), (.int ((0 : Int32) + b0)), (.int (((0 : Int32) + b0) + b1)), (.int ((((0 : Int32) + b0) + b1) + b2))]) ({ frames := 1, cells := 1, slots := 4, locals := 13 } : Room).cells ({ frames := 1, cells := 1, slots := 4, locals := 13 } : Room).slots) (Tt11.setTop (mkF m 46 #[.val (.ref a1), .val (.ref a2), .val (.int p3), .val (.int (0 : Int32))] [(.int z0_), (.int (0 : Int32)), (.int (1 : Int32)), (.ref ob3)])) := by
    intro z0_ hz
    subst hz
    show Goes p e below _ (Tt11.setTop (mkF m 46 #[.val (.ref a1), .val (.ref a2), .val (.int p3), .val (.int (0 : Int32))] [(.int b0), (.int (0 : Int32)), (.int (1 : Int32)), (.ref ob3)]))
    refine gIadd Xt11 hx (hb hby d_prog_10_method_1_46) ?_
    refine goIastore Xt11 hx hZ et11 Y_ob3 (hb hby d_prog_10_method_1_47) (by decide) rfl (fun Tt12 ht12 Xt12 et12 Wt12 => ?_)
    have N13 := Fr.snoc Xt12 N7 fr_ob3
    replace Y_ob3 : Ary Z ht12 ob3 .int [(.int (0 : Int32)), (.int ((0 : Int32) + b0)), (.int (0 : Int32)), (.int (0 : Int32))] := Y_ob3.set Wt12 rfl
    replace E1 := E1.wr Wt12
    replace F1 := F1.other Wt12 (Or.inl ne_a1_ob3)
    replace F2 := F2.other Wt12 (Or.inl ne_a1_ob3)
    replace Y2 := Y2.other Wt12 ne_a2_ob3
    have O14 : Ext Z.heap ht12 := extW O8 Wt12 fr_ob3
    have K15 := K9.wr Wt12 (Or.inr pa_ob3)
    show Goes p e below _ (Tt12.setTop (mkF m 48 #[.val (.ref a1), .val (.ref a2), .val (.int p3), .val (.int (0 : Int32))] []))
    refine gIinc Xt12 hx (hb hby d_prog_10_method_1_48) (v := (1 : Int32)) rfl rfl (l' := #[.val (.ref a1), .val (.ref a2), .val (.int p3), .val (.int (1 : Int32))]) rfl ?_
    refine gGoto Xt12 hx (hb hby d_prog_10_method_1_51) (pc' := 16) (by decide) (by decide) ?_
    show Goes p e below _ (Tt12.setTop (mkF m 16 #[.val (.ref a1), .val (.ref a2), .val (.int p3), .val (.int (1 : Int32))] []))
    refine gIloadN Xt12 hx (hb hby d_prog_10_method_1_16) rfl ?_
    refine gAloadN Xt12 hx (hb hby d_prog_10_method_1_17) rfl rfl ?_
    refine goAlen Xt12 hx hZ et12 Y2 (n := (3 : Int32)) (hb hby d_prog_10_method_1_18) rfl ?_
    refine gIcmpN Xt12 hx (hb hby d_prog_10_method_1_19) (XT.ii_ge_f (by decide)) ?_
    show Goes p e below _ (Tt12.setTop (mkF m 22 #[.val (.ref a1), .val (.ref a2), .val (.int p3), .val (.int (1 : Int32))] []))
    refine gAloadN Xt12 hx (hb hby d_prog_10_method_1_22) rfl rfl ?_
    obtain ⟨Tt16, Xt16, et16, stt16⟩ := getF Xt12 hx hZ hown (host := "") (Or.inl (hw _ (List.mem_of_getElem? (i := 11) rfl))) Via.refl et12 F1 (g := (mkF m 23 #[.val (.ref a1), .val (.ref a2), .val (.int p3), .val (.int (1 : Int32))] [(.ref a1)])) rfl rfl (hb hby d_prog_10_method_1_23)
    refine go stt16 ?_
    show Goes p e below _ (Tt16.setTop (mkF m 26 #[.val (.ref a1), .val (.ref a2), .val (.int p3), .val (.int (1 : Int32))] [(.ref ob3)]))
    refine gIloadN Xt16 hx (hb hby d_prog_10_method_1_26) rfl ?_
    refine gIconst Xt16 hx (hb hby d_prog_10_method_1_27) (v := (1 : Int32)) rfl ?_
    refine gIadd Xt16 hx (hb hby d_prog_10_method_1_28) ?_
    refine gAloadN Xt16 hx (hb hby d_prog_10_method_1_29) rfl rfl ?_
    obtain ⟨Tt17, Xt17, et17, stt17⟩ := getF Xt16 hx hZ hown (host := "") (Or.inl (hw _ (List.mem_of_getElem? (i := 11) rfl))) Via.refl et16 F1 (g := (mkF m 30 #[.val (.ref a1), .val (.ref a2), .val (.int p3), .val (.int (1 : Int32))] [(.ref a1), (.int (2 : Int32)), (.ref ob3)])) rfl rfl (hb hby d_prog_10_method_1_30)
    refine go stt17 ?_
    show Goes p e below _ (Tt17.setTop (mkF m 33 #[.val (.ref a1), .val (.ref a2), .val (.int p3), .val (.int (1 : Int32))] [(.ref ob3), (.int (2 : Int32)), (.ref ob3)]))
    refine gIloadN Xt17 hx (hb hby d_prog_10_method_1_33) rfl ?_
    refine goIaload Xt17 hx hZ et17 Y_ob3 (x := ((0 : Int32) + b0)) (hb hby d_prog_10_method_1_34) (by decide) rfl ?_
    refine gAloadN Xt17 hx (hb hby d_prog_10_method_1_35) rfl rfl ?_
    refine gIloadN Xt17 hx (hb hby d_prog_10_method_1_36) rfl ?_
    refine goZaload Xt17 hx hZ et17 Y2 (x := b1) (hb hby d_prog_10_method_1_37) (by decide) rfl ?_
    have J1 : ∀ (z1_ : Int32), b1 = z1_ → Goes p e below (EndN s (fun v h L => v = none ∧ Fr Z.heap.size L ∧ Keep h0 h [a1] ∧ ∃ u, h0.size ≤ u ∧ Fld Z h a1 "com/example/almaden/almaden/eval/JudgedRanking" "relevantWithin" "[I" (.ref u) ∧ Fld Z h a1 "com/example/almaden/almaden/eval/JudgedRanking" "relevant" "I" (.int p3) ∧ Ary Z h u .int [(.int (0 : Int32)), (.int ((0 : Int32) + b0)), (.int (((0 : Int32) + b0) + b1)), (.int ((((0 : Int32) + b0) + b1) + b2))]) ({ frames := 1, cells := 1, slots := 4, locals := 13 } : Room).cells ({ frames := 1, cells := 1, slots := 4, locals := 13 } : Room).slots) (Tt17.setTop (mkF m 46 #[.val (.ref a1), .val (.ref a2), .val (.int p3), .val (.int (1 : Int32))] [(.int z1_), (.int ((0 : Int32) + b0)), (.int (2 : Int32)), (.ref ob3)])) := by
      intro z1_ hz
      subst hz
      show Goes p e below _ (Tt17.setTop (mkF m 46 #[.val (.ref a1), .val (.ref a2), .val (.int p3), .val (.int (1 : Int32))] [(.int b1), (.int ((0 : Int32) + b0)), (.int (2 : Int32)), (.ref ob3)]))
      refine gIadd Xt17 hx (hb hby d_prog_10_method_1_46) ?_
      refine goIastore Xt17 hx hZ et17 Y_ob3 (hb hby d_prog_10_method_1_47) (by decide) rfl (fun Tt18 ht18 Xt18 et18 Wt18 => ?_)
      have N19 := Fr.snoc Xt18 N13 fr_ob3
      replace Y_ob3 : Ary Z ht18 ob3 .int [(.int (0 : Int32)), (.int ((0 : Int32) + b0)), (.int (((0 : Int32) + b0) + b1)), (.int (0 : Int32))] := Y_ob3.set Wt18 rfl
      replace E1 := E1.wr Wt18
      replace F1 := F1.other Wt18 (Or.inl ne_a1_ob3)
      replace F2 := F2.other Wt18 (Or.inl ne_a1_ob3)
      replace Y2 := Y2.other Wt18 ne_a2_ob3
      have O20 : Ext Z.heap ht18 := extW O14 Wt18 fr_ob3
      have K21 := K15.wr Wt18 (Or.inr pa_ob3)
      show Goes p e below _ (Tt18.setTop (mkF m 48 #[.val (.ref a1), .val (.ref a2), .val (.int p3), .val (.int (1 : Int32))] []))
      refine gIinc Xt18 hx (hb hby d_prog_10_method_1_48) (v := (2 : Int32)) rfl rfl (l' := #[.val (.ref a1), .val (.ref a2), .val (.int p3), .val (.int (2 : Int32))]) rfl ?_
      refine gGoto Xt18 hx (hb hby d_prog_10_method_1_51) (pc' := 16) (by decide) (by decide) ?_
      show Goes p e below _ (Tt18.setTop (mkF m 16 #[.val (.ref a1), .val (.ref a2), .val (.int p3), .val (.int (2 : Int32))] []))
      refine gIloadN Xt18 hx (hb hby d_prog_10_method_1_16) rfl ?_
      refine gAloadN Xt18 hx (hb hby d_prog_10_method_1_17) rfl rfl ?_
      refine goAlen Xt18 hx hZ et18 Y2 (n := (3 : Int32)) (hb hby d_prog_10_method_1_18) rfl ?_
      refine gIcmpN Xt18 hx (hb hby d_prog_10_method_1_19) (XT.ii_ge_f (by decide)) ?_
      show Goes p e below _ (Tt18.setTop (mkF m 22 #[.val (.ref a1), .val (.ref a2), .val (.int p3), .val (.int (2 : Int32))] []))
      refine gAloadN Xt18 hx (hb hby d_prog_10_method_1_22) rfl rfl ?_
      obtain ⟨Tt22, Xt22, et22, stt22⟩ := getF Xt18 hx hZ hown (host := "") (Or.inl (hw _ (List.mem_of_getElem? (i := 11) rfl))) Via.refl et18 F1 (g := (mkF m 23 #[.val (.ref a1), .val (.ref a2), .val (.int p3), .val (.int (2 : Int32))] [(.ref a1)])) rfl rfl (hb hby d_prog_10_method_1_23)
      refine go stt22 ?_
      show Goes p e below _ (Tt22.setTop (mkF m 26 #[.val (.ref a1), .val (.ref a2), .val (.int p3), .val (.int (2 : Int32))] [(.ref ob3)]))
      refine gIloadN Xt22 hx (hb hby d_prog_10_method_1_26) rfl ?_
      refine gIconst Xt22 hx (hb hby d_prog_10_method_1_27) (v := (1 : Int32)) rfl ?_
      refine gIadd Xt22 hx (hb hby d_prog_10_method_1_28) ?_
      refine gAloadN Xt22 hx (hb hby d_prog_10_method_1_29) rfl rfl ?_
      obtain ⟨Tt23, Xt23, et23, stt23⟩ := getF Xt22 hx hZ hown (host := "") (Or.inl (hw _ (List.mem_of_getElem? (i := 11) rfl))) Via.refl et22 F1 (g := (mkF m 30 #[.val (.ref a1), .val (.ref a2), .val (.int p3), .val (.int (2 : Int32))] [(.ref a1), (.int (3 : Int32)), (.ref ob3)])) rfl rfl (hb hby d_prog_10_method_1_30)
      refine go stt23 ?_
      show Goes p e below _ (Tt23.setTop (mkF m 33 #[.val (.ref a1), .val (.ref a2), .val (.int p3), .val (.int (2 : Int32))] [(.ref ob3), (.int (3 : Int32)), (.ref ob3)]))
      refine gIloadN Xt23 hx (hb hby d_prog_10_method_1_33) rfl ?_
      refine goIaload Xt23 hx hZ et23 Y_ob3 (x := (((0 : Int32) + b0) + b1)) (hb hby d_prog_10_method_1_34) (by decide) rfl ?_
      refine gAloadN Xt23 hx (hb hby d_prog_10_method_1_35) rfl rfl ?_
      refine gIloadN Xt23 hx (hb hby d_prog_10_method_1_36) rfl ?_
      refine goZaload Xt23 hx hZ et23 Y2 (x := b2) (hb hby d_prog_10_method_1_37) (by decide) rfl ?_
      have J2 : ∀ (z2_ : Int32), b2 = z2_ → Goes p e below (EndN s (fun v h L => v = none ∧ Fr Z.heap.size L ∧ Keep h0 h [a1] ∧ ∃ u, h0.size ≤ u ∧ Fld Z h a1 "com/example/almaden/almaden/eval/JudgedRanking" "relevantWithin" "[I" (.ref u) ∧ Fld Z h a1 "com/example/almaden/almaden/eval/JudgedRanking" "relevant" "I" (.int p3) ∧ Ary Z h u .int [(.int (0 : Int32)), (.int ((0 : Int32) + b0)), (.int (((0 : Int32) + b0) + b1)), (.int ((((0 : Int32) + b0) + b1) + b2))]) ({ frames := 1, cells := 1, slots := 4, locals := 13 } : Room).cells ({ frames := 1, cells := 1, slots := 4, locals := 13 } : Room).slots) (Tt23.setTop (mkF m 46 #[.val (.ref a1), .val (.ref a2), .val (.int p3), .val (.int (2 : Int32))] [(.int z2_), (.int (((0 : Int32) + b0) + b1)), (.int (3 : Int32)), (.ref ob3)])) := by
        intro z2_ hz
        subst hz
        show Goes p e below _ (Tt23.setTop (mkF m 46 #[.val (.ref a1), .val (.ref a2), .val (.int p3), .val (.int (2 : Int32))] [(.int b2), (.int (((0 : Int32) + b0) + b1)), (.int (3 : Int32)), (.ref ob3)]))
        refine gIadd Xt23 hx (hb hby d_prog_10_method_1_46) ?_
        refine goIastore Xt23 hx hZ et23 Y_ob3 (hb hby d_prog_10_method_1_47) (by decide) rfl (fun Tt24 ht24 Xt24 et24 Wt24 => ?_)
        have N25 := Fr.snoc Xt24 N19 fr_ob3
        replace Y_ob3 : Ary Z ht24 ob3 .int [(.int (0 : Int32)), (.int ((0 : Int32) + b0)), (.int (((0 : Int32) + b0) + b1)), (.int ((((0 : Int32) + b0) + b1) + b2))] := Y_ob3.set Wt24 rfl
        replace E1 := E1.wr Wt24
        replace F1 := F1.other Wt24 (Or.inl ne_a1_ob3)
        replace F2 := F2.other Wt24 (Or.inl ne_a1_ob3)
        replace Y2 := Y2.other Wt24 ne_a2_ob3
        have O26 : Ext Z.heap ht24 := extW O20 Wt24 fr_ob3
        have K27 := K21.wr Wt24 (Or.inr pa_ob3)
        show Goes p e below _ (Tt24.setTop (mkF m 48 #[.val (.ref a1), .val (.ref a2), .val (.int p3), .val (.int (2 : Int32))] []))
        refine gIinc Xt24 hx (hb hby d_prog_10_method_1_48) (v := (3 : Int32)) rfl rfl (l' := #[.val (.ref a1), .val (.ref a2), .val (.int p3), .val (.int (3 : Int32))]) rfl ?_
        refine gGoto Xt24 hx (hb hby d_prog_10_method_1_51) (pc' := 16) (by decide) (by decide) ?_
        show Goes p e below _ (Tt24.setTop (mkF m 16 #[.val (.ref a1), .val (.ref a2), .val (.int p3), .val (.int (3 : Int32))] []))
        refine gIloadN Xt24 hx (hb hby d_prog_10_method_1_16) rfl ?_
        refine gAloadN Xt24 hx (hb hby d_prog_10_method_1_17) rfl rfl ?_
        refine goAlen Xt24 hx hZ et24 Y2 (n := (3 : Int32)) (hb hby d_prog_10_method_1_18) rfl ?_
        refine gIcmpY Xt24 hx (hb hby d_prog_10_method_1_19) (pc' := 54) (XT.ii_ge_t (by decide)) (by decide) (by decide) ?_
        show Goes p e below _ (Tt24.setTop (mkF m 54 #[.val (.ref a1), .val (.ref a2), .val (.int p3), .val (.int (3 : Int32))] []))
        refine gAloadN Xt24 hx (hb hby d_prog_10_method_1_54) rfl rfl ?_
        refine gIloadN Xt24 hx (hb hby d_prog_10_method_1_55) rfl ?_
        obtain ⟨Tt28, ht28, Xt28, et28, Wt28, stt28⟩ := putF Xt24 hx hZ hown (host := "") (Or.inl (hw _ (List.mem_of_getElem? (i := 13) rfl))) Via.refl et24 F2 E1 (Or.inr ⟨(hw _ (List.mem_of_getElem? (i := 14) rfl)), rfl, hnm⟩) (hw _ (List.mem_of_getElem? (i := 2) rfl)) (ty := .int) (by decide) rfl rfl (g := (mkF m 56 #[.val (.ref a1), .val (.ref a2), .val (.int p3), .val (.int (3 : Int32))] [(.int p3), (.ref a1)])) rfl rfl (hb hby d_prog_10_method_1_56)
        refine go stt28 ?_
        have N29 := Fr.snoc Xt28 N25 fr1
        replace F2 := F2.same Wt28
        replace E1 := E1.wr Wt28
        replace F1 := F1.other Wt28 (Or.inr (slot_ne (Or.inr (hw _ (List.mem_of_getElem? (i := 12) rfl))) (Or.inr (hw _ (List.mem_of_getElem? (i := 14) rfl))) (by decide) (t := (.array .int)) (by decide) (t' := .int) (by decide)))
        replace Y2 := Y2.other Wt28 (Ne.symm ne)
        replace Y_ob3 := Y_ob3.other Wt28 (Ne.symm ne_a1_ob3)
        have O30 : Ext Z.heap ht28 := extW O26 Wt28 fr1
        have K31 := K27.wr Wt28 (Or.inl (by simp))
        show Goes p e below _ (Tt28.setTop (mkF m 59 #[.val (.ref a1), .val (.ref a2), .val (.int p3), .val (.int (3 : Int32))] []))
        exact goRet0 Xt28 hx hret hlocks (hb hby d_prog_10_method_1_59) (by decide) (by decide) et28 (⟨rfl, N29, K31, ob3, pa_ob3, F1, F2, Y_ob3⟩)
      by_cases g : b2 = 0
      · refine gIfY Xt23 hx (hb hby d_prog_10_method_1_38) (pc' := 45) (XT.i0_eq_t g) (by decide) (by decide) ?_
        show Goes p e below _ (Tt23.setTop (mkF m 45 #[.val (.ref a1), .val (.ref a2), .val (.int p3), .val (.int (2 : Int32))] [(.int (((0 : Int32) + b0) + b1)), (.int (3 : Int32)), (.ref ob3)]))
        refine gIconst Xt23 hx (hb hby d_prog_10_method_1_45) (v := (0 : Int32)) rfl ?_
        exact J2 _ g
      · refine gIfN Xt23 hx (hb hby d_prog_10_method_1_38) (XT.i0_eq_f g) ?_
        show Goes p e below _ (Tt23.setTop (mkF m 41 #[.val (.ref a1), .val (.ref a2), .val (.int p3), .val (.int (2 : Int32))] [(.int (((0 : Int32) + b0) + b1)), (.int (3 : Int32)), (.ref ob3)]))
        refine gIconst Xt23 hx (hb hby d_prog_10_method_1_41) (v := (1 : Int32)) rfl ?_
        refine gGoto Xt23 hx (hb hby d_prog_10_method_1_42) (pc' := 46) (by decide) (by decide) ?_
        show Goes p e below _ (Tt23.setTop (mkF m 46 #[.val (.ref a1), .val (.ref a2), .val (.int p3), .val (.int (2 : Int32))] [(.int (1 : Int32)), (.int (((0 : Int32) + b0) + b1)), (.int (3 : Int32)), (.ref ob3)]))
        exact J2 _ (hb2.resolve_left g)
    by_cases g : b1 = 0
    · refine gIfY Xt17 hx (hb hby d_prog_10_method_1_38) (pc' := 45) (XT.i0_eq_t g) (by decide) (by decide) ?_
      show Goes p e below _ (Tt17.setTop (mkF m 45 #[.val (.ref a1), .val (.ref a2), .val (.int p3), .val (.int (1 : Int32))] [(.int ((0 : Int32) + b0)), (.int (2 : Int32)), (.ref ob3)]))
      refine gIconst Xt17 hx (hb hby d_prog_10_method_1_45) (v := (0 : Int32)) rfl ?_
      exact J1 _ g
    · refine gIfN Xt17 hx (hb hby d_prog_10_method_1_38) (XT.i0_eq_f g) ?_
      show Goes p e below _ (Tt17.setTop (mkF m 41 #[.val (.ref a1), .val (.ref a2), .val (.int p3), .val (.int (1 : Int32))] [(.int ((0 : Int32) + b0)), (.int (2 : Int32)), (.ref ob3)]))
      refine gIconst Xt17 hx (hb hby d_prog_10_method_1_41) (v := (1 : Int32)) rfl ?_
      refine gGoto Xt17 hx (hb hby d_prog_10_method_1_42) (pc' := 46) (by decide) (by decide) ?_
      show Goes p e below _ (Tt17.setTop (mkF m 46 #[.val (.ref a1), .val (.ref a2), .val (.int p3), .val (.int (1 : Int32))] [(.int (1 : Int32)), (.int ((0 : Int32) + b0)), (.int (2 : Int32)), (.ref ob3)]))
      exact J1 _ (hb1.resolve_left g)
  by_cases g : b0 = 0
  · refine gIfY Xt11 hx (hb hby d_prog_10_method_1_38) (pc' := 45) (XT.i0_eq_t g) (by decide) (by decide) ?_
    show Goes p e below _ (Tt11.setTop (mkF m 45 #[.val (.ref a1), .val (.ref a2), .val (.int p3), .val (.int (0 : Int32))] [(.int (0 : Int32)), (.int (1 : Int32)), (.ref ob3)]))
    refine gIconst Xt11 hx (hb hby d_prog_10_method_1_45) (v := (0 : Int32)) rfl ?_
    exact J0 _ g
  · refine gIfN Xt11 hx (hb hby d_prog_10_method_1_38) (XT.i0_eq_f g) ?_
    show Goes p e below _ (Tt11.setTop (mkF m 41 #[.val (.ref a1), .val (.ref a2), .val (.int p3), .val (.int (0 : Int32))] [(.int (0 : Int32)), (.int (1 : Int32)), (.ref ob3)]))
    refine gIconst Xt11 hx (hb hby d_prog_10_method_1_41) (v := (1 : Int32)) rfl ?_
    refine gGoto Xt11 hx (hb hby d_prog_10_method_1_42) (pc' := 46) (by decide) (by decide) ?_
    show Goes p e below _ (Tt11.setTop (mkF m 46 #[.val (.ref a1), .val (.ref a2), .val (.int p3), .val (.int (0 : Int32))] [(.int (1 : Int32)), (.int (0 : Int32)), (.int (1 : Int32)), (.ref ob3)]))
    exact J0 _ (hb0.resolve_left g)
theorem ef_rmT3 (m : MethodId) (x0 : Addr) : entryFrame m #[(.ref x0)] 1 = mkF m 0 #[.val (.ref x0)] [] := by first | (simp [entryFrame, mkF, argsToLocals, Value.category]; done) | rfl
set_option maxRecDepth 65536 in
set_option maxHeartbeats 40000000 in
theorem rmT3 (l : Launch) (Z : State) (a0 : Array Value) (hw : ∀ d ∈ tables_1, d.before a0 Z = true) (u : Addr) (r0 r1 r2 r3 : Int32) (a1 : Addr) (h0 : Heap) (O0 : Ext Z.heap h0) (F1 : Fld Z h0 a1 "com/example/almaden/almaden/eval/JudgedRanking" "relevantWithin" "[I" (.ref u)) (Y1 : Ary Z h0 u .int [(.int r0), (.int r1), (.int r2), (.int r3)]) :
    Ctr l Z (⟨"com/example/almaden/almaden/eval/JudgedRanking", "retrieved", "()I"⟩ : MethodName) prog_10_method_2_code 1 (some .int) [] ({ frames := 0, cells := 0, slots := 0, locals := 0 } : Room) #[(.ref a1)] h0 (fun v h L => v = some (.int (3 : Int32)) ∧ Fr Z.heap.size L ∧ h = h0) := by
  refine ctr (plainFor_of_name pn_0) ?_
  intro p e s m below meth c s₁ hx hby hml hown hnm hret hlocks hZ X0 e0
  have N0 := Fr.nil Z.heap.size
  have hsz : ∀ {Ls : Array Slot}, Ls.size = 1 → Ls.size = c.maxLocals := fun q => q.trans hml.symm
  refine goE (ef_rmT3 m (a1)) ?_
  show Goes p e below _ (s₁.setTop (mkF m 0 #[.val (.ref a1)] []))
  refine gAloadN X0 hx (hb hby d_prog_10_method_2_0) rfl rfl ?_
  obtain ⟨Tt1, Xt1, et1, stt1⟩ := getF X0 hx hZ hown (host := "") (Or.inl (hw _ (List.mem_of_getElem? (i := 11) rfl))) Via.refl e0 F1 (g := (mkF m 1 #[.val (.ref a1)] [(.ref a1)])) rfl rfl (hb hby d_prog_10_method_2_1)
  refine go stt1 ?_
  show Goes p e below _ (Tt1.setTop (mkF m 4 #[.val (.ref a1)] [(.ref u)]))
  refine goAlen Xt1 hx hZ et1 Y1 (n := (4 : Int32)) (hb hby d_prog_10_method_2_4) rfl ?_
  refine gIconst Xt1 hx (hb hby d_prog_10_method_2_5) (v := (1 : Int32)) rfl ?_
  refine gIsub Xt1 hx (hb hby d_prog_10_method_2_6) ?_
  exact goRetI Xt1 hx hret hlocks (hb hby d_prog_10_method_2_7) (by decide) (by decide) et1 (⟨rfl, N0, rfl⟩)
theorem ef_rmA3 (m : MethodId) (x0 : Addr) : entryFrame m #[(.ref x0)] 4 = mkF m 0 #[.val (.ref x0), .unset, .unset, .unset] [] := by first | (simp [entryFrame, mkF, argsToLocals, Value.category]; done) | rfl
set_option maxRecDepth 65536 in
set_option maxHeartbeats 40000000 in
theorem rmA3 (l : Launch) (Z : State) (a0 : Array Value) (hw : ∀ d ∈ tables_1, d.before a0 Z = true) (u : Addr) (p3 : Int32) (b0 b1 b2 : Int32) (a1 : Addr) (h0 : Heap) (O0 : Ext Z.heap h0) (E1 : Exa Z h0 a1 "com/example/almaden/almaden/eval/JudgedRanking") (F1 : Fld Z h0 a1 "com/example/almaden/almaden/eval/JudgedRanking" "relevantWithin" "[I" (.ref u)) (F2 : Fld Z h0 a1 "com/example/almaden/almaden/eval/JudgedRanking" "relevant" "I" (.int p3)) (Y1 : Ary Z h0 u .int [(.int (0 : Int32)), (.int ((0 : Int32) + b0)), (.int (((0 : Int32) + b0) + b1)), (.int ((((0 : Int32) + b0) + b1) + b2))]) (hb0 : b0 = 0 ∨ b0 = 1) (hb1 : b1 = 0 ∨ b1 = 1) (hb2 : b2 = 0 ∨ b2 = 1) :
    Ctr l Z (⟨"com/example/almaden/almaden/eval/JudgedRanking", "averagePrecision", "()D"⟩ : MethodName) prog_10_method_5_code 4 (some .double) [] ({ frames := 1, cells := 0, slots := 0, locals := 20 } : Room) #[(.ref a1)] h0 (fun v h L => v = some (.double (own_rt (own_st (own_st (own_st FP.dconst0 (0 : Int32) ((0 : Int32) + b0) (1 : Int32)) ((0 : Int32) + b0) (((0 : Int32) + b0) + b1) (2 : Int32)) (((0 : Int32) + b0) + b1) ((((0 : Int32) + b0) + b1) + b2) (3 : Int32)) p3)) ∧ Fr Z.heap.size L ∧ h = h0) := by
  refine ctr (plainFor_of_name pn_0) ?_
  intro p e s m below meth c s₁ hx hby hml hown hnm hret hlocks hZ X0 e0
  have N0 := Fr.nil Z.heap.size
  have hsz : ∀ {Ls : Array Slot}, Ls.size = 4 → Ls.size = c.maxLocals := fun q => q.trans hml.symm
  refine goE (ef_rmA3 m (a1)) ?_
  show Goes p e below _ (s₁.setTop (mkF m 0 #[.val (.ref a1), .unset, .unset, .unset] []))
  refine gDconst0 X0 hx (hb hby d_prog_10_method_5_0) ?_
  refine gDstoreN X0 hx (hb hby d_prog_10_method_5_1) (l' := #[.val (.ref a1), .val (.double FP.dconst0), .second, .unset]) rfl ?_
  refine gIconst X0 hx (hb hby d_prog_10_method_5_2) (v := (1 : Int32)) rfl ?_
  refine gIstoreN X0 hx (hb hby d_prog_10_method_5_3) (l' := #[.val (.ref a1), .val (.double FP.dconst0), .second, .val (.int (1 : Int32))]) rfl ?_
  refine gIloadN X0 hx (hb hby d_prog_10_method_5_4) rfl ?_
  refine gAloadN X0 hx (hb hby d_prog_10_method_5_5) rfl rfl ?_
  refine goCallV X0 hx hZ hown (hw _ (List.mem_of_getElem? (i := 20) rfl)) (hw _ (List.mem_of_getElem? (i := 21) rfl)) (hw _ (List.mem_of_getElem? (i := 23) rfl)) (hw _ (List.mem_of_getElem? (i := 22) rfl)) (hw _ (List.mem_of_getElem? (i := 3) rfl)) (hw _ (List.mem_of_getElem? (i := 24) rfl)) (by decide) (rmT3 l Z a0 hw u (0 : Int32) ((0 : Int32) + b0) (((0 : Int32) + b0) + b1) ((((0 : Int32) + b0) + b1) + b2) a1 h0 O0 F1 Y1) 1 (by decide) (by decide) e0 E1 (hsz rfl) [] [(.int (1 : Int32))] pd_0 rfl rfl rfl (Nat.le_of_eq rfl) (hb hby d_prog_10_method_5_6) (by decide) (by decide) (fun Tt1 vt1 Lt1 Xt1 qt1 => ?_)
  obtain ⟨rfl, N2, et1⟩ := qt1
  have N3 := Fr.app N0 N2
  show Goes p e below _ (Tt1.setTop (mkF m 9 #[.val (.ref a1), .val (.double FP.dconst0), .second, .val (.int (1 : Int32))] [(.int (3 : Int32)), (.int (1 : Int32))]))
  refine gIcmpN Xt1 hx (hb hby d_prog_10_method_5_9) (XT.ii_gt_f (by decide)) ?_
  show Goes p e below _ (Tt1.setTop (mkF m 12 #[.val (.ref a1), .val (.double FP.dconst0), .second, .val (.int (1 : Int32))] []))
  refine gAloadN Xt1 hx (hb hby d_prog_10_method_5_12) rfl rfl ?_
  obtain ⟨Tt4, Xt4, et4, stt4⟩ := getF Xt1 hx hZ hown (host := "") (Or.inl (hw _ (List.mem_of_getElem? (i := 11) rfl))) Via.refl et1 F1 (g := (mkF m 13 #[.val (.ref a1), .val (.double FP.dconst0), .second, .val (.int (1 : Int32))] [(.ref a1)])) rfl rfl (hb hby d_prog_10_method_5_13)
  refine go stt4 ?_
  show Goes p e below _ (Tt4.setTop (mkF m 16 #[.val (.ref a1), .val (.double FP.dconst0), .second, .val (.int (1 : Int32))] [(.ref u)]))
  refine gIloadN Xt4 hx (hb hby d_prog_10_method_5_16) rfl ?_
  refine goIaload Xt4 hx hZ et4 Y1 (x := ((0 : Int32) + b0)) (hb hby d_prog_10_method_5_17) (by decide) rfl ?_
  refine gAloadN Xt4 hx (hb hby d_prog_10_method_5_18) rfl rfl ?_
  obtain ⟨Tt5, Xt5, et5, stt5⟩ := getF Xt4 hx hZ hown (host := "") (Or.inl (hw _ (List.mem_of_getElem? (i := 11) rfl))) Via.refl et4 F1 (g := (mkF m 19 #[.val (.ref a1), .val (.double FP.dconst0), .second, .val (.int (1 : Int32))] [(.ref a1), (.int ((0 : Int32) + b0))])) rfl rfl (hb hby d_prog_10_method_5_19)
  refine go stt5 ?_
  show Goes p e below _ (Tt5.setTop (mkF m 22 #[.val (.ref a1), .val (.double FP.dconst0), .second, .val (.int (1 : Int32))] [(.ref u), (.int ((0 : Int32) + b0))]))
  refine gIloadN Xt5 hx (hb hby d_prog_10_method_5_22) rfl ?_
  refine gIconst Xt5 hx (hb hby d_prog_10_method_5_23) (v := (1 : Int32)) rfl ?_
  refine gIsub Xt5 hx (hb hby d_prog_10_method_5_24) ?_
  refine goIaload Xt5 hx hZ et5 Y1 (x := (0 : Int32)) (hb hby d_prog_10_method_5_25) (by decide) rfl ?_
  have J1 : ∀ (z1_ : UInt64) (T_ : State) (lc_ : List Loc), (z1_ = (own_st FP.dconst0 (0 : Int32) ((0 : Int32) + b0) (1 : Int32))) → (Stand p l e ({ frames := 1, cells := 0, slots := 0, locals := 20 } : Room) s m #[(.ref a1)] below meth c T_ lc_ 0 0) → (T_.heap = h0) → (Fr Z.heap.size lc_) → Goes p e below (EndN s (fun v h L => v = some (.double (own_rt (own_st (own_st (own_st FP.dconst0 (0 : Int32) ((0 : Int32) + b0) (1 : Int32)) ((0 : Int32) + b0) (((0 : Int32) + b0) + b1) (2 : Int32)) (((0 : Int32) + b0) + b1) ((((0 : Int32) + b0) + b1) + b2) (3 : Int32)) p3)) ∧ Fr Z.heap.size L ∧ h = h0) ({ frames := 1, cells := 0, slots := 0, locals := 20 } : Room).cells ({ frames := 1, cells := 0, slots := 0, locals := 20 } : Room).slots) (T_.setTop (mkF m 42 #[.val (.ref a1), .val (.double z1_), .second, .val (.int (1 : Int32))] [])) := by
    intro z1_ T_ lc_ hz X_ e_ N_
    subst hz
    show Goes p e below _ (T_.setTop (mkF m 42 #[.val (.ref a1), .val (.double (own_st FP.dconst0 (0 : Int32) ((0 : Int32) + b0) (1 : Int32))), .second, .val (.int (1 : Int32))] []))
    refine gIinc X_ hx (hb hby d_prog_10_method_5_42) (v := (2 : Int32)) rfl rfl (l' := #[.val (.ref a1), .val (.double (own_st FP.dconst0 (0 : Int32) ((0 : Int32) + b0) (1 : Int32))), .second, .val (.int (2 : Int32))]) rfl ?_
    refine gGoto X_ hx (hb hby d_prog_10_method_5_45) (pc' := 4) (by decide) (by decide) ?_
    show Goes p e below _ (T_.setTop (mkF m 4 #[.val (.ref a1), .val (.double (own_st FP.dconst0 (0 : Int32) ((0 : Int32) + b0) (1 : Int32))), .second, .val (.int (2 : Int32))] []))
    refine gIloadN X_ hx (hb hby d_prog_10_method_5_4) rfl ?_
    refine gAloadN X_ hx (hb hby d_prog_10_method_5_5) rfl rfl ?_
    refine goCallV X_ hx hZ hown (hw _ (List.mem_of_getElem? (i := 20) rfl)) (hw _ (List.mem_of_getElem? (i := 21) rfl)) (hw _ (List.mem_of_getElem? (i := 23) rfl)) (hw _ (List.mem_of_getElem? (i := 22) rfl)) (hw _ (List.mem_of_getElem? (i := 3) rfl)) (hw _ (List.mem_of_getElem? (i := 24) rfl)) (by decide) (rmT3 l Z a0 hw u (0 : Int32) ((0 : Int32) + b0) (((0 : Int32) + b0) + b1) ((((0 : Int32) + b0) + b1) + b2) a1 h0 O0 F1 Y1) 1 (by decide) (by decide) e_ E1 (hsz rfl) [] [(.int (2 : Int32))] pd_0 rfl rfl rfl (Nat.le_of_eq rfl) (hb hby d_prog_10_method_5_6) (by decide) (by decide) (fun Tt7 vt7 Lt7 Xt7 qt7 => ?_)
    obtain ⟨rfl, N8, et7⟩ := qt7
    have N9 := Fr.app N_ N8
    show Goes p e below _ (Tt7.setTop (mkF m 9 #[.val (.ref a1), .val (.double (own_st FP.dconst0 (0 : Int32) ((0 : Int32) + b0) (1 : Int32))), .second, .val (.int (2 : Int32))] [(.int (3 : Int32)), (.int (2 : Int32))]))
    refine gIcmpN Xt7 hx (hb hby d_prog_10_method_5_9) (XT.ii_gt_f (by decide)) ?_
    show Goes p e below _ (Tt7.setTop (mkF m 12 #[.val (.ref a1), .val (.double (own_st FP.dconst0 (0 : Int32) ((0 : Int32) + b0) (1 : Int32))), .second, .val (.int (2 : Int32))] []))
    refine gAloadN Xt7 hx (hb hby d_prog_10_method_5_12) rfl rfl ?_
    obtain ⟨Tt10, Xt10, et10, stt10⟩ := getF Xt7 hx hZ hown (host := "") (Or.inl (hw _ (List.mem_of_getElem? (i := 11) rfl))) Via.refl et7 F1 (g := (mkF m 13 #[.val (.ref a1), .val (.double (own_st FP.dconst0 (0 : Int32) ((0 : Int32) + b0) (1 : Int32))), .second, .val (.int (2 : Int32))] [(.ref a1)])) rfl rfl (hb hby d_prog_10_method_5_13)
    refine go stt10 ?_
    show Goes p e below _ (Tt10.setTop (mkF m 16 #[.val (.ref a1), .val (.double (own_st FP.dconst0 (0 : Int32) ((0 : Int32) + b0) (1 : Int32))), .second, .val (.int (2 : Int32))] [(.ref u)]))
    refine gIloadN Xt10 hx (hb hby d_prog_10_method_5_16) rfl ?_
    refine goIaload Xt10 hx hZ et10 Y1 (x := (((0 : Int32) + b0) + b1)) (hb hby d_prog_10_method_5_17) (by decide) rfl ?_
    refine gAloadN Xt10 hx (hb hby d_prog_10_method_5_18) rfl rfl ?_
    obtain ⟨Tt11, Xt11, et11, stt11⟩ := getF Xt10 hx hZ hown (host := "") (Or.inl (hw _ (List.mem_of_getElem? (i := 11) rfl))) Via.refl et10 F1 (g := (mkF m 19 #[.val (.ref a1), .val (.double (own_st FP.dconst0 (0 : Int32) ((0 : Int32) + b0) (1 : Int32))), .second, .val (.int (2 : Int32))] [(.ref a1), (.int (((0 : Int32) + b0) + b1))])) rfl rfl (hb hby d_prog_10_method_5_19)
    refine go stt11 ?_
    show Goes p e below _ (Tt11.setTop (mkF m 22 #[.val (.ref a1), .val (.double (own_st FP.dconst0 (0 : Int32) ((0 : Int32) + b0) (1 : Int32))), .second, .val (.int (2 : Int32))] [(.ref u), (.int (((0 : Int32) + b0) + b1))]))
    refine gIloadN Xt11 hx (hb hby d_prog_10_method_5_22) rfl ?_
    refine gIconst Xt11 hx (hb hby d_prog_10_method_5_23) (v := (1 : Int32)) rfl ?_
    refine gIsub Xt11 hx (hb hby d_prog_10_method_5_24) ?_
    refine goIaload Xt11 hx hZ et11 Y1 (x := ((0 : Int32) + b0)) (hb hby d_prog_10_method_5_25) (by decide) rfl ?_
    have J2 : ∀ (z2_ : UInt64) (T_ : State) (lc_ : List Loc), (z2_ = (own_st (own_st FP.dconst0 (0 : Int32) ((0 : Int32) + b0) (1 : Int32)) ((0 : Int32) + b0) (((0 : Int32) + b0) + b1) (2 : Int32))) → (Stand p l e ({ frames := 1, cells := 0, slots := 0, locals := 20 } : Room) s m #[(.ref a1)] below meth c T_ lc_ 0 0) → (T_.heap = h0) → (Fr Z.heap.size lc_) → Goes p e below (EndN s (fun v h L => v = some (.double (own_rt (own_st (own_st (own_st FP.dconst0 (0 : Int32) ((0 : Int32) + b0) (1 : Int32)) ((0 : Int32) + b0) (((0 : Int32) + b0) + b1) (2 : Int32)) (((0 : Int32) + b0) + b1) ((((0 : Int32) + b0) + b1) + b2) (3 : Int32)) p3)) ∧ Fr Z.heap.size L ∧ h = h0) ({ frames := 1, cells := 0, slots := 0, locals := 20 } : Room).cells ({ frames := 1, cells := 0, slots := 0, locals := 20 } : Room).slots) (T_.setTop (mkF m 42 #[.val (.ref a1), .val (.double z2_), .second, .val (.int (2 : Int32))] [])) := by
      intro z2_ T_ lc_ hz X_ e_ N_
      subst hz
      show Goes p e below _ (T_.setTop (mkF m 42 #[.val (.ref a1), .val (.double (own_st (own_st FP.dconst0 (0 : Int32) ((0 : Int32) + b0) (1 : Int32)) ((0 : Int32) + b0) (((0 : Int32) + b0) + b1) (2 : Int32))), .second, .val (.int (2 : Int32))] []))
      refine gIinc X_ hx (hb hby d_prog_10_method_5_42) (v := (3 : Int32)) rfl rfl (l' := #[.val (.ref a1), .val (.double (own_st (own_st FP.dconst0 (0 : Int32) ((0 : Int32) + b0) (1 : Int32)) ((0 : Int32) + b0) (((0 : Int32) + b0) + b1) (2 : Int32))), .second, .val (.int (3 : Int32))]) rfl ?_
      refine gGoto X_ hx (hb hby d_prog_10_method_5_45) (pc' := 4) (by decide) (by decide) ?_
      show Goes p e below _ (T_.setTop (mkF m 4 #[.val (.ref a1), .val (.double (own_st (own_st FP.dconst0 (0 : Int32) ((0 : Int32) + b0) (1 : Int32)) ((0 : Int32) + b0) (((0 : Int32) + b0) + b1) (2 : Int32))), .second, .val (.int (3 : Int32))] []))
      refine gIloadN X_ hx (hb hby d_prog_10_method_5_4) rfl ?_
      refine gAloadN X_ hx (hb hby d_prog_10_method_5_5) rfl rfl ?_
      refine goCallV X_ hx hZ hown (hw _ (List.mem_of_getElem? (i := 20) rfl)) (hw _ (List.mem_of_getElem? (i := 21) rfl)) (hw _ (List.mem_of_getElem? (i := 23) rfl)) (hw _ (List.mem_of_getElem? (i := 22) rfl)) (hw _ (List.mem_of_getElem? (i := 3) rfl)) (hw _ (List.mem_of_getElem? (i := 24) rfl)) (by decide) (rmT3 l Z a0 hw u (0 : Int32) ((0 : Int32) + b0) (((0 : Int32) + b0) + b1) ((((0 : Int32) + b0) + b1) + b2) a1 h0 O0 F1 Y1) 1 (by decide) (by decide) e_ E1 (hsz rfl) [] [(.int (3 : Int32))] pd_0 rfl rfl rfl (Nat.le_of_eq rfl) (hb hby d_prog_10_method_5_6) (by decide) (by decide) (fun Tt13 vt13 Lt13 Xt13 qt13 => ?_)
      obtain ⟨rfl, N14, et13⟩ := qt13
      have N15 := Fr.app N_ N14
      show Goes p e below _ (Tt13.setTop (mkF m 9 #[.val (.ref a1), .val (.double (own_st (own_st FP.dconst0 (0 : Int32) ((0 : Int32) + b0) (1 : Int32)) ((0 : Int32) + b0) (((0 : Int32) + b0) + b1) (2 : Int32))), .second, .val (.int (3 : Int32))] [(.int (3 : Int32)), (.int (3 : Int32))]))
      refine gIcmpN Xt13 hx (hb hby d_prog_10_method_5_9) (XT.ii_gt_f (by decide)) ?_
      show Goes p e below _ (Tt13.setTop (mkF m 12 #[.val (.ref a1), .val (.double (own_st (own_st FP.dconst0 (0 : Int32) ((0 : Int32) + b0) (1 : Int32)) ((0 : Int32) + b0) (((0 : Int32) + b0) + b1) (2 : Int32))), .second, .val (.int (3 : Int32))] []))
      refine gAloadN Xt13 hx (hb hby d_prog_10_method_5_12) rfl rfl ?_
      obtain ⟨Tt16, Xt16, et16, stt16⟩ := getF Xt13 hx hZ hown (host := "") (Or.inl (hw _ (List.mem_of_getElem? (i := 11) rfl))) Via.refl et13 F1 (g := (mkF m 13 #[.val (.ref a1), .val (.double (own_st (own_st FP.dconst0 (0 : Int32) ((0 : Int32) + b0) (1 : Int32)) ((0 : Int32) + b0) (((0 : Int32) + b0) + b1) (2 : Int32))), .second, .val (.int (3 : Int32))] [(.ref a1)])) rfl rfl (hb hby d_prog_10_method_5_13)
      refine go stt16 ?_
      show Goes p e below _ (Tt16.setTop (mkF m 16 #[.val (.ref a1), .val (.double (own_st (own_st FP.dconst0 (0 : Int32) ((0 : Int32) + b0) (1 : Int32)) ((0 : Int32) + b0) (((0 : Int32) + b0) + b1) (2 : Int32))), .second, .val (.int (3 : Int32))] [(.ref u)]))
      refine gIloadN Xt16 hx (hb hby d_prog_10_method_5_16) rfl ?_
      refine goIaload Xt16 hx hZ et16 Y1 (x := ((((0 : Int32) + b0) + b1) + b2)) (hb hby d_prog_10_method_5_17) (by decide) rfl ?_
      refine gAloadN Xt16 hx (hb hby d_prog_10_method_5_18) rfl rfl ?_
      obtain ⟨Tt17, Xt17, et17, stt17⟩ := getF Xt16 hx hZ hown (host := "") (Or.inl (hw _ (List.mem_of_getElem? (i := 11) rfl))) Via.refl et16 F1 (g := (mkF m 19 #[.val (.ref a1), .val (.double (own_st (own_st FP.dconst0 (0 : Int32) ((0 : Int32) + b0) (1 : Int32)) ((0 : Int32) + b0) (((0 : Int32) + b0) + b1) (2 : Int32))), .second, .val (.int (3 : Int32))] [(.ref a1), (.int ((((0 : Int32) + b0) + b1) + b2))])) rfl rfl (hb hby d_prog_10_method_5_19)
      refine go stt17 ?_
      show Goes p e below _ (Tt17.setTop (mkF m 22 #[.val (.ref a1), .val (.double (own_st (own_st FP.dconst0 (0 : Int32) ((0 : Int32) + b0) (1 : Int32)) ((0 : Int32) + b0) (((0 : Int32) + b0) + b1) (2 : Int32))), .second, .val (.int (3 : Int32))] [(.ref u), (.int ((((0 : Int32) + b0) + b1) + b2))]))
      refine gIloadN Xt17 hx (hb hby d_prog_10_method_5_22) rfl ?_
      refine gIconst Xt17 hx (hb hby d_prog_10_method_5_23) (v := (1 : Int32)) rfl ?_
      refine gIsub Xt17 hx (hb hby d_prog_10_method_5_24) ?_
      refine goIaload Xt17 hx hZ et17 Y1 (x := (((0 : Int32) + b0) + b1)) (hb hby d_prog_10_method_5_25) (by decide) rfl ?_
      have J3 : ∀ (z3_ : UInt64) (T_ : State) (lc_ : List Loc), (z3_ = (own_st (own_st (own_st FP.dconst0 (0 : Int32) ((0 : Int32) + b0) (1 : Int32)) ((0 : Int32) + b0) (((0 : Int32) + b0) + b1) (2 : Int32)) (((0 : Int32) + b0) + b1) ((((0 : Int32) + b0) + b1) + b2) (3 : Int32))) → (Stand p l e ({ frames := 1, cells := 0, slots := 0, locals := 20 } : Room) s m #[(.ref a1)] below meth c T_ lc_ 0 0) → (T_.heap = h0) → (Fr Z.heap.size lc_) → Goes p e below (EndN s (fun v h L => v = some (.double (own_rt (own_st (own_st (own_st FP.dconst0 (0 : Int32) ((0 : Int32) + b0) (1 : Int32)) ((0 : Int32) + b0) (((0 : Int32) + b0) + b1) (2 : Int32)) (((0 : Int32) + b0) + b1) ((((0 : Int32) + b0) + b1) + b2) (3 : Int32)) p3)) ∧ Fr Z.heap.size L ∧ h = h0) ({ frames := 1, cells := 0, slots := 0, locals := 20 } : Room).cells ({ frames := 1, cells := 0, slots := 0, locals := 20 } : Room).slots) (T_.setTop (mkF m 42 #[.val (.ref a1), .val (.double z3_), .second, .val (.int (3 : Int32))] [])) := by
        intro z3_ T_ lc_ hz X_ e_ N_
        subst hz
        show Goes p e below _ (T_.setTop (mkF m 42 #[.val (.ref a1), .val (.double (own_st (own_st (own_st FP.dconst0 (0 : Int32) ((0 : Int32) + b0) (1 : Int32)) ((0 : Int32) + b0) (((0 : Int32) + b0) + b1) (2 : Int32)) (((0 : Int32) + b0) + b1) ((((0 : Int32) + b0) + b1) + b2) (3 : Int32))), .second, .val (.int (3 : Int32))] []))
        refine gIinc X_ hx (hb hby d_prog_10_method_5_42) (v := (4 : Int32)) rfl rfl (l' := #[.val (.ref a1), .val (.double (own_st (own_st (own_st FP.dconst0 (0 : Int32) ((0 : Int32) + b0) (1 : Int32)) ((0 : Int32) + b0) (((0 : Int32) + b0) + b1) (2 : Int32)) (((0 : Int32) + b0) + b1) ((((0 : Int32) + b0) + b1) + b2) (3 : Int32))), .second, .val (.int (4 : Int32))]) rfl ?_
        refine gGoto X_ hx (hb hby d_prog_10_method_5_45) (pc' := 4) (by decide) (by decide) ?_
        show Goes p e below _ (T_.setTop (mkF m 4 #[.val (.ref a1), .val (.double (own_st (own_st (own_st FP.dconst0 (0 : Int32) ((0 : Int32) + b0) (1 : Int32)) ((0 : Int32) + b0) (((0 : Int32) + b0) + b1) (2 : Int32)) (((0 : Int32) + b0) + b1) ((((0 : Int32) + b0) + b1) + b2) (3 : Int32))), .second, .val (.int (4 : Int32))] []))
        refine gIloadN X_ hx (hb hby d_prog_10_method_5_4) rfl ?_
        refine gAloadN X_ hx (hb hby d_prog_10_method_5_5) rfl rfl ?_
        refine goCallV X_ hx hZ hown (hw _ (List.mem_of_getElem? (i := 20) rfl)) (hw _ (List.mem_of_getElem? (i := 21) rfl)) (hw _ (List.mem_of_getElem? (i := 23) rfl)) (hw _ (List.mem_of_getElem? (i := 22) rfl)) (hw _ (List.mem_of_getElem? (i := 3) rfl)) (hw _ (List.mem_of_getElem? (i := 24) rfl)) (by decide) (rmT3 l Z a0 hw u (0 : Int32) ((0 : Int32) + b0) (((0 : Int32) + b0) + b1) ((((0 : Int32) + b0) + b1) + b2) a1 h0 O0 F1 Y1) 1 (by decide) (by decide) e_ E1 (hsz rfl) [] [(.int (4 : Int32))] pd_0 rfl rfl rfl (Nat.le_of_eq rfl) (hb hby d_prog_10_method_5_6) (by decide) (by decide) (fun Tt19 vt19 Lt19 Xt19 qt19 => ?_)
        obtain ⟨rfl, N20, et19⟩ := qt19
        have N21 := Fr.app N_ N20
        show Goes p e below _ (Tt19.setTop (mkF m 9 #[.val (.ref a1), .val (.double (own_st (own_st (own_st FP.dconst0 (0 : Int32) ((0 : Int32) + b0) (1 : Int32)) ((0 : Int32) + b0) (((0 : Int32) + b0) + b1) (2 : Int32)) (((0 : Int32) + b0) + b1) ((((0 : Int32) + b0) + b1) + b2) (3 : Int32))), .second, .val (.int (4 : Int32))] [(.int (3 : Int32)), (.int (4 : Int32))]))
        refine gIcmpY Xt19 hx (hb hby d_prog_10_method_5_9) (pc' := 48) (XT.ii_gt_t (by decide)) (by decide) (by decide) ?_
        show Goes p e below _ (Tt19.setTop (mkF m 48 #[.val (.ref a1), .val (.double (own_st (own_st (own_st FP.dconst0 (0 : Int32) ((0 : Int32) + b0) (1 : Int32)) ((0 : Int32) + b0) (((0 : Int32) + b0) + b1) (2 : Int32)) (((0 : Int32) + b0) + b1) ((((0 : Int32) + b0) + b1) + b2) (3 : Int32))), .second, .val (.int (4 : Int32))] []))
        refine gDloadN Xt19 hx (hb hby d_prog_10_method_5_48) rfl ?_
        refine gAloadN Xt19 hx (hb hby d_prog_10_method_5_49) rfl rfl ?_
        obtain ⟨Tt22, Xt22, et22, stt22⟩ := getF Xt19 hx hZ hown (host := "") (Or.inl (hw _ (List.mem_of_getElem? (i := 13) rfl))) Via.refl et19 F2 (g := (mkF m 50 #[.val (.ref a1), .val (.double (own_st (own_st (own_st FP.dconst0 (0 : Int32) ((0 : Int32) + b0) (1 : Int32)) ((0 : Int32) + b0) (((0 : Int32) + b0) + b1) (2 : Int32)) (((0 : Int32) + b0) + b1) ((((0 : Int32) + b0) + b1) + b2) (3 : Int32))), .second, .val (.int (4 : Int32))] [(.ref a1), (.double (own_st (own_st (own_st FP.dconst0 (0 : Int32) ((0 : Int32) + b0) (1 : Int32)) ((0 : Int32) + b0) (((0 : Int32) + b0) + b1) (2 : Int32)) (((0 : Int32) + b0) + b1) ((((0 : Int32) + b0) + b1) + b2) (3 : Int32)))])) rfl rfl (hb hby d_prog_10_method_5_50)
        refine go stt22 ?_
        show Goes p e below _ (Tt22.setTop (mkF m 53 #[.val (.ref a1), .val (.double (own_st (own_st (own_st FP.dconst0 (0 : Int32) ((0 : Int32) + b0) (1 : Int32)) ((0 : Int32) + b0) (((0 : Int32) + b0) + b1) (2 : Int32)) (((0 : Int32) + b0) + b1) ((((0 : Int32) + b0) + b1) + b2) (3 : Int32))), .second, .val (.int (4 : Int32))] [(.int p3), (.double (own_st (own_st (own_st FP.dconst0 (0 : Int32) ((0 : Int32) + b0) (1 : Int32)) ((0 : Int32) + b0) (((0 : Int32) + b0) + b1) (2 : Int32)) (((0 : Int32) + b0) + b1) ((((0 : Int32) + b0) + b1) + b2) (3 : Int32)))]))
        refine goCallS Xt22 hx hZ hown (hw _ (List.mem_of_getElem? (i := 25) rfl)) (hw _ (List.mem_of_getElem? (i := 26) rfl)) (hw _ (List.mem_of_getElem? (i := 3) rfl)) (hw _ (List.mem_of_getElem? (i := 27) rfl)) (by decide) (rmR l Z a0 hw (own_st (own_st (own_st FP.dconst0 (0 : Int32) ((0 : Int32) + b0) (1 : Int32)) ((0 : Int32) + b0) (((0 : Int32) + b0) + b1) (2 : Int32)) (((0 : Int32) + b0) + b1) ((((0 : Int32) + b0) + b1) + b2) (3 : Int32)) p3 h0 O0 (own_ns3 b0 b1 b2 hb0 hb1 hb2)) 0 (by decide) (by decide) et22 (hsz rfl) [(.double (own_st (own_st (own_st FP.dconst0 (0 : Int32) ((0 : Int32) + b0) (1 : Int32)) ((0 : Int32) + b0) (((0 : Int32) + b0) + b1) (2 : Int32)) (((0 : Int32) + b0) + b1) ((((0 : Int32) + b0) + b1) + b2) (3 : Int32))), (.int p3)] [] pd_1 rfl rfl rfl (Nat.le_of_eq rfl) (hb hby d_prog_10_method_5_53) (by decide) (by decide) (fun Tt23 vt23 Lt23 Xt23 qt23 => ?_)
        obtain ⟨rfl, N24, et23⟩ := qt23
        have N25 := Fr.app N21 N24
        show Goes p e below _ (Tt23.setTop (mkF m 56 #[.val (.ref a1), .val (.double (own_st (own_st (own_st FP.dconst0 (0 : Int32) ((0 : Int32) + b0) (1 : Int32)) ((0 : Int32) + b0) (((0 : Int32) + b0) + b1) (2 : Int32)) (((0 : Int32) + b0) + b1) ((((0 : Int32) + b0) + b1) + b2) (3 : Int32))), .second, .val (.int (4 : Int32))] [(.double (own_rt (own_st (own_st (own_st FP.dconst0 (0 : Int32) ((0 : Int32) + b0) (1 : Int32)) ((0 : Int32) + b0) (((0 : Int32) + b0) + b1) (2 : Int32)) (((0 : Int32) + b0) + b1) ((((0 : Int32) + b0) + b1) + b2) (3 : Int32)) p3))]))
        exact goRetD Xt23 hx hret hlocks (hb hby d_prog_10_method_5_56) (by decide) (by decide) et23 (⟨rfl, N25, rfl⟩)
      by_cases g : (((0 : Int32) + b0) + b1) < ((((0 : Int32) + b0) + b1) + b2)
      · refine gIcmpN Xt17 hx (hb hby d_prog_10_method_5_26) (XT.ii_le_f g) ?_
        show Goes p e below _ (Tt17.setTop (mkF m 29 #[.val (.ref a1), .val (.double (own_st (own_st FP.dconst0 (0 : Int32) ((0 : Int32) + b0) (1 : Int32)) ((0 : Int32) + b0) (((0 : Int32) + b0) + b1) (2 : Int32))), .second, .val (.int (3 : Int32))] []))
        refine gDloadN Xt17 hx (hb hby d_prog_10_method_5_29) rfl ?_
        refine gAloadN Xt17 hx (hb hby d_prog_10_method_5_30) rfl rfl ?_
        obtain ⟨Tt18, Xt18, et18, stt18⟩ := getF Xt17 hx hZ hown (host := "") (Or.inl (hw _ (List.mem_of_getElem? (i := 11) rfl))) Via.refl et17 F1 (g := (mkF m 31 #[.val (.ref a1), .val (.double (own_st (own_st FP.dconst0 (0 : Int32) ((0 : Int32) + b0) (1 : Int32)) ((0 : Int32) + b0) (((0 : Int32) + b0) + b1) (2 : Int32))), .second, .val (.int (3 : Int32))] [(.ref a1), (.double (own_st (own_st FP.dconst0 (0 : Int32) ((0 : Int32) + b0) (1 : Int32)) ((0 : Int32) + b0) (((0 : Int32) + b0) + b1) (2 : Int32)))])) rfl rfl (hb hby d_prog_10_method_5_31)
        refine go stt18 ?_
        show Goes p e below _ (Tt18.setTop (mkF m 34 #[.val (.ref a1), .val (.double (own_st (own_st FP.dconst0 (0 : Int32) ((0 : Int32) + b0) (1 : Int32)) ((0 : Int32) + b0) (((0 : Int32) + b0) + b1) (2 : Int32))), .second, .val (.int (3 : Int32))] [(.ref u), (.double (own_st (own_st FP.dconst0 (0 : Int32) ((0 : Int32) + b0) (1 : Int32)) ((0 : Int32) + b0) (((0 : Int32) + b0) + b1) (2 : Int32)))]))
        refine gIloadN Xt18 hx (hb hby d_prog_10_method_5_34) rfl ?_
        refine goIaload Xt18 hx hZ et18 Y1 (x := ((((0 : Int32) + b0) + b1) + b2)) (hb hby d_prog_10_method_5_35) (by decide) rfl ?_
        refine gI2d Xt18 hx (hb hby d_prog_10_method_5_36) ?_
        refine gIloadN Xt18 hx (hb hby d_prog_10_method_5_37) rfl ?_
        refine gI2d Xt18 hx (hb hby d_prog_10_method_5_38) ?_
        refine gDdiv Xt18 hx (hb hby d_prog_10_method_5_39) (own_qa3 b0 b1 b2 hb0 hb1 hb2) ?_
        refine gDadd Xt18 hx (hb hby d_prog_10_method_5_40) (own_da3 b0 b1 b2 hb0 hb1 hb2) ?_
        show Goes p e below _ (Tt18.setTop (mkF m 41 #[.val (.ref a1), .val (.double (own_st (own_st FP.dconst0 (0 : Int32) ((0 : Int32) + b0) (1 : Int32)) ((0 : Int32) + b0) (((0 : Int32) + b0) + b1) (2 : Int32))), .second, .val (.int (3 : Int32))] [(.double (FP.dadd (own_st (own_st FP.dconst0 (0 : Int32) ((0 : Int32) + b0) (1 : Int32)) ((0 : Int32) + b0) (((0 : Int32) + b0) + b1) (2 : Int32)) (FP.ddiv (FP.i2d ((((0 : Int32) + b0) + b1) + b2)) (FP.i2d (3 : Int32)))))]))
        refine gDstoreN Xt18 hx (hb hby d_prog_10_method_5_41) (l' := #[.val (.ref a1), .val (.double (FP.dadd (own_st (own_st FP.dconst0 (0 : Int32) ((0 : Int32) + b0) (1 : Int32)) ((0 : Int32) + b0) (((0 : Int32) + b0) + b1) (2 : Int32)) (FP.ddiv (FP.i2d ((((0 : Int32) + b0) + b1) + b2)) (FP.i2d (3 : Int32))))), .second, .val (.int (3 : Int32))]) rfl ?_
        exact J3 _ Tt18 _ (if_pos g).symm Xt18 et18 N15
      · refine gIcmpY Xt17 hx (hb hby d_prog_10_method_5_26) (pc' := 42) (XT.ii_le_t g) (by decide) (by decide) ?_
        show Goes p e below _ (Tt17.setTop (mkF m 42 #[.val (.ref a1), .val (.double (own_st (own_st FP.dconst0 (0 : Int32) ((0 : Int32) + b0) (1 : Int32)) ((0 : Int32) + b0) (((0 : Int32) + b0) + b1) (2 : Int32))), .second, .val (.int (3 : Int32))] []))
        exact J3 _ Tt17 _ (if_neg g).symm Xt17 et17 N15
    by_cases g : ((0 : Int32) + b0) < (((0 : Int32) + b0) + b1)
    · refine gIcmpN Xt11 hx (hb hby d_prog_10_method_5_26) (XT.ii_le_f g) ?_
      show Goes p e below _ (Tt11.setTop (mkF m 29 #[.val (.ref a1), .val (.double (own_st FP.dconst0 (0 : Int32) ((0 : Int32) + b0) (1 : Int32))), .second, .val (.int (2 : Int32))] []))
      refine gDloadN Xt11 hx (hb hby d_prog_10_method_5_29) rfl ?_
      refine gAloadN Xt11 hx (hb hby d_prog_10_method_5_30) rfl rfl ?_
      obtain ⟨Tt12, Xt12, et12, stt12⟩ := getF Xt11 hx hZ hown (host := "") (Or.inl (hw _ (List.mem_of_getElem? (i := 11) rfl))) Via.refl et11 F1 (g := (mkF m 31 #[.val (.ref a1), .val (.double (own_st FP.dconst0 (0 : Int32) ((0 : Int32) + b0) (1 : Int32))), .second, .val (.int (2 : Int32))] [(.ref a1), (.double (own_st FP.dconst0 (0 : Int32) ((0 : Int32) + b0) (1 : Int32)))])) rfl rfl (hb hby d_prog_10_method_5_31)
      refine go stt12 ?_
      show Goes p e below _ (Tt12.setTop (mkF m 34 #[.val (.ref a1), .val (.double (own_st FP.dconst0 (0 : Int32) ((0 : Int32) + b0) (1 : Int32))), .second, .val (.int (2 : Int32))] [(.ref u), (.double (own_st FP.dconst0 (0 : Int32) ((0 : Int32) + b0) (1 : Int32)))]))
      refine gIloadN Xt12 hx (hb hby d_prog_10_method_5_34) rfl ?_
      refine goIaload Xt12 hx hZ et12 Y1 (x := (((0 : Int32) + b0) + b1)) (hb hby d_prog_10_method_5_35) (by decide) rfl ?_
      refine gI2d Xt12 hx (hb hby d_prog_10_method_5_36) ?_
      refine gIloadN Xt12 hx (hb hby d_prog_10_method_5_37) rfl ?_
      refine gI2d Xt12 hx (hb hby d_prog_10_method_5_38) ?_
      refine gDdiv Xt12 hx (hb hby d_prog_10_method_5_39) (own_qa2 b0 b1 hb0 hb1) ?_
      refine gDadd Xt12 hx (hb hby d_prog_10_method_5_40) (own_da2 b0 b1 hb0 hb1) ?_
      show Goes p e below _ (Tt12.setTop (mkF m 41 #[.val (.ref a1), .val (.double (own_st FP.dconst0 (0 : Int32) ((0 : Int32) + b0) (1 : Int32))), .second, .val (.int (2 : Int32))] [(.double (FP.dadd (own_st FP.dconst0 (0 : Int32) ((0 : Int32) + b0) (1 : Int32)) (FP.ddiv (FP.i2d (((0 : Int32) + b0) + b1)) (FP.i2d (2 : Int32)))))]))
      refine gDstoreN Xt12 hx (hb hby d_prog_10_method_5_41) (l' := #[.val (.ref a1), .val (.double (FP.dadd (own_st FP.dconst0 (0 : Int32) ((0 : Int32) + b0) (1 : Int32)) (FP.ddiv (FP.i2d (((0 : Int32) + b0) + b1)) (FP.i2d (2 : Int32))))), .second, .val (.int (2 : Int32))]) rfl ?_
      exact J2 _ Tt12 _ (if_pos g).symm Xt12 et12 N9
    · refine gIcmpY Xt11 hx (hb hby d_prog_10_method_5_26) (pc' := 42) (XT.ii_le_t g) (by decide) (by decide) ?_
      show Goes p e below _ (Tt11.setTop (mkF m 42 #[.val (.ref a1), .val (.double (own_st FP.dconst0 (0 : Int32) ((0 : Int32) + b0) (1 : Int32))), .second, .val (.int (2 : Int32))] []))
      exact J2 _ Tt11 _ (if_neg g).symm Xt11 et11 N9
  by_cases g : (0 : Int32) < ((0 : Int32) + b0)
  · refine gIcmpN Xt5 hx (hb hby d_prog_10_method_5_26) (XT.ii_le_f g) ?_
    show Goes p e below _ (Tt5.setTop (mkF m 29 #[.val (.ref a1), .val (.double FP.dconst0), .second, .val (.int (1 : Int32))] []))
    refine gDloadN Xt5 hx (hb hby d_prog_10_method_5_29) rfl ?_
    refine gAloadN Xt5 hx (hb hby d_prog_10_method_5_30) rfl rfl ?_
    obtain ⟨Tt6, Xt6, et6, stt6⟩ := getF Xt5 hx hZ hown (host := "") (Or.inl (hw _ (List.mem_of_getElem? (i := 11) rfl))) Via.refl et5 F1 (g := (mkF m 31 #[.val (.ref a1), .val (.double FP.dconst0), .second, .val (.int (1 : Int32))] [(.ref a1), (.double FP.dconst0)])) rfl rfl (hb hby d_prog_10_method_5_31)
    refine go stt6 ?_
    show Goes p e below _ (Tt6.setTop (mkF m 34 #[.val (.ref a1), .val (.double FP.dconst0), .second, .val (.int (1 : Int32))] [(.ref u), (.double FP.dconst0)]))
    refine gIloadN Xt6 hx (hb hby d_prog_10_method_5_34) rfl ?_
    refine goIaload Xt6 hx hZ et6 Y1 (x := ((0 : Int32) + b0)) (hb hby d_prog_10_method_5_35) (by decide) rfl ?_
    refine gI2d Xt6 hx (hb hby d_prog_10_method_5_36) ?_
    refine gIloadN Xt6 hx (hb hby d_prog_10_method_5_37) rfl ?_
    refine gI2d Xt6 hx (hb hby d_prog_10_method_5_38) ?_
    refine gDdiv Xt6 hx (hb hby d_prog_10_method_5_39) (own_qa1 b0 hb0) ?_
    refine gDadd Xt6 hx (hb hby d_prog_10_method_5_40) (own_da1 b0 hb0) ?_
    show Goes p e below _ (Tt6.setTop (mkF m 41 #[.val (.ref a1), .val (.double FP.dconst0), .second, .val (.int (1 : Int32))] [(.double (FP.dadd FP.dconst0 (FP.ddiv (FP.i2d ((0 : Int32) + b0)) (FP.i2d (1 : Int32)))))]))
    refine gDstoreN Xt6 hx (hb hby d_prog_10_method_5_41) (l' := #[.val (.ref a1), .val (.double (FP.dadd FP.dconst0 (FP.ddiv (FP.i2d ((0 : Int32) + b0)) (FP.i2d (1 : Int32))))), .second, .val (.int (1 : Int32))]) rfl ?_
    exact J1 _ Tt6 _ (if_pos g).symm Xt6 et6 N3
  · refine gIcmpY Xt5 hx (hb hby d_prog_10_method_5_26) (pc' := 42) (XT.ii_le_t g) (by decide) (by decide) ?_
    show Goes p e below _ (Tt5.setTop (mkF m 42 #[.val (.ref a1), .val (.double FP.dconst0), .second, .val (.int (1 : Int32))] []))
    exact J1 _ Tt5 _ (if_neg g).symm Xt5 et5 N3
theorem ef_rmI4 (m : MethodId) (x0 : Addr) (x1 : Addr) (x2 : Int32) : entryFrame m #[(.ref x0), (.ref x1), (.int x2)] 4 = mkF m 0 #[.val (.ref x0), .val (.ref x1), .val (.int x2), .unset] [] := by first | (simp [entryFrame, mkF, argsToLocals, Value.category]; done) | rfl
set_option maxRecDepth 65536 in
set_option maxHeartbeats 40000000 in
theorem rmI4 (l : Launch) (Z : State) (a0 : Array Value) (hw : ∀ d ∈ tables_1, d.before a0 Z = true) (b0 b1 b2 b3 : Int32) (a1 : Addr) (a2 : Addr) (p3 : Int32) (h0 : Heap) (O0 : Ext Z.heap h0) (E1 : Exa Z h0 a1 "com/example/almaden/almaden/eval/JudgedRanking") (F1 : Fld Z h0 a1 "com/example/almaden/almaden/eval/JudgedRanking" "relevantWithin" "[I" .null) (F2 : Fld Z h0 a1 "com/example/almaden/almaden/eval/JudgedRanking" "relevant" "I" (.int (0 : Int32))) (Y2 : Ary Z h0 a2 .boolean [(.int b0), (.int b1), (.int b2), (.int b3)]) (ne : a1 ≠ a2) (fr1 : Z.heap.size ≤ a1) (hb0 : b0 = 0 ∨ b0 = 1) (hb1 : b1 = 0 ∨ b1 = 1) (hb2 : b2 = 0 ∨ b2 = 1) (hb3 : b3 = 0 ∨ b3 = 1) :
    Ctr l Z (⟨"com/example/almaden/almaden/eval/JudgedRanking", "<init>", "([ZI)V"⟩ : MethodName) prog_10_method_1_code 4 none [] ({ frames := 1, cells := 1, slots := 5, locals := 13 } : Room) #[(.ref a1), (.ref a2), (.int p3)] h0 (fun v h L => v = none ∧ Fr Z.heap.size L ∧ Keep h0 h [a1] ∧ ∃ u, h0.size ≤ u ∧ Fld Z h a1 "com/example/almaden/almaden/eval/JudgedRanking" "relevantWithin" "[I" (.ref u) ∧ Fld Z h a1 "com/example/almaden/almaden/eval/JudgedRanking" "relevant" "I" (.int p3) ∧ Ary Z h u .int [(.int (0 : Int32)), (.int ((0 : Int32) + b0)), (.int (((0 : Int32) + b0) + b1)), (.int ((((0 : Int32) + b0) + b1) + b2)), (.int (((((0 : Int32) + b0) + b1) + b2) + b3))]) := by
  refine ctr (plainFor_of_name pn_0) ?_
  intro p e s m below meth c s₁ hx hby hml hown hnm hret hlocks hZ X0 e0
  have N0 := Fr.nil Z.heap.size
  have hsz : ∀ {Ls : Array Slot}, Ls.size = 4 → Ls.size = c.maxLocals := fun q => q.trans hml.symm
  have K0 := Keep.refl h0 [a1]
  refine goE (ef_rmI4 m (a1) (a2) (p3)) ?_
  show Goes p e below _ (s₁.setTop (mkF m 0 #[.val (.ref a1), .val (.ref a2), .val (.int p3), .unset] []))
  refine gAloadN X0 hx (hb hby d_prog_10_method_1_0) rfl rfl ?_
  obtain ⟨Tt1, Xt1, et1, stt1⟩ := initO X0 hx hZ hown (hw _ (List.mem_of_getElem? (i := 7) rfl)) (hw _ (List.mem_of_getElem? (i := 8) rfl)) (hw _ (List.mem_of_getElem? (i := 9) rfl)) e0 (g := (mkF m 1 #[.val (.ref a1), .val (.ref a2), .val (.int p3), .unset] [(.ref a1)])) rfl (by rw [hml]; rfl) rfl (hb hby d_prog_10_method_1_1) (by decide) (W := 0) (Nat.le_of_eq rfl) (by decide)
  refine go stt1 ?_
  show Goes p e below _ (Tt1.setTop (mkF m 4 #[.val (.ref a1), .val (.ref a2), .val (.int p3), .unset] []))
  refine gAloadN Xt1 hx (hb hby d_prog_10_method_1_4) rfl rfl ?_
  refine gAloadN Xt1 hx (hb hby d_prog_10_method_1_5) rfl rfl ?_
  refine goAlen Xt1 hx hZ et1 Y2 (n := (4 : Int32)) (hb hby d_prog_10_method_1_6) rfl ?_
  refine gIconst Xt1 hx (hb hby d_prog_10_method_1_7) (v := (1 : Int32)) rfl ?_
  refine gIadd Xt1 hx (hb hby d_prog_10_method_1_8) ?_
  obtain ⟨Tt2, ht2, kt2, Xt2, et2, Et2, At2, stt2⟩ := newP Xt1 hx hZ (hw _ (List.mem_of_getElem? (i := 10) rfl)) et1 (g := (mkF m 9 #[.val (.ref a1), .val (.ref a2), .val (.int p3), .unset] [(.int (5 : Int32)), (.ref a1)])) rfl (hb hby d_prog_10_method_1_9) rfl (by decide) (cap := 5) (by decide) (by decide) (by decide) (by decide)
  obtain ⟨ob3, gob3⟩ : ∃ z, z = h0.size := ⟨_, rfl⟩
  rw [← gob3] at At2 stt2
  refine go stt2 ?_
  have ne_a1_ob3 : a1 ≠ ob3 := Nat.ne_of_lt (gob3 ▸ E1.lt)
  have ne_a2_ob3 : a2 ≠ ob3 := Nat.ne_of_lt (gob3 ▸ Y2.lt)
  have fr_ob3 : Z.heap.size ≤ ob3 := gob3 ▸ O0.1
  have pa_ob3 : h0.size ≤ ob3 := gob3 ▸ K0.1
  replace E1 := E1.ext Et2
  replace F1 := F1.ext Et2
  replace F2 := F2.ext Et2
  replace Y2 := Y2.ext Et2
  have O4 : Ext Z.heap ht2 := extT O0 Et2
  have K5 := K0.ext Et2
  have Y_ob3 : Ary Z ht2 ob3 .int [(.int (0 : Int32)), (.int (0 : Int32)), (.int (0 : Int32)), (.int (0 : Int32)), (.int (0 : Int32))] := Ary.new At2 rfl (by decide)
  show Goes p e below _ (Tt2.setTop (mkF m 11 #[.val (.ref a1), .val (.ref a2), .val (.int p3), .unset] [(.ref ob3), (.ref a1)]))
  obtain ⟨Tt6, ht6, Xt6, et6, Wt6, stt6⟩ := putF Xt2 hx hZ hown (host := "") (Or.inl (hw _ (List.mem_of_getElem? (i := 11) rfl))) Via.refl et2 F1 E1 (Or.inr ⟨(hw _ (List.mem_of_getElem? (i := 12) rfl)), rfl, hnm⟩) (hw _ (List.mem_of_getElem? (i := 2) rfl)) (ty := (.array .int)) (by decide) rfl rfl (g := (mkF m 11 #[.val (.ref a1), .val (.ref a2), .val (.int p3), .unset] [(.ref ob3), (.ref a1)])) rfl rfl (hb hby d_prog_10_method_1_11)
  refine go stt6 ?_
  have N7 := Fr.snoc Xt6 N0 fr1
  replace F1 := F1.same Wt6
  replace E1 := E1.wr Wt6
  replace F2 := F2.other Wt6 (Or.inr (slot_ne (Or.inr (hw _ (List.mem_of_getElem? (i := 14) rfl))) (Or.inr (hw _ (List.mem_of_getElem? (i := 12) rfl))) (by decide) (t := .int) (by decide) (t' := (.array .int)) (by decide)))
  replace Y2 := Y2.other Wt6 (Ne.symm ne)
  replace Y_ob3 := Y_ob3.other Wt6 (Ne.symm ne_a1_ob3)
  have O8 : Ext Z.heap ht6 := extW O4 Wt6 fr1
  have K9 := K5.wr Wt6 (Or.inl (by simp))
  show Goes p e below _ (Tt6.setTop (mkF m 14 #[.val (.ref a1), .val (.ref a2), .val (.int p3), .unset] []))
  refine gIconst Xt6 hx (hb hby d_prog_10_method_1_14) (v := (0 : Int32)) rfl ?_
  refine gIstoreN Xt6 hx (hb hby d_prog_10_method_1_15) (l' := #[.val (.ref a1), .val (.ref a2), .val (.int p3), .val (.int (0 : Int32))]) rfl ?_
  refine gIloadN Xt6 hx (hb hby d_prog_10_method_1_16) rfl ?_
  refine gAloadN Xt6 hx (hb hby d_prog_10_method_1_17) rfl rfl ?_
  refine goAlen Xt6 hx hZ et6 Y2 (n := (4 : Int32)) (hb hby d_prog_10_method_1_18) rfl ?_
  refine gIcmpN Xt6 hx (hb hby d_prog_10_method_1_19) (XT.ii_ge_f (by decide)) ?_
  show Goes p e below _ (Tt6.setTop (mkF m 22 #[.val (.ref a1), .val (.ref a2), .val (.int p3), .val (.int (0 : Int32))] []))
  refine gAloadN Xt6 hx (hb hby d_prog_10_method_1_22) rfl rfl ?_
  obtain ⟨Tt10, Xt10, et10, stt10⟩ := getF Xt6 hx hZ hown (host := "") (Or.inl (hw _ (List.mem_of_getElem? (i := 11) rfl))) Via.refl et6 F1 (g := (mkF m 23 #[.val (.ref a1), .val (.ref a2), .val (.int p3), .val (.int (0 : Int32))] [(.ref a1)])) rfl rfl (hb hby d_prog_10_method_1_23)
  refine go stt10 ?_
  show Goes p e below _ (Tt10.setTop (mkF m 26 #[.val (.ref a1), .val (.ref a2), .val (.int p3), .val (.int (0 : Int32))] [(.ref ob3)]))
  refine gIloadN Xt10 hx (hb hby d_prog_10_method_1_26) rfl ?_
  refine gIconst Xt10 hx (hb hby d_prog_10_method_1_27) (v := (1 : Int32)) rfl ?_
  refine gIadd Xt10 hx (hb hby d_prog_10_method_1_28) ?_
  refine gAloadN Xt10 hx (hb hby d_prog_10_method_1_29) rfl rfl ?_
  obtain ⟨Tt11, Xt11, et11, stt11⟩ := getF Xt10 hx hZ hown (host := "") (Or.inl (hw _ (List.mem_of_getElem? (i := 11) rfl))) Via.refl et10 F1 (g := (mkF m 30 #[.val (.ref a1), .val (.ref a2), .val (.int p3), .val (.int (0 : Int32))] [(.ref a1), (.int (1 : Int32)), (.ref ob3)])) rfl rfl (hb hby d_prog_10_method_1_30)
  refine go stt11 ?_
  show Goes p e below _ (Tt11.setTop (mkF m 33 #[.val (.ref a1), .val (.ref a2), .val (.int p3), .val (.int (0 : Int32))] [(.ref ob3), (.int (1 : Int32)), (.ref ob3)]))
  refine gIloadN Xt11 hx (hb hby d_prog_10_method_1_33) rfl ?_
  refine goIaload Xt11 hx hZ et11 Y_ob3 (x := (0 : Int32)) (hb hby d_prog_10_method_1_34) (by decide) rfl ?_
  refine gAloadN Xt11 hx (hb hby d_prog_10_method_1_35) rfl rfl ?_
  refine gIloadN Xt11 hx (hb hby d_prog_10_method_1_36) rfl ?_
  refine goZaload Xt11 hx hZ et11 Y2 (x := b0) (hb hby d_prog_10_method_1_37) (by decide) rfl ?_
  have J0 : ∀ (z0_ : Int32), b0 = z0_ → Goes p e below (EndN s (fun v h L => v = none ∧ Fr Z.heap.size L ∧ Keep h0 h [a1] ∧ ∃ u, h0.size ≤ u ∧ Fld Z h a1 "com/example/almaden/almaden/eval/JudgedRanking" "relevantWithin" "[I" (.ref u) ∧ Fld Z h a1 "com/example/almaden/almaden/eval/JudgedRanking" "relevant" "I" (.int p3) ∧ Ary Z h u .int [(.int (0 : Int32)), (.int ((0 : Int32) + b0)), (.int (((0 : Int32) + b0) + b1)), (.int ((((0 : Int32) + b0) + b1) + b2)), (.int (((((0 : Int32) + b0) + b1) + b2) + b3))]) ({ frames := 1, cells := 1, slots := 5, locals := 13 } : Room).cells ({ frames := 1, cells := 1, slots := 5, locals := 13 } : Room).slots) (Tt11.setTop (mkF m 46 #[.val (.ref a1), .val (.ref a2), .val (.int p3), .val (.int (0 : Int32))] [(.int z0_), (.int (0 : Int32)), (.int (1 : Int32)), (.ref ob3)])) := by
    intro z0_ hz
    subst hz
    show Goes p e below _ (Tt11.setTop (mkF m 46 #[.val (.ref a1), .val (.ref a2), .val (.int p3), .val (.int (0 : Int32))] [(.int b0), (.int (0 : Int32)), (.int (1 : Int32)), (.ref ob3)]))
    refine gIadd Xt11 hx (hb hby d_prog_10_method_1_46) ?_
    refine goIastore Xt11 hx hZ et11 Y_ob3 (hb hby d_prog_10_method_1_47) (by decide) rfl (fun Tt12 ht12 Xt12 et12 Wt12 => ?_)
    have N13 := Fr.snoc Xt12 N7 fr_ob3
    replace Y_ob3 : Ary Z ht12 ob3 .int [(.int (0 : Int32)), (.int ((0 : Int32) + b0)), (.int (0 : Int32)), (.int (0 : Int32)), (.int (0 : Int32))] := Y_ob3.set Wt12 rfl
    replace E1 := E1.wr Wt12
    replace F1 := F1.other Wt12 (Or.inl ne_a1_ob3)
    replace F2 := F2.other Wt12 (Or.inl ne_a1_ob3)
    replace Y2 := Y2.other Wt12 ne_a2_ob3
    have O14 : Ext Z.heap ht12 := extW O8 Wt12 fr_ob3
    have K15 := K9.wr Wt12 (Or.inr pa_ob3)
    show Goes p e below _ (Tt12.setTop (mkF m 48 #[.val (.ref a1), .val (.ref a2), .val (.int p3), .val (.int (0 : Int32))] []))
    refine gIinc Xt12 hx (hb hby d_prog_10_method_1_48) (v := (1 : Int32)) rfl rfl (l' := #[.val (.ref a1), .val (.ref a2), .val (.int p3), .val (.int (1 : Int32))]) rfl ?_
    refine gGoto Xt12 hx (hb hby d_prog_10_method_1_51) (pc' := 16) (by decide) (by decide) ?_
    show Goes p e below _ (Tt12.setTop (mkF m 16 #[.val (.ref a1), .val (.ref a2), .val (.int p3), .val (.int (1 : Int32))] []))
    refine gIloadN Xt12 hx (hb hby d_prog_10_method_1_16) rfl ?_
    refine gAloadN Xt12 hx (hb hby d_prog_10_method_1_17) rfl rfl ?_
    refine goAlen Xt12 hx hZ et12 Y2 (n := (4 : Int32)) (hb hby d_prog_10_method_1_18) rfl ?_
    refine gIcmpN Xt12 hx (hb hby d_prog_10_method_1_19) (XT.ii_ge_f (by decide)) ?_
    show Goes p e below _ (Tt12.setTop (mkF m 22 #[.val (.ref a1), .val (.ref a2), .val (.int p3), .val (.int (1 : Int32))] []))
    refine gAloadN Xt12 hx (hb hby d_prog_10_method_1_22) rfl rfl ?_
    obtain ⟨Tt16, Xt16, et16, stt16⟩ := getF Xt12 hx hZ hown (host := "") (Or.inl (hw _ (List.mem_of_getElem? (i := 11) rfl))) Via.refl et12 F1 (g := (mkF m 23 #[.val (.ref a1), .val (.ref a2), .val (.int p3), .val (.int (1 : Int32))] [(.ref a1)])) rfl rfl (hb hby d_prog_10_method_1_23)
    refine go stt16 ?_
    show Goes p e below _ (Tt16.setTop (mkF m 26 #[.val (.ref a1), .val (.ref a2), .val (.int p3), .val (.int (1 : Int32))] [(.ref ob3)]))
    refine gIloadN Xt16 hx (hb hby d_prog_10_method_1_26) rfl ?_
    refine gIconst Xt16 hx (hb hby d_prog_10_method_1_27) (v := (1 : Int32)) rfl ?_
    refine gIadd Xt16 hx (hb hby d_prog_10_method_1_28) ?_
    refine gAloadN Xt16 hx (hb hby d_prog_10_method_1_29) rfl rfl ?_
    obtain ⟨Tt17, Xt17, et17, stt17⟩ := getF Xt16 hx hZ hown (host := "") (Or.inl (hw _ (List.mem_of_getElem? (i := 11) rfl))) Via.refl et16 F1 (g := (mkF m 30 #[.val (.ref a1), .val (.ref a2), .val (.int p3), .val (.int (1 : Int32))] [(.ref a1), (.int (2 : Int32)), (.ref ob3)])) rfl rfl (hb hby d_prog_10_method_1_30)
    refine go stt17 ?_
    show Goes p e below _ (Tt17.setTop (mkF m 33 #[.val (.ref a1), .val (.ref a2), .val (.int p3), .val (.int (1 : Int32))] [(.ref ob3), (.int (2 : Int32)), (.ref ob3)]))
    refine gIloadN Xt17 hx (hb hby d_prog_10_method_1_33) rfl ?_
    refine goIaload Xt17 hx hZ et17 Y_ob3 (x := ((0 : Int32) + b0)) (hb hby d_prog_10_method_1_34) (by decide) rfl ?_
    refine gAloadN Xt17 hx (hb hby d_prog_10_method_1_35) rfl rfl ?_
    refine gIloadN Xt17 hx (hb hby d_prog_10_method_1_36) rfl ?_
    refine goZaload Xt17 hx hZ et17 Y2 (x := b1) (hb hby d_prog_10_method_1_37) (by decide) rfl ?_
    have J1 : ∀ (z1_ : Int32), b1 = z1_ → Goes p e below (EndN s (fun v h L => v = none ∧ Fr Z.heap.size L ∧ Keep h0 h [a1] ∧ ∃ u, h0.size ≤ u ∧ Fld Z h a1 "com/example/almaden/almaden/eval/JudgedRanking" "relevantWithin" "[I" (.ref u) ∧ Fld Z h a1 "com/example/almaden/almaden/eval/JudgedRanking" "relevant" "I" (.int p3) ∧ Ary Z h u .int [(.int (0 : Int32)), (.int ((0 : Int32) + b0)), (.int (((0 : Int32) + b0) + b1)), (.int ((((0 : Int32) + b0) + b1) + b2)), (.int (((((0 : Int32) + b0) + b1) + b2) + b3))]) ({ frames := 1, cells := 1, slots := 5, locals := 13 } : Room).cells ({ frames := 1, cells := 1, slots := 5, locals := 13 } : Room).slots) (Tt17.setTop (mkF m 46 #[.val (.ref a1), .val (.ref a2), .val (.int p3), .val (.int (1 : Int32))] [(.int z1_), (.int ((0 : Int32) + b0)), (.int (2 : Int32)), (.ref ob3)])) := by
      intro z1_ hz
      subst hz
      show Goes p e below _ (Tt17.setTop (mkF m 46 #[.val (.ref a1), .val (.ref a2), .val (.int p3), .val (.int (1 : Int32))] [(.int b1), (.int ((0 : Int32) + b0)), (.int (2 : Int32)), (.ref ob3)]))
      refine gIadd Xt17 hx (hb hby d_prog_10_method_1_46) ?_
      refine goIastore Xt17 hx hZ et17 Y_ob3 (hb hby d_prog_10_method_1_47) (by decide) rfl (fun Tt18 ht18 Xt18 et18 Wt18 => ?_)
      have N19 := Fr.snoc Xt18 N13 fr_ob3
      replace Y_ob3 : Ary Z ht18 ob3 .int [(.int (0 : Int32)), (.int ((0 : Int32) + b0)), (.int (((0 : Int32) + b0) + b1)), (.int (0 : Int32)), (.int (0 : Int32))] := Y_ob3.set Wt18 rfl
      replace E1 := E1.wr Wt18
      replace F1 := F1.other Wt18 (Or.inl ne_a1_ob3)
      replace F2 := F2.other Wt18 (Or.inl ne_a1_ob3)
      replace Y2 := Y2.other Wt18 ne_a2_ob3
      have O20 : Ext Z.heap ht18 := extW O14 Wt18 fr_ob3
      have K21 := K15.wr Wt18 (Or.inr pa_ob3)
      show Goes p e below _ (Tt18.setTop (mkF m 48 #[.val (.ref a1), .val (.ref a2), .val (.int p3), .val (.int (1 : Int32))] []))
      refine gIinc Xt18 hx (hb hby d_prog_10_method_1_48) (v := (2 : Int32)) rfl rfl (l' := #[.val (.ref a1), .val (.ref a2), .val (.int p3), .val (.int (2 : Int32))]) rfl ?_
      refine gGoto Xt18 hx (hb hby d_prog_10_method_1_51) (pc' := 16) (by decide) (by decide) ?_
      show Goes p e below _ (Tt18.setTop (mkF m 16 #[.val (.ref a1), .val (.ref a2), .val (.int p3), .val (.int (2 : Int32))] []))
      refine gIloadN Xt18 hx (hb hby d_prog_10_method_1_16) rfl ?_
      refine gAloadN Xt18 hx (hb hby d_prog_10_method_1_17) rfl rfl ?_
      refine goAlen Xt18 hx hZ et18 Y2 (n := (4 : Int32)) (hb hby d_prog_10_method_1_18) rfl ?_
      refine gIcmpN Xt18 hx (hb hby d_prog_10_method_1_19) (XT.ii_ge_f (by decide)) ?_
      show Goes p e below _ (Tt18.setTop (mkF m 22 #[.val (.ref a1), .val (.ref a2), .val (.int p3), .val (.int (2 : Int32))] []))
      refine gAloadN Xt18 hx (hb hby d_prog_10_method_1_22) rfl rfl ?_
      obtain ⟨Tt22, Xt22, et22, stt22⟩ := getF Xt18 hx hZ hown (host := "") (Or.inl (hw _ (List.mem_of_getElem? (i := 11) rfl))) Via.refl et18 F1 (g := (mkF m 23 #[.val (.ref a1), .val (.ref a2), .val (.int p3), .val (.int (2 : Int32))] [(.ref a1)])) rfl rfl (hb hby d_prog_10_method_1_23)
      refine go stt22 ?_
      show Goes p e below _ (Tt22.setTop (mkF m 26 #[.val (.ref a1), .val (.ref a2), .val (.int p3), .val (.int (2 : Int32))] [(.ref ob3)]))
      refine gIloadN Xt22 hx (hb hby d_prog_10_method_1_26) rfl ?_
      refine gIconst Xt22 hx (hb hby d_prog_10_method_1_27) (v := (1 : Int32)) rfl ?_
      refine gIadd Xt22 hx (hb hby d_prog_10_method_1_28) ?_
      refine gAloadN Xt22 hx (hb hby d_prog_10_method_1_29) rfl rfl ?_
      obtain ⟨Tt23, Xt23, et23, stt23⟩ := getF Xt22 hx hZ hown (host := "") (Or.inl (hw _ (List.mem_of_getElem? (i := 11) rfl))) Via.refl et22 F1 (g := (mkF m 30 #[.val (.ref a1), .val (.ref a2), .val (.int p3), .val (.int (2 : Int32))] [(.ref a1), (.int (3 : Int32)), (.ref ob3)])) rfl rfl (hb hby d_prog_10_method_1_30)
      refine go stt23 ?_
      show Goes p e below _ (Tt23.setTop (mkF m 33 #[.val (.ref a1), .val (.ref a2), .val (.int p3), .val (.int (2 : Int32))] [(.ref ob3), (.int (3 : Int32)), (.ref ob3)]))
      refine gIloadN Xt23 hx (hb hby d_prog_10_method_1_33) rfl ?_
      refine goIaload Xt23 hx hZ et23 Y_ob3 (x := (((0 : Int32) + b0) + b1)) (hb hby d_prog_10_method_1_34) (by decide) rfl ?_
      refine gAloadN Xt23 hx (hb hby d_prog_10_method_1_35) rfl rfl ?_
      refine gIloadN Xt23 hx (hb hby d_prog_10_method_1_36) rfl ?_
      refine goZaload Xt23 hx hZ et23 Y2 (x := b2) (hb hby d_prog_10_method_1_37) (by decide) rfl ?_
      have J2 : ∀ (z2_ : Int32), b2 = z2_ → Goes p e below (EndN s (fun v h L => v = none ∧ Fr Z.heap.size L ∧ Keep h0 h [a1] ∧ ∃ u, h0.size ≤ u ∧ Fld Z h a1 "com/example/almaden/almaden/eval/JudgedRanking" "relevantWithin" "[I" (.ref u) ∧ Fld Z h a1 "com/example/almaden/almaden/eval/JudgedRanking" "relevant" "I" (.int p3) ∧ Ary Z h u .int [(.int (0 : Int32)), (.int ((0 : Int32) + b0)), (.int (((0 : Int32) + b0) + b1)), (.int ((((0 : Int32) + b0) + b1) + b2)), (.int (((((0 : Int32) + b0) + b1) + b2) + b3))]) ({ frames := 1, cells := 1, slots := 5, locals := 13 } : Room).cells ({ frames := 1, cells := 1, slots := 5, locals := 13 } : Room).slots) (Tt23.setTop (mkF m 46 #[.val (.ref a1), .val (.ref a2), .val (.int p3), .val (.int (2 : Int32))] [(.int z2_), (.int (((0 : Int32) + b0) + b1)), (.int (3 : Int32)), (.ref ob3)])) := by
        intro z2_ hz
        subst hz
        show Goes p e below _ (Tt23.setTop (mkF m 46 #[.val (.ref a1), .val (.ref a2), .val (.int p3), .val (.int (2 : Int32))] [(.int b2), (.int (((0 : Int32) + b0) + b1)), (.int (3 : Int32)), (.ref ob3)]))
        refine gIadd Xt23 hx (hb hby d_prog_10_method_1_46) ?_
        refine goIastore Xt23 hx hZ et23 Y_ob3 (hb hby d_prog_10_method_1_47) (by decide) rfl (fun Tt24 ht24 Xt24 et24 Wt24 => ?_)
        have N25 := Fr.snoc Xt24 N19 fr_ob3
        replace Y_ob3 : Ary Z ht24 ob3 .int [(.int (0 : Int32)), (.int ((0 : Int32) + b0)), (.int (((0 : Int32) + b0) + b1)), (.int ((((0 : Int32) + b0) + b1) + b2)), (.int (0 : Int32))] := Y_ob3.set Wt24 rfl
        replace E1 := E1.wr Wt24
        replace F1 := F1.other Wt24 (Or.inl ne_a1_ob3)
        replace F2 := F2.other Wt24 (Or.inl ne_a1_ob3)
        replace Y2 := Y2.other Wt24 ne_a2_ob3
        have O26 : Ext Z.heap ht24 := extW O20 Wt24 fr_ob3
        have K27 := K21.wr Wt24 (Or.inr pa_ob3)
        show Goes p e below _ (Tt24.setTop (mkF m 48 #[.val (.ref a1), .val (.ref a2), .val (.int p3), .val (.int (2 : Int32))] []))
        refine gIinc Xt24 hx (hb hby d_prog_10_method_1_48) (v := (3 : Int32)) rfl rfl (l' := #[.val (.ref a1), .val (.ref a2), .val (.int p3), .val (.int (3 : Int32))]) rfl ?_
        refine gGoto Xt24 hx (hb hby d_prog_10_method_1_51) (pc' := 16) (by decide) (by decide) ?_
        show Goes p e below _ (Tt24.setTop (mkF m 16 #[.val (.ref a1), .val (.ref a2), .val (.int p3), .val (.int (3 : Int32))] []))
        refine gIloadN Xt24 hx (hb hby d_prog_10_method_1_16) rfl ?_
        refine gAloadN Xt24 hx (hb hby d_prog_10_method_1_17) rfl rfl ?_
        refine goAlen Xt24 hx hZ et24 Y2 (n := (4 : Int32)) (hb hby d_prog_10_method_1_18) rfl ?_
        refine gIcmpN Xt24 hx (hb hby d_prog_10_method_1_19) (XT.ii_ge_f (by decide)) ?_
        show Goes p e below _ (Tt24.setTop (mkF m 22 #[.val (.ref a1), .val (.ref a2), .val (.int p3), .val (.int (3 : Int32))] []))
        refine gAloadN Xt24 hx (hb hby d_prog_10_method_1_22) rfl rfl ?_
        obtain ⟨Tt28, Xt28, et28, stt28⟩ := getF Xt24 hx hZ hown (host := "") (Or.inl (hw _ (List.mem_of_getElem? (i := 11) rfl))) Via.refl et24 F1 (g := (mkF m 23 #[.val (.ref a1), .val (.ref a2), .val (.int p3), .val (.int (3 : Int32))] [(.ref a1)])) rfl rfl (hb hby d_prog_10_method_1_23)
        refine go stt28 ?_
        show Goes p e below _ (Tt28.setTop (mkF m 26 #[.val (.ref a1), .val (.ref a2), .val (.int p3), .val (.int (3 : Int32))] [(.ref ob3)]))
        refine gIloadN Xt28 hx (hb hby d_prog_10_method_1_26) rfl ?_
        refine gIconst Xt28 hx (hb hby d_prog_10_method_1_27) (v := (1 : Int32)) rfl ?_
        refine gIadd Xt28 hx (hb hby d_prog_10_method_1_28) ?_
        refine gAloadN Xt28 hx (hb hby d_prog_10_method_1_29) rfl rfl ?_
        obtain ⟨Tt29, Xt29, et29, stt29⟩ := getF Xt28 hx hZ hown (host := "") (Or.inl (hw _ (List.mem_of_getElem? (i := 11) rfl))) Via.refl et28 F1 (g := (mkF m 30 #[.val (.ref a1), .val (.ref a2), .val (.int p3), .val (.int (3 : Int32))] [(.ref a1), (.int (4 : Int32)), (.ref ob3)])) rfl rfl (hb hby d_prog_10_method_1_30)
        refine go stt29 ?_
        show Goes p e below _ (Tt29.setTop (mkF m 33 #[.val (.ref a1), .val (.ref a2), .val (.int p3), .val (.int (3 : Int32))] [(.ref ob3), (.int (4 : Int32)), (.ref ob3)]))
        refine gIloadN Xt29 hx (hb hby d_prog_10_method_1_33) rfl ?_
        refine goIaload Xt29 hx hZ et29 Y_ob3 (x := ((((0 : Int32) + b0) + b1) + b2)) (hb hby d_prog_10_method_1_34) (by decide) rfl ?_
        refine gAloadN Xt29 hx (hb hby d_prog_10_method_1_35) rfl rfl ?_
        refine gIloadN Xt29 hx (hb hby d_prog_10_method_1_36) rfl ?_
        refine goZaload Xt29 hx hZ et29 Y2 (x := b3) (hb hby d_prog_10_method_1_37) (by decide) rfl ?_
        have J3 : ∀ (z3_ : Int32), b3 = z3_ → Goes p e below (EndN s (fun v h L => v = none ∧ Fr Z.heap.size L ∧ Keep h0 h [a1] ∧ ∃ u, h0.size ≤ u ∧ Fld Z h a1 "com/example/almaden/almaden/eval/JudgedRanking" "relevantWithin" "[I" (.ref u) ∧ Fld Z h a1 "com/example/almaden/almaden/eval/JudgedRanking" "relevant" "I" (.int p3) ∧ Ary Z h u .int [(.int (0 : Int32)), (.int ((0 : Int32) + b0)), (.int (((0 : Int32) + b0) + b1)), (.int ((((0 : Int32) + b0) + b1) + b2)), (.int (((((0 : Int32) + b0) + b1) + b2) + b3))]) ({ frames := 1, cells := 1, slots := 5, locals := 13 } : Room).cells ({ frames := 1, cells := 1, slots := 5, locals := 13 } : Room).slots) (Tt29.setTop (mkF m 46 #[.val (.ref a1), .val (.ref a2), .val (.int p3), .val (.int (3 : Int32))] [(.int z3_), (.int ((((0 : Int32) + b0) + b1) + b2)), (.int (4 : Int32)), (.ref ob3)])) := by
          intro z3_ hz
          subst hz
          show Goes p e below _ (Tt29.setTop (mkF m 46 #[.val (.ref a1), .val (.ref a2), .val (.int p3), .val (.int (3 : Int32))] [(.int b3), (.int ((((0 : Int32) + b0) + b1) + b2)), (.int (4 : Int32)), (.ref ob3)]))
          refine gIadd Xt29 hx (hb hby d_prog_10_method_1_46) ?_
          refine goIastore Xt29 hx hZ et29 Y_ob3 (hb hby d_prog_10_method_1_47) (by decide) rfl (fun Tt30 ht30 Xt30 et30 Wt30 => ?_)
          have N31 := Fr.snoc Xt30 N25 fr_ob3
          replace Y_ob3 : Ary Z ht30 ob3 .int [(.int (0 : Int32)), (.int ((0 : Int32) + b0)), (.int (((0 : Int32) + b0) + b1)), (.int ((((0 : Int32) + b0) + b1) + b2)), (.int (((((0 : Int32) + b0) + b1) + b2) + b3))] := Y_ob3.set Wt30 rfl
          replace E1 := E1.wr Wt30
          replace F1 := F1.other Wt30 (Or.inl ne_a1_ob3)
          replace F2 := F2.other Wt30 (Or.inl ne_a1_ob3)
          replace Y2 := Y2.other Wt30 ne_a2_ob3
          have O32 : Ext Z.heap ht30 := extW O26 Wt30 fr_ob3
          have K33 := K27.wr Wt30 (Or.inr pa_ob3)
          show Goes p e below _ (Tt30.setTop (mkF m 48 #[.val (.ref a1), .val (.ref a2), .val (.int p3), .val (.int (3 : Int32))] []))
          refine gIinc Xt30 hx (hb hby d_prog_10_method_1_48) (v := (4 : Int32)) rfl rfl (l' := #[.val (.ref a1), .val (.ref a2), .val (.int p3), .val (.int (4 : Int32))]) rfl ?_
          refine gGoto Xt30 hx (hb hby d_prog_10_method_1_51) (pc' := 16) (by decide) (by decide) ?_
          show Goes p e below _ (Tt30.setTop (mkF m 16 #[.val (.ref a1), .val (.ref a2), .val (.int p3), .val (.int (4 : Int32))] []))
          refine gIloadN Xt30 hx (hb hby d_prog_10_method_1_16) rfl ?_
          refine gAloadN Xt30 hx (hb hby d_prog_10_method_1_17) rfl rfl ?_
          refine goAlen Xt30 hx hZ et30 Y2 (n := (4 : Int32)) (hb hby d_prog_10_method_1_18) rfl ?_
          refine gIcmpY Xt30 hx (hb hby d_prog_10_method_1_19) (pc' := 54) (XT.ii_ge_t (by decide)) (by decide) (by decide) ?_
          show Goes p e below _ (Tt30.setTop (mkF m 54 #[.val (.ref a1), .val (.ref a2), .val (.int p3), .val (.int (4 : Int32))] []))
          refine gAloadN Xt30 hx (hb hby d_prog_10_method_1_54) rfl rfl ?_
          refine gIloadN Xt30 hx (hb hby d_prog_10_method_1_55) rfl ?_
          obtain ⟨Tt34, ht34, Xt34, et34, Wt34, stt34⟩ := putF Xt30 hx hZ hown (host := "") (Or.inl (hw _ (List.mem_of_getElem? (i := 13) rfl))) Via.refl et30 F2 E1 (Or.inr ⟨(hw _ (List.mem_of_getElem? (i := 14) rfl)), rfl, hnm⟩) (hw _ (List.mem_of_getElem? (i := 2) rfl)) (ty := .int) (by decide) rfl rfl (g := (mkF m 56 #[.val (.ref a1), .val (.ref a2), .val (.int p3), .val (.int (4 : Int32))] [(.int p3), (.ref a1)])) rfl rfl (hb hby d_prog_10_method_1_56)
          refine go stt34 ?_
          have N35 := Fr.snoc Xt34 N31 fr1
          replace F2 := F2.same Wt34
          replace E1 := E1.wr Wt34
          replace F1 := F1.other Wt34 (Or.inr (slot_ne (Or.inr (hw _ (List.mem_of_getElem? (i := 12) rfl))) (Or.inr (hw _ (List.mem_of_getElem? (i := 14) rfl))) (by decide) (t := (.array .int)) (by decide) (t' := .int) (by decide)))
          replace Y2 := Y2.other Wt34 (Ne.symm ne)
          replace Y_ob3 := Y_ob3.other Wt34 (Ne.symm ne_a1_ob3)
          have O36 : Ext Z.heap ht34 := extW O32 Wt34 fr1
          have K37 := K33.wr Wt34 (Or.inl (by simp))
          show Goes p e below _ (Tt34.setTop (mkF m 59 #[.val (.ref a1), .val (.ref a2), .val (.int p3), .val (.int (4 : Int32))] []))
          exact goRet0 Xt34 hx hret hlocks (hb hby d_prog_10_method_1_59) (by decide) (by decide) et34 (⟨rfl, N35, K37, ob3, pa_ob3, F1, F2, Y_ob3⟩)
        by_cases g : b3 = 0
        · refine gIfY Xt29 hx (hb hby d_prog_10_method_1_38) (pc' := 45) (XT.i0_eq_t g) (by decide) (by decide) ?_
          show Goes p e below _ (Tt29.setTop (mkF m 45 #[.val (.ref a1), .val (.ref a2), .val (.int p3), .val (.int (3 : Int32))] [(.int ((((0 : Int32) + b0) + b1) + b2)), (.int (4 : Int32)), (.ref ob3)]))
          refine gIconst Xt29 hx (hb hby d_prog_10_method_1_45) (v := (0 : Int32)) rfl ?_
          exact J3 _ g
        · refine gIfN Xt29 hx (hb hby d_prog_10_method_1_38) (XT.i0_eq_f g) ?_
          show Goes p e below _ (Tt29.setTop (mkF m 41 #[.val (.ref a1), .val (.ref a2), .val (.int p3), .val (.int (3 : Int32))] [(.int ((((0 : Int32) + b0) + b1) + b2)), (.int (4 : Int32)), (.ref ob3)]))
          refine gIconst Xt29 hx (hb hby d_prog_10_method_1_41) (v := (1 : Int32)) rfl ?_
          refine gGoto Xt29 hx (hb hby d_prog_10_method_1_42) (pc' := 46) (by decide) (by decide) ?_
          show Goes p e below _ (Tt29.setTop (mkF m 46 #[.val (.ref a1), .val (.ref a2), .val (.int p3), .val (.int (3 : Int32))] [(.int (1 : Int32)), (.int ((((0 : Int32) + b0) + b1) + b2)), (.int (4 : Int32)), (.ref ob3)]))
          exact J3 _ (hb3.resolve_left g)
      by_cases g : b2 = 0
      · refine gIfY Xt23 hx (hb hby d_prog_10_method_1_38) (pc' := 45) (XT.i0_eq_t g) (by decide) (by decide) ?_
        show Goes p e below _ (Tt23.setTop (mkF m 45 #[.val (.ref a1), .val (.ref a2), .val (.int p3), .val (.int (2 : Int32))] [(.int (((0 : Int32) + b0) + b1)), (.int (3 : Int32)), (.ref ob3)]))
        refine gIconst Xt23 hx (hb hby d_prog_10_method_1_45) (v := (0 : Int32)) rfl ?_
        exact J2 _ g
      · refine gIfN Xt23 hx (hb hby d_prog_10_method_1_38) (XT.i0_eq_f g) ?_
        show Goes p e below _ (Tt23.setTop (mkF m 41 #[.val (.ref a1), .val (.ref a2), .val (.int p3), .val (.int (2 : Int32))] [(.int (((0 : Int32) + b0) + b1)), (.int (3 : Int32)), (.ref ob3)]))
        refine gIconst Xt23 hx (hb hby d_prog_10_method_1_41) (v := (1 : Int32)) rfl ?_
        refine gGoto Xt23 hx (hb hby d_prog_10_method_1_42) (pc' := 46) (by decide) (by decide) ?_
        show Goes p e below _ (Tt23.setTop (mkF m 46 #[.val (.ref a1), .val (.ref a2), .val (.int p3), .val (.int (2 : Int32))] [(.int (1 : Int32)), (.int (((0 : Int32) + b0) + b1)), (.int (3 : Int32)), (.ref ob3)]))
        exact J2 _ (hb2.resolve_left g)
    by_cases g : b1 = 0
    · refine gIfY Xt17 hx (hb hby d_prog_10_method_1_38) (pc' := 45) (XT.i0_eq_t g) (by decide) (by decide) ?_
      show Goes p e below _ (Tt17.setTop (mkF m 45 #[.val (.ref a1), .val (.ref a2), .val (.int p3), .val (.int (1 : Int32))] [(.int ((0 : Int32) + b0)), (.int (2 : Int32)), (.ref ob3)]))
      refine gIconst Xt17 hx (hb hby d_prog_10_method_1_45) (v := (0 : Int32)) rfl ?_
      exact J1 _ g
    · refine gIfN Xt17 hx (hb hby d_prog_10_method_1_38) (XT.i0_eq_f g) ?_
      show Goes p e below _ (Tt17.setTop (mkF m 41 #[.val (.ref a1), .val (.ref a2), .val (.int p3), .val (.int (1 : Int32))] [(.int ((0 : Int32) + b0)), (.int (2 : Int32)), (.ref ob3)]))
      refine gIconst Xt17 hx (hb hby d_prog_10_method_1_41) (v := (1 : Int32)) rfl ?_
      refine gGoto Xt17 hx (hb hby d_prog_10_method_1_42) (pc' := 46) (by decide) (by decide) ?_
      show Goes p e below _ (Tt17.setTop (mkF m 46 #[.val (.ref a1), .val (.ref a2), .val (.int p3), .val (.int (1 : Int32))] [(.int (1 : Int32)), (.int ((0 : Int32) + b0)), (.int (2 : Int32)), (.ref ob3)]))
      exact J1 _ (hb1.resolve_left g)
  by_cases g : b0 = 0
  · refine gIfY Xt11 hx (hb hby d_prog_10_method_1_38) (pc' := 45) (XT.i0_eq_t g) (by decide) (by decide) ?_
    show Goes p e below _ (Tt11.setTop (mkF m 45 #[.val (.ref a1), .val (.ref a2), .val (.int p3), .val (.int (0 : Int32))] [(.int (0 : Int32)), (.int (1 : Int32)), (.ref ob3)]))
    refine gIconst Xt11 hx (hb hby d_prog_10_method_1_45) (v := (0 : Int32)) rfl ?_
    exact J0 _ g
  · refine gIfN Xt11 hx (hb hby d_prog_10_method_1_38) (XT.i0_eq_f g) ?_
    show Goes p e below _ (Tt11.setTop (mkF m 41 #[.val (.ref a1), .val (.ref a2), .val (.int p3), .val (.int (0 : Int32))] [(.int (0 : Int32)), (.int (1 : Int32)), (.ref ob3)]))
    refine gIconst Xt11 hx (hb hby d_prog_10_method_1_41) (v := (1 : Int32)) rfl ?_
    refine gGoto Xt11 hx (hb hby d_prog_10_method_1_42) (pc' := 46) (by decide) (by decide) ?_
    show Goes p e below _ (Tt11.setTop (mkF m 46 #[.val (.ref a1), .val (.ref a2), .val (.int p3), .val (.int (0 : Int32))] [(.int (1 : Int32)), (.int (0 : Int32)), (.int (1 : Int32)), (.ref ob3)]))
    exact J0 _ (hb0.resolve_left g)
theorem ef_rmT4 (m : MethodId) (x0 : Addr) : entryFrame m #[(.ref x0)] 1 = mkF m 0 #[.val (.ref x0)] [] := by first | (simp [entryFrame, mkF, argsToLocals, Value.category]; done) | rfl
set_option maxRecDepth 65536 in
set_option maxHeartbeats 40000000 in
theorem rmT4 (l : Launch) (Z : State) (a0 : Array Value) (hw : ∀ d ∈ tables_1, d.before a0 Z = true) (u : Addr) (r0 r1 r2 r3 r4 : Int32) (a1 : Addr) (h0 : Heap) (O0 : Ext Z.heap h0) (F1 : Fld Z h0 a1 "com/example/almaden/almaden/eval/JudgedRanking" "relevantWithin" "[I" (.ref u)) (Y1 : Ary Z h0 u .int [(.int r0), (.int r1), (.int r2), (.int r3), (.int r4)]) :
    Ctr l Z (⟨"com/example/almaden/almaden/eval/JudgedRanking", "retrieved", "()I"⟩ : MethodName) prog_10_method_2_code 1 (some .int) [] ({ frames := 0, cells := 0, slots := 0, locals := 0 } : Room) #[(.ref a1)] h0 (fun v h L => v = some (.int (4 : Int32)) ∧ Fr Z.heap.size L ∧ h = h0) := by
  refine ctr (plainFor_of_name pn_0) ?_
  intro p e s m below meth c s₁ hx hby hml hown hnm hret hlocks hZ X0 e0
  have N0 := Fr.nil Z.heap.size
  have hsz : ∀ {Ls : Array Slot}, Ls.size = 1 → Ls.size = c.maxLocals := fun q => q.trans hml.symm
  refine goE (ef_rmT4 m (a1)) ?_
  show Goes p e below _ (s₁.setTop (mkF m 0 #[.val (.ref a1)] []))
  refine gAloadN X0 hx (hb hby d_prog_10_method_2_0) rfl rfl ?_
  obtain ⟨Tt1, Xt1, et1, stt1⟩ := getF X0 hx hZ hown (host := "") (Or.inl (hw _ (List.mem_of_getElem? (i := 11) rfl))) Via.refl e0 F1 (g := (mkF m 1 #[.val (.ref a1)] [(.ref a1)])) rfl rfl (hb hby d_prog_10_method_2_1)
  refine go stt1 ?_
  show Goes p e below _ (Tt1.setTop (mkF m 4 #[.val (.ref a1)] [(.ref u)]))
  refine goAlen Xt1 hx hZ et1 Y1 (n := (5 : Int32)) (hb hby d_prog_10_method_2_4) rfl ?_
  refine gIconst Xt1 hx (hb hby d_prog_10_method_2_5) (v := (1 : Int32)) rfl ?_
  refine gIsub Xt1 hx (hb hby d_prog_10_method_2_6) ?_
  exact goRetI Xt1 hx hret hlocks (hb hby d_prog_10_method_2_7) (by decide) (by decide) et1 (⟨rfl, N0, rfl⟩)
theorem ef_rmA4 (m : MethodId) (x0 : Addr) : entryFrame m #[(.ref x0)] 4 = mkF m 0 #[.val (.ref x0), .unset, .unset, .unset] [] := by first | (simp [entryFrame, mkF, argsToLocals, Value.category]; done) | rfl
set_option maxRecDepth 65536 in
set_option maxHeartbeats 40000000 in
theorem rmA4 (l : Launch) (Z : State) (a0 : Array Value) (hw : ∀ d ∈ tables_1, d.before a0 Z = true) (u : Addr) (p3 : Int32) (b0 b1 b2 b3 : Int32) (a1 : Addr) (h0 : Heap) (O0 : Ext Z.heap h0) (E1 : Exa Z h0 a1 "com/example/almaden/almaden/eval/JudgedRanking") (F1 : Fld Z h0 a1 "com/example/almaden/almaden/eval/JudgedRanking" "relevantWithin" "[I" (.ref u)) (F2 : Fld Z h0 a1 "com/example/almaden/almaden/eval/JudgedRanking" "relevant" "I" (.int p3)) (Y1 : Ary Z h0 u .int [(.int (0 : Int32)), (.int ((0 : Int32) + b0)), (.int (((0 : Int32) + b0) + b1)), (.int ((((0 : Int32) + b0) + b1) + b2)), (.int (((((0 : Int32) + b0) + b1) + b2) + b3))]) (hb0 : b0 = 0 ∨ b0 = 1) (hb1 : b1 = 0 ∨ b1 = 1) (hb2 : b2 = 0 ∨ b2 = 1) (hb3 : b3 = 0 ∨ b3 = 1) :
    Ctr l Z (⟨"com/example/almaden/almaden/eval/JudgedRanking", "averagePrecision", "()D"⟩ : MethodName) prog_10_method_5_code 4 (some .double) [] ({ frames := 1, cells := 0, slots := 0, locals := 20 } : Room) #[(.ref a1)] h0 (fun v h L => v = some (.double (own_rt (own_st (own_st (own_st (own_st FP.dconst0 (0 : Int32) ((0 : Int32) + b0) (1 : Int32)) ((0 : Int32) + b0) (((0 : Int32) + b0) + b1) (2 : Int32)) (((0 : Int32) + b0) + b1) ((((0 : Int32) + b0) + b1) + b2) (3 : Int32)) ((((0 : Int32) + b0) + b1) + b2) (((((0 : Int32) + b0) + b1) + b2) + b3) (4 : Int32)) p3)) ∧ Fr Z.heap.size L ∧ h = h0) := by
  refine ctr (plainFor_of_name pn_0) ?_
  intro p e s m below meth c s₁ hx hby hml hown hnm hret hlocks hZ X0 e0
  have N0 := Fr.nil Z.heap.size
  have hsz : ∀ {Ls : Array Slot}, Ls.size = 4 → Ls.size = c.maxLocals := fun q => q.trans hml.symm
  refine goE (ef_rmA4 m (a1)) ?_
  show Goes p e below _ (s₁.setTop (mkF m 0 #[.val (.ref a1), .unset, .unset, .unset] []))
  refine gDconst0 X0 hx (hb hby d_prog_10_method_5_0) ?_
  refine gDstoreN X0 hx (hb hby d_prog_10_method_5_1) (l' := #[.val (.ref a1), .val (.double FP.dconst0), .second, .unset]) rfl ?_
  refine gIconst X0 hx (hb hby d_prog_10_method_5_2) (v := (1 : Int32)) rfl ?_
  refine gIstoreN X0 hx (hb hby d_prog_10_method_5_3) (l' := #[.val (.ref a1), .val (.double FP.dconst0), .second, .val (.int (1 : Int32))]) rfl ?_
  refine gIloadN X0 hx (hb hby d_prog_10_method_5_4) rfl ?_
  refine gAloadN X0 hx (hb hby d_prog_10_method_5_5) rfl rfl ?_
  refine goCallV X0 hx hZ hown (hw _ (List.mem_of_getElem? (i := 20) rfl)) (hw _ (List.mem_of_getElem? (i := 21) rfl)) (hw _ (List.mem_of_getElem? (i := 23) rfl)) (hw _ (List.mem_of_getElem? (i := 22) rfl)) (hw _ (List.mem_of_getElem? (i := 3) rfl)) (hw _ (List.mem_of_getElem? (i := 24) rfl)) (by decide) (rmT4 l Z a0 hw u (0 : Int32) ((0 : Int32) + b0) (((0 : Int32) + b0) + b1) ((((0 : Int32) + b0) + b1) + b2) (((((0 : Int32) + b0) + b1) + b2) + b3) a1 h0 O0 F1 Y1) 1 (by decide) (by decide) e0 E1 (hsz rfl) [] [(.int (1 : Int32))] pd_0 rfl rfl rfl (Nat.le_of_eq rfl) (hb hby d_prog_10_method_5_6) (by decide) (by decide) (fun Tt1 vt1 Lt1 Xt1 qt1 => ?_)
  obtain ⟨rfl, N2, et1⟩ := qt1
  have N3 := Fr.app N0 N2
  show Goes p e below _ (Tt1.setTop (mkF m 9 #[.val (.ref a1), .val (.double FP.dconst0), .second, .val (.int (1 : Int32))] [(.int (4 : Int32)), (.int (1 : Int32))]))
  refine gIcmpN Xt1 hx (hb hby d_prog_10_method_5_9) (XT.ii_gt_f (by decide)) ?_
  show Goes p e below _ (Tt1.setTop (mkF m 12 #[.val (.ref a1), .val (.double FP.dconst0), .second, .val (.int (1 : Int32))] []))
  refine gAloadN Xt1 hx (hb hby d_prog_10_method_5_12) rfl rfl ?_
  obtain ⟨Tt4, Xt4, et4, stt4⟩ := getF Xt1 hx hZ hown (host := "") (Or.inl (hw _ (List.mem_of_getElem? (i := 11) rfl))) Via.refl et1 F1 (g := (mkF m 13 #[.val (.ref a1), .val (.double FP.dconst0), .second, .val (.int (1 : Int32))] [(.ref a1)])) rfl rfl (hb hby d_prog_10_method_5_13)
  refine go stt4 ?_
  show Goes p e below _ (Tt4.setTop (mkF m 16 #[.val (.ref a1), .val (.double FP.dconst0), .second, .val (.int (1 : Int32))] [(.ref u)]))
  refine gIloadN Xt4 hx (hb hby d_prog_10_method_5_16) rfl ?_
  refine goIaload Xt4 hx hZ et4 Y1 (x := ((0 : Int32) + b0)) (hb hby d_prog_10_method_5_17) (by decide) rfl ?_
  refine gAloadN Xt4 hx (hb hby d_prog_10_method_5_18) rfl rfl ?_
  obtain ⟨Tt5, Xt5, et5, stt5⟩ := getF Xt4 hx hZ hown (host := "") (Or.inl (hw _ (List.mem_of_getElem? (i := 11) rfl))) Via.refl et4 F1 (g := (mkF m 19 #[.val (.ref a1), .val (.double FP.dconst0), .second, .val (.int (1 : Int32))] [(.ref a1), (.int ((0 : Int32) + b0))])) rfl rfl (hb hby d_prog_10_method_5_19)
  refine go stt5 ?_
  show Goes p e below _ (Tt5.setTop (mkF m 22 #[.val (.ref a1), .val (.double FP.dconst0), .second, .val (.int (1 : Int32))] [(.ref u), (.int ((0 : Int32) + b0))]))
  refine gIloadN Xt5 hx (hb hby d_prog_10_method_5_22) rfl ?_
  refine gIconst Xt5 hx (hb hby d_prog_10_method_5_23) (v := (1 : Int32)) rfl ?_
  refine gIsub Xt5 hx (hb hby d_prog_10_method_5_24) ?_
  refine goIaload Xt5 hx hZ et5 Y1 (x := (0 : Int32)) (hb hby d_prog_10_method_5_25) (by decide) rfl ?_
  have J1 : ∀ (z1_ : UInt64) (T_ : State) (lc_ : List Loc), (z1_ = (own_st FP.dconst0 (0 : Int32) ((0 : Int32) + b0) (1 : Int32))) → (Stand p l e ({ frames := 1, cells := 0, slots := 0, locals := 20 } : Room) s m #[(.ref a1)] below meth c T_ lc_ 0 0) → (T_.heap = h0) → (Fr Z.heap.size lc_) → Goes p e below (EndN s (fun v h L => v = some (.double (own_rt (own_st (own_st (own_st (own_st FP.dconst0 (0 : Int32) ((0 : Int32) + b0) (1 : Int32)) ((0 : Int32) + b0) (((0 : Int32) + b0) + b1) (2 : Int32)) (((0 : Int32) + b0) + b1) ((((0 : Int32) + b0) + b1) + b2) (3 : Int32)) ((((0 : Int32) + b0) + b1) + b2) (((((0 : Int32) + b0) + b1) + b2) + b3) (4 : Int32)) p3)) ∧ Fr Z.heap.size L ∧ h = h0) ({ frames := 1, cells := 0, slots := 0, locals := 20 } : Room).cells ({ frames := 1, cells := 0, slots := 0, locals := 20 } : Room).slots) (T_.setTop (mkF m 42 #[.val (.ref a1), .val (.double z1_), .second, .val (.int (1 : Int32))] [])) := by
    intro z1_ T_ lc_ hz X_ e_ N_
    subst hz
    show Goes p e below _ (T_.setTop (mkF m 42 #[.val (.ref a1), .val (.double (own_st FP.dconst0 (0 : Int32) ((0 : Int32) + b0) (1 : Int32))), .second, .val (.int (1 : Int32))] []))
    refine gIinc X_ hx (hb hby d_prog_10_method_5_42) (v := (2 : Int32)) rfl rfl (l' := #[.val (.ref a1), .val (.double (own_st FP.dconst0 (0 : Int32) ((0 : Int32) + b0) (1 : Int32))), .second, .val (.int (2 : Int32))]) rfl ?_
    refine gGoto X_ hx (hb hby d_prog_10_method_5_45) (pc' := 4) (by decide) (by decide) ?_
    show Goes p e below _ (T_.setTop (mkF m 4 #[.val (.ref a1), .val (.double (own_st FP.dconst0 (0 : Int32) ((0 : Int32) + b0) (1 : Int32))), .second, .val (.int (2 : Int32))] []))
    refine gIloadN X_ hx (hb hby d_prog_10_method_5_4) rfl ?_
    refine gAloadN X_ hx (hb hby d_prog_10_method_5_5) rfl rfl ?_
    refine goCallV X_ hx hZ hown (hw _ (List.mem_of_getElem? (i := 20) rfl)) (hw _ (List.mem_of_getElem? (i := 21) rfl)) (hw _ (List.mem_of_getElem? (i := 23) rfl)) (hw _ (List.mem_of_getElem? (i := 22) rfl)) (hw _ (List.mem_of_getElem? (i := 3) rfl)) (hw _ (List.mem_of_getElem? (i := 24) rfl)) (by decide) (rmT4 l Z a0 hw u (0 : Int32) ((0 : Int32) + b0) (((0 : Int32) + b0) + b1) ((((0 : Int32) + b0) + b1) + b2) (((((0 : Int32) + b0) + b1) + b2) + b3) a1 h0 O0 F1 Y1) 1 (by decide) (by decide) e_ E1 (hsz rfl) [] [(.int (2 : Int32))] pd_0 rfl rfl rfl (Nat.le_of_eq rfl) (hb hby d_prog_10_method_5_6) (by decide) (by decide) (fun Tt7 vt7 Lt7 Xt7 qt7 => ?_)
    obtain ⟨rfl, N8, et7⟩ := qt7
    have N9 := Fr.app N_ N8
    show Goes p e below _ (Tt7.setTop (mkF m 9 #[.val (.ref a1), .val (.double (own_st FP.dconst0 (0 : Int32) ((0 : Int32) + b0) (1 : Int32))), .second, .val (.int (2 : Int32))] [(.int (4 : Int32)), (.int (2 : Int32))]))
    refine gIcmpN Xt7 hx (hb hby d_prog_10_method_5_9) (XT.ii_gt_f (by decide)) ?_
    show Goes p e below _ (Tt7.setTop (mkF m 12 #[.val (.ref a1), .val (.double (own_st FP.dconst0 (0 : Int32) ((0 : Int32) + b0) (1 : Int32))), .second, .val (.int (2 : Int32))] []))
    refine gAloadN Xt7 hx (hb hby d_prog_10_method_5_12) rfl rfl ?_
    obtain ⟨Tt10, Xt10, et10, stt10⟩ := getF Xt7 hx hZ hown (host := "") (Or.inl (hw _ (List.mem_of_getElem? (i := 11) rfl))) Via.refl et7 F1 (g := (mkF m 13 #[.val (.ref a1), .val (.double (own_st FP.dconst0 (0 : Int32) ((0 : Int32) + b0) (1 : Int32))), .second, .val (.int (2 : Int32))] [(.ref a1)])) rfl rfl (hb hby d_prog_10_method_5_13)
    refine go stt10 ?_
    show Goes p e below _ (Tt10.setTop (mkF m 16 #[.val (.ref a1), .val (.double (own_st FP.dconst0 (0 : Int32) ((0 : Int32) + b0) (1 : Int32))), .second, .val (.int (2 : Int32))] [(.ref u)]))
    refine gIloadN Xt10 hx (hb hby d_prog_10_method_5_16) rfl ?_
    refine goIaload Xt10 hx hZ et10 Y1 (x := (((0 : Int32) + b0) + b1)) (hb hby d_prog_10_method_5_17) (by decide) rfl ?_
    refine gAloadN Xt10 hx (hb hby d_prog_10_method_5_18) rfl rfl ?_
    obtain ⟨Tt11, Xt11, et11, stt11⟩ := getF Xt10 hx hZ hown (host := "") (Or.inl (hw _ (List.mem_of_getElem? (i := 11) rfl))) Via.refl et10 F1 (g := (mkF m 19 #[.val (.ref a1), .val (.double (own_st FP.dconst0 (0 : Int32) ((0 : Int32) + b0) (1 : Int32))), .second, .val (.int (2 : Int32))] [(.ref a1), (.int (((0 : Int32) + b0) + b1))])) rfl rfl (hb hby d_prog_10_method_5_19)
    refine go stt11 ?_
    show Goes p e below _ (Tt11.setTop (mkF m 22 #[.val (.ref a1), .val (.double (own_st FP.dconst0 (0 : Int32) ((0 : Int32) + b0) (1 : Int32))), .second, .val (.int (2 : Int32))] [(.ref u), (.int (((0 : Int32) + b0) + b1))]))
    refine gIloadN Xt11 hx (hb hby d_prog_10_method_5_22) rfl ?_
    refine gIconst Xt11 hx (hb hby d_prog_10_method_5_23) (v := (1 : Int32)) rfl ?_
    refine gIsub Xt11 hx (hb hby d_prog_10_method_5_24) ?_
    refine goIaload Xt11 hx hZ et11 Y1 (x := ((0 : Int32) + b0)) (hb hby d_prog_10_method_5_25) (by decide) rfl ?_
    have J2 : ∀ (z2_ : UInt64) (T_ : State) (lc_ : List Loc), (z2_ = (own_st (own_st FP.dconst0 (0 : Int32) ((0 : Int32) + b0) (1 : Int32)) ((0 : Int32) + b0) (((0 : Int32) + b0) + b1) (2 : Int32))) → (Stand p l e ({ frames := 1, cells := 0, slots := 0, locals := 20 } : Room) s m #[(.ref a1)] below meth c T_ lc_ 0 0) → (T_.heap = h0) → (Fr Z.heap.size lc_) → Goes p e below (EndN s (fun v h L => v = some (.double (own_rt (own_st (own_st (own_st (own_st FP.dconst0 (0 : Int32) ((0 : Int32) + b0) (1 : Int32)) ((0 : Int32) + b0) (((0 : Int32) + b0) + b1) (2 : Int32)) (((0 : Int32) + b0) + b1) ((((0 : Int32) + b0) + b1) + b2) (3 : Int32)) ((((0 : Int32) + b0) + b1) + b2) (((((0 : Int32) + b0) + b1) + b2) + b3) (4 : Int32)) p3)) ∧ Fr Z.heap.size L ∧ h = h0) ({ frames := 1, cells := 0, slots := 0, locals := 20 } : Room).cells ({ frames := 1, cells := 0, slots := 0, locals := 20 } : Room).slots) (T_.setTop (mkF m 42 #[.val (.ref a1), .val (.double z2_), .second, .val (.int (2 : Int32))] [])) := by
      intro z2_ T_ lc_ hz X_ e_ N_
      subst hz
      show Goes p e below _ (T_.setTop (mkF m 42 #[.val (.ref a1), .val (.double (own_st (own_st FP.dconst0 (0 : Int32) ((0 : Int32) + b0) (1 : Int32)) ((0 : Int32) + b0) (((0 : Int32) + b0) + b1) (2 : Int32))), .second, .val (.int (2 : Int32))] []))
      refine gIinc X_ hx (hb hby d_prog_10_method_5_42) (v := (3 : Int32)) rfl rfl (l' := #[.val (.ref a1), .val (.double (own_st (own_st FP.dconst0 (0 : Int32) ((0 : Int32) + b0) (1 : Int32)) ((0 : Int32) + b0) (((0 : Int32) + b0) + b1) (2 : Int32))), .second, .val (.int (3 : Int32))]) rfl ?_
      refine gGoto X_ hx (hb hby d_prog_10_method_5_45) (pc' := 4) (by decide) (by decide) ?_
      show Goes p e below _ (T_.setTop (mkF m 4 #[.val (.ref a1), .val (.double (own_st (own_st FP.dconst0 (0 : Int32) ((0 : Int32) + b0) (1 : Int32)) ((0 : Int32) + b0) (((0 : Int32) + b0) + b1) (2 : Int32))), .second, .val (.int (3 : Int32))] []))
      refine gIloadN X_ hx (hb hby d_prog_10_method_5_4) rfl ?_
      refine gAloadN X_ hx (hb hby d_prog_10_method_5_5) rfl rfl ?_
      refine goCallV X_ hx hZ hown (hw _ (List.mem_of_getElem? (i := 20) rfl)) (hw _ (List.mem_of_getElem? (i := 21) rfl)) (hw _ (List.mem_of_getElem? (i := 23) rfl)) (hw _ (List.mem_of_getElem? (i := 22) rfl)) (hw _ (List.mem_of_getElem? (i := 3) rfl)) (hw _ (List.mem_of_getElem? (i := 24) rfl)) (by decide) (rmT4 l Z a0 hw u (0 : Int32) ((0 : Int32) + b0) (((0 : Int32) + b0) + b1) ((((0 : Int32) + b0) + b1) + b2) (((((0 : Int32) + b0) + b1) + b2) + b3) a1 h0 O0 F1 Y1) 1 (by decide) (by decide) e_ E1 (hsz rfl) [] [(.int (3 : Int32))] pd_0 rfl rfl rfl (Nat.le_of_eq rfl) (hb hby d_prog_10_method_5_6) (by decide) (by decide) (fun Tt13 vt13 Lt13 Xt13 qt13 => ?_)
      obtain ⟨rfl, N14, et13⟩ := qt13
      have N15 := Fr.app N_ N14
      show Goes p e below _ (Tt13.setTop (mkF m 9 #[.val (.ref a1), .val (.double (own_st (own_st FP.dconst0 (0 : Int32) ((0 : Int32) + b0) (1 : Int32)) ((0 : Int32) + b0) (((0 : Int32) + b0) + b1) (2 : Int32))), .second, .val (.int (3 : Int32))] [(.int (4 : Int32)), (.int (3 : Int32))]))
      refine gIcmpN Xt13 hx (hb hby d_prog_10_method_5_9) (XT.ii_gt_f (by decide)) ?_
      show Goes p e below _ (Tt13.setTop (mkF m 12 #[.val (.ref a1), .val (.double (own_st (own_st FP.dconst0 (0 : Int32) ((0 : Int32) + b0) (1 : Int32)) ((0 : Int32) + b0) (((0 : Int32) + b0) + b1) (2 : Int32))), .second, .val (.int (3 : Int32))] []))
      refine gAloadN Xt13 hx (hb hby d_prog_10_method_5_12) rfl rfl ?_
      obtain ⟨Tt16, Xt16, et16, stt16⟩ := getF Xt13 hx hZ hown (host := "") (Or.inl (hw _ (List.mem_of_getElem? (i := 11) rfl))) Via.refl et13 F1 (g := (mkF m 13 #[.val (.ref a1), .val (.double (own_st (own_st FP.dconst0 (0 : Int32) ((0 : Int32) + b0) (1 : Int32)) ((0 : Int32) + b0) (((0 : Int32) + b0) + b1) (2 : Int32))), .second, .val (.int (3 : Int32))] [(.ref a1)])) rfl rfl (hb hby d_prog_10_method_5_13)
      refine go stt16 ?_
      show Goes p e below _ (Tt16.setTop (mkF m 16 #[.val (.ref a1), .val (.double (own_st (own_st FP.dconst0 (0 : Int32) ((0 : Int32) + b0) (1 : Int32)) ((0 : Int32) + b0) (((0 : Int32) + b0) + b1) (2 : Int32))), .second, .val (.int (3 : Int32))] [(.ref u)]))
      refine gIloadN Xt16 hx (hb hby d_prog_10_method_5_16) rfl ?_
      refine goIaload Xt16 hx hZ et16 Y1 (x := ((((0 : Int32) + b0) + b1) + b2)) (hb hby d_prog_10_method_5_17) (by decide) rfl ?_
      refine gAloadN Xt16 hx (hb hby d_prog_10_method_5_18) rfl rfl ?_
      obtain ⟨Tt17, Xt17, et17, stt17⟩ := getF Xt16 hx hZ hown (host := "") (Or.inl (hw _ (List.mem_of_getElem? (i := 11) rfl))) Via.refl et16 F1 (g := (mkF m 19 #[.val (.ref a1), .val (.double (own_st (own_st FP.dconst0 (0 : Int32) ((0 : Int32) + b0) (1 : Int32)) ((0 : Int32) + b0) (((0 : Int32) + b0) + b1) (2 : Int32))), .second, .val (.int (3 : Int32))] [(.ref a1), (.int ((((0 : Int32) + b0) + b1) + b2))])) rfl rfl (hb hby d_prog_10_method_5_19)
      refine go stt17 ?_
      show Goes p e below _ (Tt17.setTop (mkF m 22 #[.val (.ref a1), .val (.double (own_st (own_st FP.dconst0 (0 : Int32) ((0 : Int32) + b0) (1 : Int32)) ((0 : Int32) + b0) (((0 : Int32) + b0) + b1) (2 : Int32))), .second, .val (.int (3 : Int32))] [(.ref u), (.int ((((0 : Int32) + b0) + b1) + b2))]))
      refine gIloadN Xt17 hx (hb hby d_prog_10_method_5_22) rfl ?_
      refine gIconst Xt17 hx (hb hby d_prog_10_method_5_23) (v := (1 : Int32)) rfl ?_
      refine gIsub Xt17 hx (hb hby d_prog_10_method_5_24) ?_
      refine goIaload Xt17 hx hZ et17 Y1 (x := (((0 : Int32) + b0) + b1)) (hb hby d_prog_10_method_5_25) (by decide) rfl ?_
      have J3 : ∀ (z3_ : UInt64) (T_ : State) (lc_ : List Loc), (z3_ = (own_st (own_st (own_st FP.dconst0 (0 : Int32) ((0 : Int32) + b0) (1 : Int32)) ((0 : Int32) + b0) (((0 : Int32) + b0) + b1) (2 : Int32)) (((0 : Int32) + b0) + b1) ((((0 : Int32) + b0) + b1) + b2) (3 : Int32))) → (Stand p l e ({ frames := 1, cells := 0, slots := 0, locals := 20 } : Room) s m #[(.ref a1)] below meth c T_ lc_ 0 0) → (T_.heap = h0) → (Fr Z.heap.size lc_) → Goes p e below (EndN s (fun v h L => v = some (.double (own_rt (own_st (own_st (own_st (own_st FP.dconst0 (0 : Int32) ((0 : Int32) + b0) (1 : Int32)) ((0 : Int32) + b0) (((0 : Int32) + b0) + b1) (2 : Int32)) (((0 : Int32) + b0) + b1) ((((0 : Int32) + b0) + b1) + b2) (3 : Int32)) ((((0 : Int32) + b0) + b1) + b2) (((((0 : Int32) + b0) + b1) + b2) + b3) (4 : Int32)) p3)) ∧ Fr Z.heap.size L ∧ h = h0) ({ frames := 1, cells := 0, slots := 0, locals := 20 } : Room).cells ({ frames := 1, cells := 0, slots := 0, locals := 20 } : Room).slots) (T_.setTop (mkF m 42 #[.val (.ref a1), .val (.double z3_), .second, .val (.int (3 : Int32))] [])) := by
        intro z3_ T_ lc_ hz X_ e_ N_
        subst hz
        show Goes p e below _ (T_.setTop (mkF m 42 #[.val (.ref a1), .val (.double (own_st (own_st (own_st FP.dconst0 (0 : Int32) ((0 : Int32) + b0) (1 : Int32)) ((0 : Int32) + b0) (((0 : Int32) + b0) + b1) (2 : Int32)) (((0 : Int32) + b0) + b1) ((((0 : Int32) + b0) + b1) + b2) (3 : Int32))), .second, .val (.int (3 : Int32))] []))
        refine gIinc X_ hx (hb hby d_prog_10_method_5_42) (v := (4 : Int32)) rfl rfl (l' := #[.val (.ref a1), .val (.double (own_st (own_st (own_st FP.dconst0 (0 : Int32) ((0 : Int32) + b0) (1 : Int32)) ((0 : Int32) + b0) (((0 : Int32) + b0) + b1) (2 : Int32)) (((0 : Int32) + b0) + b1) ((((0 : Int32) + b0) + b1) + b2) (3 : Int32))), .second, .val (.int (4 : Int32))]) rfl ?_
        refine gGoto X_ hx (hb hby d_prog_10_method_5_45) (pc' := 4) (by decide) (by decide) ?_
        show Goes p e below _ (T_.setTop (mkF m 4 #[.val (.ref a1), .val (.double (own_st (own_st (own_st FP.dconst0 (0 : Int32) ((0 : Int32) + b0) (1 : Int32)) ((0 : Int32) + b0) (((0 : Int32) + b0) + b1) (2 : Int32)) (((0 : Int32) + b0) + b1) ((((0 : Int32) + b0) + b1) + b2) (3 : Int32))), .second, .val (.int (4 : Int32))] []))
        refine gIloadN X_ hx (hb hby d_prog_10_method_5_4) rfl ?_
        refine gAloadN X_ hx (hb hby d_prog_10_method_5_5) rfl rfl ?_
        refine goCallV X_ hx hZ hown (hw _ (List.mem_of_getElem? (i := 20) rfl)) (hw _ (List.mem_of_getElem? (i := 21) rfl)) (hw _ (List.mem_of_getElem? (i := 23) rfl)) (hw _ (List.mem_of_getElem? (i := 22) rfl)) (hw _ (List.mem_of_getElem? (i := 3) rfl)) (hw _ (List.mem_of_getElem? (i := 24) rfl)) (by decide) (rmT4 l Z a0 hw u (0 : Int32) ((0 : Int32) + b0) (((0 : Int32) + b0) + b1) ((((0 : Int32) + b0) + b1) + b2) (((((0 : Int32) + b0) + b1) + b2) + b3) a1 h0 O0 F1 Y1) 1 (by decide) (by decide) e_ E1 (hsz rfl) [] [(.int (4 : Int32))] pd_0 rfl rfl rfl (Nat.le_of_eq rfl) (hb hby d_prog_10_method_5_6) (by decide) (by decide) (fun Tt19 vt19 Lt19 Xt19 qt19 => ?_)
        obtain ⟨rfl, N20, et19⟩ := qt19
        have N21 := Fr.app N_ N20
        show Goes p e below _ (Tt19.setTop (mkF m 9 #[.val (.ref a1), .val (.double (own_st (own_st (own_st FP.dconst0 (0 : Int32) ((0 : Int32) + b0) (1 : Int32)) ((0 : Int32) + b0) (((0 : Int32) + b0) + b1) (2 : Int32)) (((0 : Int32) + b0) + b1) ((((0 : Int32) + b0) + b1) + b2) (3 : Int32))), .second, .val (.int (4 : Int32))] [(.int (4 : Int32)), (.int (4 : Int32))]))
        refine gIcmpN Xt19 hx (hb hby d_prog_10_method_5_9) (XT.ii_gt_f (by decide)) ?_
        show Goes p e below _ (Tt19.setTop (mkF m 12 #[.val (.ref a1), .val (.double (own_st (own_st (own_st FP.dconst0 (0 : Int32) ((0 : Int32) + b0) (1 : Int32)) ((0 : Int32) + b0) (((0 : Int32) + b0) + b1) (2 : Int32)) (((0 : Int32) + b0) + b1) ((((0 : Int32) + b0) + b1) + b2) (3 : Int32))), .second, .val (.int (4 : Int32))] []))
        refine gAloadN Xt19 hx (hb hby d_prog_10_method_5_12) rfl rfl ?_
        obtain ⟨Tt22, Xt22, et22, stt22⟩ := getF Xt19 hx hZ hown (host := "") (Or.inl (hw _ (List.mem_of_getElem? (i := 11) rfl))) Via.refl et19 F1 (g := (mkF m 13 #[.val (.ref a1), .val (.double (own_st (own_st (own_st FP.dconst0 (0 : Int32) ((0 : Int32) + b0) (1 : Int32)) ((0 : Int32) + b0) (((0 : Int32) + b0) + b1) (2 : Int32)) (((0 : Int32) + b0) + b1) ((((0 : Int32) + b0) + b1) + b2) (3 : Int32))), .second, .val (.int (4 : Int32))] [(.ref a1)])) rfl rfl (hb hby d_prog_10_method_5_13)
        refine go stt22 ?_
        show Goes p e below _ (Tt22.setTop (mkF m 16 #[.val (.ref a1), .val (.double (own_st (own_st (own_st FP.dconst0 (0 : Int32) ((0 : Int32) + b0) (1 : Int32)) ((0 : Int32) + b0) (((0 : Int32) + b0) + b1) (2 : Int32)) (((0 : Int32) + b0) + b1) ((((0 : Int32) + b0) + b1) + b2) (3 : Int32))), .second, .val (.int (4 : Int32))] [(.ref u)]))
        refine gIloadN Xt22 hx (hb hby d_prog_10_method_5_16) rfl ?_
        refine goIaload Xt22 hx hZ et22 Y1 (x := (((((0 : Int32) + b0) + b1) + b2) + b3)) (hb hby d_prog_10_method_5_17) (by decide) rfl ?_
        refine gAloadN Xt22 hx (hb hby d_prog_10_method_5_18) rfl rfl ?_
        obtain ⟨Tt23, Xt23, et23, stt23⟩ := getF Xt22 hx hZ hown (host := "") (Or.inl (hw _ (List.mem_of_getElem? (i := 11) rfl))) Via.refl et22 F1 (g := (mkF m 19 #[.val (.ref a1), .val (.double (own_st (own_st (own_st FP.dconst0 (0 : Int32) ((0 : Int32) + b0) (1 : Int32)) ((0 : Int32) + b0) (((0 : Int32) + b0) + b1) (2 : Int32)) (((0 : Int32) + b0) + b1) ((((0 : Int32) + b0) + b1) + b2) (3 : Int32))), .second, .val (.int (4 : Int32))] [(.ref a1), (.int (((((0 : Int32) + b0) + b1) + b2) + b3))])) rfl rfl (hb hby d_prog_10_method_5_19)
        refine go stt23 ?_
        show Goes p e below _ (Tt23.setTop (mkF m 22 #[.val (.ref a1), .val (.double (own_st (own_st (own_st FP.dconst0 (0 : Int32) ((0 : Int32) + b0) (1 : Int32)) ((0 : Int32) + b0) (((0 : Int32) + b0) + b1) (2 : Int32)) (((0 : Int32) + b0) + b1) ((((0 : Int32) + b0) + b1) + b2) (3 : Int32))), .second, .val (.int (4 : Int32))] [(.ref u), (.int (((((0 : Int32) + b0) + b1) + b2) + b3))]))
        refine gIloadN Xt23 hx (hb hby d_prog_10_method_5_22) rfl ?_
        refine gIconst Xt23 hx (hb hby d_prog_10_method_5_23) (v := (1 : Int32)) rfl ?_
        refine gIsub Xt23 hx (hb hby d_prog_10_method_5_24) ?_
        refine goIaload Xt23 hx hZ et23 Y1 (x := ((((0 : Int32) + b0) + b1) + b2)) (hb hby d_prog_10_method_5_25) (by decide) rfl ?_
        have J4 : ∀ (z4_ : UInt64) (T_ : State) (lc_ : List Loc), (z4_ = (own_st (own_st (own_st (own_st FP.dconst0 (0 : Int32) ((0 : Int32) + b0) (1 : Int32)) ((0 : Int32) + b0) (((0 : Int32) + b0) + b1) (2 : Int32)) (((0 : Int32) + b0) + b1) ((((0 : Int32) + b0) + b1) + b2) (3 : Int32)) ((((0 : Int32) + b0) + b1) + b2) (((((0 : Int32) + b0) + b1) + b2) + b3) (4 : Int32))) → (Stand p l e ({ frames := 1, cells := 0, slots := 0, locals := 20 } : Room) s m #[(.ref a1)] below meth c T_ lc_ 0 0) → (T_.heap = h0) → (Fr Z.heap.size lc_) → Goes p e below (EndN s (fun v h L => v = some (.double (own_rt (own_st (own_st (own_st (own_st FP.dconst0 (0 : Int32) ((0 : Int32) + b0) (1 : Int32)) ((0 : Int32) + b0) (((0 : Int32) + b0) + b1) (2 : Int32)) (((0 : Int32) + b0) + b1) ((((0 : Int32) + b0) + b1) + b2) (3 : Int32)) ((((0 : Int32) + b0) + b1) + b2) (((((0 : Int32) + b0) + b1) + b2) + b3) (4 : Int32)) p3)) ∧ Fr Z.heap.size L ∧ h = h0) ({ frames := 1, cells := 0, slots := 0, locals := 20 } : Room).cells ({ frames := 1, cells := 0, slots := 0, locals := 20 } : Room).slots) (T_.setTop (mkF m 42 #[.val (.ref a1), .val (.double z4_), .second, .val (.int (4 : Int32))] [])) := by
          intro z4_ T_ lc_ hz X_ e_ N_
          subst hz
          show Goes p e below _ (T_.setTop (mkF m 42 #[.val (.ref a1), .val (.double (own_st (own_st (own_st (own_st FP.dconst0 (0 : Int32) ((0 : Int32) + b0) (1 : Int32)) ((0 : Int32) + b0) (((0 : Int32) + b0) + b1) (2 : Int32)) (((0 : Int32) + b0) + b1) ((((0 : Int32) + b0) + b1) + b2) (3 : Int32)) ((((0 : Int32) + b0) + b1) + b2) (((((0 : Int32) + b0) + b1) + b2) + b3) (4 : Int32))), .second, .val (.int (4 : Int32))] []))
          refine gIinc X_ hx (hb hby d_prog_10_method_5_42) (v := (5 : Int32)) rfl rfl (l' := #[.val (.ref a1), .val (.double (own_st (own_st (own_st (own_st FP.dconst0 (0 : Int32) ((0 : Int32) + b0) (1 : Int32)) ((0 : Int32) + b0) (((0 : Int32) + b0) + b1) (2 : Int32)) (((0 : Int32) + b0) + b1) ((((0 : Int32) + b0) + b1) + b2) (3 : Int32)) ((((0 : Int32) + b0) + b1) + b2) (((((0 : Int32) + b0) + b1) + b2) + b3) (4 : Int32))), .second, .val (.int (5 : Int32))]) rfl ?_
          refine gGoto X_ hx (hb hby d_prog_10_method_5_45) (pc' := 4) (by decide) (by decide) ?_
          show Goes p e below _ (T_.setTop (mkF m 4 #[.val (.ref a1), .val (.double (own_st (own_st (own_st (own_st FP.dconst0 (0 : Int32) ((0 : Int32) + b0) (1 : Int32)) ((0 : Int32) + b0) (((0 : Int32) + b0) + b1) (2 : Int32)) (((0 : Int32) + b0) + b1) ((((0 : Int32) + b0) + b1) + b2) (3 : Int32)) ((((0 : Int32) + b0) + b1) + b2) (((((0 : Int32) + b0) + b1) + b2) + b3) (4 : Int32))), .second, .val (.int (5 : Int32))] []))
          refine gIloadN X_ hx (hb hby d_prog_10_method_5_4) rfl ?_
          refine gAloadN X_ hx (hb hby d_prog_10_method_5_5) rfl rfl ?_
          refine goCallV X_ hx hZ hown (hw _ (List.mem_of_getElem? (i := 20) rfl)) (hw _ (List.mem_of_getElem? (i := 21) rfl)) (hw _ (List.mem_of_getElem? (i := 23) rfl)) (hw _ (List.mem_of_getElem? (i := 22) rfl)) (hw _ (List.mem_of_getElem? (i := 3) rfl)) (hw _ (List.mem_of_getElem? (i := 24) rfl)) (by decide) (rmT4 l Z a0 hw u (0 : Int32) ((0 : Int32) + b0) (((0 : Int32) + b0) + b1) ((((0 : Int32) + b0) + b1) + b2) (((((0 : Int32) + b0) + b1) + b2) + b3) a1 h0 O0 F1 Y1) 1 (by decide) (by decide) e_ E1 (hsz rfl) [] [(.int (5 : Int32))] pd_0 rfl rfl rfl (Nat.le_of_eq rfl) (hb hby d_prog_10_method_5_6) (by decide) (by decide) (fun Tt25 vt25 Lt25 Xt25 qt25 => ?_)
          obtain ⟨rfl, N26, et25⟩ := qt25
          have N27 := Fr.app N_ N26
          show Goes p e below _ (Tt25.setTop (mkF m 9 #[.val (.ref a1), .val (.double (own_st (own_st (own_st (own_st FP.dconst0 (0 : Int32) ((0 : Int32) + b0) (1 : Int32)) ((0 : Int32) + b0) (((0 : Int32) + b0) + b1) (2 : Int32)) (((0 : Int32) + b0) + b1) ((((0 : Int32) + b0) + b1) + b2) (3 : Int32)) ((((0 : Int32) + b0) + b1) + b2) (((((0 : Int32) + b0) + b1) + b2) + b3) (4 : Int32))), .second, .val (.int (5 : Int32))] [(.int (4 : Int32)), (.int (5 : Int32))]))
          refine gIcmpY Xt25 hx (hb hby d_prog_10_method_5_9) (pc' := 48) (XT.ii_gt_t (by decide)) (by decide) (by decide) ?_
          show Goes p e below _ (Tt25.setTop (mkF m 48 #[.val (.ref a1), .val (.double (own_st (own_st (own_st (own_st FP.dconst0 (0 : Int32) ((0 : Int32) + b0) (1 : Int32)) ((0 : Int32) + b0) (((0 : Int32) + b0) + b1) (2 : Int32)) (((0 : Int32) + b0) + b1) ((((0 : Int32) + b0) + b1) + b2) (3 : Int32)) ((((0 : Int32) + b0) + b1) + b2) (((((0 : Int32) + b0) + b1) + b2) + b3) (4 : Int32))), .second, .val (.int (5 : Int32))] []))
          refine gDloadN Xt25 hx (hb hby d_prog_10_method_5_48) rfl ?_
          refine gAloadN Xt25 hx (hb hby d_prog_10_method_5_49) rfl rfl ?_
          obtain ⟨Tt28, Xt28, et28, stt28⟩ := getF Xt25 hx hZ hown (host := "") (Or.inl (hw _ (List.mem_of_getElem? (i := 13) rfl))) Via.refl et25 F2 (g := (mkF m 50 #[.val (.ref a1), .val (.double (own_st (own_st (own_st (own_st FP.dconst0 (0 : Int32) ((0 : Int32) + b0) (1 : Int32)) ((0 : Int32) + b0) (((0 : Int32) + b0) + b1) (2 : Int32)) (((0 : Int32) + b0) + b1) ((((0 : Int32) + b0) + b1) + b2) (3 : Int32)) ((((0 : Int32) + b0) + b1) + b2) (((((0 : Int32) + b0) + b1) + b2) + b3) (4 : Int32))), .second, .val (.int (5 : Int32))] [(.ref a1), (.double (own_st (own_st (own_st (own_st FP.dconst0 (0 : Int32) ((0 : Int32) + b0) (1 : Int32)) ((0 : Int32) + b0) (((0 : Int32) + b0) + b1) (2 : Int32)) (((0 : Int32) + b0) + b1) ((((0 : Int32) + b0) + b1) + b2) (3 : Int32)) ((((0 : Int32) + b0) + b1) + b2) (((((0 : Int32) + b0) + b1) + b2) + b3) (4 : Int32)))])) rfl rfl (hb hby d_prog_10_method_5_50)
          refine go stt28 ?_
          show Goes p e below _ (Tt28.setTop (mkF m 53 #[.val (.ref a1), .val (.double (own_st (own_st (own_st (own_st FP.dconst0 (0 : Int32) ((0 : Int32) + b0) (1 : Int32)) ((0 : Int32) + b0) (((0 : Int32) + b0) + b1) (2 : Int32)) (((0 : Int32) + b0) + b1) ((((0 : Int32) + b0) + b1) + b2) (3 : Int32)) ((((0 : Int32) + b0) + b1) + b2) (((((0 : Int32) + b0) + b1) + b2) + b3) (4 : Int32))), .second, .val (.int (5 : Int32))] [(.int p3), (.double (own_st (own_st (own_st (own_st FP.dconst0 (0 : Int32) ((0 : Int32) + b0) (1 : Int32)) ((0 : Int32) + b0) (((0 : Int32) + b0) + b1) (2 : Int32)) (((0 : Int32) + b0) + b1) ((((0 : Int32) + b0) + b1) + b2) (3 : Int32)) ((((0 : Int32) + b0) + b1) + b2) (((((0 : Int32) + b0) + b1) + b2) + b3) (4 : Int32)))]))
          refine goCallS Xt28 hx hZ hown (hw _ (List.mem_of_getElem? (i := 25) rfl)) (hw _ (List.mem_of_getElem? (i := 26) rfl)) (hw _ (List.mem_of_getElem? (i := 3) rfl)) (hw _ (List.mem_of_getElem? (i := 27) rfl)) (by decide) (rmR l Z a0 hw (own_st (own_st (own_st (own_st FP.dconst0 (0 : Int32) ((0 : Int32) + b0) (1 : Int32)) ((0 : Int32) + b0) (((0 : Int32) + b0) + b1) (2 : Int32)) (((0 : Int32) + b0) + b1) ((((0 : Int32) + b0) + b1) + b2) (3 : Int32)) ((((0 : Int32) + b0) + b1) + b2) (((((0 : Int32) + b0) + b1) + b2) + b3) (4 : Int32)) p3 h0 O0 (own_ns4 b0 b1 b2 b3 hb0 hb1 hb2 hb3)) 0 (by decide) (by decide) et28 (hsz rfl) [(.double (own_st (own_st (own_st (own_st FP.dconst0 (0 : Int32) ((0 : Int32) + b0) (1 : Int32)) ((0 : Int32) + b0) (((0 : Int32) + b0) + b1) (2 : Int32)) (((0 : Int32) + b0) + b1) ((((0 : Int32) + b0) + b1) + b2) (3 : Int32)) ((((0 : Int32) + b0) + b1) + b2) (((((0 : Int32) + b0) + b1) + b2) + b3) (4 : Int32))), (.int p3)] [] pd_1 rfl rfl rfl (Nat.le_of_eq rfl) (hb hby d_prog_10_method_5_53) (by decide) (by decide) (fun Tt29 vt29 Lt29 Xt29 qt29 => ?_)
          obtain ⟨rfl, N30, et29⟩ := qt29
          have N31 := Fr.app N27 N30
          show Goes p e below _ (Tt29.setTop (mkF m 56 #[.val (.ref a1), .val (.double (own_st (own_st (own_st (own_st FP.dconst0 (0 : Int32) ((0 : Int32) + b0) (1 : Int32)) ((0 : Int32) + b0) (((0 : Int32) + b0) + b1) (2 : Int32)) (((0 : Int32) + b0) + b1) ((((0 : Int32) + b0) + b1) + b2) (3 : Int32)) ((((0 : Int32) + b0) + b1) + b2) (((((0 : Int32) + b0) + b1) + b2) + b3) (4 : Int32))), .second, .val (.int (5 : Int32))] [(.double (own_rt (own_st (own_st (own_st (own_st FP.dconst0 (0 : Int32) ((0 : Int32) + b0) (1 : Int32)) ((0 : Int32) + b0) (((0 : Int32) + b0) + b1) (2 : Int32)) (((0 : Int32) + b0) + b1) ((((0 : Int32) + b0) + b1) + b2) (3 : Int32)) ((((0 : Int32) + b0) + b1) + b2) (((((0 : Int32) + b0) + b1) + b2) + b3) (4 : Int32)) p3))]))
          exact goRetD Xt29 hx hret hlocks (hb hby d_prog_10_method_5_56) (by decide) (by decide) et29 (⟨rfl, N31, rfl⟩)
        by_cases g : ((((0 : Int32) + b0) + b1) + b2) < (((((0 : Int32) + b0) + b1) + b2) + b3)
        · refine gIcmpN Xt23 hx (hb hby d_prog_10_method_5_26) (XT.ii_le_f g) ?_
          show Goes p e below _ (Tt23.setTop (mkF m 29 #[.val (.ref a1), .val (.double (own_st (own_st (own_st FP.dconst0 (0 : Int32) ((0 : Int32) + b0) (1 : Int32)) ((0 : Int32) + b0) (((0 : Int32) + b0) + b1) (2 : Int32)) (((0 : Int32) + b0) + b1) ((((0 : Int32) + b0) + b1) + b2) (3 : Int32))), .second, .val (.int (4 : Int32))] []))
          refine gDloadN Xt23 hx (hb hby d_prog_10_method_5_29) rfl ?_
          refine gAloadN Xt23 hx (hb hby d_prog_10_method_5_30) rfl rfl ?_
          obtain ⟨Tt24, Xt24, et24, stt24⟩ := getF Xt23 hx hZ hown (host := "") (Or.inl (hw _ (List.mem_of_getElem? (i := 11) rfl))) Via.refl et23 F1 (g := (mkF m 31 #[.val (.ref a1), .val (.double (own_st (own_st (own_st FP.dconst0 (0 : Int32) ((0 : Int32) + b0) (1 : Int32)) ((0 : Int32) + b0) (((0 : Int32) + b0) + b1) (2 : Int32)) (((0 : Int32) + b0) + b1) ((((0 : Int32) + b0) + b1) + b2) (3 : Int32))), .second, .val (.int (4 : Int32))] [(.ref a1), (.double (own_st (own_st (own_st FP.dconst0 (0 : Int32) ((0 : Int32) + b0) (1 : Int32)) ((0 : Int32) + b0) (((0 : Int32) + b0) + b1) (2 : Int32)) (((0 : Int32) + b0) + b1) ((((0 : Int32) + b0) + b1) + b2) (3 : Int32)))])) rfl rfl (hb hby d_prog_10_method_5_31)
          refine go stt24 ?_
          show Goes p e below _ (Tt24.setTop (mkF m 34 #[.val (.ref a1), .val (.double (own_st (own_st (own_st FP.dconst0 (0 : Int32) ((0 : Int32) + b0) (1 : Int32)) ((0 : Int32) + b0) (((0 : Int32) + b0) + b1) (2 : Int32)) (((0 : Int32) + b0) + b1) ((((0 : Int32) + b0) + b1) + b2) (3 : Int32))), .second, .val (.int (4 : Int32))] [(.ref u), (.double (own_st (own_st (own_st FP.dconst0 (0 : Int32) ((0 : Int32) + b0) (1 : Int32)) ((0 : Int32) + b0) (((0 : Int32) + b0) + b1) (2 : Int32)) (((0 : Int32) + b0) + b1) ((((0 : Int32) + b0) + b1) + b2) (3 : Int32)))]))
          refine gIloadN Xt24 hx (hb hby d_prog_10_method_5_34) rfl ?_
          refine goIaload Xt24 hx hZ et24 Y1 (x := (((((0 : Int32) + b0) + b1) + b2) + b3)) (hb hby d_prog_10_method_5_35) (by decide) rfl ?_
          refine gI2d Xt24 hx (hb hby d_prog_10_method_5_36) ?_
          refine gIloadN Xt24 hx (hb hby d_prog_10_method_5_37) rfl ?_
          refine gI2d Xt24 hx (hb hby d_prog_10_method_5_38) ?_
          refine gDdiv Xt24 hx (hb hby d_prog_10_method_5_39) (own_qa4 b0 b1 b2 b3 hb0 hb1 hb2 hb3) ?_
          refine gDadd Xt24 hx (hb hby d_prog_10_method_5_40) (own_da4 b0 b1 b2 b3 hb0 hb1 hb2 hb3) ?_
          show Goes p e below _ (Tt24.setTop (mkF m 41 #[.val (.ref a1), .val (.double (own_st (own_st (own_st FP.dconst0 (0 : Int32) ((0 : Int32) + b0) (1 : Int32)) ((0 : Int32) + b0) (((0 : Int32) + b0) + b1) (2 : Int32)) (((0 : Int32) + b0) + b1) ((((0 : Int32) + b0) + b1) + b2) (3 : Int32))), .second, .val (.int (4 : Int32))] [(.double (FP.dadd (own_st (own_st (own_st FP.dconst0 (0 : Int32) ((0 : Int32) + b0) (1 : Int32)) ((0 : Int32) + b0) (((0 : Int32) + b0) + b1) (2 : Int32)) (((0 : Int32) + b0) + b1) ((((0 : Int32) + b0) + b1) + b2) (3 : Int32)) (FP.ddiv (FP.i2d (((((0 : Int32) + b0) + b1) + b2) + b3)) (FP.i2d (4 : Int32)))))]))
          refine gDstoreN Xt24 hx (hb hby d_prog_10_method_5_41) (l' := #[.val (.ref a1), .val (.double (FP.dadd (own_st (own_st (own_st FP.dconst0 (0 : Int32) ((0 : Int32) + b0) (1 : Int32)) ((0 : Int32) + b0) (((0 : Int32) + b0) + b1) (2 : Int32)) (((0 : Int32) + b0) + b1) ((((0 : Int32) + b0) + b1) + b2) (3 : Int32)) (FP.ddiv (FP.i2d (((((0 : Int32) + b0) + b1) + b2) + b3)) (FP.i2d (4 : Int32))))), .second, .val (.int (4 : Int32))]) rfl ?_
          exact J4 _ Tt24 _ (if_pos g).symm Xt24 et24 N21
        · refine gIcmpY Xt23 hx (hb hby d_prog_10_method_5_26) (pc' := 42) (XT.ii_le_t g) (by decide) (by decide) ?_
          show Goes p e below _ (Tt23.setTop (mkF m 42 #[.val (.ref a1), .val (.double (own_st (own_st (own_st FP.dconst0 (0 : Int32) ((0 : Int32) + b0) (1 : Int32)) ((0 : Int32) + b0) (((0 : Int32) + b0) + b1) (2 : Int32)) (((0 : Int32) + b0) + b1) ((((0 : Int32) + b0) + b1) + b2) (3 : Int32))), .second, .val (.int (4 : Int32))] []))
          exact J4 _ Tt23 _ (if_neg g).symm Xt23 et23 N21
      by_cases g : (((0 : Int32) + b0) + b1) < ((((0 : Int32) + b0) + b1) + b2)
      · refine gIcmpN Xt17 hx (hb hby d_prog_10_method_5_26) (XT.ii_le_f g) ?_
        show Goes p e below _ (Tt17.setTop (mkF m 29 #[.val (.ref a1), .val (.double (own_st (own_st FP.dconst0 (0 : Int32) ((0 : Int32) + b0) (1 : Int32)) ((0 : Int32) + b0) (((0 : Int32) + b0) + b1) (2 : Int32))), .second, .val (.int (3 : Int32))] []))
        refine gDloadN Xt17 hx (hb hby d_prog_10_method_5_29) rfl ?_
        refine gAloadN Xt17 hx (hb hby d_prog_10_method_5_30) rfl rfl ?_
        obtain ⟨Tt18, Xt18, et18, stt18⟩ := getF Xt17 hx hZ hown (host := "") (Or.inl (hw _ (List.mem_of_getElem? (i := 11) rfl))) Via.refl et17 F1 (g := (mkF m 31 #[.val (.ref a1), .val (.double (own_st (own_st FP.dconst0 (0 : Int32) ((0 : Int32) + b0) (1 : Int32)) ((0 : Int32) + b0) (((0 : Int32) + b0) + b1) (2 : Int32))), .second, .val (.int (3 : Int32))] [(.ref a1), (.double (own_st (own_st FP.dconst0 (0 : Int32) ((0 : Int32) + b0) (1 : Int32)) ((0 : Int32) + b0) (((0 : Int32) + b0) + b1) (2 : Int32)))])) rfl rfl (hb hby d_prog_10_method_5_31)
        refine go stt18 ?_
        show Goes p e below _ (Tt18.setTop (mkF m 34 #[.val (.ref a1), .val (.double (own_st (own_st FP.dconst0 (0 : Int32) ((0 : Int32) + b0) (1 : Int32)) ((0 : Int32) + b0) (((0 : Int32) + b0) + b1) (2 : Int32))), .second, .val (.int (3 : Int32))] [(.ref u), (.double (own_st (own_st FP.dconst0 (0 : Int32) ((0 : Int32) + b0) (1 : Int32)) ((0 : Int32) + b0) (((0 : Int32) + b0) + b1) (2 : Int32)))]))
        refine gIloadN Xt18 hx (hb hby d_prog_10_method_5_34) rfl ?_
        refine goIaload Xt18 hx hZ et18 Y1 (x := ((((0 : Int32) + b0) + b1) + b2)) (hb hby d_prog_10_method_5_35) (by decide) rfl ?_
        refine gI2d Xt18 hx (hb hby d_prog_10_method_5_36) ?_
        refine gIloadN Xt18 hx (hb hby d_prog_10_method_5_37) rfl ?_
        refine gI2d Xt18 hx (hb hby d_prog_10_method_5_38) ?_
        refine gDdiv Xt18 hx (hb hby d_prog_10_method_5_39) (own_qa3 b0 b1 b2 hb0 hb1 hb2) ?_
        refine gDadd Xt18 hx (hb hby d_prog_10_method_5_40) (own_da3 b0 b1 b2 hb0 hb1 hb2) ?_
        show Goes p e below _ (Tt18.setTop (mkF m 41 #[.val (.ref a1), .val (.double (own_st (own_st FP.dconst0 (0 : Int32) ((0 : Int32) + b0) (1 : Int32)) ((0 : Int32) + b0) (((0 : Int32) + b0) + b1) (2 : Int32))), .second, .val (.int (3 : Int32))] [(.double (FP.dadd (own_st (own_st FP.dconst0 (0 : Int32) ((0 : Int32) + b0) (1 : Int32)) ((0 : Int32) + b0) (((0 : Int32) + b0) + b1) (2 : Int32)) (FP.ddiv (FP.i2d ((((0 : Int32) + b0) + b1) + b2)) (FP.i2d (3 : Int32)))))]))
        refine gDstoreN Xt18 hx (hb hby d_prog_10_method_5_41) (l' := #[.val (.ref a1), .val (.double (FP.dadd (own_st (own_st FP.dconst0 (0 : Int32) ((0 : Int32) + b0) (1 : Int32)) ((0 : Int32) + b0) (((0 : Int32) + b0) + b1) (2 : Int32)) (FP.ddiv (FP.i2d ((((0 : Int32) + b0) + b1) + b2)) (FP.i2d (3 : Int32))))), .second, .val (.int (3 : Int32))]) rfl ?_
        exact J3 _ Tt18 _ (if_pos g).symm Xt18 et18 N15
      · refine gIcmpY Xt17 hx (hb hby d_prog_10_method_5_26) (pc' := 42) (XT.ii_le_t g) (by decide) (by decide) ?_
        show Goes p e below _ (Tt17.setTop (mkF m 42 #[.val (.ref a1), .val (.double (own_st (own_st FP.dconst0 (0 : Int32) ((0 : Int32) + b0) (1 : Int32)) ((0 : Int32) + b0) (((0 : Int32) + b0) + b1) (2 : Int32))), .second, .val (.int (3 : Int32))] []))
        exact J3 _ Tt17 _ (if_neg g).symm Xt17 et17 N15
    by_cases g : ((0 : Int32) + b0) < (((0 : Int32) + b0) + b1)
    · refine gIcmpN Xt11 hx (hb hby d_prog_10_method_5_26) (XT.ii_le_f g) ?_
      show Goes p e below _ (Tt11.setTop (mkF m 29 #[.val (.ref a1), .val (.double (own_st FP.dconst0 (0 : Int32) ((0 : Int32) + b0) (1 : Int32))), .second, .val (.int (2 : Int32))] []))
      refine gDloadN Xt11 hx (hb hby d_prog_10_method_5_29) rfl ?_
      refine gAloadN Xt11 hx (hb hby d_prog_10_method_5_30) rfl rfl ?_
      obtain ⟨Tt12, Xt12, et12, stt12⟩ := getF Xt11 hx hZ hown (host := "") (Or.inl (hw _ (List.mem_of_getElem? (i := 11) rfl))) Via.refl et11 F1 (g := (mkF m 31 #[.val (.ref a1), .val (.double (own_st FP.dconst0 (0 : Int32) ((0 : Int32) + b0) (1 : Int32))), .second, .val (.int (2 : Int32))] [(.ref a1), (.double (own_st FP.dconst0 (0 : Int32) ((0 : Int32) + b0) (1 : Int32)))])) rfl rfl (hb hby d_prog_10_method_5_31)
      refine go stt12 ?_
      show Goes p e below _ (Tt12.setTop (mkF m 34 #[.val (.ref a1), .val (.double (own_st FP.dconst0 (0 : Int32) ((0 : Int32) + b0) (1 : Int32))), .second, .val (.int (2 : Int32))] [(.ref u), (.double (own_st FP.dconst0 (0 : Int32) ((0 : Int32) + b0) (1 : Int32)))]))
      refine gIloadN Xt12 hx (hb hby d_prog_10_method_5_34) rfl ?_
      refine goIaload Xt12 hx hZ et12 Y1 (x := (((0 : Int32) + b0) + b1)) (hb hby d_prog_10_method_5_35) (by decide) rfl ?_
      refine gI2d Xt12 hx (hb hby d_prog_10_method_5_36) ?_
      refine gIloadN Xt12 hx (hb hby d_prog_10_method_5_37) rfl ?_
      refine gI2d Xt12 hx (hb hby d_prog_10_method_5_38) ?_
      refine gDdiv Xt12 hx (hb hby d_prog_10_method_5_39) (own_qa2 b0 b1 hb0 hb1) ?_
      refine gDadd Xt12 hx (hb hby d_prog_10_method_5_40) (own_da2 b0 b1 hb0 hb1) ?_
      show Goes p e below _ (Tt12.setTop (mkF m 41 #[.val (.ref a1), .val (.double (own_st FP.dconst0 (0 : Int32) ((0 : Int32) + b0) (1 : Int32))), .second, .val (.int (2 : Int32))] [(.double (FP.dadd (own_st FP.dconst0 (0 : Int32) ((0 : Int32) + b0) (1 : Int32)) (FP.ddiv (FP.i2d (((0 : Int32) + b0) + b1)) (FP.i2d (2 : Int32)))))]))
      refine gDstoreN Xt12 hx (hb hby d_prog_10_method_5_41) (l' := #[.val (.ref a1), .val (.double (FP.dadd (own_st FP.dconst0 (0 : Int32) ((0 : Int32) + b0) (1 : Int32)) (FP.ddiv (FP.i2d (((0 : Int32) + b0) + b1)) (FP.i2d (2 : Int32))))), .second, .val (.int (2 : Int32))]) rfl ?_
      exact J2 _ Tt12 _ (if_pos g).symm Xt12 et12 N9
    · refine gIcmpY Xt11 hx (hb hby d_prog_10_method_5_26) (pc' := 42) (XT.ii_le_t g) (by decide) (by decide) ?_
      show Goes p e below _ (Tt11.setTop (mkF m 42 #[.val (.ref a1), .val (.double (own_st FP.dconst0 (0 : Int32) ((0 : Int32) + b0) (1 : Int32))), .second, .val (.int (2 : Int32))] []))
      exact J2 _ Tt11 _ (if_neg g).symm Xt11 et11 N9
  by_cases g : (0 : Int32) < ((0 : Int32) + b0)
  · refine gIcmpN Xt5 hx (hb hby d_prog_10_method_5_26) (XT.ii_le_f g) ?_
    show Goes p e below _ (Tt5.setTop (mkF m 29 #[.val (.ref a1), .val (.double FP.dconst0), .second, .val (.int (1 : Int32))] []))
    refine gDloadN Xt5 hx (hb hby d_prog_10_method_5_29) rfl ?_
    refine gAloadN Xt5 hx (hb hby d_prog_10_method_5_30) rfl rfl ?_
    obtain ⟨Tt6, Xt6, et6, stt6⟩ := getF Xt5 hx hZ hown (host := "") (Or.inl (hw _ (List.mem_of_getElem? (i := 11) rfl))) Via.refl et5 F1 (g := (mkF m 31 #[.val (.ref a1), .val (.double FP.dconst0), .second, .val (.int (1 : Int32))] [(.ref a1), (.double FP.dconst0)])) rfl rfl (hb hby d_prog_10_method_5_31)
    refine go stt6 ?_
    show Goes p e below _ (Tt6.setTop (mkF m 34 #[.val (.ref a1), .val (.double FP.dconst0), .second, .val (.int (1 : Int32))] [(.ref u), (.double FP.dconst0)]))
    refine gIloadN Xt6 hx (hb hby d_prog_10_method_5_34) rfl ?_
    refine goIaload Xt6 hx hZ et6 Y1 (x := ((0 : Int32) + b0)) (hb hby d_prog_10_method_5_35) (by decide) rfl ?_
    refine gI2d Xt6 hx (hb hby d_prog_10_method_5_36) ?_
    refine gIloadN Xt6 hx (hb hby d_prog_10_method_5_37) rfl ?_
    refine gI2d Xt6 hx (hb hby d_prog_10_method_5_38) ?_
    refine gDdiv Xt6 hx (hb hby d_prog_10_method_5_39) (own_qa1 b0 hb0) ?_
    refine gDadd Xt6 hx (hb hby d_prog_10_method_5_40) (own_da1 b0 hb0) ?_
    show Goes p e below _ (Tt6.setTop (mkF m 41 #[.val (.ref a1), .val (.double FP.dconst0), .second, .val (.int (1 : Int32))] [(.double (FP.dadd FP.dconst0 (FP.ddiv (FP.i2d ((0 : Int32) + b0)) (FP.i2d (1 : Int32)))))]))
    refine gDstoreN Xt6 hx (hb hby d_prog_10_method_5_41) (l' := #[.val (.ref a1), .val (.double (FP.dadd FP.dconst0 (FP.ddiv (FP.i2d ((0 : Int32) + b0)) (FP.i2d (1 : Int32))))), .second, .val (.int (1 : Int32))]) rfl ?_
    exact J1 _ Tt6 _ (if_pos g).symm Xt6 et6 N3
  · refine gIcmpY Xt5 hx (hb hby d_prog_10_method_5_26) (pc' := 42) (XT.ii_le_t g) (by decide) (by decide) ?_
    show Goes p e below _ (Tt5.setTop (mkF m 42 #[.val (.ref a1), .val (.double FP.dconst0), .second, .val (.int (1 : Int32))] []))
    exact J1 _ Tt5 _ (if_neg g).symm Xt5 et5 N3
theorem pd_2 : parseMethodDescriptor "([ZI)V" = some ⟨[(.array .boolean), .int], none⟩ := by decide +kernel
theorem pd_3 : parseMethodDescriptor "()D" = some ⟨[], some .double⟩ := by decide +kernel
theorem pn_1 : plainName "com/example/almaden/almaden/eval/JudgedRankingAveragePrecisionPinLaw" = true := by first | (simp [plainName, overriddenIn]; done) | decide +kernel
theorem ef_rm0 (m : MethodId) (x0 : Int32) (x1 : Int32) (x2 : Int32) : entryFrame m #[(.int x0), (.int x1), (.int x2)] maxLocals = mkF m 0 #[.val (.int x0), .val (.int x1), .val (.int x2), .unset, .unset, .unset, .unset, .unset, .unset, .unset, .unset, .unset, .unset, .unset, .unset, .unset, .unset, .unset, .unset, .unset] [] := by first | (simp [entryFrame, mkF, argsToLocals, Value.category, maxLocals]; done) | rfl
set_option maxRecDepth 65536 in
set_option maxHeartbeats 40000000 in
theorem rm0 (l : Launch) (Z : State) (a0 : Array Value) (hw : ∀ d ∈ tables_1, d.before a0 Z = true)  (p0 : Int32) (p1 : Int32) (p2 : Int32) (h0 : Heap) (O0 : Ext Z.heap h0)  :
    Ctr l Z x code maxLocals ret tables_1 room_1 #[(.int p0), (.int p1), (.int p2)] h0 (fun v h L => v = some (.int 1) ∧ Fr Z.heap.size L) := by
  refine ctr (plainFor_of_name pn_1) ?_
  intro p e s m below meth c s₁ hx hby hml hown hnm hret hlocks hZ X0 e0
  have N0 := Fr.nil Z.heap.size
  have hsz : ∀ {Ls : Array Slot}, Ls.size = 20 → Ls.size = c.maxLocals := fun q => q.trans hml.symm
  refine goE (ef_rm0 m (p0) (p1) (p2)) ?_
  show Goes p e below _ (s₁.setTop (mkF m 0 #[.val (.int p0), .val (.int p1), .val (.int p2), .unset, .unset, .unset, .unset, .unset, .unset, .unset, .unset, .unset, .unset, .unset, .unset, .unset, .unset, .unset, .unset, .unset] []))
  refine gIloadN X0 hx (hb hby at_0) rfl ?_
  refine gBipush X0 hx (hb hby at_1) (v := (7 : Int32)) rfl ?_
  refine gIand X0 hx (hb hby at_3) ?_
  refine gIconst X0 hx (hb hby at_4) (v := (5 : Int32)) rfl ?_
  refine gIrem X0 hx (hb hby at_5) (by decide) ?_
  refine gIstoreN X0 hx (hb hby at_6) (l' := #[.val (.int p0), .val (.int p1), .val (.int p2), .val (.int ((p1 &&& (7 : Int32)) % (5 : Int32))), .unset, .unset, .unset, .unset, .unset, .unset, .unset, .unset, .unset, .unset, .unset, .unset, .unset, .unset, .unset, .unset]) rfl ?_
  refine gIloadN X0 hx (hb hby at_7) rfl ?_
  show Goes p e below _ (s₁.setTop (mkF m 8 #[.val (.int p0), .val (.int p1), .val (.int p2), .val (.int ((p1 &&& (7 : Int32)) % (5 : Int32))), .unset, .unset, .unset, .unset, .unset, .unset, .unset, .unset, .unset, .unset, .unset, .unset, .unset, .unset, .unset, .unset] [(.int ((p1 &&& (7 : Int32)) % (5 : Int32)))]))
  have h5 := own_k5 p1
  show Goes p e below _ (s₁.setTop (mkF m 8 #[.val (.int p0), .val (.int p1), .val (.int p2), .val (.int ((p1 &&& (7 : Int32)) % (5 : Int32))), .unset, .unset, .unset, .unset, .unset, .unset, .unset, .unset, .unset, .unset, .unset, .unset, .unset, .unset, .unset, .unset] [(.int ((p1 &&& (7 : Int32)) % (5 : Int32)))]))
  generalize hk : ((p1 &&& (7 : Int32)) % (5 : Int32)) = k at h5 ⊢
  show Goes p e below _ (s₁.setTop (mkF m 8 #[.val (.int p0), .val (.int p1), .val (.int p2), .val (.int k), .unset, .unset, .unset, .unset, .unset, .unset, .unset, .unset, .unset, .unset, .unset, .unset, .unset, .unset, .unset, .unset] [(.int k)]))
  rcases h5 with rfl | rfl | rfl | rfl | rfl
  · show Goes p e below _ (s₁.setTop (mkF m 8 #[.val (.int p0), .val (.int p1), .val (.int p2), .val (.int (0 : Int32)), .unset, .unset, .unset, .unset, .unset, .unset, .unset, .unset, .unset, .unset, .unset, .unset, .unset, .unset, .unset, .unset] [(.int (0 : Int32))]))
    refine gIfY X0 hx (hb hby at_8) (pc' := 21) (XT.i0_le_t (by decide)) (by decide) (by decide) ?_
    show Goes p e below _ (s₁.setTop (mkF m 21 #[.val (.int p0), .val (.int p1), .val (.int p2), .val (.int (0 : Int32)), .unset, .unset, .unset, .unset, .unset, .unset, .unset, .unset, .unset, .unset, .unset, .unset, .unset, .unset, .unset, .unset] []))
    refine gIconst X0 hx (hb hby at_21) (v := (0 : Int32)) rfl ?_
    refine gIstore X0 hx (hb hby at_22) (l' := #[.val (.int p0), .val (.int p1), .val (.int p2), .val (.int (0 : Int32)), .val (.int (0 : Int32)), .unset, .unset, .unset, .unset, .unset, .unset, .unset, .unset, .unset, .unset, .unset, .unset, .unset, .unset, .unset]) rfl ?_
    refine gIloadN X0 hx (hb hby at_24) rfl ?_
    refine gIconst X0 hx (hb hby at_25) (v := (1 : Int32)) rfl ?_
    refine gIcmpY X0 hx (hb hby at_26) (pc' := 41) (XT.ii_le_t (by decide)) (by decide) (by decide) ?_
    show Goes p e below _ (s₁.setTop (mkF m 41 #[.val (.int p0), .val (.int p1), .val (.int p2), .val (.int (0 : Int32)), .val (.int (0 : Int32)), .unset, .unset, .unset, .unset, .unset, .unset, .unset, .unset, .unset, .unset, .unset, .unset, .unset, .unset, .unset] []))
    refine gIconst X0 hx (hb hby at_41) (v := (0 : Int32)) rfl ?_
    refine gIstore X0 hx (hb hby at_42) (l' := #[.val (.int p0), .val (.int p1), .val (.int p2), .val (.int (0 : Int32)), .val (.int (0 : Int32)), .val (.int (0 : Int32)), .unset, .unset, .unset, .unset, .unset, .unset, .unset, .unset, .unset, .unset, .unset, .unset, .unset, .unset]) rfl ?_
    refine gIloadN X0 hx (hb hby at_44) rfl ?_
    refine gIconst X0 hx (hb hby at_45) (v := (2 : Int32)) rfl ?_
    refine gIcmpY X0 hx (hb hby at_46) (pc' := 61) (XT.ii_le_t (by decide)) (by decide) (by decide) ?_
    show Goes p e below _ (s₁.setTop (mkF m 61 #[.val (.int p0), .val (.int p1), .val (.int p2), .val (.int (0 : Int32)), .val (.int (0 : Int32)), .val (.int (0 : Int32)), .unset, .unset, .unset, .unset, .unset, .unset, .unset, .unset, .unset, .unset, .unset, .unset, .unset, .unset] []))
    refine gIconst X0 hx (hb hby at_61) (v := (0 : Int32)) rfl ?_
    refine gIstore X0 hx (hb hby at_62) (l' := #[.val (.int p0), .val (.int p1), .val (.int p2), .val (.int (0 : Int32)), .val (.int (0 : Int32)), .val (.int (0 : Int32)), .val (.int (0 : Int32)), .unset, .unset, .unset, .unset, .unset, .unset, .unset, .unset, .unset, .unset, .unset, .unset, .unset]) rfl ?_
    refine gIloadN X0 hx (hb hby at_64) rfl ?_
    refine gIconst X0 hx (hb hby at_65) (v := (3 : Int32)) rfl ?_
    refine gIcmpY X0 hx (hb hby at_66) (pc' := 81) (XT.ii_le_t (by decide)) (by decide) (by decide) ?_
    show Goes p e below _ (s₁.setTop (mkF m 81 #[.val (.int p0), .val (.int p1), .val (.int p2), .val (.int (0 : Int32)), .val (.int (0 : Int32)), .val (.int (0 : Int32)), .val (.int (0 : Int32)), .unset, .unset, .unset, .unset, .unset, .unset, .unset, .unset, .unset, .unset, .unset, .unset, .unset] []))
    refine gIconst X0 hx (hb hby at_81) (v := (0 : Int32)) rfl ?_
    refine gIstore X0 hx (hb hby at_82) (l' := #[.val (.int p0), .val (.int p1), .val (.int p2), .val (.int (0 : Int32)), .val (.int (0 : Int32)), .val (.int (0 : Int32)), .val (.int (0 : Int32)), .val (.int (0 : Int32)), .unset, .unset, .unset, .unset, .unset, .unset, .unset, .unset, .unset, .unset, .unset, .unset]) rfl ?_
    refine gIloadN X0 hx (hb hby at_84) rfl ?_
    obtain ⟨Tt1, ht1, kt1, Xt1, et1, Et1, At1, stt1⟩ := newP X0 hx hZ (hw _ (List.mem_of_getElem? (i := 0) rfl)) e0 (g := (mkF m 85 #[.val (.int p0), .val (.int p1), .val (.int p2), .val (.int (0 : Int32)), .val (.int (0 : Int32)), .val (.int (0 : Int32)), .val (.int (0 : Int32)), .val (.int (0 : Int32)), .unset, .unset, .unset, .unset, .unset, .unset, .unset, .unset, .unset, .unset, .unset, .unset] [(.int (0 : Int32))])) rfl (hb hby at_85) rfl (by decide) (cap := 0) (by decide) (by decide) (by decide) (by decide)
    obtain ⟨ob2, gob2⟩ : ∃ z, z = h0.size := ⟨_, rfl⟩
    rw [← gob2] at At1 stt1
    refine go stt1 ?_
    have fr_ob2 : Z.heap.size ≤ ob2 := gob2 ▸ O0.1
    have O3 : Ext Z.heap ht1 := extT O0 Et1
    have Y_ob2 : Ary Z ht1 ob2 .boolean [] := Ary.new At1 rfl (by decide)
    show Goes p e below _ (Tt1.setTop (mkF m 87 #[.val (.int p0), .val (.int p1), .val (.int p2), .val (.int (0 : Int32)), .val (.int (0 : Int32)), .val (.int (0 : Int32)), .val (.int (0 : Int32)), .val (.int (0 : Int32)), .unset, .unset, .unset, .unset, .unset, .unset, .unset, .unset, .unset, .unset, .unset, .unset] [(.ref ob2)]))
    refine gAstore Xt1 hx (hb hby at_87) rfl (l' := #[.val (.int p0), .val (.int p1), .val (.int p2), .val (.int (0 : Int32)), .val (.int (0 : Int32)), .val (.int (0 : Int32)), .val (.int (0 : Int32)), .val (.int (0 : Int32)), .val (.ref ob2), .unset, .unset, .unset, .unset, .unset, .unset, .unset, .unset, .unset, .unset, .unset]) rfl ?_
    refine gIloadN Xt1 hx (hb hby at_89) rfl ?_
    refine gIfY Xt1 hx (hb hby at_90) (pc' := 99) (XT.i0_le_t (by decide)) (by decide) (by decide) ?_
    show Goes p e below _ (Tt1.setTop (mkF m 99 #[.val (.int p0), .val (.int p1), .val (.int p2), .val (.int (0 : Int32)), .val (.int (0 : Int32)), .val (.int (0 : Int32)), .val (.int (0 : Int32)), .val (.int (0 : Int32)), .val (.ref ob2), .unset, .unset, .unset, .unset, .unset, .unset, .unset, .unset, .unset, .unset, .unset] []))
    refine gIloadN Xt1 hx (hb hby at_99) rfl ?_
    refine gIconst Xt1 hx (hb hby at_100) (v := (1 : Int32)) rfl ?_
    refine gIcmpY Xt1 hx (hb hby at_101) (pc' := 110) (XT.ii_le_t (by decide)) (by decide) (by decide) ?_
    show Goes p e below _ (Tt1.setTop (mkF m 110 #[.val (.int p0), .val (.int p1), .val (.int p2), .val (.int (0 : Int32)), .val (.int (0 : Int32)), .val (.int (0 : Int32)), .val (.int (0 : Int32)), .val (.int (0 : Int32)), .val (.ref ob2), .unset, .unset, .unset, .unset, .unset, .unset, .unset, .unset, .unset, .unset, .unset] []))
    refine gIloadN Xt1 hx (hb hby at_110) rfl ?_
    refine gIconst Xt1 hx (hb hby at_111) (v := (2 : Int32)) rfl ?_
    refine gIcmpY Xt1 hx (hb hby at_112) (pc' := 121) (XT.ii_le_t (by decide)) (by decide) (by decide) ?_
    show Goes p e below _ (Tt1.setTop (mkF m 121 #[.val (.int p0), .val (.int p1), .val (.int p2), .val (.int (0 : Int32)), .val (.int (0 : Int32)), .val (.int (0 : Int32)), .val (.int (0 : Int32)), .val (.int (0 : Int32)), .val (.ref ob2), .unset, .unset, .unset, .unset, .unset, .unset, .unset, .unset, .unset, .unset, .unset] []))
    refine gIloadN Xt1 hx (hb hby at_121) rfl ?_
    refine gIconst Xt1 hx (hb hby at_122) (v := (3 : Int32)) rfl ?_
    refine gIcmpY Xt1 hx (hb hby at_123) (pc' := 132) (XT.ii_le_t (by decide)) (by decide) (by decide) ?_
    show Goes p e below _ (Tt1.setTop (mkF m 132 #[.val (.int p0), .val (.int p1), .val (.int p2), .val (.int (0 : Int32)), .val (.int (0 : Int32)), .val (.int (0 : Int32)), .val (.int (0 : Int32)), .val (.int (0 : Int32)), .val (.ref ob2), .unset, .unset, .unset, .unset, .unset, .unset, .unset, .unset, .unset, .unset, .unset] []))
    obtain ⟨Tt4, ht4, Xt4, et4, Et4, At4, Dt4, -, stt4⟩ := newO Xt1 hx hZ hown (hw _ (List.mem_of_getElem? (i := 1) rfl)) (hw _ (List.mem_of_getElem? (i := 2) rfl)) (hw _ (List.mem_of_getElem? (i := 3) rfl)) et1 (g := (mkF m 132 #[.val (.int p0), .val (.int p1), .val (.int p2), .val (.int (0 : Int32)), .val (.int (0 : Int32)), .val (.int (0 : Int32)), .val (.int (0 : Int32)), .val (.int (0 : Int32)), .val (.ref ob2), .unset, .unset, .unset, .unset, .unset, .unset, .unset, .unset, .unset, .unset, .unset] [])) rfl (hb hby at_132) (by decide) (by decide)
    obtain ⟨ob5, gob5⟩ : ∃ z, z = ht1.size := ⟨_, rfl⟩
    rw [← gob5] at At4 Dt4 stt4
    refine go stt4 ?_
    have ne_ob2_ob5 : ob2 ≠ ob5 := Nat.ne_of_lt (gob5 ▸ Y_ob2.lt)
    have fr_ob5 : Z.heap.size ≤ ob5 := gob5 ▸ O3.1
    replace Y_ob2 := Y_ob2.ext Et4
    have O6 : Ext Z.heap ht4 := extT O3 Et4
    have F_relevantWithin_ob5 : Fld Z ht4 ob5 "com/example/almaden/almaden/eval/JudgedRanking" "relevantWithin" "[I" .null := Dt4 (Or.inr (hw _ (List.mem_of_getElem? (i := 12) rfl))) (ty := (.array .int)) (by decide)
    have F_relevant_ob5 : Fld Z ht4 ob5 "com/example/almaden/almaden/eval/JudgedRanking" "relevant" "I" (.int (0 : Int32)) := Dt4 (Or.inr (hw _ (List.mem_of_getElem? (i := 14) rfl))) (ty := .int) (by decide)
    show Goes p e below _ (Tt4.setTop (mkF m 135 #[.val (.int p0), .val (.int p1), .val (.int p2), .val (.int (0 : Int32)), .val (.int (0 : Int32)), .val (.int (0 : Int32)), .val (.int (0 : Int32)), .val (.int (0 : Int32)), .val (.ref ob2), .unset, .unset, .unset, .unset, .unset, .unset, .unset, .unset, .unset, .unset, .unset] [(.ref ob5)]))
    refine gDup Xt4 hx (hb hby at_135) rfl ?_
    refine gAload Xt4 hx (hb hby at_136) rfl rfl ?_
    refine gIloadN Xt4 hx (hb hby at_138) rfl ?_
    have lt_ob2_t7 := Y_ob2.lt
    have lt_ob5_t7 := At4.lt
    refine goCallI Xt4 hx hZ rfl hown (hw _ (List.mem_of_getElem? (i := 4) rfl)) (hw _ (List.mem_of_getElem? (i := 5) rfl)) (hw _ (List.mem_of_getElem? (i := 3) rfl)) (hw _ (List.mem_of_getElem? (i := 6) rfl)) (by decide) (rmI0 l Z a0 hw  ob5 ob2 p2 ht4 O6 At4 F_relevantWithin_ob5 F_relevant_ob5 Y_ob2 (Ne.symm ne_ob2_ob5) fr_ob5 ) 1 (by decide) (by decide) et4 (hsz rfl) ob5 [(.ref ob2), (.int p2)] [(.ref ob5)] pd_2 rfl rfl rfl (Nat.le_of_eq rfl) (hb hby at_139) (by decide) (by decide) (fun Tt7 vt7 Lt7 Xt7 qt7 => ?_)
    obtain ⟨ht7, et7⟩ : ∃ z, Tt7.heap = z := ⟨_, rfl⟩
    rw [et7] at qt7
    obtain ⟨rfl, N8, Kct7, u, pu, G1, G2, Yu⟩ := qt7
    have N9 := Fr.app N0 N8
    replace Y_ob2 := Y_ob2.keep Kct7 (ninS ne_ob2_ob5 nin0)
    replace At4 := At4.keep Kct7
    have O10 : Ext Z.heap ht7 := extK O6 Kct7 (allS fr_ob5 all0)
    have ne_ob2_u : ob2 ≠ u := Nat.ne_of_lt (Nat.lt_of_lt_of_le lt_ob2_t7 pu)
    have ne_ob5_u : ob5 ≠ u := Nat.ne_of_lt (Nat.lt_of_lt_of_le lt_ob5_t7 pu)
    have fr_u : Z.heap.size ≤ u := Nat.le_trans O6.1 pu
    show Goes p e below _ (Tt7.setTop (mkF m 142 #[.val (.int p0), .val (.int p1), .val (.int p2), .val (.int (0 : Int32)), .val (.int (0 : Int32)), .val (.int (0 : Int32)), .val (.int (0 : Int32)), .val (.int (0 : Int32)), .val (.ref ob2), .unset, .unset, .unset, .unset, .unset, .unset, .unset, .unset, .unset, .unset, .unset] [(.ref ob5)]))
    refine gAstore Xt7 hx (hb hby at_142) rfl (l' := #[.val (.int p0), .val (.int p1), .val (.int p2), .val (.int (0 : Int32)), .val (.int (0 : Int32)), .val (.int (0 : Int32)), .val (.int (0 : Int32)), .val (.int (0 : Int32)), .val (.ref ob2), .val (.ref ob5), .unset, .unset, .unset, .unset, .unset, .unset, .unset, .unset, .unset, .unset]) rfl ?_
    refine gAload Xt7 hx (hb hby at_144) rfl rfl ?_
    refine goCallV Xt7 hx hZ hown (hw _ (List.mem_of_getElem? (i := 15) rfl)) (hw _ (List.mem_of_getElem? (i := 16) rfl)) (hw _ (List.mem_of_getElem? (i := 18) rfl)) (hw _ (List.mem_of_getElem? (i := 17) rfl)) (hw _ (List.mem_of_getElem? (i := 3) rfl)) (hw _ (List.mem_of_getElem? (i := 19) rfl)) (by decide) (rmA0 l Z a0 hw u p2  ob5 ht7 O10 At4 G1 G2 Yu ) 0 (by decide) (by decide) et7 At4 (hsz rfl) [] [] pd_3 rfl rfl rfl (Nat.le_of_eq rfl) (hb hby at_146) (by decide) (by decide) (fun Tt11 vt11 Lt11 Xt11 qt11 => ?_)
    obtain ⟨rfl, N12, et11⟩ := qt11
    have N13 := Fr.app N9 N12
    show Goes p e below _ (Tt11.setTop (mkF m 149 #[.val (.int p0), .val (.int p1), .val (.int p2), .val (.int (0 : Int32)), .val (.int (0 : Int32)), .val (.int (0 : Int32)), .val (.int (0 : Int32)), .val (.int (0 : Int32)), .val (.ref ob2), .val (.ref ob5), .unset, .unset, .unset, .unset, .unset, .unset, .unset, .unset, .unset, .unset] [(.double (own_rt FP.dconst0 p2))]))
    refine gDstore Xt11 hx (hb hby at_149) (l' := #[.val (.int p0), .val (.int p1), .val (.int p2), .val (.int (0 : Int32)), .val (.int (0 : Int32)), .val (.int (0 : Int32)), .val (.int (0 : Int32)), .val (.int (0 : Int32)), .val (.ref ob2), .val (.ref ob5), .val (.double (own_rt FP.dconst0 p2)), .second, .unset, .unset, .unset, .unset, .unset, .unset, .unset, .unset]) rfl ?_
    refine gIload Xt11 hx (hb hby at_151) rfl ?_
    refine gIfY Xt11 hx (hb hby at_153) (pc' := 160) (XT.i0_eq_t (by decide)) (by decide) (by decide) ?_
    show Goes p e below _ (Tt11.setTop (mkF m 160 #[.val (.int p0), .val (.int p1), .val (.int p2), .val (.int (0 : Int32)), .val (.int (0 : Int32)), .val (.int (0 : Int32)), .val (.int (0 : Int32)), .val (.int (0 : Int32)), .val (.ref ob2), .val (.ref ob5), .val (.double (own_rt FP.dconst0 p2)), .second, .unset, .unset, .unset, .unset, .unset, .unset, .unset, .unset] []))
    refine gIconst Xt11 hx (hb hby at_160) (v := (0 : Int32)) rfl ?_
    refine gIstore Xt11 hx (hb hby at_161) (l' := #[.val (.int p0), .val (.int p1), .val (.int p2), .val (.int (0 : Int32)), .val (.int (0 : Int32)), .val (.int (0 : Int32)), .val (.int (0 : Int32)), .val (.int (0 : Int32)), .val (.ref ob2), .val (.ref ob5), .val (.double (own_rt FP.dconst0 p2)), .second, .val (.int (0 : Int32)), .unset, .unset, .unset, .unset, .unset, .unset, .unset]) rfl ?_
    refine gIload Xt11 hx (hb hby at_163) rfl ?_
    refine gIload Xt11 hx (hb hby at_165) rfl ?_
    refine gIfY Xt11 hx (hb hby at_167) (pc' := 174) (XT.i0_eq_t (by decide)) (by decide) (by decide) ?_
    show Goes p e below _ (Tt11.setTop (mkF m 174 #[.val (.int p0), .val (.int p1), .val (.int p2), .val (.int (0 : Int32)), .val (.int (0 : Int32)), .val (.int (0 : Int32)), .val (.int (0 : Int32)), .val (.int (0 : Int32)), .val (.ref ob2), .val (.ref ob5), .val (.double (own_rt FP.dconst0 p2)), .second, .val (.int (0 : Int32)), .unset, .unset, .unset, .unset, .unset, .unset, .unset] [(.int (0 : Int32))]))
    refine gIconst Xt11 hx (hb hby at_174) (v := (0 : Int32)) rfl ?_
    refine gIadd Xt11 hx (hb hby at_175) ?_
    refine gIstore Xt11 hx (hb hby at_176) (l' := #[.val (.int p0), .val (.int p1), .val (.int p2), .val (.int (0 : Int32)), .val (.int (0 : Int32)), .val (.int (0 : Int32)), .val (.int (0 : Int32)), .val (.int (0 : Int32)), .val (.ref ob2), .val (.ref ob5), .val (.double (own_rt FP.dconst0 p2)), .second, .val (.int (0 : Int32)), .val (.int (0 : Int32)), .unset, .unset, .unset, .unset, .unset, .unset]) rfl ?_
    refine gIload Xt11 hx (hb hby at_178) rfl ?_
    refine gIload Xt11 hx (hb hby at_180) rfl ?_
    refine gIfY Xt11 hx (hb hby at_182) (pc' := 189) (XT.i0_eq_t (by decide)) (by decide) (by decide) ?_
    show Goes p e below _ (Tt11.setTop (mkF m 189 #[.val (.int p0), .val (.int p1), .val (.int p2), .val (.int (0 : Int32)), .val (.int (0 : Int32)), .val (.int (0 : Int32)), .val (.int (0 : Int32)), .val (.int (0 : Int32)), .val (.ref ob2), .val (.ref ob5), .val (.double (own_rt FP.dconst0 p2)), .second, .val (.int (0 : Int32)), .val (.int (0 : Int32)), .unset, .unset, .unset, .unset, .unset, .unset] [(.int (0 : Int32))]))
    refine gIconst Xt11 hx (hb hby at_189) (v := (0 : Int32)) rfl ?_
    refine gIadd Xt11 hx (hb hby at_190) ?_
    refine gIstore Xt11 hx (hb hby at_191) (l' := #[.val (.int p0), .val (.int p1), .val (.int p2), .val (.int (0 : Int32)), .val (.int (0 : Int32)), .val (.int (0 : Int32)), .val (.int (0 : Int32)), .val (.int (0 : Int32)), .val (.ref ob2), .val (.ref ob5), .val (.double (own_rt FP.dconst0 p2)), .second, .val (.int (0 : Int32)), .val (.int (0 : Int32)), .val (.int (0 : Int32)), .unset, .unset, .unset, .unset, .unset]) rfl ?_
    refine gIload Xt11 hx (hb hby at_193) rfl ?_
    refine gIload Xt11 hx (hb hby at_195) rfl ?_
    refine gIfY Xt11 hx (hb hby at_197) (pc' := 204) (XT.i0_eq_t (by decide)) (by decide) (by decide) ?_
    show Goes p e below _ (Tt11.setTop (mkF m 204 #[.val (.int p0), .val (.int p1), .val (.int p2), .val (.int (0 : Int32)), .val (.int (0 : Int32)), .val (.int (0 : Int32)), .val (.int (0 : Int32)), .val (.int (0 : Int32)), .val (.ref ob2), .val (.ref ob5), .val (.double (own_rt FP.dconst0 p2)), .second, .val (.int (0 : Int32)), .val (.int (0 : Int32)), .val (.int (0 : Int32)), .unset, .unset, .unset, .unset, .unset] [(.int (0 : Int32))]))
    refine gIconst Xt11 hx (hb hby at_204) (v := (0 : Int32)) rfl ?_
    refine gIadd Xt11 hx (hb hby at_205) ?_
    refine gIstore Xt11 hx (hb hby at_206) (l' := #[.val (.int p0), .val (.int p1), .val (.int p2), .val (.int (0 : Int32)), .val (.int (0 : Int32)), .val (.int (0 : Int32)), .val (.int (0 : Int32)), .val (.int (0 : Int32)), .val (.ref ob2), .val (.ref ob5), .val (.double (own_rt FP.dconst0 p2)), .second, .val (.int (0 : Int32)), .val (.int (0 : Int32)), .val (.int (0 : Int32)), .val (.int (0 : Int32)), .unset, .unset, .unset, .unset]) rfl ?_
    refine gDconst0 Xt11 hx (hb hby at_208) ?_
    refine gDstore Xt11 hx (hb hby at_209) (l' := #[.val (.int p0), .val (.int p1), .val (.int p2), .val (.int (0 : Int32)), .val (.int (0 : Int32)), .val (.int (0 : Int32)), .val (.int (0 : Int32)), .val (.int (0 : Int32)), .val (.ref ob2), .val (.ref ob5), .val (.double (own_rt FP.dconst0 p2)), .second, .val (.int (0 : Int32)), .val (.int (0 : Int32)), .val (.int (0 : Int32)), .val (.int (0 : Int32)), .val (.double FP.dconst0), .second, .unset, .unset]) rfl ?_
    refine gIload Xt11 hx (hb hby at_211) rfl ?_
    refine gIfY Xt11 hx (hb hby at_213) (pc' := 226) (XT.i0_eq_t (by decide)) (by decide) (by decide) ?_
    show Goes p e below _ (Tt11.setTop (mkF m 226 #[.val (.int p0), .val (.int p1), .val (.int p2), .val (.int (0 : Int32)), .val (.int (0 : Int32)), .val (.int (0 : Int32)), .val (.int (0 : Int32)), .val (.int (0 : Int32)), .val (.ref ob2), .val (.ref ob5), .val (.double (own_rt FP.dconst0 p2)), .second, .val (.int (0 : Int32)), .val (.int (0 : Int32)), .val (.int (0 : Int32)), .val (.int (0 : Int32)), .val (.double FP.dconst0), .second, .unset, .unset] []))
    refine gIload Xt11 hx (hb hby at_226) rfl ?_
    refine gIfY Xt11 hx (hb hby at_228) (pc' := 243) (XT.i0_eq_t (by decide)) (by decide) (by decide) ?_
    show Goes p e below _ (Tt11.setTop (mkF m 243 #[.val (.int p0), .val (.int p1), .val (.int p2), .val (.int (0 : Int32)), .val (.int (0 : Int32)), .val (.int (0 : Int32)), .val (.int (0 : Int32)), .val (.int (0 : Int32)), .val (.ref ob2), .val (.ref ob5), .val (.double (own_rt FP.dconst0 p2)), .second, .val (.int (0 : Int32)), .val (.int (0 : Int32)), .val (.int (0 : Int32)), .val (.int (0 : Int32)), .val (.double FP.dconst0), .second, .unset, .unset] []))
    refine gIload Xt11 hx (hb hby at_243) rfl ?_
    refine gIfY Xt11 hx (hb hby at_245) (pc' := 260) (XT.i0_eq_t (by decide)) (by decide) (by decide) ?_
    show Goes p e below _ (Tt11.setTop (mkF m 260 #[.val (.int p0), .val (.int p1), .val (.int p2), .val (.int (0 : Int32)), .val (.int (0 : Int32)), .val (.int (0 : Int32)), .val (.int (0 : Int32)), .val (.int (0 : Int32)), .val (.ref ob2), .val (.ref ob5), .val (.double (own_rt FP.dconst0 p2)), .second, .val (.int (0 : Int32)), .val (.int (0 : Int32)), .val (.int (0 : Int32)), .val (.int (0 : Int32)), .val (.double FP.dconst0), .second, .unset, .unset] []))
    refine gIload Xt11 hx (hb hby at_260) rfl ?_
    refine gIfY Xt11 hx (hb hby at_262) (pc' := 277) (XT.i0_eq_t (by decide)) (by decide) (by decide) ?_
    show Goes p e below _ (Tt11.setTop (mkF m 277 #[.val (.int p0), .val (.int p1), .val (.int p2), .val (.int (0 : Int32)), .val (.int (0 : Int32)), .val (.int (0 : Int32)), .val (.int (0 : Int32)), .val (.int (0 : Int32)), .val (.ref ob2), .val (.ref ob5), .val (.double (own_rt FP.dconst0 p2)), .second, .val (.int (0 : Int32)), .val (.int (0 : Int32)), .val (.int (0 : Int32)), .val (.int (0 : Int32)), .val (.double FP.dconst0), .second, .unset, .unset] []))
    refine gIloadN Xt11 hx (hb hby at_277) rfl ?_
    have same := own_same0  
    have ns := own_ns0  
    by_cases g : 0 < p2
    · refine gIfN Xt11 hx (hb hby at_278) (XT.i0_le_f g) ?_
      show Goes p e below _ (Tt11.setTop (mkF m 281 #[.val (.int p0), .val (.int p1), .val (.int p2), .val (.int (0 : Int32)), .val (.int (0 : Int32)), .val (.int (0 : Int32)), .val (.int (0 : Int32)), .val (.int (0 : Int32)), .val (.ref ob2), .val (.ref ob5), .val (.double (own_rt FP.dconst0 p2)), .second, .val (.int (0 : Int32)), .val (.int (0 : Int32)), .val (.int (0 : Int32)), .val (.int (0 : Int32)), .val (.double FP.dconst0), .second, .unset, .unset] []))
      refine gDload Xt11 hx (hb hby at_281) rfl ?_
      refine gIloadN Xt11 hx (hb hby at_283) rfl ?_
      refine gI2d Xt11 hx (hb hby at_284) ?_
      refine gDdiv Xt11 hx (hb hby at_285) (own_div (same ▸ ns) g) ?_
      refine gGoto Xt11 hx (hb hby at_286) (pc' := 290) (by decide) (by decide) ?_
      show Goes p e below _ (Tt11.setTop (mkF m 290 #[.val (.int p0), .val (.int p1), .val (.int p2), .val (.int (0 : Int32)), .val (.int (0 : Int32)), .val (.int (0 : Int32)), .val (.int (0 : Int32)), .val (.int (0 : Int32)), .val (.ref ob2), .val (.ref ob5), .val (.double (own_rt FP.dconst0 p2)), .second, .val (.int (0 : Int32)), .val (.int (0 : Int32)), .val (.int (0 : Int32)), .val (.int (0 : Int32)), .val (.double FP.dconst0), .second, .unset, .unset] [(.double (FP.ddiv FP.dconst0 (FP.i2d p2)))]))
      refine gDstore Xt11 hx (hb hby at_290) (l' := #[.val (.int p0), .val (.int p1), .val (.int p2), .val (.int (0 : Int32)), .val (.int (0 : Int32)), .val (.int (0 : Int32)), .val (.int (0 : Int32)), .val (.int (0 : Int32)), .val (.ref ob2), .val (.ref ob5), .val (.double (own_rt FP.dconst0 p2)), .second, .val (.int (0 : Int32)), .val (.int (0 : Int32)), .val (.int (0 : Int32)), .val (.int (0 : Int32)), .val (.double FP.dconst0), .second, .val (.double (FP.ddiv FP.dconst0 (FP.i2d p2))), .second]) rfl ?_
      refine gDload Xt11 hx (hb hby at_292) rfl ?_
      refine gDload Xt11 hx (hb hby at_294) rfl ?_
      refine gDcmp Xt11 hx (hb hby at_296) ?_
      refine gIfN Xt11 hx (hb hby at_297) (XT.i0_ne_f (dcmpV_eq (by rw [show own_rt FP.dconst0 p2 = FP.ddiv FP.dconst0 (FP.i2d p2) from if_pos g, same]) (own_rtn ns p2) .l)) ?_
      show Goes p e below _ (Tt11.setTop (mkF m 300 #[.val (.int p0), .val (.int p1), .val (.int p2), .val (.int (0 : Int32)), .val (.int (0 : Int32)), .val (.int (0 : Int32)), .val (.int (0 : Int32)), .val (.int (0 : Int32)), .val (.ref ob2), .val (.ref ob5), .val (.double (own_rt FP.dconst0 p2)), .second, .val (.int (0 : Int32)), .val (.int (0 : Int32)), .val (.int (0 : Int32)), .val (.int (0 : Int32)), .val (.double FP.dconst0), .second, .val (.double (FP.ddiv FP.dconst0 (FP.i2d p2))), .second] []))
      refine gIconst Xt11 hx (hb hby at_300) (v := (1 : Int32)) rfl ?_
      refine gGoto Xt11 hx (hb hby at_301) (pc' := 305) (by decide) (by decide) ?_
      show Goes p e below _ (Tt11.setTop (mkF m 305 #[.val (.int p0), .val (.int p1), .val (.int p2), .val (.int (0 : Int32)), .val (.int (0 : Int32)), .val (.int (0 : Int32)), .val (.int (0 : Int32)), .val (.int (0 : Int32)), .val (.ref ob2), .val (.ref ob5), .val (.double (own_rt FP.dconst0 p2)), .second, .val (.int (0 : Int32)), .val (.int (0 : Int32)), .val (.int (0 : Int32)), .val (.int (0 : Int32)), .val (.double FP.dconst0), .second, .val (.double (FP.ddiv FP.dconst0 (FP.i2d p2))), .second] [(.int (1 : Int32))]))
      exact goRetN Xt11 hx (t := .boolean) hret hlocks (by simp) (hb hby at_305) (z' := (1 : Int32)) rfl (by decide) (by decide) et11 (⟨rfl, N13⟩)
    · refine gIfY Xt11 hx (hb hby at_278) (pc' := 289) (XT.i0_le_t g) (by decide) (by decide) ?_
      show Goes p e below _ (Tt11.setTop (mkF m 289 #[.val (.int p0), .val (.int p1), .val (.int p2), .val (.int (0 : Int32)), .val (.int (0 : Int32)), .val (.int (0 : Int32)), .val (.int (0 : Int32)), .val (.int (0 : Int32)), .val (.ref ob2), .val (.ref ob5), .val (.double (own_rt FP.dconst0 p2)), .second, .val (.int (0 : Int32)), .val (.int (0 : Int32)), .val (.int (0 : Int32)), .val (.int (0 : Int32)), .val (.double FP.dconst0), .second, .unset, .unset] []))
      refine gDconst0 Xt11 hx (hb hby at_289) ?_
      refine gDstore Xt11 hx (hb hby at_290) (l' := #[.val (.int p0), .val (.int p1), .val (.int p2), .val (.int (0 : Int32)), .val (.int (0 : Int32)), .val (.int (0 : Int32)), .val (.int (0 : Int32)), .val (.int (0 : Int32)), .val (.ref ob2), .val (.ref ob5), .val (.double (own_rt FP.dconst0 p2)), .second, .val (.int (0 : Int32)), .val (.int (0 : Int32)), .val (.int (0 : Int32)), .val (.int (0 : Int32)), .val (.double FP.dconst0), .second, .val (.double FP.dconst0), .second]) rfl ?_
      refine gDload Xt11 hx (hb hby at_292) rfl ?_
      refine gDload Xt11 hx (hb hby at_294) rfl ?_
      refine gDcmp Xt11 hx (hb hby at_296) ?_
      refine gIfN Xt11 hx (hb hby at_297) (XT.i0_ne_f (dcmpV_eq (if_neg g) (own_rtn ns p2) .l)) ?_
      show Goes p e below _ (Tt11.setTop (mkF m 300 #[.val (.int p0), .val (.int p1), .val (.int p2), .val (.int (0 : Int32)), .val (.int (0 : Int32)), .val (.int (0 : Int32)), .val (.int (0 : Int32)), .val (.int (0 : Int32)), .val (.ref ob2), .val (.ref ob5), .val (.double (own_rt FP.dconst0 p2)), .second, .val (.int (0 : Int32)), .val (.int (0 : Int32)), .val (.int (0 : Int32)), .val (.int (0 : Int32)), .val (.double FP.dconst0), .second, .val (.double FP.dconst0), .second] []))
      refine gIconst Xt11 hx (hb hby at_300) (v := (1 : Int32)) rfl ?_
      refine gGoto Xt11 hx (hb hby at_301) (pc' := 305) (by decide) (by decide) ?_
      show Goes p e below _ (Tt11.setTop (mkF m 305 #[.val (.int p0), .val (.int p1), .val (.int p2), .val (.int (0 : Int32)), .val (.int (0 : Int32)), .val (.int (0 : Int32)), .val (.int (0 : Int32)), .val (.int (0 : Int32)), .val (.ref ob2), .val (.ref ob5), .val (.double (own_rt FP.dconst0 p2)), .second, .val (.int (0 : Int32)), .val (.int (0 : Int32)), .val (.int (0 : Int32)), .val (.int (0 : Int32)), .val (.double FP.dconst0), .second, .val (.double FP.dconst0), .second] [(.int (1 : Int32))]))
      exact goRetN Xt11 hx (t := .boolean) hret hlocks (by simp) (hb hby at_305) (z' := (1 : Int32)) rfl (by decide) (by decide) et11 (⟨rfl, N13⟩)
  · show Goes p e below _ (s₁.setTop (mkF m 8 #[.val (.int p0), .val (.int p1), .val (.int p2), .val (.int (1 : Int32)), .unset, .unset, .unset, .unset, .unset, .unset, .unset, .unset, .unset, .unset, .unset, .unset, .unset, .unset, .unset, .unset] [(.int (1 : Int32))]))
    refine gIfN X0 hx (hb hby at_8) (XT.i0_le_f (by decide)) ?_
    show Goes p e below _ (s₁.setTop (mkF m 11 #[.val (.int p0), .val (.int p1), .val (.int p2), .val (.int (1 : Int32)), .unset, .unset, .unset, .unset, .unset, .unset, .unset, .unset, .unset, .unset, .unset, .unset, .unset, .unset, .unset, .unset] []))
    refine gIloadN X0 hx (hb hby at_11) rfl ?_
    refine gIconst X0 hx (hb hby at_12) (v := (1 : Int32)) rfl ?_
    refine gIand X0 hx (hb hby at_13) ?_
    have K0 : ∀ (b0 : Int32), b0 = 0 ∨ b0 = 1 → Goes p e below (EndN s (fun v h L => v = some (.int 1) ∧ Fr Z.heap.size L) room_1.cells room_1.slots) (s₁.setTop (mkF m 22 #[.val (.int p0), .val (.int p1), .val (.int p2), .val (.int (1 : Int32)), .unset, .unset, .unset, .unset, .unset, .unset, .unset, .unset, .unset, .unset, .unset, .unset, .unset, .unset, .unset, .unset] [(.int b0)])) := by
      intro b0 hb0
      have nb0 := own_nb hb0
      refine gIstore X0 hx (hb hby at_22) (l' := #[.val (.int p0), .val (.int p1), .val (.int p2), .val (.int (1 : Int32)), .val (.int b0), .unset, .unset, .unset, .unset, .unset, .unset, .unset, .unset, .unset, .unset, .unset, .unset, .unset, .unset, .unset]) rfl ?_
      refine gIloadN X0 hx (hb hby at_24) rfl ?_
      refine gIconst X0 hx (hb hby at_25) (v := (1 : Int32)) rfl ?_
      refine gIcmpY X0 hx (hb hby at_26) (pc' := 41) (XT.ii_le_t (by decide)) (by decide) (by decide) ?_
      show Goes p e below _ (s₁.setTop (mkF m 41 #[.val (.int p0), .val (.int p1), .val (.int p2), .val (.int (1 : Int32)), .val (.int b0), .unset, .unset, .unset, .unset, .unset, .unset, .unset, .unset, .unset, .unset, .unset, .unset, .unset, .unset, .unset] []))
      refine gIconst X0 hx (hb hby at_41) (v := (0 : Int32)) rfl ?_
      refine gIstore X0 hx (hb hby at_42) (l' := #[.val (.int p0), .val (.int p1), .val (.int p2), .val (.int (1 : Int32)), .val (.int b0), .val (.int (0 : Int32)), .unset, .unset, .unset, .unset, .unset, .unset, .unset, .unset, .unset, .unset, .unset, .unset, .unset, .unset]) rfl ?_
      refine gIloadN X0 hx (hb hby at_44) rfl ?_
      refine gIconst X0 hx (hb hby at_45) (v := (2 : Int32)) rfl ?_
      refine gIcmpY X0 hx (hb hby at_46) (pc' := 61) (XT.ii_le_t (by decide)) (by decide) (by decide) ?_
      show Goes p e below _ (s₁.setTop (mkF m 61 #[.val (.int p0), .val (.int p1), .val (.int p2), .val (.int (1 : Int32)), .val (.int b0), .val (.int (0 : Int32)), .unset, .unset, .unset, .unset, .unset, .unset, .unset, .unset, .unset, .unset, .unset, .unset, .unset, .unset] []))
      refine gIconst X0 hx (hb hby at_61) (v := (0 : Int32)) rfl ?_
      refine gIstore X0 hx (hb hby at_62) (l' := #[.val (.int p0), .val (.int p1), .val (.int p2), .val (.int (1 : Int32)), .val (.int b0), .val (.int (0 : Int32)), .val (.int (0 : Int32)), .unset, .unset, .unset, .unset, .unset, .unset, .unset, .unset, .unset, .unset, .unset, .unset, .unset]) rfl ?_
      refine gIloadN X0 hx (hb hby at_64) rfl ?_
      refine gIconst X0 hx (hb hby at_65) (v := (3 : Int32)) rfl ?_
      refine gIcmpY X0 hx (hb hby at_66) (pc' := 81) (XT.ii_le_t (by decide)) (by decide) (by decide) ?_
      show Goes p e below _ (s₁.setTop (mkF m 81 #[.val (.int p0), .val (.int p1), .val (.int p2), .val (.int (1 : Int32)), .val (.int b0), .val (.int (0 : Int32)), .val (.int (0 : Int32)), .unset, .unset, .unset, .unset, .unset, .unset, .unset, .unset, .unset, .unset, .unset, .unset, .unset] []))
      refine gIconst X0 hx (hb hby at_81) (v := (0 : Int32)) rfl ?_
      refine gIstore X0 hx (hb hby at_82) (l' := #[.val (.int p0), .val (.int p1), .val (.int p2), .val (.int (1 : Int32)), .val (.int b0), .val (.int (0 : Int32)), .val (.int (0 : Int32)), .val (.int (0 : Int32)), .unset, .unset, .unset, .unset, .unset, .unset, .unset, .unset, .unset, .unset, .unset, .unset]) rfl ?_
      refine gIloadN X0 hx (hb hby at_84) rfl ?_
      obtain ⟨Tt14, ht14, kt14, Xt14, et14, Et14, At14, stt14⟩ := newP X0 hx hZ (hw _ (List.mem_of_getElem? (i := 0) rfl)) e0 (g := (mkF m 85 #[.val (.int p0), .val (.int p1), .val (.int p2), .val (.int (1 : Int32)), .val (.int b0), .val (.int (0 : Int32)), .val (.int (0 : Int32)), .val (.int (0 : Int32)), .unset, .unset, .unset, .unset, .unset, .unset, .unset, .unset, .unset, .unset, .unset, .unset] [(.int (1 : Int32))])) rfl (hb hby at_85) rfl (by decide) (cap := 1) (by decide) (by decide) (by decide) (by decide)
      obtain ⟨ob15, gob15⟩ : ∃ z, z = h0.size := ⟨_, rfl⟩
      rw [← gob15] at At14 stt14
      refine go stt14 ?_
      have fr_ob15 : Z.heap.size ≤ ob15 := gob15 ▸ O0.1
      have O16 : Ext Z.heap ht14 := extT O0 Et14
      have Y_ob15 : Ary Z ht14 ob15 .boolean [(.int (0 : Int32))] := Ary.new At14 rfl (by decide)
      show Goes p e below _ (Tt14.setTop (mkF m 87 #[.val (.int p0), .val (.int p1), .val (.int p2), .val (.int (1 : Int32)), .val (.int b0), .val (.int (0 : Int32)), .val (.int (0 : Int32)), .val (.int (0 : Int32)), .unset, .unset, .unset, .unset, .unset, .unset, .unset, .unset, .unset, .unset, .unset, .unset] [(.ref ob15)]))
      refine gAstore Xt14 hx (hb hby at_87) rfl (l' := #[.val (.int p0), .val (.int p1), .val (.int p2), .val (.int (1 : Int32)), .val (.int b0), .val (.int (0 : Int32)), .val (.int (0 : Int32)), .val (.int (0 : Int32)), .val (.ref ob15), .unset, .unset, .unset, .unset, .unset, .unset, .unset, .unset, .unset, .unset, .unset]) rfl ?_
      refine gIloadN Xt14 hx (hb hby at_89) rfl ?_
      refine gIfN Xt14 hx (hb hby at_90) (XT.i0_le_f (by decide)) ?_
      show Goes p e below _ (Tt14.setTop (mkF m 93 #[.val (.int p0), .val (.int p1), .val (.int p2), .val (.int (1 : Int32)), .val (.int b0), .val (.int (0 : Int32)), .val (.int (0 : Int32)), .val (.int (0 : Int32)), .val (.ref ob15), .unset, .unset, .unset, .unset, .unset, .unset, .unset, .unset, .unset, .unset, .unset] []))
      refine gAload Xt14 hx (hb hby at_93) rfl rfl ?_
      refine gIconst Xt14 hx (hb hby at_95) (v := (0 : Int32)) rfl ?_
      refine gIload Xt14 hx (hb hby at_96) rfl ?_
      refine goZastore Xt14 hx hZ et14 Y_ob15 (hb hby at_98) (by decide) rfl (fun Tt17 ht17 Xt17 et17 Wt17 => ?_)
      have N18 := Fr.snoc Xt17 N0 fr_ob15
      replace Y_ob15 : Ary Z ht17 ob15 .boolean [(.int b0)] := Y_ob15.set Wt17 (by rw [nb0]; rfl)
      have O19 : Ext Z.heap ht17 := extW O16 Wt17 fr_ob15
      show Goes p e below _ (Tt17.setTop (mkF m 99 #[.val (.int p0), .val (.int p1), .val (.int p2), .val (.int (1 : Int32)), .val (.int b0), .val (.int (0 : Int32)), .val (.int (0 : Int32)), .val (.int (0 : Int32)), .val (.ref ob15), .unset, .unset, .unset, .unset, .unset, .unset, .unset, .unset, .unset, .unset, .unset] []))
      refine gIloadN Xt17 hx (hb hby at_99) rfl ?_
      refine gIconst Xt17 hx (hb hby at_100) (v := (1 : Int32)) rfl ?_
      refine gIcmpY Xt17 hx (hb hby at_101) (pc' := 110) (XT.ii_le_t (by decide)) (by decide) (by decide) ?_
      show Goes p e below _ (Tt17.setTop (mkF m 110 #[.val (.int p0), .val (.int p1), .val (.int p2), .val (.int (1 : Int32)), .val (.int b0), .val (.int (0 : Int32)), .val (.int (0 : Int32)), .val (.int (0 : Int32)), .val (.ref ob15), .unset, .unset, .unset, .unset, .unset, .unset, .unset, .unset, .unset, .unset, .unset] []))
      refine gIloadN Xt17 hx (hb hby at_110) rfl ?_
      refine gIconst Xt17 hx (hb hby at_111) (v := (2 : Int32)) rfl ?_
      refine gIcmpY Xt17 hx (hb hby at_112) (pc' := 121) (XT.ii_le_t (by decide)) (by decide) (by decide) ?_
      show Goes p e below _ (Tt17.setTop (mkF m 121 #[.val (.int p0), .val (.int p1), .val (.int p2), .val (.int (1 : Int32)), .val (.int b0), .val (.int (0 : Int32)), .val (.int (0 : Int32)), .val (.int (0 : Int32)), .val (.ref ob15), .unset, .unset, .unset, .unset, .unset, .unset, .unset, .unset, .unset, .unset, .unset] []))
      refine gIloadN Xt17 hx (hb hby at_121) rfl ?_
      refine gIconst Xt17 hx (hb hby at_122) (v := (3 : Int32)) rfl ?_
      refine gIcmpY Xt17 hx (hb hby at_123) (pc' := 132) (XT.ii_le_t (by decide)) (by decide) (by decide) ?_
      show Goes p e below _ (Tt17.setTop (mkF m 132 #[.val (.int p0), .val (.int p1), .val (.int p2), .val (.int (1 : Int32)), .val (.int b0), .val (.int (0 : Int32)), .val (.int (0 : Int32)), .val (.int (0 : Int32)), .val (.ref ob15), .unset, .unset, .unset, .unset, .unset, .unset, .unset, .unset, .unset, .unset, .unset] []))
      obtain ⟨Tt20, ht20, Xt20, et20, Et20, At20, Dt20, -, stt20⟩ := newO Xt17 hx hZ hown (hw _ (List.mem_of_getElem? (i := 1) rfl)) (hw _ (List.mem_of_getElem? (i := 2) rfl)) (hw _ (List.mem_of_getElem? (i := 3) rfl)) et17 (g := (mkF m 132 #[.val (.int p0), .val (.int p1), .val (.int p2), .val (.int (1 : Int32)), .val (.int b0), .val (.int (0 : Int32)), .val (.int (0 : Int32)), .val (.int (0 : Int32)), .val (.ref ob15), .unset, .unset, .unset, .unset, .unset, .unset, .unset, .unset, .unset, .unset, .unset] [])) rfl (hb hby at_132) (by decide) (by decide)
      obtain ⟨ob21, gob21⟩ : ∃ z, z = ht17.size := ⟨_, rfl⟩
      rw [← gob21] at At20 Dt20 stt20
      refine go stt20 ?_
      have ne_ob15_ob21 : ob15 ≠ ob21 := Nat.ne_of_lt (gob21 ▸ Y_ob15.lt)
      have fr_ob21 : Z.heap.size ≤ ob21 := gob21 ▸ O19.1
      replace Y_ob15 := Y_ob15.ext Et20
      have O22 : Ext Z.heap ht20 := extT O19 Et20
      have F_relevantWithin_ob21 : Fld Z ht20 ob21 "com/example/almaden/almaden/eval/JudgedRanking" "relevantWithin" "[I" .null := Dt20 (Or.inr (hw _ (List.mem_of_getElem? (i := 12) rfl))) (ty := (.array .int)) (by decide)
      have F_relevant_ob21 : Fld Z ht20 ob21 "com/example/almaden/almaden/eval/JudgedRanking" "relevant" "I" (.int (0 : Int32)) := Dt20 (Or.inr (hw _ (List.mem_of_getElem? (i := 14) rfl))) (ty := .int) (by decide)
      show Goes p e below _ (Tt20.setTop (mkF m 135 #[.val (.int p0), .val (.int p1), .val (.int p2), .val (.int (1 : Int32)), .val (.int b0), .val (.int (0 : Int32)), .val (.int (0 : Int32)), .val (.int (0 : Int32)), .val (.ref ob15), .unset, .unset, .unset, .unset, .unset, .unset, .unset, .unset, .unset, .unset, .unset] [(.ref ob21)]))
      refine gDup Xt20 hx (hb hby at_135) rfl ?_
      refine gAload Xt20 hx (hb hby at_136) rfl rfl ?_
      refine gIloadN Xt20 hx (hb hby at_138) rfl ?_
      have lt_ob15_t23 := Y_ob15.lt
      have lt_ob21_t23 := At20.lt
      refine goCallI Xt20 hx hZ rfl hown (hw _ (List.mem_of_getElem? (i := 4) rfl)) (hw _ (List.mem_of_getElem? (i := 5) rfl)) (hw _ (List.mem_of_getElem? (i := 3) rfl)) (hw _ (List.mem_of_getElem? (i := 6) rfl)) (by decide) (rmI1 l Z a0 hw b0 ob21 ob15 p2 ht20 O22 At20 F_relevantWithin_ob21 F_relevant_ob21 Y_ob15 (Ne.symm ne_ob15_ob21) fr_ob21 hb0) 1 (by decide) (by decide) et20 (hsz rfl) ob21 [(.ref ob15), (.int p2)] [(.ref ob21)] pd_2 rfl rfl rfl (Nat.le_of_eq rfl) (hb hby at_139) (by decide) (by decide) (fun Tt23 vt23 Lt23 Xt23 qt23 => ?_)
      obtain ⟨ht23, et23⟩ : ∃ z, Tt23.heap = z := ⟨_, rfl⟩
      rw [et23] at qt23
      obtain ⟨rfl, N24, Kct23, u, pu, G1, G2, Yu⟩ := qt23
      have N25 := Fr.app N18 N24
      replace Y_ob15 := Y_ob15.keep Kct23 (ninS ne_ob15_ob21 nin0)
      replace At20 := At20.keep Kct23
      have O26 : Ext Z.heap ht23 := extK O22 Kct23 (allS fr_ob21 all0)
      have ne_ob15_u : ob15 ≠ u := Nat.ne_of_lt (Nat.lt_of_lt_of_le lt_ob15_t23 pu)
      have ne_ob21_u : ob21 ≠ u := Nat.ne_of_lt (Nat.lt_of_lt_of_le lt_ob21_t23 pu)
      have fr_u : Z.heap.size ≤ u := Nat.le_trans O22.1 pu
      show Goes p e below _ (Tt23.setTop (mkF m 142 #[.val (.int p0), .val (.int p1), .val (.int p2), .val (.int (1 : Int32)), .val (.int b0), .val (.int (0 : Int32)), .val (.int (0 : Int32)), .val (.int (0 : Int32)), .val (.ref ob15), .unset, .unset, .unset, .unset, .unset, .unset, .unset, .unset, .unset, .unset, .unset] [(.ref ob21)]))
      refine gAstore Xt23 hx (hb hby at_142) rfl (l' := #[.val (.int p0), .val (.int p1), .val (.int p2), .val (.int (1 : Int32)), .val (.int b0), .val (.int (0 : Int32)), .val (.int (0 : Int32)), .val (.int (0 : Int32)), .val (.ref ob15), .val (.ref ob21), .unset, .unset, .unset, .unset, .unset, .unset, .unset, .unset, .unset, .unset]) rfl ?_
      refine gAload Xt23 hx (hb hby at_144) rfl rfl ?_
      refine goCallV Xt23 hx hZ hown (hw _ (List.mem_of_getElem? (i := 15) rfl)) (hw _ (List.mem_of_getElem? (i := 16) rfl)) (hw _ (List.mem_of_getElem? (i := 18) rfl)) (hw _ (List.mem_of_getElem? (i := 17) rfl)) (hw _ (List.mem_of_getElem? (i := 3) rfl)) (hw _ (List.mem_of_getElem? (i := 19) rfl)) (by decide) (rmA1 l Z a0 hw u p2 b0 ob21 ht23 O26 At20 G1 G2 Yu hb0) 0 (by decide) (by decide) et23 At20 (hsz rfl) [] [] pd_3 rfl rfl rfl (Nat.le_of_eq rfl) (hb hby at_146) (by decide) (by decide) (fun Tt27 vt27 Lt27 Xt27 qt27 => ?_)
      obtain ⟨rfl, N28, et27⟩ := qt27
      have N29 := Fr.app N25 N28
      show Goes p e below _ (Tt27.setTop (mkF m 149 #[.val (.int p0), .val (.int p1), .val (.int p2), .val (.int (1 : Int32)), .val (.int b0), .val (.int (0 : Int32)), .val (.int (0 : Int32)), .val (.int (0 : Int32)), .val (.ref ob15), .val (.ref ob21), .unset, .unset, .unset, .unset, .unset, .unset, .unset, .unset, .unset, .unset] [(.double (own_rt (own_st FP.dconst0 (0 : Int32) ((0 : Int32) + b0) (1 : Int32)) p2))]))
      refine gDstore Xt27 hx (hb hby at_149) (l' := #[.val (.int p0), .val (.int p1), .val (.int p2), .val (.int (1 : Int32)), .val (.int b0), .val (.int (0 : Int32)), .val (.int (0 : Int32)), .val (.int (0 : Int32)), .val (.ref ob15), .val (.ref ob21), .val (.double (own_rt (own_st FP.dconst0 (0 : Int32) ((0 : Int32) + b0) (1 : Int32)) p2)), .second, .unset, .unset, .unset, .unset, .unset, .unset, .unset, .unset]) rfl ?_
      refine gIload Xt27 hx (hb hby at_151) rfl ?_
      have C0 : ∀ (z0_ : Int32), b0 = z0_ → Goes p e below (EndN s (fun v h L => v = some (.int 1) ∧ Fr Z.heap.size L) room_1.cells room_1.slots) (Tt27.setTop (mkF m 161 #[.val (.int p0), .val (.int p1), .val (.int p2), .val (.int (1 : Int32)), .val (.int b0), .val (.int (0 : Int32)), .val (.int (0 : Int32)), .val (.int (0 : Int32)), .val (.ref ob15), .val (.ref ob21), .val (.double (own_rt (own_st FP.dconst0 (0 : Int32) ((0 : Int32) + b0) (1 : Int32)) p2)), .second, .unset, .unset, .unset, .unset, .unset, .unset, .unset, .unset] [(.int z0_)])) := by
        intro z0_ hz
        subst hz
        show Goes p e below _ (Tt27.setTop (mkF m 161 #[.val (.int p0), .val (.int p1), .val (.int p2), .val (.int (1 : Int32)), .val (.int b0), .val (.int (0 : Int32)), .val (.int (0 : Int32)), .val (.int (0 : Int32)), .val (.ref ob15), .val (.ref ob21), .val (.double (own_rt (own_st FP.dconst0 (0 : Int32) ((0 : Int32) + b0) (1 : Int32)) p2)), .second, .unset, .unset, .unset, .unset, .unset, .unset, .unset, .unset] [(.int b0)]))
        refine gIstore Xt27 hx (hb hby at_161) (l' := #[.val (.int p0), .val (.int p1), .val (.int p2), .val (.int (1 : Int32)), .val (.int b0), .val (.int (0 : Int32)), .val (.int (0 : Int32)), .val (.int (0 : Int32)), .val (.ref ob15), .val (.ref ob21), .val (.double (own_rt (own_st FP.dconst0 (0 : Int32) ((0 : Int32) + b0) (1 : Int32)) p2)), .second, .val (.int b0), .unset, .unset, .unset, .unset, .unset, .unset, .unset]) rfl ?_
        refine gIload Xt27 hx (hb hby at_163) rfl ?_
        refine gIload Xt27 hx (hb hby at_165) rfl ?_
        refine gIfY Xt27 hx (hb hby at_167) (pc' := 174) (XT.i0_eq_t (by decide)) (by decide) (by decide) ?_
        show Goes p e below _ (Tt27.setTop (mkF m 174 #[.val (.int p0), .val (.int p1), .val (.int p2), .val (.int (1 : Int32)), .val (.int b0), .val (.int (0 : Int32)), .val (.int (0 : Int32)), .val (.int (0 : Int32)), .val (.ref ob15), .val (.ref ob21), .val (.double (own_rt (own_st FP.dconst0 (0 : Int32) ((0 : Int32) + b0) (1 : Int32)) p2)), .second, .val (.int b0), .unset, .unset, .unset, .unset, .unset, .unset, .unset] [(.int b0)]))
        refine gIconst Xt27 hx (hb hby at_174) (v := (0 : Int32)) rfl ?_
        refine gIadd Xt27 hx (hb hby at_175) ?_
        refine gIstore Xt27 hx (hb hby at_176) (l' := #[.val (.int p0), .val (.int p1), .val (.int p2), .val (.int (1 : Int32)), .val (.int b0), .val (.int (0 : Int32)), .val (.int (0 : Int32)), .val (.int (0 : Int32)), .val (.ref ob15), .val (.ref ob21), .val (.double (own_rt (own_st FP.dconst0 (0 : Int32) ((0 : Int32) + b0) (1 : Int32)) p2)), .second, .val (.int b0), .val (.int (b0 + (0 : Int32))), .unset, .unset, .unset, .unset, .unset, .unset]) rfl ?_
        refine gIload Xt27 hx (hb hby at_178) rfl ?_
        refine gIload Xt27 hx (hb hby at_180) rfl ?_
        refine gIfY Xt27 hx (hb hby at_182) (pc' := 189) (XT.i0_eq_t (by decide)) (by decide) (by decide) ?_
        show Goes p e below _ (Tt27.setTop (mkF m 189 #[.val (.int p0), .val (.int p1), .val (.int p2), .val (.int (1 : Int32)), .val (.int b0), .val (.int (0 : Int32)), .val (.int (0 : Int32)), .val (.int (0 : Int32)), .val (.ref ob15), .val (.ref ob21), .val (.double (own_rt (own_st FP.dconst0 (0 : Int32) ((0 : Int32) + b0) (1 : Int32)) p2)), .second, .val (.int b0), .val (.int (b0 + (0 : Int32))), .unset, .unset, .unset, .unset, .unset, .unset] [(.int (b0 + (0 : Int32)))]))
        refine gIconst Xt27 hx (hb hby at_189) (v := (0 : Int32)) rfl ?_
        refine gIadd Xt27 hx (hb hby at_190) ?_
        refine gIstore Xt27 hx (hb hby at_191) (l' := #[.val (.int p0), .val (.int p1), .val (.int p2), .val (.int (1 : Int32)), .val (.int b0), .val (.int (0 : Int32)), .val (.int (0 : Int32)), .val (.int (0 : Int32)), .val (.ref ob15), .val (.ref ob21), .val (.double (own_rt (own_st FP.dconst0 (0 : Int32) ((0 : Int32) + b0) (1 : Int32)) p2)), .second, .val (.int b0), .val (.int (b0 + (0 : Int32))), .val (.int ((b0 + (0 : Int32)) + (0 : Int32))), .unset, .unset, .unset, .unset, .unset]) rfl ?_
        refine gIload Xt27 hx (hb hby at_193) rfl ?_
        refine gIload Xt27 hx (hb hby at_195) rfl ?_
        refine gIfY Xt27 hx (hb hby at_197) (pc' := 204) (XT.i0_eq_t (by decide)) (by decide) (by decide) ?_
        show Goes p e below _ (Tt27.setTop (mkF m 204 #[.val (.int p0), .val (.int p1), .val (.int p2), .val (.int (1 : Int32)), .val (.int b0), .val (.int (0 : Int32)), .val (.int (0 : Int32)), .val (.int (0 : Int32)), .val (.ref ob15), .val (.ref ob21), .val (.double (own_rt (own_st FP.dconst0 (0 : Int32) ((0 : Int32) + b0) (1 : Int32)) p2)), .second, .val (.int b0), .val (.int (b0 + (0 : Int32))), .val (.int ((b0 + (0 : Int32)) + (0 : Int32))), .unset, .unset, .unset, .unset, .unset] [(.int ((b0 + (0 : Int32)) + (0 : Int32)))]))
        refine gIconst Xt27 hx (hb hby at_204) (v := (0 : Int32)) rfl ?_
        refine gIadd Xt27 hx (hb hby at_205) ?_
        refine gIstore Xt27 hx (hb hby at_206) (l' := #[.val (.int p0), .val (.int p1), .val (.int p2), .val (.int (1 : Int32)), .val (.int b0), .val (.int (0 : Int32)), .val (.int (0 : Int32)), .val (.int (0 : Int32)), .val (.ref ob15), .val (.ref ob21), .val (.double (own_rt (own_st FP.dconst0 (0 : Int32) ((0 : Int32) + b0) (1 : Int32)) p2)), .second, .val (.int b0), .val (.int (b0 + (0 : Int32))), .val (.int ((b0 + (0 : Int32)) + (0 : Int32))), .val (.int (((b0 + (0 : Int32)) + (0 : Int32)) + (0 : Int32))), .unset, .unset, .unset, .unset]) rfl ?_
        refine gDconst0 Xt27 hx (hb hby at_208) ?_
        refine gDstore Xt27 hx (hb hby at_209) (l' := #[.val (.int p0), .val (.int p1), .val (.int p2), .val (.int (1 : Int32)), .val (.int b0), .val (.int (0 : Int32)), .val (.int (0 : Int32)), .val (.int (0 : Int32)), .val (.ref ob15), .val (.ref ob21), .val (.double (own_rt (own_st FP.dconst0 (0 : Int32) ((0 : Int32) + b0) (1 : Int32)) p2)), .second, .val (.int b0), .val (.int (b0 + (0 : Int32))), .val (.int ((b0 + (0 : Int32)) + (0 : Int32))), .val (.int (((b0 + (0 : Int32)) + (0 : Int32)) + (0 : Int32))), .val (.double FP.dconst0), .second, .unset, .unset]) rfl ?_
        refine gIload Xt27 hx (hb hby at_211) rfl ?_
        have M0 : ∀ (s0_ : UInt64), s0_ = (own_ls FP.dconst0 b0 b0 FP.dconst1) → Goes p e below (EndN s (fun v h L => v = some (.int 1) ∧ Fr Z.heap.size L) room_1.cells room_1.slots) (Tt27.setTop (mkF m 226 #[.val (.int p0), .val (.int p1), .val (.int p2), .val (.int (1 : Int32)), .val (.int b0), .val (.int (0 : Int32)), .val (.int (0 : Int32)), .val (.int (0 : Int32)), .val (.ref ob15), .val (.ref ob21), .val (.double (own_rt (own_st FP.dconst0 (0 : Int32) ((0 : Int32) + b0) (1 : Int32)) p2)), .second, .val (.int b0), .val (.int (b0 + (0 : Int32))), .val (.int ((b0 + (0 : Int32)) + (0 : Int32))), .val (.int (((b0 + (0 : Int32)) + (0 : Int32)) + (0 : Int32))), .val (.double s0_), .second, .unset, .unset] [])) := by
          intro s0_ hz
          subst hz
          show Goes p e below _ (Tt27.setTop (mkF m 226 #[.val (.int p0), .val (.int p1), .val (.int p2), .val (.int (1 : Int32)), .val (.int b0), .val (.int (0 : Int32)), .val (.int (0 : Int32)), .val (.int (0 : Int32)), .val (.ref ob15), .val (.ref ob21), .val (.double (own_rt (own_st FP.dconst0 (0 : Int32) ((0 : Int32) + b0) (1 : Int32)) p2)), .second, .val (.int b0), .val (.int (b0 + (0 : Int32))), .val (.int ((b0 + (0 : Int32)) + (0 : Int32))), .val (.int (((b0 + (0 : Int32)) + (0 : Int32)) + (0 : Int32))), .val (.double (own_ls FP.dconst0 b0 b0 FP.dconst1)), .second, .unset, .unset] []))
          refine gIload Xt27 hx (hb hby at_226) rfl ?_
          refine gIfY Xt27 hx (hb hby at_228) (pc' := 243) (XT.i0_eq_t (by decide)) (by decide) (by decide) ?_
          show Goes p e below _ (Tt27.setTop (mkF m 243 #[.val (.int p0), .val (.int p1), .val (.int p2), .val (.int (1 : Int32)), .val (.int b0), .val (.int (0 : Int32)), .val (.int (0 : Int32)), .val (.int (0 : Int32)), .val (.ref ob15), .val (.ref ob21), .val (.double (own_rt (own_st FP.dconst0 (0 : Int32) ((0 : Int32) + b0) (1 : Int32)) p2)), .second, .val (.int b0), .val (.int (b0 + (0 : Int32))), .val (.int ((b0 + (0 : Int32)) + (0 : Int32))), .val (.int (((b0 + (0 : Int32)) + (0 : Int32)) + (0 : Int32))), .val (.double (own_ls FP.dconst0 b0 b0 FP.dconst1)), .second, .unset, .unset] []))
          refine gIload Xt27 hx (hb hby at_243) rfl ?_
          refine gIfY Xt27 hx (hb hby at_245) (pc' := 260) (XT.i0_eq_t (by decide)) (by decide) (by decide) ?_
          show Goes p e below _ (Tt27.setTop (mkF m 260 #[.val (.int p0), .val (.int p1), .val (.int p2), .val (.int (1 : Int32)), .val (.int b0), .val (.int (0 : Int32)), .val (.int (0 : Int32)), .val (.int (0 : Int32)), .val (.ref ob15), .val (.ref ob21), .val (.double (own_rt (own_st FP.dconst0 (0 : Int32) ((0 : Int32) + b0) (1 : Int32)) p2)), .second, .val (.int b0), .val (.int (b0 + (0 : Int32))), .val (.int ((b0 + (0 : Int32)) + (0 : Int32))), .val (.int (((b0 + (0 : Int32)) + (0 : Int32)) + (0 : Int32))), .val (.double (own_ls FP.dconst0 b0 b0 FP.dconst1)), .second, .unset, .unset] []))
          refine gIload Xt27 hx (hb hby at_260) rfl ?_
          refine gIfY Xt27 hx (hb hby at_262) (pc' := 277) (XT.i0_eq_t (by decide)) (by decide) (by decide) ?_
          show Goes p e below _ (Tt27.setTop (mkF m 277 #[.val (.int p0), .val (.int p1), .val (.int p2), .val (.int (1 : Int32)), .val (.int b0), .val (.int (0 : Int32)), .val (.int (0 : Int32)), .val (.int (0 : Int32)), .val (.ref ob15), .val (.ref ob21), .val (.double (own_rt (own_st FP.dconst0 (0 : Int32) ((0 : Int32) + b0) (1 : Int32)) p2)), .second, .val (.int b0), .val (.int (b0 + (0 : Int32))), .val (.int ((b0 + (0 : Int32)) + (0 : Int32))), .val (.int (((b0 + (0 : Int32)) + (0 : Int32)) + (0 : Int32))), .val (.double (own_ls FP.dconst0 b0 b0 FP.dconst1)), .second, .unset, .unset] []))
          refine gIloadN Xt27 hx (hb hby at_277) rfl ?_
          have same := own_same1 b0 hb0
          have ns := own_ns1 b0 hb0
          by_cases g : 0 < p2
          · refine gIfN Xt27 hx (hb hby at_278) (XT.i0_le_f g) ?_
            show Goes p e below _ (Tt27.setTop (mkF m 281 #[.val (.int p0), .val (.int p1), .val (.int p2), .val (.int (1 : Int32)), .val (.int b0), .val (.int (0 : Int32)), .val (.int (0 : Int32)), .val (.int (0 : Int32)), .val (.ref ob15), .val (.ref ob21), .val (.double (own_rt (own_st FP.dconst0 (0 : Int32) ((0 : Int32) + b0) (1 : Int32)) p2)), .second, .val (.int b0), .val (.int (b0 + (0 : Int32))), .val (.int ((b0 + (0 : Int32)) + (0 : Int32))), .val (.int (((b0 + (0 : Int32)) + (0 : Int32)) + (0 : Int32))), .val (.double (own_ls FP.dconst0 b0 b0 FP.dconst1)), .second, .unset, .unset] []))
            refine gDload Xt27 hx (hb hby at_281) rfl ?_
            refine gIloadN Xt27 hx (hb hby at_283) rfl ?_
            refine gI2d Xt27 hx (hb hby at_284) ?_
            refine gDdiv Xt27 hx (hb hby at_285) (own_div (same ▸ ns) g) ?_
            refine gGoto Xt27 hx (hb hby at_286) (pc' := 290) (by decide) (by decide) ?_
            show Goes p e below _ (Tt27.setTop (mkF m 290 #[.val (.int p0), .val (.int p1), .val (.int p2), .val (.int (1 : Int32)), .val (.int b0), .val (.int (0 : Int32)), .val (.int (0 : Int32)), .val (.int (0 : Int32)), .val (.ref ob15), .val (.ref ob21), .val (.double (own_rt (own_st FP.dconst0 (0 : Int32) ((0 : Int32) + b0) (1 : Int32)) p2)), .second, .val (.int b0), .val (.int (b0 + (0 : Int32))), .val (.int ((b0 + (0 : Int32)) + (0 : Int32))), .val (.int (((b0 + (0 : Int32)) + (0 : Int32)) + (0 : Int32))), .val (.double (own_ls FP.dconst0 b0 b0 FP.dconst1)), .second, .unset, .unset] [(.double (FP.ddiv (own_ls FP.dconst0 b0 b0 FP.dconst1) (FP.i2d p2)))]))
            refine gDstore Xt27 hx (hb hby at_290) (l' := #[.val (.int p0), .val (.int p1), .val (.int p2), .val (.int (1 : Int32)), .val (.int b0), .val (.int (0 : Int32)), .val (.int (0 : Int32)), .val (.int (0 : Int32)), .val (.ref ob15), .val (.ref ob21), .val (.double (own_rt (own_st FP.dconst0 (0 : Int32) ((0 : Int32) + b0) (1 : Int32)) p2)), .second, .val (.int b0), .val (.int (b0 + (0 : Int32))), .val (.int ((b0 + (0 : Int32)) + (0 : Int32))), .val (.int (((b0 + (0 : Int32)) + (0 : Int32)) + (0 : Int32))), .val (.double (own_ls FP.dconst0 b0 b0 FP.dconst1)), .second, .val (.double (FP.ddiv (own_ls FP.dconst0 b0 b0 FP.dconst1) (FP.i2d p2))), .second]) rfl ?_
            refine gDload Xt27 hx (hb hby at_292) rfl ?_
            refine gDload Xt27 hx (hb hby at_294) rfl ?_
            refine gDcmp Xt27 hx (hb hby at_296) ?_
            refine gIfN Xt27 hx (hb hby at_297) (XT.i0_ne_f (dcmpV_eq (by rw [show own_rt (own_st FP.dconst0 (0 : Int32) ((0 : Int32) + b0) (1 : Int32)) p2 = FP.ddiv (own_st FP.dconst0 (0 : Int32) ((0 : Int32) + b0) (1 : Int32)) (FP.i2d p2) from if_pos g, same]) (own_rtn ns p2) .l)) ?_
            show Goes p e below _ (Tt27.setTop (mkF m 300 #[.val (.int p0), .val (.int p1), .val (.int p2), .val (.int (1 : Int32)), .val (.int b0), .val (.int (0 : Int32)), .val (.int (0 : Int32)), .val (.int (0 : Int32)), .val (.ref ob15), .val (.ref ob21), .val (.double (own_rt (own_st FP.dconst0 (0 : Int32) ((0 : Int32) + b0) (1 : Int32)) p2)), .second, .val (.int b0), .val (.int (b0 + (0 : Int32))), .val (.int ((b0 + (0 : Int32)) + (0 : Int32))), .val (.int (((b0 + (0 : Int32)) + (0 : Int32)) + (0 : Int32))), .val (.double (own_ls FP.dconst0 b0 b0 FP.dconst1)), .second, .val (.double (FP.ddiv (own_ls FP.dconst0 b0 b0 FP.dconst1) (FP.i2d p2))), .second] []))
            refine gIconst Xt27 hx (hb hby at_300) (v := (1 : Int32)) rfl ?_
            refine gGoto Xt27 hx (hb hby at_301) (pc' := 305) (by decide) (by decide) ?_
            show Goes p e below _ (Tt27.setTop (mkF m 305 #[.val (.int p0), .val (.int p1), .val (.int p2), .val (.int (1 : Int32)), .val (.int b0), .val (.int (0 : Int32)), .val (.int (0 : Int32)), .val (.int (0 : Int32)), .val (.ref ob15), .val (.ref ob21), .val (.double (own_rt (own_st FP.dconst0 (0 : Int32) ((0 : Int32) + b0) (1 : Int32)) p2)), .second, .val (.int b0), .val (.int (b0 + (0 : Int32))), .val (.int ((b0 + (0 : Int32)) + (0 : Int32))), .val (.int (((b0 + (0 : Int32)) + (0 : Int32)) + (0 : Int32))), .val (.double (own_ls FP.dconst0 b0 b0 FP.dconst1)), .second, .val (.double (FP.ddiv (own_ls FP.dconst0 b0 b0 FP.dconst1) (FP.i2d p2))), .second] [(.int (1 : Int32))]))
            exact goRetN Xt27 hx (t := .boolean) hret hlocks (by simp) (hb hby at_305) (z' := (1 : Int32)) rfl (by decide) (by decide) et27 (⟨rfl, N29⟩)
          · refine gIfY Xt27 hx (hb hby at_278) (pc' := 289) (XT.i0_le_t g) (by decide) (by decide) ?_
            show Goes p e below _ (Tt27.setTop (mkF m 289 #[.val (.int p0), .val (.int p1), .val (.int p2), .val (.int (1 : Int32)), .val (.int b0), .val (.int (0 : Int32)), .val (.int (0 : Int32)), .val (.int (0 : Int32)), .val (.ref ob15), .val (.ref ob21), .val (.double (own_rt (own_st FP.dconst0 (0 : Int32) ((0 : Int32) + b0) (1 : Int32)) p2)), .second, .val (.int b0), .val (.int (b0 + (0 : Int32))), .val (.int ((b0 + (0 : Int32)) + (0 : Int32))), .val (.int (((b0 + (0 : Int32)) + (0 : Int32)) + (0 : Int32))), .val (.double (own_ls FP.dconst0 b0 b0 FP.dconst1)), .second, .unset, .unset] []))
            refine gDconst0 Xt27 hx (hb hby at_289) ?_
            refine gDstore Xt27 hx (hb hby at_290) (l' := #[.val (.int p0), .val (.int p1), .val (.int p2), .val (.int (1 : Int32)), .val (.int b0), .val (.int (0 : Int32)), .val (.int (0 : Int32)), .val (.int (0 : Int32)), .val (.ref ob15), .val (.ref ob21), .val (.double (own_rt (own_st FP.dconst0 (0 : Int32) ((0 : Int32) + b0) (1 : Int32)) p2)), .second, .val (.int b0), .val (.int (b0 + (0 : Int32))), .val (.int ((b0 + (0 : Int32)) + (0 : Int32))), .val (.int (((b0 + (0 : Int32)) + (0 : Int32)) + (0 : Int32))), .val (.double (own_ls FP.dconst0 b0 b0 FP.dconst1)), .second, .val (.double FP.dconst0), .second]) rfl ?_
            refine gDload Xt27 hx (hb hby at_292) rfl ?_
            refine gDload Xt27 hx (hb hby at_294) rfl ?_
            refine gDcmp Xt27 hx (hb hby at_296) ?_
            refine gIfN Xt27 hx (hb hby at_297) (XT.i0_ne_f (dcmpV_eq (if_neg g) (own_rtn ns p2) .l)) ?_
            show Goes p e below _ (Tt27.setTop (mkF m 300 #[.val (.int p0), .val (.int p1), .val (.int p2), .val (.int (1 : Int32)), .val (.int b0), .val (.int (0 : Int32)), .val (.int (0 : Int32)), .val (.int (0 : Int32)), .val (.ref ob15), .val (.ref ob21), .val (.double (own_rt (own_st FP.dconst0 (0 : Int32) ((0 : Int32) + b0) (1 : Int32)) p2)), .second, .val (.int b0), .val (.int (b0 + (0 : Int32))), .val (.int ((b0 + (0 : Int32)) + (0 : Int32))), .val (.int (((b0 + (0 : Int32)) + (0 : Int32)) + (0 : Int32))), .val (.double (own_ls FP.dconst0 b0 b0 FP.dconst1)), .second, .val (.double FP.dconst0), .second] []))
            refine gIconst Xt27 hx (hb hby at_300) (v := (1 : Int32)) rfl ?_
            refine gGoto Xt27 hx (hb hby at_301) (pc' := 305) (by decide) (by decide) ?_
            show Goes p e below _ (Tt27.setTop (mkF m 305 #[.val (.int p0), .val (.int p1), .val (.int p2), .val (.int (1 : Int32)), .val (.int b0), .val (.int (0 : Int32)), .val (.int (0 : Int32)), .val (.int (0 : Int32)), .val (.ref ob15), .val (.ref ob21), .val (.double (own_rt (own_st FP.dconst0 (0 : Int32) ((0 : Int32) + b0) (1 : Int32)) p2)), .second, .val (.int b0), .val (.int (b0 + (0 : Int32))), .val (.int ((b0 + (0 : Int32)) + (0 : Int32))), .val (.int (((b0 + (0 : Int32)) + (0 : Int32)) + (0 : Int32))), .val (.double (own_ls FP.dconst0 b0 b0 FP.dconst1)), .second, .val (.double FP.dconst0), .second] [(.int (1 : Int32))]))
            exact goRetN Xt27 hx (t := .boolean) hret hlocks (by simp) (hb hby at_305) (z' := (1 : Int32)) rfl (by decide) (by decide) et27 (⟨rfl, N29⟩)
        by_cases g : b0 = 0
        · refine gIfY Xt27 hx (hb hby at_213) (pc' := 226) (XT.i0_eq_t g) (by decide) (by decide) ?_
          show Goes p e below _ (Tt27.setTop (mkF m 226 #[.val (.int p0), .val (.int p1), .val (.int p2), .val (.int (1 : Int32)), .val (.int b0), .val (.int (0 : Int32)), .val (.int (0 : Int32)), .val (.int (0 : Int32)), .val (.ref ob15), .val (.ref ob21), .val (.double (own_rt (own_st FP.dconst0 (0 : Int32) ((0 : Int32) + b0) (1 : Int32)) p2)), .second, .val (.int b0), .val (.int (b0 + (0 : Int32))), .val (.int ((b0 + (0 : Int32)) + (0 : Int32))), .val (.int (((b0 + (0 : Int32)) + (0 : Int32)) + (0 : Int32))), .val (.double FP.dconst0), .second, .unset, .unset] []))
          exact M0 _ (if_pos g).symm
        · refine gIfN Xt27 hx (hb hby at_213) (XT.i0_eq_f g) ?_
          show Goes p e below _ (Tt27.setTop (mkF m 216 #[.val (.int p0), .val (.int p1), .val (.int p2), .val (.int (1 : Int32)), .val (.int b0), .val (.int (0 : Int32)), .val (.int (0 : Int32)), .val (.int (0 : Int32)), .val (.ref ob15), .val (.ref ob21), .val (.double (own_rt (own_st FP.dconst0 (0 : Int32) ((0 : Int32) + b0) (1 : Int32)) p2)), .second, .val (.int b0), .val (.int (b0 + (0 : Int32))), .val (.int ((b0 + (0 : Int32)) + (0 : Int32))), .val (.int (((b0 + (0 : Int32)) + (0 : Int32)) + (0 : Int32))), .val (.double FP.dconst0), .second, .unset, .unset] []))
          refine gDload Xt27 hx (hb hby at_216) rfl ?_
          refine gIload Xt27 hx (hb hby at_218) rfl ?_
          refine gI2d Xt27 hx (hb hby at_220) ?_
          refine gDconst1 Xt27 hx (hb hby at_221) ?_
          refine gDdiv Xt27 hx (hb hby at_222) (own_ql1 b0 hb0) ?_
          refine gDadd Xt27 hx (hb hby at_223) (own_dl1 b0 hb0) ?_
          refine gDstore Xt27 hx (hb hby at_224) (l' := #[.val (.int p0), .val (.int p1), .val (.int p2), .val (.int (1 : Int32)), .val (.int b0), .val (.int (0 : Int32)), .val (.int (0 : Int32)), .val (.int (0 : Int32)), .val (.ref ob15), .val (.ref ob21), .val (.double (own_rt (own_st FP.dconst0 (0 : Int32) ((0 : Int32) + b0) (1 : Int32)) p2)), .second, .val (.int b0), .val (.int (b0 + (0 : Int32))), .val (.int ((b0 + (0 : Int32)) + (0 : Int32))), .val (.int (((b0 + (0 : Int32)) + (0 : Int32)) + (0 : Int32))), .val (.double (FP.dadd FP.dconst0 (FP.ddiv (FP.i2d b0) FP.dconst1))), .second, .unset, .unset]) rfl ?_
          show Goes p e below _ (Tt27.setTop (mkF m 226 #[.val (.int p0), .val (.int p1), .val (.int p2), .val (.int (1 : Int32)), .val (.int b0), .val (.int (0 : Int32)), .val (.int (0 : Int32)), .val (.int (0 : Int32)), .val (.ref ob15), .val (.ref ob21), .val (.double (own_rt (own_st FP.dconst0 (0 : Int32) ((0 : Int32) + b0) (1 : Int32)) p2)), .second, .val (.int b0), .val (.int (b0 + (0 : Int32))), .val (.int ((b0 + (0 : Int32)) + (0 : Int32))), .val (.int (((b0 + (0 : Int32)) + (0 : Int32)) + (0 : Int32))), .val (.double (FP.dadd FP.dconst0 (FP.ddiv (FP.i2d b0) FP.dconst1))), .second, .unset, .unset] []))
          exact M0 _ (if_neg g).symm
      by_cases g : b0 = 0
      · refine gIfY Xt27 hx (hb hby at_153) (pc' := 160) (XT.i0_eq_t g) (by decide) (by decide) ?_
        show Goes p e below _ (Tt27.setTop (mkF m 160 #[.val (.int p0), .val (.int p1), .val (.int p2), .val (.int (1 : Int32)), .val (.int b0), .val (.int (0 : Int32)), .val (.int (0 : Int32)), .val (.int (0 : Int32)), .val (.ref ob15), .val (.ref ob21), .val (.double (own_rt (own_st FP.dconst0 (0 : Int32) ((0 : Int32) + b0) (1 : Int32)) p2)), .second, .unset, .unset, .unset, .unset, .unset, .unset, .unset, .unset] []))
        refine gIconst Xt27 hx (hb hby at_160) (v := (0 : Int32)) rfl ?_
        exact C0 _ g
      · refine gIfN Xt27 hx (hb hby at_153) (XT.i0_eq_f g) ?_
        show Goes p e below _ (Tt27.setTop (mkF m 156 #[.val (.int p0), .val (.int p1), .val (.int p2), .val (.int (1 : Int32)), .val (.int b0), .val (.int (0 : Int32)), .val (.int (0 : Int32)), .val (.int (0 : Int32)), .val (.ref ob15), .val (.ref ob21), .val (.double (own_rt (own_st FP.dconst0 (0 : Int32) ((0 : Int32) + b0) (1 : Int32)) p2)), .second, .unset, .unset, .unset, .unset, .unset, .unset, .unset, .unset] []))
        refine gIconst Xt27 hx (hb hby at_156) (v := (1 : Int32)) rfl ?_
        refine gGoto Xt27 hx (hb hby at_157) (pc' := 161) (by decide) (by decide) ?_
        show Goes p e below _ (Tt27.setTop (mkF m 161 #[.val (.int p0), .val (.int p1), .val (.int p2), .val (.int (1 : Int32)), .val (.int b0), .val (.int (0 : Int32)), .val (.int (0 : Int32)), .val (.int (0 : Int32)), .val (.ref ob15), .val (.ref ob21), .val (.double (own_rt (own_st FP.dconst0 (0 : Int32) ((0 : Int32) + b0) (1 : Int32)) p2)), .second, .unset, .unset, .unset, .unset, .unset, .unset, .unset, .unset] [(.int (1 : Int32))]))
        exact C0 _ (hb0.resolve_left g)
    by_cases g : (p0 &&& (1 : Int32)) = 0
    · refine gIfY X0 hx (hb hby at_14) (pc' := 21) (XT.i0_eq_t g) (by decide) (by decide) ?_
      show Goes p e below _ (s₁.setTop (mkF m 21 #[.val (.int p0), .val (.int p1), .val (.int p2), .val (.int (1 : Int32)), .unset, .unset, .unset, .unset, .unset, .unset, .unset, .unset, .unset, .unset, .unset, .unset, .unset, .unset, .unset, .unset] []))
      refine gIconst X0 hx (hb hby at_21) (v := (0 : Int32)) rfl ?_
      exact K0 _ (Or.inl rfl)
    · refine gIfN X0 hx (hb hby at_14) (XT.i0_eq_f g) ?_
      show Goes p e below _ (s₁.setTop (mkF m 17 #[.val (.int p0), .val (.int p1), .val (.int p2), .val (.int (1 : Int32)), .unset, .unset, .unset, .unset, .unset, .unset, .unset, .unset, .unset, .unset, .unset, .unset, .unset, .unset, .unset, .unset] []))
      refine gIconst X0 hx (hb hby at_17) (v := (1 : Int32)) rfl ?_
      refine gGoto X0 hx (hb hby at_18) (pc' := 22) (by decide) (by decide) ?_
      show Goes p e below _ (s₁.setTop (mkF m 22 #[.val (.int p0), .val (.int p1), .val (.int p2), .val (.int (1 : Int32)), .unset, .unset, .unset, .unset, .unset, .unset, .unset, .unset, .unset, .unset, .unset, .unset, .unset, .unset, .unset, .unset] [(.int (1 : Int32))]))
      exact K0 _ (Or.inr rfl)
  · show Goes p e below _ (s₁.setTop (mkF m 8 #[.val (.int p0), .val (.int p1), .val (.int p2), .val (.int (2 : Int32)), .unset, .unset, .unset, .unset, .unset, .unset, .unset, .unset, .unset, .unset, .unset, .unset, .unset, .unset, .unset, .unset] [(.int (2 : Int32))]))
    refine gIfN X0 hx (hb hby at_8) (XT.i0_le_f (by decide)) ?_
    show Goes p e below _ (s₁.setTop (mkF m 11 #[.val (.int p0), .val (.int p1), .val (.int p2), .val (.int (2 : Int32)), .unset, .unset, .unset, .unset, .unset, .unset, .unset, .unset, .unset, .unset, .unset, .unset, .unset, .unset, .unset, .unset] []))
    refine gIloadN X0 hx (hb hby at_11) rfl ?_
    refine gIconst X0 hx (hb hby at_12) (v := (1 : Int32)) rfl ?_
    refine gIand X0 hx (hb hby at_13) ?_
    have K0 : ∀ (b0 : Int32), b0 = 0 ∨ b0 = 1 → Goes p e below (EndN s (fun v h L => v = some (.int 1) ∧ Fr Z.heap.size L) room_1.cells room_1.slots) (s₁.setTop (mkF m 22 #[.val (.int p0), .val (.int p1), .val (.int p2), .val (.int (2 : Int32)), .unset, .unset, .unset, .unset, .unset, .unset, .unset, .unset, .unset, .unset, .unset, .unset, .unset, .unset, .unset, .unset] [(.int b0)])) := by
      intro b0 hb0
      have nb0 := own_nb hb0
      refine gIstore X0 hx (hb hby at_22) (l' := #[.val (.int p0), .val (.int p1), .val (.int p2), .val (.int (2 : Int32)), .val (.int b0), .unset, .unset, .unset, .unset, .unset, .unset, .unset, .unset, .unset, .unset, .unset, .unset, .unset, .unset, .unset]) rfl ?_
      refine gIloadN X0 hx (hb hby at_24) rfl ?_
      refine gIconst X0 hx (hb hby at_25) (v := (1 : Int32)) rfl ?_
      refine gIcmpN X0 hx (hb hby at_26) (XT.ii_le_f (by decide)) ?_
      show Goes p e below _ (s₁.setTop (mkF m 29 #[.val (.int p0), .val (.int p1), .val (.int p2), .val (.int (2 : Int32)), .val (.int b0), .unset, .unset, .unset, .unset, .unset, .unset, .unset, .unset, .unset, .unset, .unset, .unset, .unset, .unset, .unset] []))
      refine gIloadN X0 hx (hb hby at_29) rfl ?_
      refine gIconst X0 hx (hb hby at_30) (v := (1 : Int32)) rfl ?_
      refine gIshr X0 hx (hb hby at_31) ?_
      refine gIconst X0 hx (hb hby at_32) (v := (1 : Int32)) rfl ?_
      refine gIand X0 hx (hb hby at_33) ?_
      have K1 : ∀ (b1 : Int32), b1 = 0 ∨ b1 = 1 → Goes p e below (EndN s (fun v h L => v = some (.int 1) ∧ Fr Z.heap.size L) room_1.cells room_1.slots) (s₁.setTop (mkF m 42 #[.val (.int p0), .val (.int p1), .val (.int p2), .val (.int (2 : Int32)), .val (.int b0), .unset, .unset, .unset, .unset, .unset, .unset, .unset, .unset, .unset, .unset, .unset, .unset, .unset, .unset, .unset] [(.int b1)])) := by
        intro b1 hb1
        have nb1 := own_nb hb1
        refine gIstore X0 hx (hb hby at_42) (l' := #[.val (.int p0), .val (.int p1), .val (.int p2), .val (.int (2 : Int32)), .val (.int b0), .val (.int b1), .unset, .unset, .unset, .unset, .unset, .unset, .unset, .unset, .unset, .unset, .unset, .unset, .unset, .unset]) rfl ?_
        refine gIloadN X0 hx (hb hby at_44) rfl ?_
        show Goes p e below _ (s₁.setTop (mkF m 45 #[.val (.int p0), .val (.int p1), .val (.int p2), .val (.int (2 : Int32)), .val (.int b0), .val (.int b1), .unset, .unset, .unset, .unset, .unset, .unset, .unset, .unset, .unset, .unset, .unset, .unset, .unset, .unset] [(.int (2 : Int32))]))
        refine gIconst X0 hx (hb hby at_45) (v := (2 : Int32)) rfl ?_
        refine gIcmpY X0 hx (hb hby at_46) (pc' := 61) (XT.ii_le_t (by decide)) (by decide) (by decide) ?_
        show Goes p e below _ (s₁.setTop (mkF m 61 #[.val (.int p0), .val (.int p1), .val (.int p2), .val (.int (2 : Int32)), .val (.int b0), .val (.int b1), .unset, .unset, .unset, .unset, .unset, .unset, .unset, .unset, .unset, .unset, .unset, .unset, .unset, .unset] []))
        refine gIconst X0 hx (hb hby at_61) (v := (0 : Int32)) rfl ?_
        refine gIstore X0 hx (hb hby at_62) (l' := #[.val (.int p0), .val (.int p1), .val (.int p2), .val (.int (2 : Int32)), .val (.int b0), .val (.int b1), .val (.int (0 : Int32)), .unset, .unset, .unset, .unset, .unset, .unset, .unset, .unset, .unset, .unset, .unset, .unset, .unset]) rfl ?_
        refine gIloadN X0 hx (hb hby at_64) rfl ?_
        refine gIconst X0 hx (hb hby at_65) (v := (3 : Int32)) rfl ?_
        refine gIcmpY X0 hx (hb hby at_66) (pc' := 81) (XT.ii_le_t (by decide)) (by decide) (by decide) ?_
        show Goes p e below _ (s₁.setTop (mkF m 81 #[.val (.int p0), .val (.int p1), .val (.int p2), .val (.int (2 : Int32)), .val (.int b0), .val (.int b1), .val (.int (0 : Int32)), .unset, .unset, .unset, .unset, .unset, .unset, .unset, .unset, .unset, .unset, .unset, .unset, .unset] []))
        refine gIconst X0 hx (hb hby at_81) (v := (0 : Int32)) rfl ?_
        refine gIstore X0 hx (hb hby at_82) (l' := #[.val (.int p0), .val (.int p1), .val (.int p2), .val (.int (2 : Int32)), .val (.int b0), .val (.int b1), .val (.int (0 : Int32)), .val (.int (0 : Int32)), .unset, .unset, .unset, .unset, .unset, .unset, .unset, .unset, .unset, .unset, .unset, .unset]) rfl ?_
        refine gIloadN X0 hx (hb hby at_84) rfl ?_
        obtain ⟨Tt30, ht30, kt30, Xt30, et30, Et30, At30, stt30⟩ := newP X0 hx hZ (hw _ (List.mem_of_getElem? (i := 0) rfl)) e0 (g := (mkF m 85 #[.val (.int p0), .val (.int p1), .val (.int p2), .val (.int (2 : Int32)), .val (.int b0), .val (.int b1), .val (.int (0 : Int32)), .val (.int (0 : Int32)), .unset, .unset, .unset, .unset, .unset, .unset, .unset, .unset, .unset, .unset, .unset, .unset] [(.int (2 : Int32))])) rfl (hb hby at_85) rfl (by decide) (cap := 2) (by decide) (by decide) (by decide) (by decide)
        obtain ⟨ob31, gob31⟩ : ∃ z, z = h0.size := ⟨_, rfl⟩
        rw [← gob31] at At30 stt30
        refine go stt30 ?_
        have fr_ob31 : Z.heap.size ≤ ob31 := gob31 ▸ O0.1
        have O32 : Ext Z.heap ht30 := extT O0 Et30
        have Y_ob31 : Ary Z ht30 ob31 .boolean [(.int (0 : Int32)), (.int (0 : Int32))] := Ary.new At30 rfl (by decide)
        show Goes p e below _ (Tt30.setTop (mkF m 87 #[.val (.int p0), .val (.int p1), .val (.int p2), .val (.int (2 : Int32)), .val (.int b0), .val (.int b1), .val (.int (0 : Int32)), .val (.int (0 : Int32)), .unset, .unset, .unset, .unset, .unset, .unset, .unset, .unset, .unset, .unset, .unset, .unset] [(.ref ob31)]))
        refine gAstore Xt30 hx (hb hby at_87) rfl (l' := #[.val (.int p0), .val (.int p1), .val (.int p2), .val (.int (2 : Int32)), .val (.int b0), .val (.int b1), .val (.int (0 : Int32)), .val (.int (0 : Int32)), .val (.ref ob31), .unset, .unset, .unset, .unset, .unset, .unset, .unset, .unset, .unset, .unset, .unset]) rfl ?_
        refine gIloadN Xt30 hx (hb hby at_89) rfl ?_
        refine gIfN Xt30 hx (hb hby at_90) (XT.i0_le_f (by decide)) ?_
        show Goes p e below _ (Tt30.setTop (mkF m 93 #[.val (.int p0), .val (.int p1), .val (.int p2), .val (.int (2 : Int32)), .val (.int b0), .val (.int b1), .val (.int (0 : Int32)), .val (.int (0 : Int32)), .val (.ref ob31), .unset, .unset, .unset, .unset, .unset, .unset, .unset, .unset, .unset, .unset, .unset] []))
        refine gAload Xt30 hx (hb hby at_93) rfl rfl ?_
        refine gIconst Xt30 hx (hb hby at_95) (v := (0 : Int32)) rfl ?_
        refine gIload Xt30 hx (hb hby at_96) rfl ?_
        refine goZastore Xt30 hx hZ et30 Y_ob31 (hb hby at_98) (by decide) rfl (fun Tt33 ht33 Xt33 et33 Wt33 => ?_)
        have N34 := Fr.snoc Xt33 N0 fr_ob31
        replace Y_ob31 : Ary Z ht33 ob31 .boolean [(.int b0), (.int (0 : Int32))] := Y_ob31.set Wt33 (by rw [nb0]; rfl)
        have O35 : Ext Z.heap ht33 := extW O32 Wt33 fr_ob31
        show Goes p e below _ (Tt33.setTop (mkF m 99 #[.val (.int p0), .val (.int p1), .val (.int p2), .val (.int (2 : Int32)), .val (.int b0), .val (.int b1), .val (.int (0 : Int32)), .val (.int (0 : Int32)), .val (.ref ob31), .unset, .unset, .unset, .unset, .unset, .unset, .unset, .unset, .unset, .unset, .unset] []))
        refine gIloadN Xt33 hx (hb hby at_99) rfl ?_
        refine gIconst Xt33 hx (hb hby at_100) (v := (1 : Int32)) rfl ?_
        refine gIcmpN Xt33 hx (hb hby at_101) (XT.ii_le_f (by decide)) ?_
        show Goes p e below _ (Tt33.setTop (mkF m 104 #[.val (.int p0), .val (.int p1), .val (.int p2), .val (.int (2 : Int32)), .val (.int b0), .val (.int b1), .val (.int (0 : Int32)), .val (.int (0 : Int32)), .val (.ref ob31), .unset, .unset, .unset, .unset, .unset, .unset, .unset, .unset, .unset, .unset, .unset] []))
        refine gAload Xt33 hx (hb hby at_104) rfl rfl ?_
        refine gIconst Xt33 hx (hb hby at_106) (v := (1 : Int32)) rfl ?_
        refine gIload Xt33 hx (hb hby at_107) rfl ?_
        refine goZastore Xt33 hx hZ et33 Y_ob31 (hb hby at_109) (by decide) rfl (fun Tt36 ht36 Xt36 et36 Wt36 => ?_)
        have N37 := Fr.snoc Xt36 N34 fr_ob31
        replace Y_ob31 : Ary Z ht36 ob31 .boolean [(.int b0), (.int b1)] := Y_ob31.set Wt36 (by rw [nb1]; rfl)
        have O38 : Ext Z.heap ht36 := extW O35 Wt36 fr_ob31
        show Goes p e below _ (Tt36.setTop (mkF m 110 #[.val (.int p0), .val (.int p1), .val (.int p2), .val (.int (2 : Int32)), .val (.int b0), .val (.int b1), .val (.int (0 : Int32)), .val (.int (0 : Int32)), .val (.ref ob31), .unset, .unset, .unset, .unset, .unset, .unset, .unset, .unset, .unset, .unset, .unset] []))
        refine gIloadN Xt36 hx (hb hby at_110) rfl ?_
        refine gIconst Xt36 hx (hb hby at_111) (v := (2 : Int32)) rfl ?_
        refine gIcmpY Xt36 hx (hb hby at_112) (pc' := 121) (XT.ii_le_t (by decide)) (by decide) (by decide) ?_
        show Goes p e below _ (Tt36.setTop (mkF m 121 #[.val (.int p0), .val (.int p1), .val (.int p2), .val (.int (2 : Int32)), .val (.int b0), .val (.int b1), .val (.int (0 : Int32)), .val (.int (0 : Int32)), .val (.ref ob31), .unset, .unset, .unset, .unset, .unset, .unset, .unset, .unset, .unset, .unset, .unset] []))
        refine gIloadN Xt36 hx (hb hby at_121) rfl ?_
        refine gIconst Xt36 hx (hb hby at_122) (v := (3 : Int32)) rfl ?_
        refine gIcmpY Xt36 hx (hb hby at_123) (pc' := 132) (XT.ii_le_t (by decide)) (by decide) (by decide) ?_
        show Goes p e below _ (Tt36.setTop (mkF m 132 #[.val (.int p0), .val (.int p1), .val (.int p2), .val (.int (2 : Int32)), .val (.int b0), .val (.int b1), .val (.int (0 : Int32)), .val (.int (0 : Int32)), .val (.ref ob31), .unset, .unset, .unset, .unset, .unset, .unset, .unset, .unset, .unset, .unset, .unset] []))
        obtain ⟨Tt39, ht39, Xt39, et39, Et39, At39, Dt39, -, stt39⟩ := newO Xt36 hx hZ hown (hw _ (List.mem_of_getElem? (i := 1) rfl)) (hw _ (List.mem_of_getElem? (i := 2) rfl)) (hw _ (List.mem_of_getElem? (i := 3) rfl)) et36 (g := (mkF m 132 #[.val (.int p0), .val (.int p1), .val (.int p2), .val (.int (2 : Int32)), .val (.int b0), .val (.int b1), .val (.int (0 : Int32)), .val (.int (0 : Int32)), .val (.ref ob31), .unset, .unset, .unset, .unset, .unset, .unset, .unset, .unset, .unset, .unset, .unset] [])) rfl (hb hby at_132) (by decide) (by decide)
        obtain ⟨ob40, gob40⟩ : ∃ z, z = ht36.size := ⟨_, rfl⟩
        rw [← gob40] at At39 Dt39 stt39
        refine go stt39 ?_
        have ne_ob31_ob40 : ob31 ≠ ob40 := Nat.ne_of_lt (gob40 ▸ Y_ob31.lt)
        have fr_ob40 : Z.heap.size ≤ ob40 := gob40 ▸ O38.1
        replace Y_ob31 := Y_ob31.ext Et39
        have O41 : Ext Z.heap ht39 := extT O38 Et39
        have F_relevantWithin_ob40 : Fld Z ht39 ob40 "com/example/almaden/almaden/eval/JudgedRanking" "relevantWithin" "[I" .null := Dt39 (Or.inr (hw _ (List.mem_of_getElem? (i := 12) rfl))) (ty := (.array .int)) (by decide)
        have F_relevant_ob40 : Fld Z ht39 ob40 "com/example/almaden/almaden/eval/JudgedRanking" "relevant" "I" (.int (0 : Int32)) := Dt39 (Or.inr (hw _ (List.mem_of_getElem? (i := 14) rfl))) (ty := .int) (by decide)
        show Goes p e below _ (Tt39.setTop (mkF m 135 #[.val (.int p0), .val (.int p1), .val (.int p2), .val (.int (2 : Int32)), .val (.int b0), .val (.int b1), .val (.int (0 : Int32)), .val (.int (0 : Int32)), .val (.ref ob31), .unset, .unset, .unset, .unset, .unset, .unset, .unset, .unset, .unset, .unset, .unset] [(.ref ob40)]))
        refine gDup Xt39 hx (hb hby at_135) rfl ?_
        refine gAload Xt39 hx (hb hby at_136) rfl rfl ?_
        refine gIloadN Xt39 hx (hb hby at_138) rfl ?_
        have lt_ob31_t42 := Y_ob31.lt
        have lt_ob40_t42 := At39.lt
        refine goCallI Xt39 hx hZ rfl hown (hw _ (List.mem_of_getElem? (i := 4) rfl)) (hw _ (List.mem_of_getElem? (i := 5) rfl)) (hw _ (List.mem_of_getElem? (i := 3) rfl)) (hw _ (List.mem_of_getElem? (i := 6) rfl)) (by decide) (rmI2 l Z a0 hw b0 b1 ob40 ob31 p2 ht39 O41 At39 F_relevantWithin_ob40 F_relevant_ob40 Y_ob31 (Ne.symm ne_ob31_ob40) fr_ob40 hb0 hb1) 1 (by decide) (by decide) et39 (hsz rfl) ob40 [(.ref ob31), (.int p2)] [(.ref ob40)] pd_2 rfl rfl rfl (Nat.le_of_eq rfl) (hb hby at_139) (by decide) (by decide) (fun Tt42 vt42 Lt42 Xt42 qt42 => ?_)
        obtain ⟨ht42, et42⟩ : ∃ z, Tt42.heap = z := ⟨_, rfl⟩
        rw [et42] at qt42
        obtain ⟨rfl, N43, Kct42, u, pu, G1, G2, Yu⟩ := qt42
        have N44 := Fr.app N37 N43
        replace Y_ob31 := Y_ob31.keep Kct42 (ninS ne_ob31_ob40 nin0)
        replace At39 := At39.keep Kct42
        have O45 : Ext Z.heap ht42 := extK O41 Kct42 (allS fr_ob40 all0)
        have ne_ob31_u : ob31 ≠ u := Nat.ne_of_lt (Nat.lt_of_lt_of_le lt_ob31_t42 pu)
        have ne_ob40_u : ob40 ≠ u := Nat.ne_of_lt (Nat.lt_of_lt_of_le lt_ob40_t42 pu)
        have fr_u : Z.heap.size ≤ u := Nat.le_trans O41.1 pu
        show Goes p e below _ (Tt42.setTop (mkF m 142 #[.val (.int p0), .val (.int p1), .val (.int p2), .val (.int (2 : Int32)), .val (.int b0), .val (.int b1), .val (.int (0 : Int32)), .val (.int (0 : Int32)), .val (.ref ob31), .unset, .unset, .unset, .unset, .unset, .unset, .unset, .unset, .unset, .unset, .unset] [(.ref ob40)]))
        refine gAstore Xt42 hx (hb hby at_142) rfl (l' := #[.val (.int p0), .val (.int p1), .val (.int p2), .val (.int (2 : Int32)), .val (.int b0), .val (.int b1), .val (.int (0 : Int32)), .val (.int (0 : Int32)), .val (.ref ob31), .val (.ref ob40), .unset, .unset, .unset, .unset, .unset, .unset, .unset, .unset, .unset, .unset]) rfl ?_
        refine gAload Xt42 hx (hb hby at_144) rfl rfl ?_
        refine goCallV Xt42 hx hZ hown (hw _ (List.mem_of_getElem? (i := 15) rfl)) (hw _ (List.mem_of_getElem? (i := 16) rfl)) (hw _ (List.mem_of_getElem? (i := 18) rfl)) (hw _ (List.mem_of_getElem? (i := 17) rfl)) (hw _ (List.mem_of_getElem? (i := 3) rfl)) (hw _ (List.mem_of_getElem? (i := 19) rfl)) (by decide) (rmA2 l Z a0 hw u p2 b0 b1 ob40 ht42 O45 At39 G1 G2 Yu hb0 hb1) 0 (by decide) (by decide) et42 At39 (hsz rfl) [] [] pd_3 rfl rfl rfl (Nat.le_of_eq rfl) (hb hby at_146) (by decide) (by decide) (fun Tt46 vt46 Lt46 Xt46 qt46 => ?_)
        obtain ⟨rfl, N47, et46⟩ := qt46
        have N48 := Fr.app N44 N47
        show Goes p e below _ (Tt46.setTop (mkF m 149 #[.val (.int p0), .val (.int p1), .val (.int p2), .val (.int (2 : Int32)), .val (.int b0), .val (.int b1), .val (.int (0 : Int32)), .val (.int (0 : Int32)), .val (.ref ob31), .val (.ref ob40), .unset, .unset, .unset, .unset, .unset, .unset, .unset, .unset, .unset, .unset] [(.double (own_rt (own_st (own_st FP.dconst0 (0 : Int32) ((0 : Int32) + b0) (1 : Int32)) ((0 : Int32) + b0) (((0 : Int32) + b0) + b1) (2 : Int32)) p2))]))
        refine gDstore Xt46 hx (hb hby at_149) (l' := #[.val (.int p0), .val (.int p1), .val (.int p2), .val (.int (2 : Int32)), .val (.int b0), .val (.int b1), .val (.int (0 : Int32)), .val (.int (0 : Int32)), .val (.ref ob31), .val (.ref ob40), .val (.double (own_rt (own_st (own_st FP.dconst0 (0 : Int32) ((0 : Int32) + b0) (1 : Int32)) ((0 : Int32) + b0) (((0 : Int32) + b0) + b1) (2 : Int32)) p2)), .second, .unset, .unset, .unset, .unset, .unset, .unset, .unset, .unset]) rfl ?_
        refine gIload Xt46 hx (hb hby at_151) rfl ?_
        have C0 : ∀ (z0_ : Int32), b0 = z0_ → Goes p e below (EndN s (fun v h L => v = some (.int 1) ∧ Fr Z.heap.size L) room_1.cells room_1.slots) (Tt46.setTop (mkF m 161 #[.val (.int p0), .val (.int p1), .val (.int p2), .val (.int (2 : Int32)), .val (.int b0), .val (.int b1), .val (.int (0 : Int32)), .val (.int (0 : Int32)), .val (.ref ob31), .val (.ref ob40), .val (.double (own_rt (own_st (own_st FP.dconst0 (0 : Int32) ((0 : Int32) + b0) (1 : Int32)) ((0 : Int32) + b0) (((0 : Int32) + b0) + b1) (2 : Int32)) p2)), .second, .unset, .unset, .unset, .unset, .unset, .unset, .unset, .unset] [(.int z0_)])) := by
          intro z0_ hz
          subst hz
          show Goes p e below _ (Tt46.setTop (mkF m 161 #[.val (.int p0), .val (.int p1), .val (.int p2), .val (.int (2 : Int32)), .val (.int b0), .val (.int b1), .val (.int (0 : Int32)), .val (.int (0 : Int32)), .val (.ref ob31), .val (.ref ob40), .val (.double (own_rt (own_st (own_st FP.dconst0 (0 : Int32) ((0 : Int32) + b0) (1 : Int32)) ((0 : Int32) + b0) (((0 : Int32) + b0) + b1) (2 : Int32)) p2)), .second, .unset, .unset, .unset, .unset, .unset, .unset, .unset, .unset] [(.int b0)]))
          refine gIstore Xt46 hx (hb hby at_161) (l' := #[.val (.int p0), .val (.int p1), .val (.int p2), .val (.int (2 : Int32)), .val (.int b0), .val (.int b1), .val (.int (0 : Int32)), .val (.int (0 : Int32)), .val (.ref ob31), .val (.ref ob40), .val (.double (own_rt (own_st (own_st FP.dconst0 (0 : Int32) ((0 : Int32) + b0) (1 : Int32)) ((0 : Int32) + b0) (((0 : Int32) + b0) + b1) (2 : Int32)) p2)), .second, .val (.int b0), .unset, .unset, .unset, .unset, .unset, .unset, .unset]) rfl ?_
          refine gIload Xt46 hx (hb hby at_163) rfl ?_
          refine gIload Xt46 hx (hb hby at_165) rfl ?_
          have C1 : ∀ (z1_ : Int32), b1 = z1_ → Goes p e below (EndN s (fun v h L => v = some (.int 1) ∧ Fr Z.heap.size L) room_1.cells room_1.slots) (Tt46.setTop (mkF m 175 #[.val (.int p0), .val (.int p1), .val (.int p2), .val (.int (2 : Int32)), .val (.int b0), .val (.int b1), .val (.int (0 : Int32)), .val (.int (0 : Int32)), .val (.ref ob31), .val (.ref ob40), .val (.double (own_rt (own_st (own_st FP.dconst0 (0 : Int32) ((0 : Int32) + b0) (1 : Int32)) ((0 : Int32) + b0) (((0 : Int32) + b0) + b1) (2 : Int32)) p2)), .second, .val (.int b0), .unset, .unset, .unset, .unset, .unset, .unset, .unset] [(.int z1_), (.int b0)])) := by
            intro z1_ hz
            subst hz
            show Goes p e below _ (Tt46.setTop (mkF m 175 #[.val (.int p0), .val (.int p1), .val (.int p2), .val (.int (2 : Int32)), .val (.int b0), .val (.int b1), .val (.int (0 : Int32)), .val (.int (0 : Int32)), .val (.ref ob31), .val (.ref ob40), .val (.double (own_rt (own_st (own_st FP.dconst0 (0 : Int32) ((0 : Int32) + b0) (1 : Int32)) ((0 : Int32) + b0) (((0 : Int32) + b0) + b1) (2 : Int32)) p2)), .second, .val (.int b0), .unset, .unset, .unset, .unset, .unset, .unset, .unset] [(.int b1), (.int b0)]))
            refine gIadd Xt46 hx (hb hby at_175) ?_
            refine gIstore Xt46 hx (hb hby at_176) (l' := #[.val (.int p0), .val (.int p1), .val (.int p2), .val (.int (2 : Int32)), .val (.int b0), .val (.int b1), .val (.int (0 : Int32)), .val (.int (0 : Int32)), .val (.ref ob31), .val (.ref ob40), .val (.double (own_rt (own_st (own_st FP.dconst0 (0 : Int32) ((0 : Int32) + b0) (1 : Int32)) ((0 : Int32) + b0) (((0 : Int32) + b0) + b1) (2 : Int32)) p2)), .second, .val (.int b0), .val (.int (b0 + b1)), .unset, .unset, .unset, .unset, .unset, .unset]) rfl ?_
            refine gIload Xt46 hx (hb hby at_178) rfl ?_
            refine gIload Xt46 hx (hb hby at_180) rfl ?_
            refine gIfY Xt46 hx (hb hby at_182) (pc' := 189) (XT.i0_eq_t (by decide)) (by decide) (by decide) ?_
            show Goes p e below _ (Tt46.setTop (mkF m 189 #[.val (.int p0), .val (.int p1), .val (.int p2), .val (.int (2 : Int32)), .val (.int b0), .val (.int b1), .val (.int (0 : Int32)), .val (.int (0 : Int32)), .val (.ref ob31), .val (.ref ob40), .val (.double (own_rt (own_st (own_st FP.dconst0 (0 : Int32) ((0 : Int32) + b0) (1 : Int32)) ((0 : Int32) + b0) (((0 : Int32) + b0) + b1) (2 : Int32)) p2)), .second, .val (.int b0), .val (.int (b0 + b1)), .unset, .unset, .unset, .unset, .unset, .unset] [(.int (b0 + b1))]))
            refine gIconst Xt46 hx (hb hby at_189) (v := (0 : Int32)) rfl ?_
            refine gIadd Xt46 hx (hb hby at_190) ?_
            refine gIstore Xt46 hx (hb hby at_191) (l' := #[.val (.int p0), .val (.int p1), .val (.int p2), .val (.int (2 : Int32)), .val (.int b0), .val (.int b1), .val (.int (0 : Int32)), .val (.int (0 : Int32)), .val (.ref ob31), .val (.ref ob40), .val (.double (own_rt (own_st (own_st FP.dconst0 (0 : Int32) ((0 : Int32) + b0) (1 : Int32)) ((0 : Int32) + b0) (((0 : Int32) + b0) + b1) (2 : Int32)) p2)), .second, .val (.int b0), .val (.int (b0 + b1)), .val (.int ((b0 + b1) + (0 : Int32))), .unset, .unset, .unset, .unset, .unset]) rfl ?_
            refine gIload Xt46 hx (hb hby at_193) rfl ?_
            refine gIload Xt46 hx (hb hby at_195) rfl ?_
            refine gIfY Xt46 hx (hb hby at_197) (pc' := 204) (XT.i0_eq_t (by decide)) (by decide) (by decide) ?_
            show Goes p e below _ (Tt46.setTop (mkF m 204 #[.val (.int p0), .val (.int p1), .val (.int p2), .val (.int (2 : Int32)), .val (.int b0), .val (.int b1), .val (.int (0 : Int32)), .val (.int (0 : Int32)), .val (.ref ob31), .val (.ref ob40), .val (.double (own_rt (own_st (own_st FP.dconst0 (0 : Int32) ((0 : Int32) + b0) (1 : Int32)) ((0 : Int32) + b0) (((0 : Int32) + b0) + b1) (2 : Int32)) p2)), .second, .val (.int b0), .val (.int (b0 + b1)), .val (.int ((b0 + b1) + (0 : Int32))), .unset, .unset, .unset, .unset, .unset] [(.int ((b0 + b1) + (0 : Int32)))]))
            refine gIconst Xt46 hx (hb hby at_204) (v := (0 : Int32)) rfl ?_
            refine gIadd Xt46 hx (hb hby at_205) ?_
            refine gIstore Xt46 hx (hb hby at_206) (l' := #[.val (.int p0), .val (.int p1), .val (.int p2), .val (.int (2 : Int32)), .val (.int b0), .val (.int b1), .val (.int (0 : Int32)), .val (.int (0 : Int32)), .val (.ref ob31), .val (.ref ob40), .val (.double (own_rt (own_st (own_st FP.dconst0 (0 : Int32) ((0 : Int32) + b0) (1 : Int32)) ((0 : Int32) + b0) (((0 : Int32) + b0) + b1) (2 : Int32)) p2)), .second, .val (.int b0), .val (.int (b0 + b1)), .val (.int ((b0 + b1) + (0 : Int32))), .val (.int (((b0 + b1) + (0 : Int32)) + (0 : Int32))), .unset, .unset, .unset, .unset]) rfl ?_
            refine gDconst0 Xt46 hx (hb hby at_208) ?_
            refine gDstore Xt46 hx (hb hby at_209) (l' := #[.val (.int p0), .val (.int p1), .val (.int p2), .val (.int (2 : Int32)), .val (.int b0), .val (.int b1), .val (.int (0 : Int32)), .val (.int (0 : Int32)), .val (.ref ob31), .val (.ref ob40), .val (.double (own_rt (own_st (own_st FP.dconst0 (0 : Int32) ((0 : Int32) + b0) (1 : Int32)) ((0 : Int32) + b0) (((0 : Int32) + b0) + b1) (2 : Int32)) p2)), .second, .val (.int b0), .val (.int (b0 + b1)), .val (.int ((b0 + b1) + (0 : Int32))), .val (.int (((b0 + b1) + (0 : Int32)) + (0 : Int32))), .val (.double FP.dconst0), .second, .unset, .unset]) rfl ?_
            refine gIload Xt46 hx (hb hby at_211) rfl ?_
            have M0 : ∀ (s0_ : UInt64), s0_ = (own_ls FP.dconst0 b0 b0 FP.dconst1) → Goes p e below (EndN s (fun v h L => v = some (.int 1) ∧ Fr Z.heap.size L) room_1.cells room_1.slots) (Tt46.setTop (mkF m 226 #[.val (.int p0), .val (.int p1), .val (.int p2), .val (.int (2 : Int32)), .val (.int b0), .val (.int b1), .val (.int (0 : Int32)), .val (.int (0 : Int32)), .val (.ref ob31), .val (.ref ob40), .val (.double (own_rt (own_st (own_st FP.dconst0 (0 : Int32) ((0 : Int32) + b0) (1 : Int32)) ((0 : Int32) + b0) (((0 : Int32) + b0) + b1) (2 : Int32)) p2)), .second, .val (.int b0), .val (.int (b0 + b1)), .val (.int ((b0 + b1) + (0 : Int32))), .val (.int (((b0 + b1) + (0 : Int32)) + (0 : Int32))), .val (.double s0_), .second, .unset, .unset] [])) := by
              intro s0_ hz
              subst hz
              show Goes p e below _ (Tt46.setTop (mkF m 226 #[.val (.int p0), .val (.int p1), .val (.int p2), .val (.int (2 : Int32)), .val (.int b0), .val (.int b1), .val (.int (0 : Int32)), .val (.int (0 : Int32)), .val (.ref ob31), .val (.ref ob40), .val (.double (own_rt (own_st (own_st FP.dconst0 (0 : Int32) ((0 : Int32) + b0) (1 : Int32)) ((0 : Int32) + b0) (((0 : Int32) + b0) + b1) (2 : Int32)) p2)), .second, .val (.int b0), .val (.int (b0 + b1)), .val (.int ((b0 + b1) + (0 : Int32))), .val (.int (((b0 + b1) + (0 : Int32)) + (0 : Int32))), .val (.double (own_ls FP.dconst0 b0 b0 FP.dconst1)), .second, .unset, .unset] []))
              refine gIload Xt46 hx (hb hby at_226) rfl ?_
              have M1 : ∀ (s1_ : UInt64), s1_ = (own_ls (own_ls FP.dconst0 b0 b0 FP.dconst1) b1 (b0 + b1) (4611686018427387904 : UInt64)) → Goes p e below (EndN s (fun v h L => v = some (.int 1) ∧ Fr Z.heap.size L) room_1.cells room_1.slots) (Tt46.setTop (mkF m 243 #[.val (.int p0), .val (.int p1), .val (.int p2), .val (.int (2 : Int32)), .val (.int b0), .val (.int b1), .val (.int (0 : Int32)), .val (.int (0 : Int32)), .val (.ref ob31), .val (.ref ob40), .val (.double (own_rt (own_st (own_st FP.dconst0 (0 : Int32) ((0 : Int32) + b0) (1 : Int32)) ((0 : Int32) + b0) (((0 : Int32) + b0) + b1) (2 : Int32)) p2)), .second, .val (.int b0), .val (.int (b0 + b1)), .val (.int ((b0 + b1) + (0 : Int32))), .val (.int (((b0 + b1) + (0 : Int32)) + (0 : Int32))), .val (.double s1_), .second, .unset, .unset] [])) := by
                intro s1_ hz
                subst hz
                show Goes p e below _ (Tt46.setTop (mkF m 243 #[.val (.int p0), .val (.int p1), .val (.int p2), .val (.int (2 : Int32)), .val (.int b0), .val (.int b1), .val (.int (0 : Int32)), .val (.int (0 : Int32)), .val (.ref ob31), .val (.ref ob40), .val (.double (own_rt (own_st (own_st FP.dconst0 (0 : Int32) ((0 : Int32) + b0) (1 : Int32)) ((0 : Int32) + b0) (((0 : Int32) + b0) + b1) (2 : Int32)) p2)), .second, .val (.int b0), .val (.int (b0 + b1)), .val (.int ((b0 + b1) + (0 : Int32))), .val (.int (((b0 + b1) + (0 : Int32)) + (0 : Int32))), .val (.double (own_ls (own_ls FP.dconst0 b0 b0 FP.dconst1) b1 (b0 + b1) (4611686018427387904 : UInt64))), .second, .unset, .unset] []))
                refine gIload Xt46 hx (hb hby at_243) rfl ?_
                refine gIfY Xt46 hx (hb hby at_245) (pc' := 260) (XT.i0_eq_t (by decide)) (by decide) (by decide) ?_
                show Goes p e below _ (Tt46.setTop (mkF m 260 #[.val (.int p0), .val (.int p1), .val (.int p2), .val (.int (2 : Int32)), .val (.int b0), .val (.int b1), .val (.int (0 : Int32)), .val (.int (0 : Int32)), .val (.ref ob31), .val (.ref ob40), .val (.double (own_rt (own_st (own_st FP.dconst0 (0 : Int32) ((0 : Int32) + b0) (1 : Int32)) ((0 : Int32) + b0) (((0 : Int32) + b0) + b1) (2 : Int32)) p2)), .second, .val (.int b0), .val (.int (b0 + b1)), .val (.int ((b0 + b1) + (0 : Int32))), .val (.int (((b0 + b1) + (0 : Int32)) + (0 : Int32))), .val (.double (own_ls (own_ls FP.dconst0 b0 b0 FP.dconst1) b1 (b0 + b1) (4611686018427387904 : UInt64))), .second, .unset, .unset] []))
                refine gIload Xt46 hx (hb hby at_260) rfl ?_
                refine gIfY Xt46 hx (hb hby at_262) (pc' := 277) (XT.i0_eq_t (by decide)) (by decide) (by decide) ?_
                show Goes p e below _ (Tt46.setTop (mkF m 277 #[.val (.int p0), .val (.int p1), .val (.int p2), .val (.int (2 : Int32)), .val (.int b0), .val (.int b1), .val (.int (0 : Int32)), .val (.int (0 : Int32)), .val (.ref ob31), .val (.ref ob40), .val (.double (own_rt (own_st (own_st FP.dconst0 (0 : Int32) ((0 : Int32) + b0) (1 : Int32)) ((0 : Int32) + b0) (((0 : Int32) + b0) + b1) (2 : Int32)) p2)), .second, .val (.int b0), .val (.int (b0 + b1)), .val (.int ((b0 + b1) + (0 : Int32))), .val (.int (((b0 + b1) + (0 : Int32)) + (0 : Int32))), .val (.double (own_ls (own_ls FP.dconst0 b0 b0 FP.dconst1) b1 (b0 + b1) (4611686018427387904 : UInt64))), .second, .unset, .unset] []))
                refine gIloadN Xt46 hx (hb hby at_277) rfl ?_
                have same := own_same2 b0 b1 hb0 hb1
                have ns := own_ns2 b0 b1 hb0 hb1
                by_cases g : 0 < p2
                · refine gIfN Xt46 hx (hb hby at_278) (XT.i0_le_f g) ?_
                  show Goes p e below _ (Tt46.setTop (mkF m 281 #[.val (.int p0), .val (.int p1), .val (.int p2), .val (.int (2 : Int32)), .val (.int b0), .val (.int b1), .val (.int (0 : Int32)), .val (.int (0 : Int32)), .val (.ref ob31), .val (.ref ob40), .val (.double (own_rt (own_st (own_st FP.dconst0 (0 : Int32) ((0 : Int32) + b0) (1 : Int32)) ((0 : Int32) + b0) (((0 : Int32) + b0) + b1) (2 : Int32)) p2)), .second, .val (.int b0), .val (.int (b0 + b1)), .val (.int ((b0 + b1) + (0 : Int32))), .val (.int (((b0 + b1) + (0 : Int32)) + (0 : Int32))), .val (.double (own_ls (own_ls FP.dconst0 b0 b0 FP.dconst1) b1 (b0 + b1) (4611686018427387904 : UInt64))), .second, .unset, .unset] []))
                  refine gDload Xt46 hx (hb hby at_281) rfl ?_
                  refine gIloadN Xt46 hx (hb hby at_283) rfl ?_
                  refine gI2d Xt46 hx (hb hby at_284) ?_
                  refine gDdiv Xt46 hx (hb hby at_285) (own_div (same ▸ ns) g) ?_
                  refine gGoto Xt46 hx (hb hby at_286) (pc' := 290) (by decide) (by decide) ?_
                  show Goes p e below _ (Tt46.setTop (mkF m 290 #[.val (.int p0), .val (.int p1), .val (.int p2), .val (.int (2 : Int32)), .val (.int b0), .val (.int b1), .val (.int (0 : Int32)), .val (.int (0 : Int32)), .val (.ref ob31), .val (.ref ob40), .val (.double (own_rt (own_st (own_st FP.dconst0 (0 : Int32) ((0 : Int32) + b0) (1 : Int32)) ((0 : Int32) + b0) (((0 : Int32) + b0) + b1) (2 : Int32)) p2)), .second, .val (.int b0), .val (.int (b0 + b1)), .val (.int ((b0 + b1) + (0 : Int32))), .val (.int (((b0 + b1) + (0 : Int32)) + (0 : Int32))), .val (.double (own_ls (own_ls FP.dconst0 b0 b0 FP.dconst1) b1 (b0 + b1) (4611686018427387904 : UInt64))), .second, .unset, .unset] [(.double (FP.ddiv (own_ls (own_ls FP.dconst0 b0 b0 FP.dconst1) b1 (b0 + b1) (4611686018427387904 : UInt64)) (FP.i2d p2)))]))
                  refine gDstore Xt46 hx (hb hby at_290) (l' := #[.val (.int p0), .val (.int p1), .val (.int p2), .val (.int (2 : Int32)), .val (.int b0), .val (.int b1), .val (.int (0 : Int32)), .val (.int (0 : Int32)), .val (.ref ob31), .val (.ref ob40), .val (.double (own_rt (own_st (own_st FP.dconst0 (0 : Int32) ((0 : Int32) + b0) (1 : Int32)) ((0 : Int32) + b0) (((0 : Int32) + b0) + b1) (2 : Int32)) p2)), .second, .val (.int b0), .val (.int (b0 + b1)), .val (.int ((b0 + b1) + (0 : Int32))), .val (.int (((b0 + b1) + (0 : Int32)) + (0 : Int32))), .val (.double (own_ls (own_ls FP.dconst0 b0 b0 FP.dconst1) b1 (b0 + b1) (4611686018427387904 : UInt64))), .second, .val (.double (FP.ddiv (own_ls (own_ls FP.dconst0 b0 b0 FP.dconst1) b1 (b0 + b1) (4611686018427387904 : UInt64)) (FP.i2d p2))), .second]) rfl ?_
                  refine gDload Xt46 hx (hb hby at_292) rfl ?_
                  refine gDload Xt46 hx (hb hby at_294) rfl ?_
                  refine gDcmp Xt46 hx (hb hby at_296) ?_
                  refine gIfN Xt46 hx (hb hby at_297) (XT.i0_ne_f (dcmpV_eq (by rw [show own_rt (own_st (own_st FP.dconst0 (0 : Int32) ((0 : Int32) + b0) (1 : Int32)) ((0 : Int32) + b0) (((0 : Int32) + b0) + b1) (2 : Int32)) p2 = FP.ddiv (own_st (own_st FP.dconst0 (0 : Int32) ((0 : Int32) + b0) (1 : Int32)) ((0 : Int32) + b0) (((0 : Int32) + b0) + b1) (2 : Int32)) (FP.i2d p2) from if_pos g, same]) (own_rtn ns p2) .l)) ?_
                  show Goes p e below _ (Tt46.setTop (mkF m 300 #[.val (.int p0), .val (.int p1), .val (.int p2), .val (.int (2 : Int32)), .val (.int b0), .val (.int b1), .val (.int (0 : Int32)), .val (.int (0 : Int32)), .val (.ref ob31), .val (.ref ob40), .val (.double (own_rt (own_st (own_st FP.dconst0 (0 : Int32) ((0 : Int32) + b0) (1 : Int32)) ((0 : Int32) + b0) (((0 : Int32) + b0) + b1) (2 : Int32)) p2)), .second, .val (.int b0), .val (.int (b0 + b1)), .val (.int ((b0 + b1) + (0 : Int32))), .val (.int (((b0 + b1) + (0 : Int32)) + (0 : Int32))), .val (.double (own_ls (own_ls FP.dconst0 b0 b0 FP.dconst1) b1 (b0 + b1) (4611686018427387904 : UInt64))), .second, .val (.double (FP.ddiv (own_ls (own_ls FP.dconst0 b0 b0 FP.dconst1) b1 (b0 + b1) (4611686018427387904 : UInt64)) (FP.i2d p2))), .second] []))
                  refine gIconst Xt46 hx (hb hby at_300) (v := (1 : Int32)) rfl ?_
                  refine gGoto Xt46 hx (hb hby at_301) (pc' := 305) (by decide) (by decide) ?_
                  show Goes p e below _ (Tt46.setTop (mkF m 305 #[.val (.int p0), .val (.int p1), .val (.int p2), .val (.int (2 : Int32)), .val (.int b0), .val (.int b1), .val (.int (0 : Int32)), .val (.int (0 : Int32)), .val (.ref ob31), .val (.ref ob40), .val (.double (own_rt (own_st (own_st FP.dconst0 (0 : Int32) ((0 : Int32) + b0) (1 : Int32)) ((0 : Int32) + b0) (((0 : Int32) + b0) + b1) (2 : Int32)) p2)), .second, .val (.int b0), .val (.int (b0 + b1)), .val (.int ((b0 + b1) + (0 : Int32))), .val (.int (((b0 + b1) + (0 : Int32)) + (0 : Int32))), .val (.double (own_ls (own_ls FP.dconst0 b0 b0 FP.dconst1) b1 (b0 + b1) (4611686018427387904 : UInt64))), .second, .val (.double (FP.ddiv (own_ls (own_ls FP.dconst0 b0 b0 FP.dconst1) b1 (b0 + b1) (4611686018427387904 : UInt64)) (FP.i2d p2))), .second] [(.int (1 : Int32))]))
                  exact goRetN Xt46 hx (t := .boolean) hret hlocks (by simp) (hb hby at_305) (z' := (1 : Int32)) rfl (by decide) (by decide) et46 (⟨rfl, N48⟩)
                · refine gIfY Xt46 hx (hb hby at_278) (pc' := 289) (XT.i0_le_t g) (by decide) (by decide) ?_
                  show Goes p e below _ (Tt46.setTop (mkF m 289 #[.val (.int p0), .val (.int p1), .val (.int p2), .val (.int (2 : Int32)), .val (.int b0), .val (.int b1), .val (.int (0 : Int32)), .val (.int (0 : Int32)), .val (.ref ob31), .val (.ref ob40), .val (.double (own_rt (own_st (own_st FP.dconst0 (0 : Int32) ((0 : Int32) + b0) (1 : Int32)) ((0 : Int32) + b0) (((0 : Int32) + b0) + b1) (2 : Int32)) p2)), .second, .val (.int b0), .val (.int (b0 + b1)), .val (.int ((b0 + b1) + (0 : Int32))), .val (.int (((b0 + b1) + (0 : Int32)) + (0 : Int32))), .val (.double (own_ls (own_ls FP.dconst0 b0 b0 FP.dconst1) b1 (b0 + b1) (4611686018427387904 : UInt64))), .second, .unset, .unset] []))
                  refine gDconst0 Xt46 hx (hb hby at_289) ?_
                  refine gDstore Xt46 hx (hb hby at_290) (l' := #[.val (.int p0), .val (.int p1), .val (.int p2), .val (.int (2 : Int32)), .val (.int b0), .val (.int b1), .val (.int (0 : Int32)), .val (.int (0 : Int32)), .val (.ref ob31), .val (.ref ob40), .val (.double (own_rt (own_st (own_st FP.dconst0 (0 : Int32) ((0 : Int32) + b0) (1 : Int32)) ((0 : Int32) + b0) (((0 : Int32) + b0) + b1) (2 : Int32)) p2)), .second, .val (.int b0), .val (.int (b0 + b1)), .val (.int ((b0 + b1) + (0 : Int32))), .val (.int (((b0 + b1) + (0 : Int32)) + (0 : Int32))), .val (.double (own_ls (own_ls FP.dconst0 b0 b0 FP.dconst1) b1 (b0 + b1) (4611686018427387904 : UInt64))), .second, .val (.double FP.dconst0), .second]) rfl ?_
                  refine gDload Xt46 hx (hb hby at_292) rfl ?_
                  refine gDload Xt46 hx (hb hby at_294) rfl ?_
                  refine gDcmp Xt46 hx (hb hby at_296) ?_
                  refine gIfN Xt46 hx (hb hby at_297) (XT.i0_ne_f (dcmpV_eq (if_neg g) (own_rtn ns p2) .l)) ?_
                  show Goes p e below _ (Tt46.setTop (mkF m 300 #[.val (.int p0), .val (.int p1), .val (.int p2), .val (.int (2 : Int32)), .val (.int b0), .val (.int b1), .val (.int (0 : Int32)), .val (.int (0 : Int32)), .val (.ref ob31), .val (.ref ob40), .val (.double (own_rt (own_st (own_st FP.dconst0 (0 : Int32) ((0 : Int32) + b0) (1 : Int32)) ((0 : Int32) + b0) (((0 : Int32) + b0) + b1) (2 : Int32)) p2)), .second, .val (.int b0), .val (.int (b0 + b1)), .val (.int ((b0 + b1) + (0 : Int32))), .val (.int (((b0 + b1) + (0 : Int32)) + (0 : Int32))), .val (.double (own_ls (own_ls FP.dconst0 b0 b0 FP.dconst1) b1 (b0 + b1) (4611686018427387904 : UInt64))), .second, .val (.double FP.dconst0), .second] []))
                  refine gIconst Xt46 hx (hb hby at_300) (v := (1 : Int32)) rfl ?_
                  refine gGoto Xt46 hx (hb hby at_301) (pc' := 305) (by decide) (by decide) ?_
                  show Goes p e below _ (Tt46.setTop (mkF m 305 #[.val (.int p0), .val (.int p1), .val (.int p2), .val (.int (2 : Int32)), .val (.int b0), .val (.int b1), .val (.int (0 : Int32)), .val (.int (0 : Int32)), .val (.ref ob31), .val (.ref ob40), .val (.double (own_rt (own_st (own_st FP.dconst0 (0 : Int32) ((0 : Int32) + b0) (1 : Int32)) ((0 : Int32) + b0) (((0 : Int32) + b0) + b1) (2 : Int32)) p2)), .second, .val (.int b0), .val (.int (b0 + b1)), .val (.int ((b0 + b1) + (0 : Int32))), .val (.int (((b0 + b1) + (0 : Int32)) + (0 : Int32))), .val (.double (own_ls (own_ls FP.dconst0 b0 b0 FP.dconst1) b1 (b0 + b1) (4611686018427387904 : UInt64))), .second, .val (.double FP.dconst0), .second] [(.int (1 : Int32))]))
                  exact goRetN Xt46 hx (t := .boolean) hret hlocks (by simp) (hb hby at_305) (z' := (1 : Int32)) rfl (by decide) (by decide) et46 (⟨rfl, N48⟩)
              by_cases g : b1 = 0
              · refine gIfY Xt46 hx (hb hby at_228) (pc' := 243) (XT.i0_eq_t g) (by decide) (by decide) ?_
                show Goes p e below _ (Tt46.setTop (mkF m 243 #[.val (.int p0), .val (.int p1), .val (.int p2), .val (.int (2 : Int32)), .val (.int b0), .val (.int b1), .val (.int (0 : Int32)), .val (.int (0 : Int32)), .val (.ref ob31), .val (.ref ob40), .val (.double (own_rt (own_st (own_st FP.dconst0 (0 : Int32) ((0 : Int32) + b0) (1 : Int32)) ((0 : Int32) + b0) (((0 : Int32) + b0) + b1) (2 : Int32)) p2)), .second, .val (.int b0), .val (.int (b0 + b1)), .val (.int ((b0 + b1) + (0 : Int32))), .val (.int (((b0 + b1) + (0 : Int32)) + (0 : Int32))), .val (.double (own_ls FP.dconst0 b0 b0 FP.dconst1)), .second, .unset, .unset] []))
                exact M1 _ (if_pos g).symm
              · refine gIfN Xt46 hx (hb hby at_228) (XT.i0_eq_f g) ?_
                show Goes p e below _ (Tt46.setTop (mkF m 231 #[.val (.int p0), .val (.int p1), .val (.int p2), .val (.int (2 : Int32)), .val (.int b0), .val (.int b1), .val (.int (0 : Int32)), .val (.int (0 : Int32)), .val (.ref ob31), .val (.ref ob40), .val (.double (own_rt (own_st (own_st FP.dconst0 (0 : Int32) ((0 : Int32) + b0) (1 : Int32)) ((0 : Int32) + b0) (((0 : Int32) + b0) + b1) (2 : Int32)) p2)), .second, .val (.int b0), .val (.int (b0 + b1)), .val (.int ((b0 + b1) + (0 : Int32))), .val (.int (((b0 + b1) + (0 : Int32)) + (0 : Int32))), .val (.double (own_ls FP.dconst0 b0 b0 FP.dconst1)), .second, .unset, .unset] []))
                refine gDload Xt46 hx (hb hby at_231) rfl ?_
                refine gIload Xt46 hx (hb hby at_233) rfl ?_
                refine gI2d Xt46 hx (hb hby at_235) ?_
                refine gLdc2D Xt46 hx hZ hown (hw _ (List.mem_of_getElem? (i := 28) rfl)) (hb hby at_236) ?_
                refine gDdiv Xt46 hx (hb hby at_239) (own_ql2 b0 b1 hb0 hb1) ?_
                refine gDadd Xt46 hx (hb hby at_240) (own_dl2 b0 b1 hb0 hb1) ?_
                refine gDstore Xt46 hx (hb hby at_241) (l' := #[.val (.int p0), .val (.int p1), .val (.int p2), .val (.int (2 : Int32)), .val (.int b0), .val (.int b1), .val (.int (0 : Int32)), .val (.int (0 : Int32)), .val (.ref ob31), .val (.ref ob40), .val (.double (own_rt (own_st (own_st FP.dconst0 (0 : Int32) ((0 : Int32) + b0) (1 : Int32)) ((0 : Int32) + b0) (((0 : Int32) + b0) + b1) (2 : Int32)) p2)), .second, .val (.int b0), .val (.int (b0 + b1)), .val (.int ((b0 + b1) + (0 : Int32))), .val (.int (((b0 + b1) + (0 : Int32)) + (0 : Int32))), .val (.double (FP.dadd (own_ls FP.dconst0 b0 b0 FP.dconst1) (FP.ddiv (FP.i2d (b0 + b1)) (4611686018427387904 : UInt64)))), .second, .unset, .unset]) rfl ?_
                show Goes p e below _ (Tt46.setTop (mkF m 243 #[.val (.int p0), .val (.int p1), .val (.int p2), .val (.int (2 : Int32)), .val (.int b0), .val (.int b1), .val (.int (0 : Int32)), .val (.int (0 : Int32)), .val (.ref ob31), .val (.ref ob40), .val (.double (own_rt (own_st (own_st FP.dconst0 (0 : Int32) ((0 : Int32) + b0) (1 : Int32)) ((0 : Int32) + b0) (((0 : Int32) + b0) + b1) (2 : Int32)) p2)), .second, .val (.int b0), .val (.int (b0 + b1)), .val (.int ((b0 + b1) + (0 : Int32))), .val (.int (((b0 + b1) + (0 : Int32)) + (0 : Int32))), .val (.double (FP.dadd (own_ls FP.dconst0 b0 b0 FP.dconst1) (FP.ddiv (FP.i2d (b0 + b1)) (4611686018427387904 : UInt64)))), .second, .unset, .unset] []))
                exact M1 _ (if_neg g).symm
            by_cases g : b0 = 0
            · refine gIfY Xt46 hx (hb hby at_213) (pc' := 226) (XT.i0_eq_t g) (by decide) (by decide) ?_
              show Goes p e below _ (Tt46.setTop (mkF m 226 #[.val (.int p0), .val (.int p1), .val (.int p2), .val (.int (2 : Int32)), .val (.int b0), .val (.int b1), .val (.int (0 : Int32)), .val (.int (0 : Int32)), .val (.ref ob31), .val (.ref ob40), .val (.double (own_rt (own_st (own_st FP.dconst0 (0 : Int32) ((0 : Int32) + b0) (1 : Int32)) ((0 : Int32) + b0) (((0 : Int32) + b0) + b1) (2 : Int32)) p2)), .second, .val (.int b0), .val (.int (b0 + b1)), .val (.int ((b0 + b1) + (0 : Int32))), .val (.int (((b0 + b1) + (0 : Int32)) + (0 : Int32))), .val (.double FP.dconst0), .second, .unset, .unset] []))
              exact M0 _ (if_pos g).symm
            · refine gIfN Xt46 hx (hb hby at_213) (XT.i0_eq_f g) ?_
              show Goes p e below _ (Tt46.setTop (mkF m 216 #[.val (.int p0), .val (.int p1), .val (.int p2), .val (.int (2 : Int32)), .val (.int b0), .val (.int b1), .val (.int (0 : Int32)), .val (.int (0 : Int32)), .val (.ref ob31), .val (.ref ob40), .val (.double (own_rt (own_st (own_st FP.dconst0 (0 : Int32) ((0 : Int32) + b0) (1 : Int32)) ((0 : Int32) + b0) (((0 : Int32) + b0) + b1) (2 : Int32)) p2)), .second, .val (.int b0), .val (.int (b0 + b1)), .val (.int ((b0 + b1) + (0 : Int32))), .val (.int (((b0 + b1) + (0 : Int32)) + (0 : Int32))), .val (.double FP.dconst0), .second, .unset, .unset] []))
              refine gDload Xt46 hx (hb hby at_216) rfl ?_
              refine gIload Xt46 hx (hb hby at_218) rfl ?_
              refine gI2d Xt46 hx (hb hby at_220) ?_
              refine gDconst1 Xt46 hx (hb hby at_221) ?_
              refine gDdiv Xt46 hx (hb hby at_222) (own_ql1 b0 hb0) ?_
              refine gDadd Xt46 hx (hb hby at_223) (own_dl1 b0 hb0) ?_
              refine gDstore Xt46 hx (hb hby at_224) (l' := #[.val (.int p0), .val (.int p1), .val (.int p2), .val (.int (2 : Int32)), .val (.int b0), .val (.int b1), .val (.int (0 : Int32)), .val (.int (0 : Int32)), .val (.ref ob31), .val (.ref ob40), .val (.double (own_rt (own_st (own_st FP.dconst0 (0 : Int32) ((0 : Int32) + b0) (1 : Int32)) ((0 : Int32) + b0) (((0 : Int32) + b0) + b1) (2 : Int32)) p2)), .second, .val (.int b0), .val (.int (b0 + b1)), .val (.int ((b0 + b1) + (0 : Int32))), .val (.int (((b0 + b1) + (0 : Int32)) + (0 : Int32))), .val (.double (FP.dadd FP.dconst0 (FP.ddiv (FP.i2d b0) FP.dconst1))), .second, .unset, .unset]) rfl ?_
              show Goes p e below _ (Tt46.setTop (mkF m 226 #[.val (.int p0), .val (.int p1), .val (.int p2), .val (.int (2 : Int32)), .val (.int b0), .val (.int b1), .val (.int (0 : Int32)), .val (.int (0 : Int32)), .val (.ref ob31), .val (.ref ob40), .val (.double (own_rt (own_st (own_st FP.dconst0 (0 : Int32) ((0 : Int32) + b0) (1 : Int32)) ((0 : Int32) + b0) (((0 : Int32) + b0) + b1) (2 : Int32)) p2)), .second, .val (.int b0), .val (.int (b0 + b1)), .val (.int ((b0 + b1) + (0 : Int32))), .val (.int (((b0 + b1) + (0 : Int32)) + (0 : Int32))), .val (.double (FP.dadd FP.dconst0 (FP.ddiv (FP.i2d b0) FP.dconst1))), .second, .unset, .unset] []))
              exact M0 _ (if_neg g).symm
          by_cases g : b1 = 0
          · refine gIfY Xt46 hx (hb hby at_167) (pc' := 174) (XT.i0_eq_t g) (by decide) (by decide) ?_
            show Goes p e below _ (Tt46.setTop (mkF m 174 #[.val (.int p0), .val (.int p1), .val (.int p2), .val (.int (2 : Int32)), .val (.int b0), .val (.int b1), .val (.int (0 : Int32)), .val (.int (0 : Int32)), .val (.ref ob31), .val (.ref ob40), .val (.double (own_rt (own_st (own_st FP.dconst0 (0 : Int32) ((0 : Int32) + b0) (1 : Int32)) ((0 : Int32) + b0) (((0 : Int32) + b0) + b1) (2 : Int32)) p2)), .second, .val (.int b0), .unset, .unset, .unset, .unset, .unset, .unset, .unset] [(.int b0)]))
            refine gIconst Xt46 hx (hb hby at_174) (v := (0 : Int32)) rfl ?_
            exact C1 _ g
          · refine gIfN Xt46 hx (hb hby at_167) (XT.i0_eq_f g) ?_
            show Goes p e below _ (Tt46.setTop (mkF m 170 #[.val (.int p0), .val (.int p1), .val (.int p2), .val (.int (2 : Int32)), .val (.int b0), .val (.int b1), .val (.int (0 : Int32)), .val (.int (0 : Int32)), .val (.ref ob31), .val (.ref ob40), .val (.double (own_rt (own_st (own_st FP.dconst0 (0 : Int32) ((0 : Int32) + b0) (1 : Int32)) ((0 : Int32) + b0) (((0 : Int32) + b0) + b1) (2 : Int32)) p2)), .second, .val (.int b0), .unset, .unset, .unset, .unset, .unset, .unset, .unset] [(.int b0)]))
            refine gIconst Xt46 hx (hb hby at_170) (v := (1 : Int32)) rfl ?_
            refine gGoto Xt46 hx (hb hby at_171) (pc' := 175) (by decide) (by decide) ?_
            show Goes p e below _ (Tt46.setTop (mkF m 175 #[.val (.int p0), .val (.int p1), .val (.int p2), .val (.int (2 : Int32)), .val (.int b0), .val (.int b1), .val (.int (0 : Int32)), .val (.int (0 : Int32)), .val (.ref ob31), .val (.ref ob40), .val (.double (own_rt (own_st (own_st FP.dconst0 (0 : Int32) ((0 : Int32) + b0) (1 : Int32)) ((0 : Int32) + b0) (((0 : Int32) + b0) + b1) (2 : Int32)) p2)), .second, .val (.int b0), .unset, .unset, .unset, .unset, .unset, .unset, .unset] [(.int (1 : Int32)), (.int b0)]))
            exact C1 _ (hb1.resolve_left g)
        by_cases g : b0 = 0
        · refine gIfY Xt46 hx (hb hby at_153) (pc' := 160) (XT.i0_eq_t g) (by decide) (by decide) ?_
          show Goes p e below _ (Tt46.setTop (mkF m 160 #[.val (.int p0), .val (.int p1), .val (.int p2), .val (.int (2 : Int32)), .val (.int b0), .val (.int b1), .val (.int (0 : Int32)), .val (.int (0 : Int32)), .val (.ref ob31), .val (.ref ob40), .val (.double (own_rt (own_st (own_st FP.dconst0 (0 : Int32) ((0 : Int32) + b0) (1 : Int32)) ((0 : Int32) + b0) (((0 : Int32) + b0) + b1) (2 : Int32)) p2)), .second, .unset, .unset, .unset, .unset, .unset, .unset, .unset, .unset] []))
          refine gIconst Xt46 hx (hb hby at_160) (v := (0 : Int32)) rfl ?_
          exact C0 _ g
        · refine gIfN Xt46 hx (hb hby at_153) (XT.i0_eq_f g) ?_
          show Goes p e below _ (Tt46.setTop (mkF m 156 #[.val (.int p0), .val (.int p1), .val (.int p2), .val (.int (2 : Int32)), .val (.int b0), .val (.int b1), .val (.int (0 : Int32)), .val (.int (0 : Int32)), .val (.ref ob31), .val (.ref ob40), .val (.double (own_rt (own_st (own_st FP.dconst0 (0 : Int32) ((0 : Int32) + b0) (1 : Int32)) ((0 : Int32) + b0) (((0 : Int32) + b0) + b1) (2 : Int32)) p2)), .second, .unset, .unset, .unset, .unset, .unset, .unset, .unset, .unset] []))
          refine gIconst Xt46 hx (hb hby at_156) (v := (1 : Int32)) rfl ?_
          refine gGoto Xt46 hx (hb hby at_157) (pc' := 161) (by decide) (by decide) ?_
          show Goes p e below _ (Tt46.setTop (mkF m 161 #[.val (.int p0), .val (.int p1), .val (.int p2), .val (.int (2 : Int32)), .val (.int b0), .val (.int b1), .val (.int (0 : Int32)), .val (.int (0 : Int32)), .val (.ref ob31), .val (.ref ob40), .val (.double (own_rt (own_st (own_st FP.dconst0 (0 : Int32) ((0 : Int32) + b0) (1 : Int32)) ((0 : Int32) + b0) (((0 : Int32) + b0) + b1) (2 : Int32)) p2)), .second, .unset, .unset, .unset, .unset, .unset, .unset, .unset, .unset] [(.int (1 : Int32))]))
          exact C0 _ (hb0.resolve_left g)
      by_cases g : ((p0 >>> ((1 : Int32) &&& 31)) &&& (1 : Int32)) = 0
      · refine gIfY X0 hx (hb hby at_34) (pc' := 41) (XT.i0_eq_t g) (by decide) (by decide) ?_
        show Goes p e below _ (s₁.setTop (mkF m 41 #[.val (.int p0), .val (.int p1), .val (.int p2), .val (.int (2 : Int32)), .val (.int b0), .unset, .unset, .unset, .unset, .unset, .unset, .unset, .unset, .unset, .unset, .unset, .unset, .unset, .unset, .unset] []))
        refine gIconst X0 hx (hb hby at_41) (v := (0 : Int32)) rfl ?_
        exact K1 _ (Or.inl rfl)
      · refine gIfN X0 hx (hb hby at_34) (XT.i0_eq_f g) ?_
        show Goes p e below _ (s₁.setTop (mkF m 37 #[.val (.int p0), .val (.int p1), .val (.int p2), .val (.int (2 : Int32)), .val (.int b0), .unset, .unset, .unset, .unset, .unset, .unset, .unset, .unset, .unset, .unset, .unset, .unset, .unset, .unset, .unset] []))
        refine gIconst X0 hx (hb hby at_37) (v := (1 : Int32)) rfl ?_
        refine gGoto X0 hx (hb hby at_38) (pc' := 42) (by decide) (by decide) ?_
        show Goes p e below _ (s₁.setTop (mkF m 42 #[.val (.int p0), .val (.int p1), .val (.int p2), .val (.int (2 : Int32)), .val (.int b0), .unset, .unset, .unset, .unset, .unset, .unset, .unset, .unset, .unset, .unset, .unset, .unset, .unset, .unset, .unset] [(.int (1 : Int32))]))
        exact K1 _ (Or.inr rfl)
    by_cases g : (p0 &&& (1 : Int32)) = 0
    · refine gIfY X0 hx (hb hby at_14) (pc' := 21) (XT.i0_eq_t g) (by decide) (by decide) ?_
      show Goes p e below _ (s₁.setTop (mkF m 21 #[.val (.int p0), .val (.int p1), .val (.int p2), .val (.int (2 : Int32)), .unset, .unset, .unset, .unset, .unset, .unset, .unset, .unset, .unset, .unset, .unset, .unset, .unset, .unset, .unset, .unset] []))
      refine gIconst X0 hx (hb hby at_21) (v := (0 : Int32)) rfl ?_
      exact K0 _ (Or.inl rfl)
    · refine gIfN X0 hx (hb hby at_14) (XT.i0_eq_f g) ?_
      show Goes p e below _ (s₁.setTop (mkF m 17 #[.val (.int p0), .val (.int p1), .val (.int p2), .val (.int (2 : Int32)), .unset, .unset, .unset, .unset, .unset, .unset, .unset, .unset, .unset, .unset, .unset, .unset, .unset, .unset, .unset, .unset] []))
      refine gIconst X0 hx (hb hby at_17) (v := (1 : Int32)) rfl ?_
      refine gGoto X0 hx (hb hby at_18) (pc' := 22) (by decide) (by decide) ?_
      show Goes p e below _ (s₁.setTop (mkF m 22 #[.val (.int p0), .val (.int p1), .val (.int p2), .val (.int (2 : Int32)), .unset, .unset, .unset, .unset, .unset, .unset, .unset, .unset, .unset, .unset, .unset, .unset, .unset, .unset, .unset, .unset] [(.int (1 : Int32))]))
      exact K0 _ (Or.inr rfl)
  · show Goes p e below _ (s₁.setTop (mkF m 8 #[.val (.int p0), .val (.int p1), .val (.int p2), .val (.int (3 : Int32)), .unset, .unset, .unset, .unset, .unset, .unset, .unset, .unset, .unset, .unset, .unset, .unset, .unset, .unset, .unset, .unset] [(.int (3 : Int32))]))
    refine gIfN X0 hx (hb hby at_8) (XT.i0_le_f (by decide)) ?_
    show Goes p e below _ (s₁.setTop (mkF m 11 #[.val (.int p0), .val (.int p1), .val (.int p2), .val (.int (3 : Int32)), .unset, .unset, .unset, .unset, .unset, .unset, .unset, .unset, .unset, .unset, .unset, .unset, .unset, .unset, .unset, .unset] []))
    refine gIloadN X0 hx (hb hby at_11) rfl ?_
    refine gIconst X0 hx (hb hby at_12) (v := (1 : Int32)) rfl ?_
    refine gIand X0 hx (hb hby at_13) ?_
    have K0 : ∀ (b0 : Int32), b0 = 0 ∨ b0 = 1 → Goes p e below (EndN s (fun v h L => v = some (.int 1) ∧ Fr Z.heap.size L) room_1.cells room_1.slots) (s₁.setTop (mkF m 22 #[.val (.int p0), .val (.int p1), .val (.int p2), .val (.int (3 : Int32)), .unset, .unset, .unset, .unset, .unset, .unset, .unset, .unset, .unset, .unset, .unset, .unset, .unset, .unset, .unset, .unset] [(.int b0)])) := by
      intro b0 hb0
      have nb0 := own_nb hb0
      refine gIstore X0 hx (hb hby at_22) (l' := #[.val (.int p0), .val (.int p1), .val (.int p2), .val (.int (3 : Int32)), .val (.int b0), .unset, .unset, .unset, .unset, .unset, .unset, .unset, .unset, .unset, .unset, .unset, .unset, .unset, .unset, .unset]) rfl ?_
      refine gIloadN X0 hx (hb hby at_24) rfl ?_
      refine gIconst X0 hx (hb hby at_25) (v := (1 : Int32)) rfl ?_
      refine gIcmpN X0 hx (hb hby at_26) (XT.ii_le_f (by decide)) ?_
      show Goes p e below _ (s₁.setTop (mkF m 29 #[.val (.int p0), .val (.int p1), .val (.int p2), .val (.int (3 : Int32)), .val (.int b0), .unset, .unset, .unset, .unset, .unset, .unset, .unset, .unset, .unset, .unset, .unset, .unset, .unset, .unset, .unset] []))
      refine gIloadN X0 hx (hb hby at_29) rfl ?_
      refine gIconst X0 hx (hb hby at_30) (v := (1 : Int32)) rfl ?_
      refine gIshr X0 hx (hb hby at_31) ?_
      refine gIconst X0 hx (hb hby at_32) (v := (1 : Int32)) rfl ?_
      refine gIand X0 hx (hb hby at_33) ?_
      have K1 : ∀ (b1 : Int32), b1 = 0 ∨ b1 = 1 → Goes p e below (EndN s (fun v h L => v = some (.int 1) ∧ Fr Z.heap.size L) room_1.cells room_1.slots) (s₁.setTop (mkF m 42 #[.val (.int p0), .val (.int p1), .val (.int p2), .val (.int (3 : Int32)), .val (.int b0), .unset, .unset, .unset, .unset, .unset, .unset, .unset, .unset, .unset, .unset, .unset, .unset, .unset, .unset, .unset] [(.int b1)])) := by
        intro b1 hb1
        have nb1 := own_nb hb1
        refine gIstore X0 hx (hb hby at_42) (l' := #[.val (.int p0), .val (.int p1), .val (.int p2), .val (.int (3 : Int32)), .val (.int b0), .val (.int b1), .unset, .unset, .unset, .unset, .unset, .unset, .unset, .unset, .unset, .unset, .unset, .unset, .unset, .unset]) rfl ?_
        refine gIloadN X0 hx (hb hby at_44) rfl ?_
        show Goes p e below _ (s₁.setTop (mkF m 45 #[.val (.int p0), .val (.int p1), .val (.int p2), .val (.int (3 : Int32)), .val (.int b0), .val (.int b1), .unset, .unset, .unset, .unset, .unset, .unset, .unset, .unset, .unset, .unset, .unset, .unset, .unset, .unset] [(.int (3 : Int32))]))
        refine gIconst X0 hx (hb hby at_45) (v := (2 : Int32)) rfl ?_
        refine gIcmpN X0 hx (hb hby at_46) (XT.ii_le_f (by decide)) ?_
        show Goes p e below _ (s₁.setTop (mkF m 49 #[.val (.int p0), .val (.int p1), .val (.int p2), .val (.int (3 : Int32)), .val (.int b0), .val (.int b1), .unset, .unset, .unset, .unset, .unset, .unset, .unset, .unset, .unset, .unset, .unset, .unset, .unset, .unset] []))
        refine gIloadN X0 hx (hb hby at_49) rfl ?_
        refine gIconst X0 hx (hb hby at_50) (v := (2 : Int32)) rfl ?_
        refine gIshr X0 hx (hb hby at_51) ?_
        refine gIconst X0 hx (hb hby at_52) (v := (1 : Int32)) rfl ?_
        refine gIand X0 hx (hb hby at_53) ?_
        have K2 : ∀ (b2 : Int32), b2 = 0 ∨ b2 = 1 → Goes p e below (EndN s (fun v h L => v = some (.int 1) ∧ Fr Z.heap.size L) room_1.cells room_1.slots) (s₁.setTop (mkF m 62 #[.val (.int p0), .val (.int p1), .val (.int p2), .val (.int (3 : Int32)), .val (.int b0), .val (.int b1), .unset, .unset, .unset, .unset, .unset, .unset, .unset, .unset, .unset, .unset, .unset, .unset, .unset, .unset] [(.int b2)])) := by
          intro b2 hb2
          have nb2 := own_nb hb2
          refine gIstore X0 hx (hb hby at_62) (l' := #[.val (.int p0), .val (.int p1), .val (.int p2), .val (.int (3 : Int32)), .val (.int b0), .val (.int b1), .val (.int b2), .unset, .unset, .unset, .unset, .unset, .unset, .unset, .unset, .unset, .unset, .unset, .unset, .unset]) rfl ?_
          refine gIloadN X0 hx (hb hby at_64) rfl ?_
          show Goes p e below _ (s₁.setTop (mkF m 65 #[.val (.int p0), .val (.int p1), .val (.int p2), .val (.int (3 : Int32)), .val (.int b0), .val (.int b1), .val (.int b2), .unset, .unset, .unset, .unset, .unset, .unset, .unset, .unset, .unset, .unset, .unset, .unset, .unset] [(.int (3 : Int32))]))
          refine gIconst X0 hx (hb hby at_65) (v := (3 : Int32)) rfl ?_
          refine gIcmpY X0 hx (hb hby at_66) (pc' := 81) (XT.ii_le_t (by decide)) (by decide) (by decide) ?_
          show Goes p e below _ (s₁.setTop (mkF m 81 #[.val (.int p0), .val (.int p1), .val (.int p2), .val (.int (3 : Int32)), .val (.int b0), .val (.int b1), .val (.int b2), .unset, .unset, .unset, .unset, .unset, .unset, .unset, .unset, .unset, .unset, .unset, .unset, .unset] []))
          refine gIconst X0 hx (hb hby at_81) (v := (0 : Int32)) rfl ?_
          refine gIstore X0 hx (hb hby at_82) (l' := #[.val (.int p0), .val (.int p1), .val (.int p2), .val (.int (3 : Int32)), .val (.int b0), .val (.int b1), .val (.int b2), .val (.int (0 : Int32)), .unset, .unset, .unset, .unset, .unset, .unset, .unset, .unset, .unset, .unset, .unset, .unset]) rfl ?_
          refine gIloadN X0 hx (hb hby at_84) rfl ?_
          obtain ⟨Tt49, ht49, kt49, Xt49, et49, Et49, At49, stt49⟩ := newP X0 hx hZ (hw _ (List.mem_of_getElem? (i := 0) rfl)) e0 (g := (mkF m 85 #[.val (.int p0), .val (.int p1), .val (.int p2), .val (.int (3 : Int32)), .val (.int b0), .val (.int b1), .val (.int b2), .val (.int (0 : Int32)), .unset, .unset, .unset, .unset, .unset, .unset, .unset, .unset, .unset, .unset, .unset, .unset] [(.int (3 : Int32))])) rfl (hb hby at_85) rfl (by decide) (cap := 3) (by decide) (by decide) (by decide) (by decide)
          obtain ⟨ob50, gob50⟩ : ∃ z, z = h0.size := ⟨_, rfl⟩
          rw [← gob50] at At49 stt49
          refine go stt49 ?_
          have fr_ob50 : Z.heap.size ≤ ob50 := gob50 ▸ O0.1
          have O51 : Ext Z.heap ht49 := extT O0 Et49
          have Y_ob50 : Ary Z ht49 ob50 .boolean [(.int (0 : Int32)), (.int (0 : Int32)), (.int (0 : Int32))] := Ary.new At49 rfl (by decide)
          show Goes p e below _ (Tt49.setTop (mkF m 87 #[.val (.int p0), .val (.int p1), .val (.int p2), .val (.int (3 : Int32)), .val (.int b0), .val (.int b1), .val (.int b2), .val (.int (0 : Int32)), .unset, .unset, .unset, .unset, .unset, .unset, .unset, .unset, .unset, .unset, .unset, .unset] [(.ref ob50)]))
          refine gAstore Xt49 hx (hb hby at_87) rfl (l' := #[.val (.int p0), .val (.int p1), .val (.int p2), .val (.int (3 : Int32)), .val (.int b0), .val (.int b1), .val (.int b2), .val (.int (0 : Int32)), .val (.ref ob50), .unset, .unset, .unset, .unset, .unset, .unset, .unset, .unset, .unset, .unset, .unset]) rfl ?_
          refine gIloadN Xt49 hx (hb hby at_89) rfl ?_
          refine gIfN Xt49 hx (hb hby at_90) (XT.i0_le_f (by decide)) ?_
          show Goes p e below _ (Tt49.setTop (mkF m 93 #[.val (.int p0), .val (.int p1), .val (.int p2), .val (.int (3 : Int32)), .val (.int b0), .val (.int b1), .val (.int b2), .val (.int (0 : Int32)), .val (.ref ob50), .unset, .unset, .unset, .unset, .unset, .unset, .unset, .unset, .unset, .unset, .unset] []))
          refine gAload Xt49 hx (hb hby at_93) rfl rfl ?_
          refine gIconst Xt49 hx (hb hby at_95) (v := (0 : Int32)) rfl ?_
          refine gIload Xt49 hx (hb hby at_96) rfl ?_
          refine goZastore Xt49 hx hZ et49 Y_ob50 (hb hby at_98) (by decide) rfl (fun Tt52 ht52 Xt52 et52 Wt52 => ?_)
          have N53 := Fr.snoc Xt52 N0 fr_ob50
          replace Y_ob50 : Ary Z ht52 ob50 .boolean [(.int b0), (.int (0 : Int32)), (.int (0 : Int32))] := Y_ob50.set Wt52 (by rw [nb0]; rfl)
          have O54 : Ext Z.heap ht52 := extW O51 Wt52 fr_ob50
          show Goes p e below _ (Tt52.setTop (mkF m 99 #[.val (.int p0), .val (.int p1), .val (.int p2), .val (.int (3 : Int32)), .val (.int b0), .val (.int b1), .val (.int b2), .val (.int (0 : Int32)), .val (.ref ob50), .unset, .unset, .unset, .unset, .unset, .unset, .unset, .unset, .unset, .unset, .unset] []))
          refine gIloadN Xt52 hx (hb hby at_99) rfl ?_
          refine gIconst Xt52 hx (hb hby at_100) (v := (1 : Int32)) rfl ?_
          refine gIcmpN Xt52 hx (hb hby at_101) (XT.ii_le_f (by decide)) ?_
          show Goes p e below _ (Tt52.setTop (mkF m 104 #[.val (.int p0), .val (.int p1), .val (.int p2), .val (.int (3 : Int32)), .val (.int b0), .val (.int b1), .val (.int b2), .val (.int (0 : Int32)), .val (.ref ob50), .unset, .unset, .unset, .unset, .unset, .unset, .unset, .unset, .unset, .unset, .unset] []))
          refine gAload Xt52 hx (hb hby at_104) rfl rfl ?_
          refine gIconst Xt52 hx (hb hby at_106) (v := (1 : Int32)) rfl ?_
          refine gIload Xt52 hx (hb hby at_107) rfl ?_
          refine goZastore Xt52 hx hZ et52 Y_ob50 (hb hby at_109) (by decide) rfl (fun Tt55 ht55 Xt55 et55 Wt55 => ?_)
          have N56 := Fr.snoc Xt55 N53 fr_ob50
          replace Y_ob50 : Ary Z ht55 ob50 .boolean [(.int b0), (.int b1), (.int (0 : Int32))] := Y_ob50.set Wt55 (by rw [nb1]; rfl)
          have O57 : Ext Z.heap ht55 := extW O54 Wt55 fr_ob50
          show Goes p e below _ (Tt55.setTop (mkF m 110 #[.val (.int p0), .val (.int p1), .val (.int p2), .val (.int (3 : Int32)), .val (.int b0), .val (.int b1), .val (.int b2), .val (.int (0 : Int32)), .val (.ref ob50), .unset, .unset, .unset, .unset, .unset, .unset, .unset, .unset, .unset, .unset, .unset] []))
          refine gIloadN Xt55 hx (hb hby at_110) rfl ?_
          refine gIconst Xt55 hx (hb hby at_111) (v := (2 : Int32)) rfl ?_
          refine gIcmpN Xt55 hx (hb hby at_112) (XT.ii_le_f (by decide)) ?_
          show Goes p e below _ (Tt55.setTop (mkF m 115 #[.val (.int p0), .val (.int p1), .val (.int p2), .val (.int (3 : Int32)), .val (.int b0), .val (.int b1), .val (.int b2), .val (.int (0 : Int32)), .val (.ref ob50), .unset, .unset, .unset, .unset, .unset, .unset, .unset, .unset, .unset, .unset, .unset] []))
          refine gAload Xt55 hx (hb hby at_115) rfl rfl ?_
          refine gIconst Xt55 hx (hb hby at_117) (v := (2 : Int32)) rfl ?_
          refine gIload Xt55 hx (hb hby at_118) rfl ?_
          refine goZastore Xt55 hx hZ et55 Y_ob50 (hb hby at_120) (by decide) rfl (fun Tt58 ht58 Xt58 et58 Wt58 => ?_)
          have N59 := Fr.snoc Xt58 N56 fr_ob50
          replace Y_ob50 : Ary Z ht58 ob50 .boolean [(.int b0), (.int b1), (.int b2)] := Y_ob50.set Wt58 (by rw [nb2]; rfl)
          have O60 : Ext Z.heap ht58 := extW O57 Wt58 fr_ob50
          show Goes p e below _ (Tt58.setTop (mkF m 121 #[.val (.int p0), .val (.int p1), .val (.int p2), .val (.int (3 : Int32)), .val (.int b0), .val (.int b1), .val (.int b2), .val (.int (0 : Int32)), .val (.ref ob50), .unset, .unset, .unset, .unset, .unset, .unset, .unset, .unset, .unset, .unset, .unset] []))
          refine gIloadN Xt58 hx (hb hby at_121) rfl ?_
          refine gIconst Xt58 hx (hb hby at_122) (v := (3 : Int32)) rfl ?_
          refine gIcmpY Xt58 hx (hb hby at_123) (pc' := 132) (XT.ii_le_t (by decide)) (by decide) (by decide) ?_
          show Goes p e below _ (Tt58.setTop (mkF m 132 #[.val (.int p0), .val (.int p1), .val (.int p2), .val (.int (3 : Int32)), .val (.int b0), .val (.int b1), .val (.int b2), .val (.int (0 : Int32)), .val (.ref ob50), .unset, .unset, .unset, .unset, .unset, .unset, .unset, .unset, .unset, .unset, .unset] []))
          obtain ⟨Tt61, ht61, Xt61, et61, Et61, At61, Dt61, -, stt61⟩ := newO Xt58 hx hZ hown (hw _ (List.mem_of_getElem? (i := 1) rfl)) (hw _ (List.mem_of_getElem? (i := 2) rfl)) (hw _ (List.mem_of_getElem? (i := 3) rfl)) et58 (g := (mkF m 132 #[.val (.int p0), .val (.int p1), .val (.int p2), .val (.int (3 : Int32)), .val (.int b0), .val (.int b1), .val (.int b2), .val (.int (0 : Int32)), .val (.ref ob50), .unset, .unset, .unset, .unset, .unset, .unset, .unset, .unset, .unset, .unset, .unset] [])) rfl (hb hby at_132) (by decide) (by decide)
          obtain ⟨ob62, gob62⟩ : ∃ z, z = ht58.size := ⟨_, rfl⟩
          rw [← gob62] at At61 Dt61 stt61
          refine go stt61 ?_
          have ne_ob50_ob62 : ob50 ≠ ob62 := Nat.ne_of_lt (gob62 ▸ Y_ob50.lt)
          have fr_ob62 : Z.heap.size ≤ ob62 := gob62 ▸ O60.1
          replace Y_ob50 := Y_ob50.ext Et61
          have O63 : Ext Z.heap ht61 := extT O60 Et61
          have F_relevantWithin_ob62 : Fld Z ht61 ob62 "com/example/almaden/almaden/eval/JudgedRanking" "relevantWithin" "[I" .null := Dt61 (Or.inr (hw _ (List.mem_of_getElem? (i := 12) rfl))) (ty := (.array .int)) (by decide)
          have F_relevant_ob62 : Fld Z ht61 ob62 "com/example/almaden/almaden/eval/JudgedRanking" "relevant" "I" (.int (0 : Int32)) := Dt61 (Or.inr (hw _ (List.mem_of_getElem? (i := 14) rfl))) (ty := .int) (by decide)
          show Goes p e below _ (Tt61.setTop (mkF m 135 #[.val (.int p0), .val (.int p1), .val (.int p2), .val (.int (3 : Int32)), .val (.int b0), .val (.int b1), .val (.int b2), .val (.int (0 : Int32)), .val (.ref ob50), .unset, .unset, .unset, .unset, .unset, .unset, .unset, .unset, .unset, .unset, .unset] [(.ref ob62)]))
          refine gDup Xt61 hx (hb hby at_135) rfl ?_
          refine gAload Xt61 hx (hb hby at_136) rfl rfl ?_
          refine gIloadN Xt61 hx (hb hby at_138) rfl ?_
          have lt_ob50_t64 := Y_ob50.lt
          have lt_ob62_t64 := At61.lt
          refine goCallI Xt61 hx hZ rfl hown (hw _ (List.mem_of_getElem? (i := 4) rfl)) (hw _ (List.mem_of_getElem? (i := 5) rfl)) (hw _ (List.mem_of_getElem? (i := 3) rfl)) (hw _ (List.mem_of_getElem? (i := 6) rfl)) (by decide) (rmI3 l Z a0 hw b0 b1 b2 ob62 ob50 p2 ht61 O63 At61 F_relevantWithin_ob62 F_relevant_ob62 Y_ob50 (Ne.symm ne_ob50_ob62) fr_ob62 hb0 hb1 hb2) 1 (by decide) (by decide) et61 (hsz rfl) ob62 [(.ref ob50), (.int p2)] [(.ref ob62)] pd_2 rfl rfl rfl (Nat.le_of_eq rfl) (hb hby at_139) (by decide) (by decide) (fun Tt64 vt64 Lt64 Xt64 qt64 => ?_)
          obtain ⟨ht64, et64⟩ : ∃ z, Tt64.heap = z := ⟨_, rfl⟩
          rw [et64] at qt64
          obtain ⟨rfl, N65, Kct64, u, pu, G1, G2, Yu⟩ := qt64
          have N66 := Fr.app N59 N65
          replace Y_ob50 := Y_ob50.keep Kct64 (ninS ne_ob50_ob62 nin0)
          replace At61 := At61.keep Kct64
          have O67 : Ext Z.heap ht64 := extK O63 Kct64 (allS fr_ob62 all0)
          have ne_ob50_u : ob50 ≠ u := Nat.ne_of_lt (Nat.lt_of_lt_of_le lt_ob50_t64 pu)
          have ne_ob62_u : ob62 ≠ u := Nat.ne_of_lt (Nat.lt_of_lt_of_le lt_ob62_t64 pu)
          have fr_u : Z.heap.size ≤ u := Nat.le_trans O63.1 pu
          show Goes p e below _ (Tt64.setTop (mkF m 142 #[.val (.int p0), .val (.int p1), .val (.int p2), .val (.int (3 : Int32)), .val (.int b0), .val (.int b1), .val (.int b2), .val (.int (0 : Int32)), .val (.ref ob50), .unset, .unset, .unset, .unset, .unset, .unset, .unset, .unset, .unset, .unset, .unset] [(.ref ob62)]))
          refine gAstore Xt64 hx (hb hby at_142) rfl (l' := #[.val (.int p0), .val (.int p1), .val (.int p2), .val (.int (3 : Int32)), .val (.int b0), .val (.int b1), .val (.int b2), .val (.int (0 : Int32)), .val (.ref ob50), .val (.ref ob62), .unset, .unset, .unset, .unset, .unset, .unset, .unset, .unset, .unset, .unset]) rfl ?_
          refine gAload Xt64 hx (hb hby at_144) rfl rfl ?_
          refine goCallV Xt64 hx hZ hown (hw _ (List.mem_of_getElem? (i := 15) rfl)) (hw _ (List.mem_of_getElem? (i := 16) rfl)) (hw _ (List.mem_of_getElem? (i := 18) rfl)) (hw _ (List.mem_of_getElem? (i := 17) rfl)) (hw _ (List.mem_of_getElem? (i := 3) rfl)) (hw _ (List.mem_of_getElem? (i := 19) rfl)) (by decide) (rmA3 l Z a0 hw u p2 b0 b1 b2 ob62 ht64 O67 At61 G1 G2 Yu hb0 hb1 hb2) 0 (by decide) (by decide) et64 At61 (hsz rfl) [] [] pd_3 rfl rfl rfl (Nat.le_of_eq rfl) (hb hby at_146) (by decide) (by decide) (fun Tt68 vt68 Lt68 Xt68 qt68 => ?_)
          obtain ⟨rfl, N69, et68⟩ := qt68
          have N70 := Fr.app N66 N69
          show Goes p e below _ (Tt68.setTop (mkF m 149 #[.val (.int p0), .val (.int p1), .val (.int p2), .val (.int (3 : Int32)), .val (.int b0), .val (.int b1), .val (.int b2), .val (.int (0 : Int32)), .val (.ref ob50), .val (.ref ob62), .unset, .unset, .unset, .unset, .unset, .unset, .unset, .unset, .unset, .unset] [(.double (own_rt (own_st (own_st (own_st FP.dconst0 (0 : Int32) ((0 : Int32) + b0) (1 : Int32)) ((0 : Int32) + b0) (((0 : Int32) + b0) + b1) (2 : Int32)) (((0 : Int32) + b0) + b1) ((((0 : Int32) + b0) + b1) + b2) (3 : Int32)) p2))]))
          refine gDstore Xt68 hx (hb hby at_149) (l' := #[.val (.int p0), .val (.int p1), .val (.int p2), .val (.int (3 : Int32)), .val (.int b0), .val (.int b1), .val (.int b2), .val (.int (0 : Int32)), .val (.ref ob50), .val (.ref ob62), .val (.double (own_rt (own_st (own_st (own_st FP.dconst0 (0 : Int32) ((0 : Int32) + b0) (1 : Int32)) ((0 : Int32) + b0) (((0 : Int32) + b0) + b1) (2 : Int32)) (((0 : Int32) + b0) + b1) ((((0 : Int32) + b0) + b1) + b2) (3 : Int32)) p2)), .second, .unset, .unset, .unset, .unset, .unset, .unset, .unset, .unset]) rfl ?_
          refine gIload Xt68 hx (hb hby at_151) rfl ?_
          have C0 : ∀ (z0_ : Int32), b0 = z0_ → Goes p e below (EndN s (fun v h L => v = some (.int 1) ∧ Fr Z.heap.size L) room_1.cells room_1.slots) (Tt68.setTop (mkF m 161 #[.val (.int p0), .val (.int p1), .val (.int p2), .val (.int (3 : Int32)), .val (.int b0), .val (.int b1), .val (.int b2), .val (.int (0 : Int32)), .val (.ref ob50), .val (.ref ob62), .val (.double (own_rt (own_st (own_st (own_st FP.dconst0 (0 : Int32) ((0 : Int32) + b0) (1 : Int32)) ((0 : Int32) + b0) (((0 : Int32) + b0) + b1) (2 : Int32)) (((0 : Int32) + b0) + b1) ((((0 : Int32) + b0) + b1) + b2) (3 : Int32)) p2)), .second, .unset, .unset, .unset, .unset, .unset, .unset, .unset, .unset] [(.int z0_)])) := by
            intro z0_ hz
            subst hz
            show Goes p e below _ (Tt68.setTop (mkF m 161 #[.val (.int p0), .val (.int p1), .val (.int p2), .val (.int (3 : Int32)), .val (.int b0), .val (.int b1), .val (.int b2), .val (.int (0 : Int32)), .val (.ref ob50), .val (.ref ob62), .val (.double (own_rt (own_st (own_st (own_st FP.dconst0 (0 : Int32) ((0 : Int32) + b0) (1 : Int32)) ((0 : Int32) + b0) (((0 : Int32) + b0) + b1) (2 : Int32)) (((0 : Int32) + b0) + b1) ((((0 : Int32) + b0) + b1) + b2) (3 : Int32)) p2)), .second, .unset, .unset, .unset, .unset, .unset, .unset, .unset, .unset] [(.int b0)]))
            refine gIstore Xt68 hx (hb hby at_161) (l' := #[.val (.int p0), .val (.int p1), .val (.int p2), .val (.int (3 : Int32)), .val (.int b0), .val (.int b1), .val (.int b2), .val (.int (0 : Int32)), .val (.ref ob50), .val (.ref ob62), .val (.double (own_rt (own_st (own_st (own_st FP.dconst0 (0 : Int32) ((0 : Int32) + b0) (1 : Int32)) ((0 : Int32) + b0) (((0 : Int32) + b0) + b1) (2 : Int32)) (((0 : Int32) + b0) + b1) ((((0 : Int32) + b0) + b1) + b2) (3 : Int32)) p2)), .second, .val (.int b0), .unset, .unset, .unset, .unset, .unset, .unset, .unset]) rfl ?_
            refine gIload Xt68 hx (hb hby at_163) rfl ?_
            refine gIload Xt68 hx (hb hby at_165) rfl ?_
            have C1 : ∀ (z1_ : Int32), b1 = z1_ → Goes p e below (EndN s (fun v h L => v = some (.int 1) ∧ Fr Z.heap.size L) room_1.cells room_1.slots) (Tt68.setTop (mkF m 175 #[.val (.int p0), .val (.int p1), .val (.int p2), .val (.int (3 : Int32)), .val (.int b0), .val (.int b1), .val (.int b2), .val (.int (0 : Int32)), .val (.ref ob50), .val (.ref ob62), .val (.double (own_rt (own_st (own_st (own_st FP.dconst0 (0 : Int32) ((0 : Int32) + b0) (1 : Int32)) ((0 : Int32) + b0) (((0 : Int32) + b0) + b1) (2 : Int32)) (((0 : Int32) + b0) + b1) ((((0 : Int32) + b0) + b1) + b2) (3 : Int32)) p2)), .second, .val (.int b0), .unset, .unset, .unset, .unset, .unset, .unset, .unset] [(.int z1_), (.int b0)])) := by
              intro z1_ hz
              subst hz
              show Goes p e below _ (Tt68.setTop (mkF m 175 #[.val (.int p0), .val (.int p1), .val (.int p2), .val (.int (3 : Int32)), .val (.int b0), .val (.int b1), .val (.int b2), .val (.int (0 : Int32)), .val (.ref ob50), .val (.ref ob62), .val (.double (own_rt (own_st (own_st (own_st FP.dconst0 (0 : Int32) ((0 : Int32) + b0) (1 : Int32)) ((0 : Int32) + b0) (((0 : Int32) + b0) + b1) (2 : Int32)) (((0 : Int32) + b0) + b1) ((((0 : Int32) + b0) + b1) + b2) (3 : Int32)) p2)), .second, .val (.int b0), .unset, .unset, .unset, .unset, .unset, .unset, .unset] [(.int b1), (.int b0)]))
              refine gIadd Xt68 hx (hb hby at_175) ?_
              refine gIstore Xt68 hx (hb hby at_176) (l' := #[.val (.int p0), .val (.int p1), .val (.int p2), .val (.int (3 : Int32)), .val (.int b0), .val (.int b1), .val (.int b2), .val (.int (0 : Int32)), .val (.ref ob50), .val (.ref ob62), .val (.double (own_rt (own_st (own_st (own_st FP.dconst0 (0 : Int32) ((0 : Int32) + b0) (1 : Int32)) ((0 : Int32) + b0) (((0 : Int32) + b0) + b1) (2 : Int32)) (((0 : Int32) + b0) + b1) ((((0 : Int32) + b0) + b1) + b2) (3 : Int32)) p2)), .second, .val (.int b0), .val (.int (b0 + b1)), .unset, .unset, .unset, .unset, .unset, .unset]) rfl ?_
              refine gIload Xt68 hx (hb hby at_178) rfl ?_
              refine gIload Xt68 hx (hb hby at_180) rfl ?_
              have C2 : ∀ (z2_ : Int32), b2 = z2_ → Goes p e below (EndN s (fun v h L => v = some (.int 1) ∧ Fr Z.heap.size L) room_1.cells room_1.slots) (Tt68.setTop (mkF m 190 #[.val (.int p0), .val (.int p1), .val (.int p2), .val (.int (3 : Int32)), .val (.int b0), .val (.int b1), .val (.int b2), .val (.int (0 : Int32)), .val (.ref ob50), .val (.ref ob62), .val (.double (own_rt (own_st (own_st (own_st FP.dconst0 (0 : Int32) ((0 : Int32) + b0) (1 : Int32)) ((0 : Int32) + b0) (((0 : Int32) + b0) + b1) (2 : Int32)) (((0 : Int32) + b0) + b1) ((((0 : Int32) + b0) + b1) + b2) (3 : Int32)) p2)), .second, .val (.int b0), .val (.int (b0 + b1)), .unset, .unset, .unset, .unset, .unset, .unset] [(.int z2_), (.int (b0 + b1))])) := by
                intro z2_ hz
                subst hz
                show Goes p e below _ (Tt68.setTop (mkF m 190 #[.val (.int p0), .val (.int p1), .val (.int p2), .val (.int (3 : Int32)), .val (.int b0), .val (.int b1), .val (.int b2), .val (.int (0 : Int32)), .val (.ref ob50), .val (.ref ob62), .val (.double (own_rt (own_st (own_st (own_st FP.dconst0 (0 : Int32) ((0 : Int32) + b0) (1 : Int32)) ((0 : Int32) + b0) (((0 : Int32) + b0) + b1) (2 : Int32)) (((0 : Int32) + b0) + b1) ((((0 : Int32) + b0) + b1) + b2) (3 : Int32)) p2)), .second, .val (.int b0), .val (.int (b0 + b1)), .unset, .unset, .unset, .unset, .unset, .unset] [(.int b2), (.int (b0 + b1))]))
                refine gIadd Xt68 hx (hb hby at_190) ?_
                refine gIstore Xt68 hx (hb hby at_191) (l' := #[.val (.int p0), .val (.int p1), .val (.int p2), .val (.int (3 : Int32)), .val (.int b0), .val (.int b1), .val (.int b2), .val (.int (0 : Int32)), .val (.ref ob50), .val (.ref ob62), .val (.double (own_rt (own_st (own_st (own_st FP.dconst0 (0 : Int32) ((0 : Int32) + b0) (1 : Int32)) ((0 : Int32) + b0) (((0 : Int32) + b0) + b1) (2 : Int32)) (((0 : Int32) + b0) + b1) ((((0 : Int32) + b0) + b1) + b2) (3 : Int32)) p2)), .second, .val (.int b0), .val (.int (b0 + b1)), .val (.int ((b0 + b1) + b2)), .unset, .unset, .unset, .unset, .unset]) rfl ?_
                refine gIload Xt68 hx (hb hby at_193) rfl ?_
                refine gIload Xt68 hx (hb hby at_195) rfl ?_
                refine gIfY Xt68 hx (hb hby at_197) (pc' := 204) (XT.i0_eq_t (by decide)) (by decide) (by decide) ?_
                show Goes p e below _ (Tt68.setTop (mkF m 204 #[.val (.int p0), .val (.int p1), .val (.int p2), .val (.int (3 : Int32)), .val (.int b0), .val (.int b1), .val (.int b2), .val (.int (0 : Int32)), .val (.ref ob50), .val (.ref ob62), .val (.double (own_rt (own_st (own_st (own_st FP.dconst0 (0 : Int32) ((0 : Int32) + b0) (1 : Int32)) ((0 : Int32) + b0) (((0 : Int32) + b0) + b1) (2 : Int32)) (((0 : Int32) + b0) + b1) ((((0 : Int32) + b0) + b1) + b2) (3 : Int32)) p2)), .second, .val (.int b0), .val (.int (b0 + b1)), .val (.int ((b0 + b1) + b2)), .unset, .unset, .unset, .unset, .unset] [(.int ((b0 + b1) + b2))]))
                refine gIconst Xt68 hx (hb hby at_204) (v := (0 : Int32)) rfl ?_
                refine gIadd Xt68 hx (hb hby at_205) ?_
                refine gIstore Xt68 hx (hb hby at_206) (l' := #[.val (.int p0), .val (.int p1), .val (.int p2), .val (.int (3 : Int32)), .val (.int b0), .val (.int b1), .val (.int b2), .val (.int (0 : Int32)), .val (.ref ob50), .val (.ref ob62), .val (.double (own_rt (own_st (own_st (own_st FP.dconst0 (0 : Int32) ((0 : Int32) + b0) (1 : Int32)) ((0 : Int32) + b0) (((0 : Int32) + b0) + b1) (2 : Int32)) (((0 : Int32) + b0) + b1) ((((0 : Int32) + b0) + b1) + b2) (3 : Int32)) p2)), .second, .val (.int b0), .val (.int (b0 + b1)), .val (.int ((b0 + b1) + b2)), .val (.int (((b0 + b1) + b2) + (0 : Int32))), .unset, .unset, .unset, .unset]) rfl ?_
                refine gDconst0 Xt68 hx (hb hby at_208) ?_
                refine gDstore Xt68 hx (hb hby at_209) (l' := #[.val (.int p0), .val (.int p1), .val (.int p2), .val (.int (3 : Int32)), .val (.int b0), .val (.int b1), .val (.int b2), .val (.int (0 : Int32)), .val (.ref ob50), .val (.ref ob62), .val (.double (own_rt (own_st (own_st (own_st FP.dconst0 (0 : Int32) ((0 : Int32) + b0) (1 : Int32)) ((0 : Int32) + b0) (((0 : Int32) + b0) + b1) (2 : Int32)) (((0 : Int32) + b0) + b1) ((((0 : Int32) + b0) + b1) + b2) (3 : Int32)) p2)), .second, .val (.int b0), .val (.int (b0 + b1)), .val (.int ((b0 + b1) + b2)), .val (.int (((b0 + b1) + b2) + (0 : Int32))), .val (.double FP.dconst0), .second, .unset, .unset]) rfl ?_
                refine gIload Xt68 hx (hb hby at_211) rfl ?_
                have M0 : ∀ (s0_ : UInt64), s0_ = (own_ls FP.dconst0 b0 b0 FP.dconst1) → Goes p e below (EndN s (fun v h L => v = some (.int 1) ∧ Fr Z.heap.size L) room_1.cells room_1.slots) (Tt68.setTop (mkF m 226 #[.val (.int p0), .val (.int p1), .val (.int p2), .val (.int (3 : Int32)), .val (.int b0), .val (.int b1), .val (.int b2), .val (.int (0 : Int32)), .val (.ref ob50), .val (.ref ob62), .val (.double (own_rt (own_st (own_st (own_st FP.dconst0 (0 : Int32) ((0 : Int32) + b0) (1 : Int32)) ((0 : Int32) + b0) (((0 : Int32) + b0) + b1) (2 : Int32)) (((0 : Int32) + b0) + b1) ((((0 : Int32) + b0) + b1) + b2) (3 : Int32)) p2)), .second, .val (.int b0), .val (.int (b0 + b1)), .val (.int ((b0 + b1) + b2)), .val (.int (((b0 + b1) + b2) + (0 : Int32))), .val (.double s0_), .second, .unset, .unset] [])) := by
                  intro s0_ hz
                  subst hz
                  show Goes p e below _ (Tt68.setTop (mkF m 226 #[.val (.int p0), .val (.int p1), .val (.int p2), .val (.int (3 : Int32)), .val (.int b0), .val (.int b1), .val (.int b2), .val (.int (0 : Int32)), .val (.ref ob50), .val (.ref ob62), .val (.double (own_rt (own_st (own_st (own_st FP.dconst0 (0 : Int32) ((0 : Int32) + b0) (1 : Int32)) ((0 : Int32) + b0) (((0 : Int32) + b0) + b1) (2 : Int32)) (((0 : Int32) + b0) + b1) ((((0 : Int32) + b0) + b1) + b2) (3 : Int32)) p2)), .second, .val (.int b0), .val (.int (b0 + b1)), .val (.int ((b0 + b1) + b2)), .val (.int (((b0 + b1) + b2) + (0 : Int32))), .val (.double (own_ls FP.dconst0 b0 b0 FP.dconst1)), .second, .unset, .unset] []))
                  refine gIload Xt68 hx (hb hby at_226) rfl ?_
                  have M1 : ∀ (s1_ : UInt64), s1_ = (own_ls (own_ls FP.dconst0 b0 b0 FP.dconst1) b1 (b0 + b1) (4611686018427387904 : UInt64)) → Goes p e below (EndN s (fun v h L => v = some (.int 1) ∧ Fr Z.heap.size L) room_1.cells room_1.slots) (Tt68.setTop (mkF m 243 #[.val (.int p0), .val (.int p1), .val (.int p2), .val (.int (3 : Int32)), .val (.int b0), .val (.int b1), .val (.int b2), .val (.int (0 : Int32)), .val (.ref ob50), .val (.ref ob62), .val (.double (own_rt (own_st (own_st (own_st FP.dconst0 (0 : Int32) ((0 : Int32) + b0) (1 : Int32)) ((0 : Int32) + b0) (((0 : Int32) + b0) + b1) (2 : Int32)) (((0 : Int32) + b0) + b1) ((((0 : Int32) + b0) + b1) + b2) (3 : Int32)) p2)), .second, .val (.int b0), .val (.int (b0 + b1)), .val (.int ((b0 + b1) + b2)), .val (.int (((b0 + b1) + b2) + (0 : Int32))), .val (.double s1_), .second, .unset, .unset] [])) := by
                    intro s1_ hz
                    subst hz
                    show Goes p e below _ (Tt68.setTop (mkF m 243 #[.val (.int p0), .val (.int p1), .val (.int p2), .val (.int (3 : Int32)), .val (.int b0), .val (.int b1), .val (.int b2), .val (.int (0 : Int32)), .val (.ref ob50), .val (.ref ob62), .val (.double (own_rt (own_st (own_st (own_st FP.dconst0 (0 : Int32) ((0 : Int32) + b0) (1 : Int32)) ((0 : Int32) + b0) (((0 : Int32) + b0) + b1) (2 : Int32)) (((0 : Int32) + b0) + b1) ((((0 : Int32) + b0) + b1) + b2) (3 : Int32)) p2)), .second, .val (.int b0), .val (.int (b0 + b1)), .val (.int ((b0 + b1) + b2)), .val (.int (((b0 + b1) + b2) + (0 : Int32))), .val (.double (own_ls (own_ls FP.dconst0 b0 b0 FP.dconst1) b1 (b0 + b1) (4611686018427387904 : UInt64))), .second, .unset, .unset] []))
                    refine gIload Xt68 hx (hb hby at_243) rfl ?_
                    have M2 : ∀ (s2_ : UInt64), s2_ = (own_ls (own_ls (own_ls FP.dconst0 b0 b0 FP.dconst1) b1 (b0 + b1) (4611686018427387904 : UInt64)) b2 ((b0 + b1) + b2) (4613937818241073152 : UInt64)) → Goes p e below (EndN s (fun v h L => v = some (.int 1) ∧ Fr Z.heap.size L) room_1.cells room_1.slots) (Tt68.setTop (mkF m 260 #[.val (.int p0), .val (.int p1), .val (.int p2), .val (.int (3 : Int32)), .val (.int b0), .val (.int b1), .val (.int b2), .val (.int (0 : Int32)), .val (.ref ob50), .val (.ref ob62), .val (.double (own_rt (own_st (own_st (own_st FP.dconst0 (0 : Int32) ((0 : Int32) + b0) (1 : Int32)) ((0 : Int32) + b0) (((0 : Int32) + b0) + b1) (2 : Int32)) (((0 : Int32) + b0) + b1) ((((0 : Int32) + b0) + b1) + b2) (3 : Int32)) p2)), .second, .val (.int b0), .val (.int (b0 + b1)), .val (.int ((b0 + b1) + b2)), .val (.int (((b0 + b1) + b2) + (0 : Int32))), .val (.double s2_), .second, .unset, .unset] [])) := by
                      intro s2_ hz
                      subst hz
                      show Goes p e below _ (Tt68.setTop (mkF m 260 #[.val (.int p0), .val (.int p1), .val (.int p2), .val (.int (3 : Int32)), .val (.int b0), .val (.int b1), .val (.int b2), .val (.int (0 : Int32)), .val (.ref ob50), .val (.ref ob62), .val (.double (own_rt (own_st (own_st (own_st FP.dconst0 (0 : Int32) ((0 : Int32) + b0) (1 : Int32)) ((0 : Int32) + b0) (((0 : Int32) + b0) + b1) (2 : Int32)) (((0 : Int32) + b0) + b1) ((((0 : Int32) + b0) + b1) + b2) (3 : Int32)) p2)), .second, .val (.int b0), .val (.int (b0 + b1)), .val (.int ((b0 + b1) + b2)), .val (.int (((b0 + b1) + b2) + (0 : Int32))), .val (.double (own_ls (own_ls (own_ls FP.dconst0 b0 b0 FP.dconst1) b1 (b0 + b1) (4611686018427387904 : UInt64)) b2 ((b0 + b1) + b2) (4613937818241073152 : UInt64))), .second, .unset, .unset] []))
                      refine gIload Xt68 hx (hb hby at_260) rfl ?_
                      refine gIfY Xt68 hx (hb hby at_262) (pc' := 277) (XT.i0_eq_t (by decide)) (by decide) (by decide) ?_
                      show Goes p e below _ (Tt68.setTop (mkF m 277 #[.val (.int p0), .val (.int p1), .val (.int p2), .val (.int (3 : Int32)), .val (.int b0), .val (.int b1), .val (.int b2), .val (.int (0 : Int32)), .val (.ref ob50), .val (.ref ob62), .val (.double (own_rt (own_st (own_st (own_st FP.dconst0 (0 : Int32) ((0 : Int32) + b0) (1 : Int32)) ((0 : Int32) + b0) (((0 : Int32) + b0) + b1) (2 : Int32)) (((0 : Int32) + b0) + b1) ((((0 : Int32) + b0) + b1) + b2) (3 : Int32)) p2)), .second, .val (.int b0), .val (.int (b0 + b1)), .val (.int ((b0 + b1) + b2)), .val (.int (((b0 + b1) + b2) + (0 : Int32))), .val (.double (own_ls (own_ls (own_ls FP.dconst0 b0 b0 FP.dconst1) b1 (b0 + b1) (4611686018427387904 : UInt64)) b2 ((b0 + b1) + b2) (4613937818241073152 : UInt64))), .second, .unset, .unset] []))
                      refine gIloadN Xt68 hx (hb hby at_277) rfl ?_
                      have same := own_same3 b0 b1 b2 hb0 hb1 hb2
                      have ns := own_ns3 b0 b1 b2 hb0 hb1 hb2
                      by_cases g : 0 < p2
                      · refine gIfN Xt68 hx (hb hby at_278) (XT.i0_le_f g) ?_
                        show Goes p e below _ (Tt68.setTop (mkF m 281 #[.val (.int p0), .val (.int p1), .val (.int p2), .val (.int (3 : Int32)), .val (.int b0), .val (.int b1), .val (.int b2), .val (.int (0 : Int32)), .val (.ref ob50), .val (.ref ob62), .val (.double (own_rt (own_st (own_st (own_st FP.dconst0 (0 : Int32) ((0 : Int32) + b0) (1 : Int32)) ((0 : Int32) + b0) (((0 : Int32) + b0) + b1) (2 : Int32)) (((0 : Int32) + b0) + b1) ((((0 : Int32) + b0) + b1) + b2) (3 : Int32)) p2)), .second, .val (.int b0), .val (.int (b0 + b1)), .val (.int ((b0 + b1) + b2)), .val (.int (((b0 + b1) + b2) + (0 : Int32))), .val (.double (own_ls (own_ls (own_ls FP.dconst0 b0 b0 FP.dconst1) b1 (b0 + b1) (4611686018427387904 : UInt64)) b2 ((b0 + b1) + b2) (4613937818241073152 : UInt64))), .second, .unset, .unset] []))
                        refine gDload Xt68 hx (hb hby at_281) rfl ?_
                        refine gIloadN Xt68 hx (hb hby at_283) rfl ?_
                        refine gI2d Xt68 hx (hb hby at_284) ?_
                        refine gDdiv Xt68 hx (hb hby at_285) (own_div (same ▸ ns) g) ?_
                        refine gGoto Xt68 hx (hb hby at_286) (pc' := 290) (by decide) (by decide) ?_
                        show Goes p e below _ (Tt68.setTop (mkF m 290 #[.val (.int p0), .val (.int p1), .val (.int p2), .val (.int (3 : Int32)), .val (.int b0), .val (.int b1), .val (.int b2), .val (.int (0 : Int32)), .val (.ref ob50), .val (.ref ob62), .val (.double (own_rt (own_st (own_st (own_st FP.dconst0 (0 : Int32) ((0 : Int32) + b0) (1 : Int32)) ((0 : Int32) + b0) (((0 : Int32) + b0) + b1) (2 : Int32)) (((0 : Int32) + b0) + b1) ((((0 : Int32) + b0) + b1) + b2) (3 : Int32)) p2)), .second, .val (.int b0), .val (.int (b0 + b1)), .val (.int ((b0 + b1) + b2)), .val (.int (((b0 + b1) + b2) + (0 : Int32))), .val (.double (own_ls (own_ls (own_ls FP.dconst0 b0 b0 FP.dconst1) b1 (b0 + b1) (4611686018427387904 : UInt64)) b2 ((b0 + b1) + b2) (4613937818241073152 : UInt64))), .second, .unset, .unset] [(.double (FP.ddiv (own_ls (own_ls (own_ls FP.dconst0 b0 b0 FP.dconst1) b1 (b0 + b1) (4611686018427387904 : UInt64)) b2 ((b0 + b1) + b2) (4613937818241073152 : UInt64)) (FP.i2d p2)))]))
                        refine gDstore Xt68 hx (hb hby at_290) (l' := #[.val (.int p0), .val (.int p1), .val (.int p2), .val (.int (3 : Int32)), .val (.int b0), .val (.int b1), .val (.int b2), .val (.int (0 : Int32)), .val (.ref ob50), .val (.ref ob62), .val (.double (own_rt (own_st (own_st (own_st FP.dconst0 (0 : Int32) ((0 : Int32) + b0) (1 : Int32)) ((0 : Int32) + b0) (((0 : Int32) + b0) + b1) (2 : Int32)) (((0 : Int32) + b0) + b1) ((((0 : Int32) + b0) + b1) + b2) (3 : Int32)) p2)), .second, .val (.int b0), .val (.int (b0 + b1)), .val (.int ((b0 + b1) + b2)), .val (.int (((b0 + b1) + b2) + (0 : Int32))), .val (.double (own_ls (own_ls (own_ls FP.dconst0 b0 b0 FP.dconst1) b1 (b0 + b1) (4611686018427387904 : UInt64)) b2 ((b0 + b1) + b2) (4613937818241073152 : UInt64))), .second, .val (.double (FP.ddiv (own_ls (own_ls (own_ls FP.dconst0 b0 b0 FP.dconst1) b1 (b0 + b1) (4611686018427387904 : UInt64)) b2 ((b0 + b1) + b2) (4613937818241073152 : UInt64)) (FP.i2d p2))), .second]) rfl ?_
                        refine gDload Xt68 hx (hb hby at_292) rfl ?_
                        refine gDload Xt68 hx (hb hby at_294) rfl ?_
                        refine gDcmp Xt68 hx (hb hby at_296) ?_
                        refine gIfN Xt68 hx (hb hby at_297) (XT.i0_ne_f (dcmpV_eq (by rw [show own_rt (own_st (own_st (own_st FP.dconst0 (0 : Int32) ((0 : Int32) + b0) (1 : Int32)) ((0 : Int32) + b0) (((0 : Int32) + b0) + b1) (2 : Int32)) (((0 : Int32) + b0) + b1) ((((0 : Int32) + b0) + b1) + b2) (3 : Int32)) p2 = FP.ddiv (own_st (own_st (own_st FP.dconst0 (0 : Int32) ((0 : Int32) + b0) (1 : Int32)) ((0 : Int32) + b0) (((0 : Int32) + b0) + b1) (2 : Int32)) (((0 : Int32) + b0) + b1) ((((0 : Int32) + b0) + b1) + b2) (3 : Int32)) (FP.i2d p2) from if_pos g, same]) (own_rtn ns p2) .l)) ?_
                        show Goes p e below _ (Tt68.setTop (mkF m 300 #[.val (.int p0), .val (.int p1), .val (.int p2), .val (.int (3 : Int32)), .val (.int b0), .val (.int b1), .val (.int b2), .val (.int (0 : Int32)), .val (.ref ob50), .val (.ref ob62), .val (.double (own_rt (own_st (own_st (own_st FP.dconst0 (0 : Int32) ((0 : Int32) + b0) (1 : Int32)) ((0 : Int32) + b0) (((0 : Int32) + b0) + b1) (2 : Int32)) (((0 : Int32) + b0) + b1) ((((0 : Int32) + b0) + b1) + b2) (3 : Int32)) p2)), .second, .val (.int b0), .val (.int (b0 + b1)), .val (.int ((b0 + b1) + b2)), .val (.int (((b0 + b1) + b2) + (0 : Int32))), .val (.double (own_ls (own_ls (own_ls FP.dconst0 b0 b0 FP.dconst1) b1 (b0 + b1) (4611686018427387904 : UInt64)) b2 ((b0 + b1) + b2) (4613937818241073152 : UInt64))), .second, .val (.double (FP.ddiv (own_ls (own_ls (own_ls FP.dconst0 b0 b0 FP.dconst1) b1 (b0 + b1) (4611686018427387904 : UInt64)) b2 ((b0 + b1) + b2) (4613937818241073152 : UInt64)) (FP.i2d p2))), .second] []))
                        refine gIconst Xt68 hx (hb hby at_300) (v := (1 : Int32)) rfl ?_
                        refine gGoto Xt68 hx (hb hby at_301) (pc' := 305) (by decide) (by decide) ?_
                        show Goes p e below _ (Tt68.setTop (mkF m 305 #[.val (.int p0), .val (.int p1), .val (.int p2), .val (.int (3 : Int32)), .val (.int b0), .val (.int b1), .val (.int b2), .val (.int (0 : Int32)), .val (.ref ob50), .val (.ref ob62), .val (.double (own_rt (own_st (own_st (own_st FP.dconst0 (0 : Int32) ((0 : Int32) + b0) (1 : Int32)) ((0 : Int32) + b0) (((0 : Int32) + b0) + b1) (2 : Int32)) (((0 : Int32) + b0) + b1) ((((0 : Int32) + b0) + b1) + b2) (3 : Int32)) p2)), .second, .val (.int b0), .val (.int (b0 + b1)), .val (.int ((b0 + b1) + b2)), .val (.int (((b0 + b1) + b2) + (0 : Int32))), .val (.double (own_ls (own_ls (own_ls FP.dconst0 b0 b0 FP.dconst1) b1 (b0 + b1) (4611686018427387904 : UInt64)) b2 ((b0 + b1) + b2) (4613937818241073152 : UInt64))), .second, .val (.double (FP.ddiv (own_ls (own_ls (own_ls FP.dconst0 b0 b0 FP.dconst1) b1 (b0 + b1) (4611686018427387904 : UInt64)) b2 ((b0 + b1) + b2) (4613937818241073152 : UInt64)) (FP.i2d p2))), .second] [(.int (1 : Int32))]))
                        exact goRetN Xt68 hx (t := .boolean) hret hlocks (by simp) (hb hby at_305) (z' := (1 : Int32)) rfl (by decide) (by decide) et68 (⟨rfl, N70⟩)
                      · refine gIfY Xt68 hx (hb hby at_278) (pc' := 289) (XT.i0_le_t g) (by decide) (by decide) ?_
                        show Goes p e below _ (Tt68.setTop (mkF m 289 #[.val (.int p0), .val (.int p1), .val (.int p2), .val (.int (3 : Int32)), .val (.int b0), .val (.int b1), .val (.int b2), .val (.int (0 : Int32)), .val (.ref ob50), .val (.ref ob62), .val (.double (own_rt (own_st (own_st (own_st FP.dconst0 (0 : Int32) ((0 : Int32) + b0) (1 : Int32)) ((0 : Int32) + b0) (((0 : Int32) + b0) + b1) (2 : Int32)) (((0 : Int32) + b0) + b1) ((((0 : Int32) + b0) + b1) + b2) (3 : Int32)) p2)), .second, .val (.int b0), .val (.int (b0 + b1)), .val (.int ((b0 + b1) + b2)), .val (.int (((b0 + b1) + b2) + (0 : Int32))), .val (.double (own_ls (own_ls (own_ls FP.dconst0 b0 b0 FP.dconst1) b1 (b0 + b1) (4611686018427387904 : UInt64)) b2 ((b0 + b1) + b2) (4613937818241073152 : UInt64))), .second, .unset, .unset] []))
                        refine gDconst0 Xt68 hx (hb hby at_289) ?_
                        refine gDstore Xt68 hx (hb hby at_290) (l' := #[.val (.int p0), .val (.int p1), .val (.int p2), .val (.int (3 : Int32)), .val (.int b0), .val (.int b1), .val (.int b2), .val (.int (0 : Int32)), .val (.ref ob50), .val (.ref ob62), .val (.double (own_rt (own_st (own_st (own_st FP.dconst0 (0 : Int32) ((0 : Int32) + b0) (1 : Int32)) ((0 : Int32) + b0) (((0 : Int32) + b0) + b1) (2 : Int32)) (((0 : Int32) + b0) + b1) ((((0 : Int32) + b0) + b1) + b2) (3 : Int32)) p2)), .second, .val (.int b0), .val (.int (b0 + b1)), .val (.int ((b0 + b1) + b2)), .val (.int (((b0 + b1) + b2) + (0 : Int32))), .val (.double (own_ls (own_ls (own_ls FP.dconst0 b0 b0 FP.dconst1) b1 (b0 + b1) (4611686018427387904 : UInt64)) b2 ((b0 + b1) + b2) (4613937818241073152 : UInt64))), .second, .val (.double FP.dconst0), .second]) rfl ?_
                        refine gDload Xt68 hx (hb hby at_292) rfl ?_
                        refine gDload Xt68 hx (hb hby at_294) rfl ?_
                        refine gDcmp Xt68 hx (hb hby at_296) ?_
                        refine gIfN Xt68 hx (hb hby at_297) (XT.i0_ne_f (dcmpV_eq (if_neg g) (own_rtn ns p2) .l)) ?_
                        show Goes p e below _ (Tt68.setTop (mkF m 300 #[.val (.int p0), .val (.int p1), .val (.int p2), .val (.int (3 : Int32)), .val (.int b0), .val (.int b1), .val (.int b2), .val (.int (0 : Int32)), .val (.ref ob50), .val (.ref ob62), .val (.double (own_rt (own_st (own_st (own_st FP.dconst0 (0 : Int32) ((0 : Int32) + b0) (1 : Int32)) ((0 : Int32) + b0) (((0 : Int32) + b0) + b1) (2 : Int32)) (((0 : Int32) + b0) + b1) ((((0 : Int32) + b0) + b1) + b2) (3 : Int32)) p2)), .second, .val (.int b0), .val (.int (b0 + b1)), .val (.int ((b0 + b1) + b2)), .val (.int (((b0 + b1) + b2) + (0 : Int32))), .val (.double (own_ls (own_ls (own_ls FP.dconst0 b0 b0 FP.dconst1) b1 (b0 + b1) (4611686018427387904 : UInt64)) b2 ((b0 + b1) + b2) (4613937818241073152 : UInt64))), .second, .val (.double FP.dconst0), .second] []))
                        refine gIconst Xt68 hx (hb hby at_300) (v := (1 : Int32)) rfl ?_
                        refine gGoto Xt68 hx (hb hby at_301) (pc' := 305) (by decide) (by decide) ?_
                        show Goes p e below _ (Tt68.setTop (mkF m 305 #[.val (.int p0), .val (.int p1), .val (.int p2), .val (.int (3 : Int32)), .val (.int b0), .val (.int b1), .val (.int b2), .val (.int (0 : Int32)), .val (.ref ob50), .val (.ref ob62), .val (.double (own_rt (own_st (own_st (own_st FP.dconst0 (0 : Int32) ((0 : Int32) + b0) (1 : Int32)) ((0 : Int32) + b0) (((0 : Int32) + b0) + b1) (2 : Int32)) (((0 : Int32) + b0) + b1) ((((0 : Int32) + b0) + b1) + b2) (3 : Int32)) p2)), .second, .val (.int b0), .val (.int (b0 + b1)), .val (.int ((b0 + b1) + b2)), .val (.int (((b0 + b1) + b2) + (0 : Int32))), .val (.double (own_ls (own_ls (own_ls FP.dconst0 b0 b0 FP.dconst1) b1 (b0 + b1) (4611686018427387904 : UInt64)) b2 ((b0 + b1) + b2) (4613937818241073152 : UInt64))), .second, .val (.double FP.dconst0), .second] [(.int (1 : Int32))]))
                        exact goRetN Xt68 hx (t := .boolean) hret hlocks (by simp) (hb hby at_305) (z' := (1 : Int32)) rfl (by decide) (by decide) et68 (⟨rfl, N70⟩)
                    by_cases g : b2 = 0
                    · refine gIfY Xt68 hx (hb hby at_245) (pc' := 260) (XT.i0_eq_t g) (by decide) (by decide) ?_
                      show Goes p e below _ (Tt68.setTop (mkF m 260 #[.val (.int p0), .val (.int p1), .val (.int p2), .val (.int (3 : Int32)), .val (.int b0), .val (.int b1), .val (.int b2), .val (.int (0 : Int32)), .val (.ref ob50), .val (.ref ob62), .val (.double (own_rt (own_st (own_st (own_st FP.dconst0 (0 : Int32) ((0 : Int32) + b0) (1 : Int32)) ((0 : Int32) + b0) (((0 : Int32) + b0) + b1) (2 : Int32)) (((0 : Int32) + b0) + b1) ((((0 : Int32) + b0) + b1) + b2) (3 : Int32)) p2)), .second, .val (.int b0), .val (.int (b0 + b1)), .val (.int ((b0 + b1) + b2)), .val (.int (((b0 + b1) + b2) + (0 : Int32))), .val (.double (own_ls (own_ls FP.dconst0 b0 b0 FP.dconst1) b1 (b0 + b1) (4611686018427387904 : UInt64))), .second, .unset, .unset] []))
                      exact M2 _ (if_pos g).symm
                    · refine gIfN Xt68 hx (hb hby at_245) (XT.i0_eq_f g) ?_
                      show Goes p e below _ (Tt68.setTop (mkF m 248 #[.val (.int p0), .val (.int p1), .val (.int p2), .val (.int (3 : Int32)), .val (.int b0), .val (.int b1), .val (.int b2), .val (.int (0 : Int32)), .val (.ref ob50), .val (.ref ob62), .val (.double (own_rt (own_st (own_st (own_st FP.dconst0 (0 : Int32) ((0 : Int32) + b0) (1 : Int32)) ((0 : Int32) + b0) (((0 : Int32) + b0) + b1) (2 : Int32)) (((0 : Int32) + b0) + b1) ((((0 : Int32) + b0) + b1) + b2) (3 : Int32)) p2)), .second, .val (.int b0), .val (.int (b0 + b1)), .val (.int ((b0 + b1) + b2)), .val (.int (((b0 + b1) + b2) + (0 : Int32))), .val (.double (own_ls (own_ls FP.dconst0 b0 b0 FP.dconst1) b1 (b0 + b1) (4611686018427387904 : UInt64))), .second, .unset, .unset] []))
                      refine gDload Xt68 hx (hb hby at_248) rfl ?_
                      refine gIload Xt68 hx (hb hby at_250) rfl ?_
                      refine gI2d Xt68 hx (hb hby at_252) ?_
                      refine gLdc2D Xt68 hx hZ hown (hw _ (List.mem_of_getElem? (i := 30) rfl)) (hb hby at_253) ?_
                      refine gDdiv Xt68 hx (hb hby at_256) (own_ql3 b0 b1 b2 hb0 hb1 hb2) ?_
                      refine gDadd Xt68 hx (hb hby at_257) (own_dl3 b0 b1 b2 hb0 hb1 hb2) ?_
                      refine gDstore Xt68 hx (hb hby at_258) (l' := #[.val (.int p0), .val (.int p1), .val (.int p2), .val (.int (3 : Int32)), .val (.int b0), .val (.int b1), .val (.int b2), .val (.int (0 : Int32)), .val (.ref ob50), .val (.ref ob62), .val (.double (own_rt (own_st (own_st (own_st FP.dconst0 (0 : Int32) ((0 : Int32) + b0) (1 : Int32)) ((0 : Int32) + b0) (((0 : Int32) + b0) + b1) (2 : Int32)) (((0 : Int32) + b0) + b1) ((((0 : Int32) + b0) + b1) + b2) (3 : Int32)) p2)), .second, .val (.int b0), .val (.int (b0 + b1)), .val (.int ((b0 + b1) + b2)), .val (.int (((b0 + b1) + b2) + (0 : Int32))), .val (.double (FP.dadd (own_ls (own_ls FP.dconst0 b0 b0 FP.dconst1) b1 (b0 + b1) (4611686018427387904 : UInt64)) (FP.ddiv (FP.i2d ((b0 + b1) + b2)) (4613937818241073152 : UInt64)))), .second, .unset, .unset]) rfl ?_
                      show Goes p e below _ (Tt68.setTop (mkF m 260 #[.val (.int p0), .val (.int p1), .val (.int p2), .val (.int (3 : Int32)), .val (.int b0), .val (.int b1), .val (.int b2), .val (.int (0 : Int32)), .val (.ref ob50), .val (.ref ob62), .val (.double (own_rt (own_st (own_st (own_st FP.dconst0 (0 : Int32) ((0 : Int32) + b0) (1 : Int32)) ((0 : Int32) + b0) (((0 : Int32) + b0) + b1) (2 : Int32)) (((0 : Int32) + b0) + b1) ((((0 : Int32) + b0) + b1) + b2) (3 : Int32)) p2)), .second, .val (.int b0), .val (.int (b0 + b1)), .val (.int ((b0 + b1) + b2)), .val (.int (((b0 + b1) + b2) + (0 : Int32))), .val (.double (FP.dadd (own_ls (own_ls FP.dconst0 b0 b0 FP.dconst1) b1 (b0 + b1) (4611686018427387904 : UInt64)) (FP.ddiv (FP.i2d ((b0 + b1) + b2)) (4613937818241073152 : UInt64)))), .second, .unset, .unset] []))
                      exact M2 _ (if_neg g).symm
                  by_cases g : b1 = 0
                  · refine gIfY Xt68 hx (hb hby at_228) (pc' := 243) (XT.i0_eq_t g) (by decide) (by decide) ?_
                    show Goes p e below _ (Tt68.setTop (mkF m 243 #[.val (.int p0), .val (.int p1), .val (.int p2), .val (.int (3 : Int32)), .val (.int b0), .val (.int b1), .val (.int b2), .val (.int (0 : Int32)), .val (.ref ob50), .val (.ref ob62), .val (.double (own_rt (own_st (own_st (own_st FP.dconst0 (0 : Int32) ((0 : Int32) + b0) (1 : Int32)) ((0 : Int32) + b0) (((0 : Int32) + b0) + b1) (2 : Int32)) (((0 : Int32) + b0) + b1) ((((0 : Int32) + b0) + b1) + b2) (3 : Int32)) p2)), .second, .val (.int b0), .val (.int (b0 + b1)), .val (.int ((b0 + b1) + b2)), .val (.int (((b0 + b1) + b2) + (0 : Int32))), .val (.double (own_ls FP.dconst0 b0 b0 FP.dconst1)), .second, .unset, .unset] []))
                    exact M1 _ (if_pos g).symm
                  · refine gIfN Xt68 hx (hb hby at_228) (XT.i0_eq_f g) ?_
                    show Goes p e below _ (Tt68.setTop (mkF m 231 #[.val (.int p0), .val (.int p1), .val (.int p2), .val (.int (3 : Int32)), .val (.int b0), .val (.int b1), .val (.int b2), .val (.int (0 : Int32)), .val (.ref ob50), .val (.ref ob62), .val (.double (own_rt (own_st (own_st (own_st FP.dconst0 (0 : Int32) ((0 : Int32) + b0) (1 : Int32)) ((0 : Int32) + b0) (((0 : Int32) + b0) + b1) (2 : Int32)) (((0 : Int32) + b0) + b1) ((((0 : Int32) + b0) + b1) + b2) (3 : Int32)) p2)), .second, .val (.int b0), .val (.int (b0 + b1)), .val (.int ((b0 + b1) + b2)), .val (.int (((b0 + b1) + b2) + (0 : Int32))), .val (.double (own_ls FP.dconst0 b0 b0 FP.dconst1)), .second, .unset, .unset] []))
                    refine gDload Xt68 hx (hb hby at_231) rfl ?_
                    refine gIload Xt68 hx (hb hby at_233) rfl ?_
                    refine gI2d Xt68 hx (hb hby at_235) ?_
                    refine gLdc2D Xt68 hx hZ hown (hw _ (List.mem_of_getElem? (i := 28) rfl)) (hb hby at_236) ?_
                    refine gDdiv Xt68 hx (hb hby at_239) (own_ql2 b0 b1 hb0 hb1) ?_
                    refine gDadd Xt68 hx (hb hby at_240) (own_dl2 b0 b1 hb0 hb1) ?_
                    refine gDstore Xt68 hx (hb hby at_241) (l' := #[.val (.int p0), .val (.int p1), .val (.int p2), .val (.int (3 : Int32)), .val (.int b0), .val (.int b1), .val (.int b2), .val (.int (0 : Int32)), .val (.ref ob50), .val (.ref ob62), .val (.double (own_rt (own_st (own_st (own_st FP.dconst0 (0 : Int32) ((0 : Int32) + b0) (1 : Int32)) ((0 : Int32) + b0) (((0 : Int32) + b0) + b1) (2 : Int32)) (((0 : Int32) + b0) + b1) ((((0 : Int32) + b0) + b1) + b2) (3 : Int32)) p2)), .second, .val (.int b0), .val (.int (b0 + b1)), .val (.int ((b0 + b1) + b2)), .val (.int (((b0 + b1) + b2) + (0 : Int32))), .val (.double (FP.dadd (own_ls FP.dconst0 b0 b0 FP.dconst1) (FP.ddiv (FP.i2d (b0 + b1)) (4611686018427387904 : UInt64)))), .second, .unset, .unset]) rfl ?_
                    show Goes p e below _ (Tt68.setTop (mkF m 243 #[.val (.int p0), .val (.int p1), .val (.int p2), .val (.int (3 : Int32)), .val (.int b0), .val (.int b1), .val (.int b2), .val (.int (0 : Int32)), .val (.ref ob50), .val (.ref ob62), .val (.double (own_rt (own_st (own_st (own_st FP.dconst0 (0 : Int32) ((0 : Int32) + b0) (1 : Int32)) ((0 : Int32) + b0) (((0 : Int32) + b0) + b1) (2 : Int32)) (((0 : Int32) + b0) + b1) ((((0 : Int32) + b0) + b1) + b2) (3 : Int32)) p2)), .second, .val (.int b0), .val (.int (b0 + b1)), .val (.int ((b0 + b1) + b2)), .val (.int (((b0 + b1) + b2) + (0 : Int32))), .val (.double (FP.dadd (own_ls FP.dconst0 b0 b0 FP.dconst1) (FP.ddiv (FP.i2d (b0 + b1)) (4611686018427387904 : UInt64)))), .second, .unset, .unset] []))
                    exact M1 _ (if_neg g).symm
                by_cases g : b0 = 0
                · refine gIfY Xt68 hx (hb hby at_213) (pc' := 226) (XT.i0_eq_t g) (by decide) (by decide) ?_
                  show Goes p e below _ (Tt68.setTop (mkF m 226 #[.val (.int p0), .val (.int p1), .val (.int p2), .val (.int (3 : Int32)), .val (.int b0), .val (.int b1), .val (.int b2), .val (.int (0 : Int32)), .val (.ref ob50), .val (.ref ob62), .val (.double (own_rt (own_st (own_st (own_st FP.dconst0 (0 : Int32) ((0 : Int32) + b0) (1 : Int32)) ((0 : Int32) + b0) (((0 : Int32) + b0) + b1) (2 : Int32)) (((0 : Int32) + b0) + b1) ((((0 : Int32) + b0) + b1) + b2) (3 : Int32)) p2)), .second, .val (.int b0), .val (.int (b0 + b1)), .val (.int ((b0 + b1) + b2)), .val (.int (((b0 + b1) + b2) + (0 : Int32))), .val (.double FP.dconst0), .second, .unset, .unset] []))
                  exact M0 _ (if_pos g).symm
                · refine gIfN Xt68 hx (hb hby at_213) (XT.i0_eq_f g) ?_
                  show Goes p e below _ (Tt68.setTop (mkF m 216 #[.val (.int p0), .val (.int p1), .val (.int p2), .val (.int (3 : Int32)), .val (.int b0), .val (.int b1), .val (.int b2), .val (.int (0 : Int32)), .val (.ref ob50), .val (.ref ob62), .val (.double (own_rt (own_st (own_st (own_st FP.dconst0 (0 : Int32) ((0 : Int32) + b0) (1 : Int32)) ((0 : Int32) + b0) (((0 : Int32) + b0) + b1) (2 : Int32)) (((0 : Int32) + b0) + b1) ((((0 : Int32) + b0) + b1) + b2) (3 : Int32)) p2)), .second, .val (.int b0), .val (.int (b0 + b1)), .val (.int ((b0 + b1) + b2)), .val (.int (((b0 + b1) + b2) + (0 : Int32))), .val (.double FP.dconst0), .second, .unset, .unset] []))
                  refine gDload Xt68 hx (hb hby at_216) rfl ?_
                  refine gIload Xt68 hx (hb hby at_218) rfl ?_
                  refine gI2d Xt68 hx (hb hby at_220) ?_
                  refine gDconst1 Xt68 hx (hb hby at_221) ?_
                  refine gDdiv Xt68 hx (hb hby at_222) (own_ql1 b0 hb0) ?_
                  refine gDadd Xt68 hx (hb hby at_223) (own_dl1 b0 hb0) ?_
                  refine gDstore Xt68 hx (hb hby at_224) (l' := #[.val (.int p0), .val (.int p1), .val (.int p2), .val (.int (3 : Int32)), .val (.int b0), .val (.int b1), .val (.int b2), .val (.int (0 : Int32)), .val (.ref ob50), .val (.ref ob62), .val (.double (own_rt (own_st (own_st (own_st FP.dconst0 (0 : Int32) ((0 : Int32) + b0) (1 : Int32)) ((0 : Int32) + b0) (((0 : Int32) + b0) + b1) (2 : Int32)) (((0 : Int32) + b0) + b1) ((((0 : Int32) + b0) + b1) + b2) (3 : Int32)) p2)), .second, .val (.int b0), .val (.int (b0 + b1)), .val (.int ((b0 + b1) + b2)), .val (.int (((b0 + b1) + b2) + (0 : Int32))), .val (.double (FP.dadd FP.dconst0 (FP.ddiv (FP.i2d b0) FP.dconst1))), .second, .unset, .unset]) rfl ?_
                  show Goes p e below _ (Tt68.setTop (mkF m 226 #[.val (.int p0), .val (.int p1), .val (.int p2), .val (.int (3 : Int32)), .val (.int b0), .val (.int b1), .val (.int b2), .val (.int (0 : Int32)), .val (.ref ob50), .val (.ref ob62), .val (.double (own_rt (own_st (own_st (own_st FP.dconst0 (0 : Int32) ((0 : Int32) + b0) (1 : Int32)) ((0 : Int32) + b0) (((0 : Int32) + b0) + b1) (2 : Int32)) (((0 : Int32) + b0) + b1) ((((0 : Int32) + b0) + b1) + b2) (3 : Int32)) p2)), .second, .val (.int b0), .val (.int (b0 + b1)), .val (.int ((b0 + b1) + b2)), .val (.int (((b0 + b1) + b2) + (0 : Int32))), .val (.double (FP.dadd FP.dconst0 (FP.ddiv (FP.i2d b0) FP.dconst1))), .second, .unset, .unset] []))
                  exact M0 _ (if_neg g).symm
              by_cases g : b2 = 0
              · refine gIfY Xt68 hx (hb hby at_182) (pc' := 189) (XT.i0_eq_t g) (by decide) (by decide) ?_
                show Goes p e below _ (Tt68.setTop (mkF m 189 #[.val (.int p0), .val (.int p1), .val (.int p2), .val (.int (3 : Int32)), .val (.int b0), .val (.int b1), .val (.int b2), .val (.int (0 : Int32)), .val (.ref ob50), .val (.ref ob62), .val (.double (own_rt (own_st (own_st (own_st FP.dconst0 (0 : Int32) ((0 : Int32) + b0) (1 : Int32)) ((0 : Int32) + b0) (((0 : Int32) + b0) + b1) (2 : Int32)) (((0 : Int32) + b0) + b1) ((((0 : Int32) + b0) + b1) + b2) (3 : Int32)) p2)), .second, .val (.int b0), .val (.int (b0 + b1)), .unset, .unset, .unset, .unset, .unset, .unset] [(.int (b0 + b1))]))
                refine gIconst Xt68 hx (hb hby at_189) (v := (0 : Int32)) rfl ?_
                exact C2 _ g
              · refine gIfN Xt68 hx (hb hby at_182) (XT.i0_eq_f g) ?_
                show Goes p e below _ (Tt68.setTop (mkF m 185 #[.val (.int p0), .val (.int p1), .val (.int p2), .val (.int (3 : Int32)), .val (.int b0), .val (.int b1), .val (.int b2), .val (.int (0 : Int32)), .val (.ref ob50), .val (.ref ob62), .val (.double (own_rt (own_st (own_st (own_st FP.dconst0 (0 : Int32) ((0 : Int32) + b0) (1 : Int32)) ((0 : Int32) + b0) (((0 : Int32) + b0) + b1) (2 : Int32)) (((0 : Int32) + b0) + b1) ((((0 : Int32) + b0) + b1) + b2) (3 : Int32)) p2)), .second, .val (.int b0), .val (.int (b0 + b1)), .unset, .unset, .unset, .unset, .unset, .unset] [(.int (b0 + b1))]))
                refine gIconst Xt68 hx (hb hby at_185) (v := (1 : Int32)) rfl ?_
                refine gGoto Xt68 hx (hb hby at_186) (pc' := 190) (by decide) (by decide) ?_
                show Goes p e below _ (Tt68.setTop (mkF m 190 #[.val (.int p0), .val (.int p1), .val (.int p2), .val (.int (3 : Int32)), .val (.int b0), .val (.int b1), .val (.int b2), .val (.int (0 : Int32)), .val (.ref ob50), .val (.ref ob62), .val (.double (own_rt (own_st (own_st (own_st FP.dconst0 (0 : Int32) ((0 : Int32) + b0) (1 : Int32)) ((0 : Int32) + b0) (((0 : Int32) + b0) + b1) (2 : Int32)) (((0 : Int32) + b0) + b1) ((((0 : Int32) + b0) + b1) + b2) (3 : Int32)) p2)), .second, .val (.int b0), .val (.int (b0 + b1)), .unset, .unset, .unset, .unset, .unset, .unset] [(.int (1 : Int32)), (.int (b0 + b1))]))
                exact C2 _ (hb2.resolve_left g)
            by_cases g : b1 = 0
            · refine gIfY Xt68 hx (hb hby at_167) (pc' := 174) (XT.i0_eq_t g) (by decide) (by decide) ?_
              show Goes p e below _ (Tt68.setTop (mkF m 174 #[.val (.int p0), .val (.int p1), .val (.int p2), .val (.int (3 : Int32)), .val (.int b0), .val (.int b1), .val (.int b2), .val (.int (0 : Int32)), .val (.ref ob50), .val (.ref ob62), .val (.double (own_rt (own_st (own_st (own_st FP.dconst0 (0 : Int32) ((0 : Int32) + b0) (1 : Int32)) ((0 : Int32) + b0) (((0 : Int32) + b0) + b1) (2 : Int32)) (((0 : Int32) + b0) + b1) ((((0 : Int32) + b0) + b1) + b2) (3 : Int32)) p2)), .second, .val (.int b0), .unset, .unset, .unset, .unset, .unset, .unset, .unset] [(.int b0)]))
              refine gIconst Xt68 hx (hb hby at_174) (v := (0 : Int32)) rfl ?_
              exact C1 _ g
            · refine gIfN Xt68 hx (hb hby at_167) (XT.i0_eq_f g) ?_
              show Goes p e below _ (Tt68.setTop (mkF m 170 #[.val (.int p0), .val (.int p1), .val (.int p2), .val (.int (3 : Int32)), .val (.int b0), .val (.int b1), .val (.int b2), .val (.int (0 : Int32)), .val (.ref ob50), .val (.ref ob62), .val (.double (own_rt (own_st (own_st (own_st FP.dconst0 (0 : Int32) ((0 : Int32) + b0) (1 : Int32)) ((0 : Int32) + b0) (((0 : Int32) + b0) + b1) (2 : Int32)) (((0 : Int32) + b0) + b1) ((((0 : Int32) + b0) + b1) + b2) (3 : Int32)) p2)), .second, .val (.int b0), .unset, .unset, .unset, .unset, .unset, .unset, .unset] [(.int b0)]))
              refine gIconst Xt68 hx (hb hby at_170) (v := (1 : Int32)) rfl ?_
              refine gGoto Xt68 hx (hb hby at_171) (pc' := 175) (by decide) (by decide) ?_
              show Goes p e below _ (Tt68.setTop (mkF m 175 #[.val (.int p0), .val (.int p1), .val (.int p2), .val (.int (3 : Int32)), .val (.int b0), .val (.int b1), .val (.int b2), .val (.int (0 : Int32)), .val (.ref ob50), .val (.ref ob62), .val (.double (own_rt (own_st (own_st (own_st FP.dconst0 (0 : Int32) ((0 : Int32) + b0) (1 : Int32)) ((0 : Int32) + b0) (((0 : Int32) + b0) + b1) (2 : Int32)) (((0 : Int32) + b0) + b1) ((((0 : Int32) + b0) + b1) + b2) (3 : Int32)) p2)), .second, .val (.int b0), .unset, .unset, .unset, .unset, .unset, .unset, .unset] [(.int (1 : Int32)), (.int b0)]))
              exact C1 _ (hb1.resolve_left g)
          by_cases g : b0 = 0
          · refine gIfY Xt68 hx (hb hby at_153) (pc' := 160) (XT.i0_eq_t g) (by decide) (by decide) ?_
            show Goes p e below _ (Tt68.setTop (mkF m 160 #[.val (.int p0), .val (.int p1), .val (.int p2), .val (.int (3 : Int32)), .val (.int b0), .val (.int b1), .val (.int b2), .val (.int (0 : Int32)), .val (.ref ob50), .val (.ref ob62), .val (.double (own_rt (own_st (own_st (own_st FP.dconst0 (0 : Int32) ((0 : Int32) + b0) (1 : Int32)) ((0 : Int32) + b0) (((0 : Int32) + b0) + b1) (2 : Int32)) (((0 : Int32) + b0) + b1) ((((0 : Int32) + b0) + b1) + b2) (3 : Int32)) p2)), .second, .unset, .unset, .unset, .unset, .unset, .unset, .unset, .unset] []))
            refine gIconst Xt68 hx (hb hby at_160) (v := (0 : Int32)) rfl ?_
            exact C0 _ g
          · refine gIfN Xt68 hx (hb hby at_153) (XT.i0_eq_f g) ?_
            show Goes p e below _ (Tt68.setTop (mkF m 156 #[.val (.int p0), .val (.int p1), .val (.int p2), .val (.int (3 : Int32)), .val (.int b0), .val (.int b1), .val (.int b2), .val (.int (0 : Int32)), .val (.ref ob50), .val (.ref ob62), .val (.double (own_rt (own_st (own_st (own_st FP.dconst0 (0 : Int32) ((0 : Int32) + b0) (1 : Int32)) ((0 : Int32) + b0) (((0 : Int32) + b0) + b1) (2 : Int32)) (((0 : Int32) + b0) + b1) ((((0 : Int32) + b0) + b1) + b2) (3 : Int32)) p2)), .second, .unset, .unset, .unset, .unset, .unset, .unset, .unset, .unset] []))
            refine gIconst Xt68 hx (hb hby at_156) (v := (1 : Int32)) rfl ?_
            refine gGoto Xt68 hx (hb hby at_157) (pc' := 161) (by decide) (by decide) ?_
            show Goes p e below _ (Tt68.setTop (mkF m 161 #[.val (.int p0), .val (.int p1), .val (.int p2), .val (.int (3 : Int32)), .val (.int b0), .val (.int b1), .val (.int b2), .val (.int (0 : Int32)), .val (.ref ob50), .val (.ref ob62), .val (.double (own_rt (own_st (own_st (own_st FP.dconst0 (0 : Int32) ((0 : Int32) + b0) (1 : Int32)) ((0 : Int32) + b0) (((0 : Int32) + b0) + b1) (2 : Int32)) (((0 : Int32) + b0) + b1) ((((0 : Int32) + b0) + b1) + b2) (3 : Int32)) p2)), .second, .unset, .unset, .unset, .unset, .unset, .unset, .unset, .unset] [(.int (1 : Int32))]))
            exact C0 _ (hb0.resolve_left g)
        by_cases g : ((p0 >>> ((2 : Int32) &&& 31)) &&& (1 : Int32)) = 0
        · refine gIfY X0 hx (hb hby at_54) (pc' := 61) (XT.i0_eq_t g) (by decide) (by decide) ?_
          show Goes p e below _ (s₁.setTop (mkF m 61 #[.val (.int p0), .val (.int p1), .val (.int p2), .val (.int (3 : Int32)), .val (.int b0), .val (.int b1), .unset, .unset, .unset, .unset, .unset, .unset, .unset, .unset, .unset, .unset, .unset, .unset, .unset, .unset] []))
          refine gIconst X0 hx (hb hby at_61) (v := (0 : Int32)) rfl ?_
          exact K2 _ (Or.inl rfl)
        · refine gIfN X0 hx (hb hby at_54) (XT.i0_eq_f g) ?_
          show Goes p e below _ (s₁.setTop (mkF m 57 #[.val (.int p0), .val (.int p1), .val (.int p2), .val (.int (3 : Int32)), .val (.int b0), .val (.int b1), .unset, .unset, .unset, .unset, .unset, .unset, .unset, .unset, .unset, .unset, .unset, .unset, .unset, .unset] []))
          refine gIconst X0 hx (hb hby at_57) (v := (1 : Int32)) rfl ?_
          refine gGoto X0 hx (hb hby at_58) (pc' := 62) (by decide) (by decide) ?_
          show Goes p e below _ (s₁.setTop (mkF m 62 #[.val (.int p0), .val (.int p1), .val (.int p2), .val (.int (3 : Int32)), .val (.int b0), .val (.int b1), .unset, .unset, .unset, .unset, .unset, .unset, .unset, .unset, .unset, .unset, .unset, .unset, .unset, .unset] [(.int (1 : Int32))]))
          exact K2 _ (Or.inr rfl)
      by_cases g : ((p0 >>> ((1 : Int32) &&& 31)) &&& (1 : Int32)) = 0
      · refine gIfY X0 hx (hb hby at_34) (pc' := 41) (XT.i0_eq_t g) (by decide) (by decide) ?_
        show Goes p e below _ (s₁.setTop (mkF m 41 #[.val (.int p0), .val (.int p1), .val (.int p2), .val (.int (3 : Int32)), .val (.int b0), .unset, .unset, .unset, .unset, .unset, .unset, .unset, .unset, .unset, .unset, .unset, .unset, .unset, .unset, .unset] []))
        refine gIconst X0 hx (hb hby at_41) (v := (0 : Int32)) rfl ?_
        exact K1 _ (Or.inl rfl)
      · refine gIfN X0 hx (hb hby at_34) (XT.i0_eq_f g) ?_
        show Goes p e below _ (s₁.setTop (mkF m 37 #[.val (.int p0), .val (.int p1), .val (.int p2), .val (.int (3 : Int32)), .val (.int b0), .unset, .unset, .unset, .unset, .unset, .unset, .unset, .unset, .unset, .unset, .unset, .unset, .unset, .unset, .unset] []))
        refine gIconst X0 hx (hb hby at_37) (v := (1 : Int32)) rfl ?_
        refine gGoto X0 hx (hb hby at_38) (pc' := 42) (by decide) (by decide) ?_
        show Goes p e below _ (s₁.setTop (mkF m 42 #[.val (.int p0), .val (.int p1), .val (.int p2), .val (.int (3 : Int32)), .val (.int b0), .unset, .unset, .unset, .unset, .unset, .unset, .unset, .unset, .unset, .unset, .unset, .unset, .unset, .unset, .unset] [(.int (1 : Int32))]))
        exact K1 _ (Or.inr rfl)
    by_cases g : (p0 &&& (1 : Int32)) = 0
    · refine gIfY X0 hx (hb hby at_14) (pc' := 21) (XT.i0_eq_t g) (by decide) (by decide) ?_
      show Goes p e below _ (s₁.setTop (mkF m 21 #[.val (.int p0), .val (.int p1), .val (.int p2), .val (.int (3 : Int32)), .unset, .unset, .unset, .unset, .unset, .unset, .unset, .unset, .unset, .unset, .unset, .unset, .unset, .unset, .unset, .unset] []))
      refine gIconst X0 hx (hb hby at_21) (v := (0 : Int32)) rfl ?_
      exact K0 _ (Or.inl rfl)
    · refine gIfN X0 hx (hb hby at_14) (XT.i0_eq_f g) ?_
      show Goes p e below _ (s₁.setTop (mkF m 17 #[.val (.int p0), .val (.int p1), .val (.int p2), .val (.int (3 : Int32)), .unset, .unset, .unset, .unset, .unset, .unset, .unset, .unset, .unset, .unset, .unset, .unset, .unset, .unset, .unset, .unset] []))
      refine gIconst X0 hx (hb hby at_17) (v := (1 : Int32)) rfl ?_
      refine gGoto X0 hx (hb hby at_18) (pc' := 22) (by decide) (by decide) ?_
      show Goes p e below _ (s₁.setTop (mkF m 22 #[.val (.int p0), .val (.int p1), .val (.int p2), .val (.int (3 : Int32)), .unset, .unset, .unset, .unset, .unset, .unset, .unset, .unset, .unset, .unset, .unset, .unset, .unset, .unset, .unset, .unset] [(.int (1 : Int32))]))
      exact K0 _ (Or.inr rfl)
  · show Goes p e below _ (s₁.setTop (mkF m 8 #[.val (.int p0), .val (.int p1), .val (.int p2), .val (.int (4 : Int32)), .unset, .unset, .unset, .unset, .unset, .unset, .unset, .unset, .unset, .unset, .unset, .unset, .unset, .unset, .unset, .unset] [(.int (4 : Int32))]))
    refine gIfN X0 hx (hb hby at_8) (XT.i0_le_f (by decide)) ?_
    show Goes p e below _ (s₁.setTop (mkF m 11 #[.val (.int p0), .val (.int p1), .val (.int p2), .val (.int (4 : Int32)), .unset, .unset, .unset, .unset, .unset, .unset, .unset, .unset, .unset, .unset, .unset, .unset, .unset, .unset, .unset, .unset] []))
    refine gIloadN X0 hx (hb hby at_11) rfl ?_
    refine gIconst X0 hx (hb hby at_12) (v := (1 : Int32)) rfl ?_
    refine gIand X0 hx (hb hby at_13) ?_
    have K0 : ∀ (b0 : Int32), b0 = 0 ∨ b0 = 1 → Goes p e below (EndN s (fun v h L => v = some (.int 1) ∧ Fr Z.heap.size L) room_1.cells room_1.slots) (s₁.setTop (mkF m 22 #[.val (.int p0), .val (.int p1), .val (.int p2), .val (.int (4 : Int32)), .unset, .unset, .unset, .unset, .unset, .unset, .unset, .unset, .unset, .unset, .unset, .unset, .unset, .unset, .unset, .unset] [(.int b0)])) := by
      intro b0 hb0
      have nb0 := own_nb hb0
      refine gIstore X0 hx (hb hby at_22) (l' := #[.val (.int p0), .val (.int p1), .val (.int p2), .val (.int (4 : Int32)), .val (.int b0), .unset, .unset, .unset, .unset, .unset, .unset, .unset, .unset, .unset, .unset, .unset, .unset, .unset, .unset, .unset]) rfl ?_
      refine gIloadN X0 hx (hb hby at_24) rfl ?_
      refine gIconst X0 hx (hb hby at_25) (v := (1 : Int32)) rfl ?_
      refine gIcmpN X0 hx (hb hby at_26) (XT.ii_le_f (by decide)) ?_
      show Goes p e below _ (s₁.setTop (mkF m 29 #[.val (.int p0), .val (.int p1), .val (.int p2), .val (.int (4 : Int32)), .val (.int b0), .unset, .unset, .unset, .unset, .unset, .unset, .unset, .unset, .unset, .unset, .unset, .unset, .unset, .unset, .unset] []))
      refine gIloadN X0 hx (hb hby at_29) rfl ?_
      refine gIconst X0 hx (hb hby at_30) (v := (1 : Int32)) rfl ?_
      refine gIshr X0 hx (hb hby at_31) ?_
      refine gIconst X0 hx (hb hby at_32) (v := (1 : Int32)) rfl ?_
      refine gIand X0 hx (hb hby at_33) ?_
      have K1 : ∀ (b1 : Int32), b1 = 0 ∨ b1 = 1 → Goes p e below (EndN s (fun v h L => v = some (.int 1) ∧ Fr Z.heap.size L) room_1.cells room_1.slots) (s₁.setTop (mkF m 42 #[.val (.int p0), .val (.int p1), .val (.int p2), .val (.int (4 : Int32)), .val (.int b0), .unset, .unset, .unset, .unset, .unset, .unset, .unset, .unset, .unset, .unset, .unset, .unset, .unset, .unset, .unset] [(.int b1)])) := by
        intro b1 hb1
        have nb1 := own_nb hb1
        refine gIstore X0 hx (hb hby at_42) (l' := #[.val (.int p0), .val (.int p1), .val (.int p2), .val (.int (4 : Int32)), .val (.int b0), .val (.int b1), .unset, .unset, .unset, .unset, .unset, .unset, .unset, .unset, .unset, .unset, .unset, .unset, .unset, .unset]) rfl ?_
        refine gIloadN X0 hx (hb hby at_44) rfl ?_
        show Goes p e below _ (s₁.setTop (mkF m 45 #[.val (.int p0), .val (.int p1), .val (.int p2), .val (.int (4 : Int32)), .val (.int b0), .val (.int b1), .unset, .unset, .unset, .unset, .unset, .unset, .unset, .unset, .unset, .unset, .unset, .unset, .unset, .unset] [(.int (4 : Int32))]))
        refine gIconst X0 hx (hb hby at_45) (v := (2 : Int32)) rfl ?_
        refine gIcmpN X0 hx (hb hby at_46) (XT.ii_le_f (by decide)) ?_
        show Goes p e below _ (s₁.setTop (mkF m 49 #[.val (.int p0), .val (.int p1), .val (.int p2), .val (.int (4 : Int32)), .val (.int b0), .val (.int b1), .unset, .unset, .unset, .unset, .unset, .unset, .unset, .unset, .unset, .unset, .unset, .unset, .unset, .unset] []))
        refine gIloadN X0 hx (hb hby at_49) rfl ?_
        refine gIconst X0 hx (hb hby at_50) (v := (2 : Int32)) rfl ?_
        refine gIshr X0 hx (hb hby at_51) ?_
        refine gIconst X0 hx (hb hby at_52) (v := (1 : Int32)) rfl ?_
        refine gIand X0 hx (hb hby at_53) ?_
        have K2 : ∀ (b2 : Int32), b2 = 0 ∨ b2 = 1 → Goes p e below (EndN s (fun v h L => v = some (.int 1) ∧ Fr Z.heap.size L) room_1.cells room_1.slots) (s₁.setTop (mkF m 62 #[.val (.int p0), .val (.int p1), .val (.int p2), .val (.int (4 : Int32)), .val (.int b0), .val (.int b1), .unset, .unset, .unset, .unset, .unset, .unset, .unset, .unset, .unset, .unset, .unset, .unset, .unset, .unset] [(.int b2)])) := by
          intro b2 hb2
          have nb2 := own_nb hb2
          refine gIstore X0 hx (hb hby at_62) (l' := #[.val (.int p0), .val (.int p1), .val (.int p2), .val (.int (4 : Int32)), .val (.int b0), .val (.int b1), .val (.int b2), .unset, .unset, .unset, .unset, .unset, .unset, .unset, .unset, .unset, .unset, .unset, .unset, .unset]) rfl ?_
          refine gIloadN X0 hx (hb hby at_64) rfl ?_
          show Goes p e below _ (s₁.setTop (mkF m 65 #[.val (.int p0), .val (.int p1), .val (.int p2), .val (.int (4 : Int32)), .val (.int b0), .val (.int b1), .val (.int b2), .unset, .unset, .unset, .unset, .unset, .unset, .unset, .unset, .unset, .unset, .unset, .unset, .unset] [(.int (4 : Int32))]))
          refine gIconst X0 hx (hb hby at_65) (v := (3 : Int32)) rfl ?_
          refine gIcmpN X0 hx (hb hby at_66) (XT.ii_le_f (by decide)) ?_
          show Goes p e below _ (s₁.setTop (mkF m 69 #[.val (.int p0), .val (.int p1), .val (.int p2), .val (.int (4 : Int32)), .val (.int b0), .val (.int b1), .val (.int b2), .unset, .unset, .unset, .unset, .unset, .unset, .unset, .unset, .unset, .unset, .unset, .unset, .unset] []))
          refine gIloadN X0 hx (hb hby at_69) rfl ?_
          refine gIconst X0 hx (hb hby at_70) (v := (3 : Int32)) rfl ?_
          refine gIshr X0 hx (hb hby at_71) ?_
          refine gIconst X0 hx (hb hby at_72) (v := (1 : Int32)) rfl ?_
          refine gIand X0 hx (hb hby at_73) ?_
          have K3 : ∀ (b3 : Int32), b3 = 0 ∨ b3 = 1 → Goes p e below (EndN s (fun v h L => v = some (.int 1) ∧ Fr Z.heap.size L) room_1.cells room_1.slots) (s₁.setTop (mkF m 82 #[.val (.int p0), .val (.int p1), .val (.int p2), .val (.int (4 : Int32)), .val (.int b0), .val (.int b1), .val (.int b2), .unset, .unset, .unset, .unset, .unset, .unset, .unset, .unset, .unset, .unset, .unset, .unset, .unset] [(.int b3)])) := by
            intro b3 hb3
            have nb3 := own_nb hb3
            refine gIstore X0 hx (hb hby at_82) (l' := #[.val (.int p0), .val (.int p1), .val (.int p2), .val (.int (4 : Int32)), .val (.int b0), .val (.int b1), .val (.int b2), .val (.int b3), .unset, .unset, .unset, .unset, .unset, .unset, .unset, .unset, .unset, .unset, .unset, .unset]) rfl ?_
            refine gIloadN X0 hx (hb hby at_84) rfl ?_
            show Goes p e below _ (s₁.setTop (mkF m 85 #[.val (.int p0), .val (.int p1), .val (.int p2), .val (.int (4 : Int32)), .val (.int b0), .val (.int b1), .val (.int b2), .val (.int b3), .unset, .unset, .unset, .unset, .unset, .unset, .unset, .unset, .unset, .unset, .unset, .unset] [(.int (4 : Int32))]))
            obtain ⟨Tt71, ht71, kt71, Xt71, et71, Et71, At71, stt71⟩ := newP X0 hx hZ (hw _ (List.mem_of_getElem? (i := 0) rfl)) e0 (g := (mkF m 85 #[.val (.int p0), .val (.int p1), .val (.int p2), .val (.int (4 : Int32)), .val (.int b0), .val (.int b1), .val (.int b2), .val (.int b3), .unset, .unset, .unset, .unset, .unset, .unset, .unset, .unset, .unset, .unset, .unset, .unset] [(.int (4 : Int32))])) rfl (hb hby at_85) rfl (by decide) (cap := 4) (by decide) (by decide) (by decide) (by decide)
            obtain ⟨ob72, gob72⟩ : ∃ z, z = h0.size := ⟨_, rfl⟩
            rw [← gob72] at At71 stt71
            refine go stt71 ?_
            have fr_ob72 : Z.heap.size ≤ ob72 := gob72 ▸ O0.1
            have O73 : Ext Z.heap ht71 := extT O0 Et71
            have Y_ob72 : Ary Z ht71 ob72 .boolean [(.int (0 : Int32)), (.int (0 : Int32)), (.int (0 : Int32)), (.int (0 : Int32))] := Ary.new At71 rfl (by decide)
            show Goes p e below _ (Tt71.setTop (mkF m 87 #[.val (.int p0), .val (.int p1), .val (.int p2), .val (.int (4 : Int32)), .val (.int b0), .val (.int b1), .val (.int b2), .val (.int b3), .unset, .unset, .unset, .unset, .unset, .unset, .unset, .unset, .unset, .unset, .unset, .unset] [(.ref ob72)]))
            refine gAstore Xt71 hx (hb hby at_87) rfl (l' := #[.val (.int p0), .val (.int p1), .val (.int p2), .val (.int (4 : Int32)), .val (.int b0), .val (.int b1), .val (.int b2), .val (.int b3), .val (.ref ob72), .unset, .unset, .unset, .unset, .unset, .unset, .unset, .unset, .unset, .unset, .unset]) rfl ?_
            refine gIloadN Xt71 hx (hb hby at_89) rfl ?_
            refine gIfN Xt71 hx (hb hby at_90) (XT.i0_le_f (by decide)) ?_
            show Goes p e below _ (Tt71.setTop (mkF m 93 #[.val (.int p0), .val (.int p1), .val (.int p2), .val (.int (4 : Int32)), .val (.int b0), .val (.int b1), .val (.int b2), .val (.int b3), .val (.ref ob72), .unset, .unset, .unset, .unset, .unset, .unset, .unset, .unset, .unset, .unset, .unset] []))
            refine gAload Xt71 hx (hb hby at_93) rfl rfl ?_
            refine gIconst Xt71 hx (hb hby at_95) (v := (0 : Int32)) rfl ?_
            refine gIload Xt71 hx (hb hby at_96) rfl ?_
            refine goZastore Xt71 hx hZ et71 Y_ob72 (hb hby at_98) (by decide) rfl (fun Tt74 ht74 Xt74 et74 Wt74 => ?_)
            have N75 := Fr.snoc Xt74 N0 fr_ob72
            replace Y_ob72 : Ary Z ht74 ob72 .boolean [(.int b0), (.int (0 : Int32)), (.int (0 : Int32)), (.int (0 : Int32))] := Y_ob72.set Wt74 (by rw [nb0]; rfl)
            have O76 : Ext Z.heap ht74 := extW O73 Wt74 fr_ob72
            show Goes p e below _ (Tt74.setTop (mkF m 99 #[.val (.int p0), .val (.int p1), .val (.int p2), .val (.int (4 : Int32)), .val (.int b0), .val (.int b1), .val (.int b2), .val (.int b3), .val (.ref ob72), .unset, .unset, .unset, .unset, .unset, .unset, .unset, .unset, .unset, .unset, .unset] []))
            refine gIloadN Xt74 hx (hb hby at_99) rfl ?_
            refine gIconst Xt74 hx (hb hby at_100) (v := (1 : Int32)) rfl ?_
            refine gIcmpN Xt74 hx (hb hby at_101) (XT.ii_le_f (by decide)) ?_
            show Goes p e below _ (Tt74.setTop (mkF m 104 #[.val (.int p0), .val (.int p1), .val (.int p2), .val (.int (4 : Int32)), .val (.int b0), .val (.int b1), .val (.int b2), .val (.int b3), .val (.ref ob72), .unset, .unset, .unset, .unset, .unset, .unset, .unset, .unset, .unset, .unset, .unset] []))
            refine gAload Xt74 hx (hb hby at_104) rfl rfl ?_
            refine gIconst Xt74 hx (hb hby at_106) (v := (1 : Int32)) rfl ?_
            refine gIload Xt74 hx (hb hby at_107) rfl ?_
            refine goZastore Xt74 hx hZ et74 Y_ob72 (hb hby at_109) (by decide) rfl (fun Tt77 ht77 Xt77 et77 Wt77 => ?_)
            have N78 := Fr.snoc Xt77 N75 fr_ob72
            replace Y_ob72 : Ary Z ht77 ob72 .boolean [(.int b0), (.int b1), (.int (0 : Int32)), (.int (0 : Int32))] := Y_ob72.set Wt77 (by rw [nb1]; rfl)
            have O79 : Ext Z.heap ht77 := extW O76 Wt77 fr_ob72
            show Goes p e below _ (Tt77.setTop (mkF m 110 #[.val (.int p0), .val (.int p1), .val (.int p2), .val (.int (4 : Int32)), .val (.int b0), .val (.int b1), .val (.int b2), .val (.int b3), .val (.ref ob72), .unset, .unset, .unset, .unset, .unset, .unset, .unset, .unset, .unset, .unset, .unset] []))
            refine gIloadN Xt77 hx (hb hby at_110) rfl ?_
            refine gIconst Xt77 hx (hb hby at_111) (v := (2 : Int32)) rfl ?_
            refine gIcmpN Xt77 hx (hb hby at_112) (XT.ii_le_f (by decide)) ?_
            show Goes p e below _ (Tt77.setTop (mkF m 115 #[.val (.int p0), .val (.int p1), .val (.int p2), .val (.int (4 : Int32)), .val (.int b0), .val (.int b1), .val (.int b2), .val (.int b3), .val (.ref ob72), .unset, .unset, .unset, .unset, .unset, .unset, .unset, .unset, .unset, .unset, .unset] []))
            refine gAload Xt77 hx (hb hby at_115) rfl rfl ?_
            refine gIconst Xt77 hx (hb hby at_117) (v := (2 : Int32)) rfl ?_
            refine gIload Xt77 hx (hb hby at_118) rfl ?_
            refine goZastore Xt77 hx hZ et77 Y_ob72 (hb hby at_120) (by decide) rfl (fun Tt80 ht80 Xt80 et80 Wt80 => ?_)
            have N81 := Fr.snoc Xt80 N78 fr_ob72
            replace Y_ob72 : Ary Z ht80 ob72 .boolean [(.int b0), (.int b1), (.int b2), (.int (0 : Int32))] := Y_ob72.set Wt80 (by rw [nb2]; rfl)
            have O82 : Ext Z.heap ht80 := extW O79 Wt80 fr_ob72
            show Goes p e below _ (Tt80.setTop (mkF m 121 #[.val (.int p0), .val (.int p1), .val (.int p2), .val (.int (4 : Int32)), .val (.int b0), .val (.int b1), .val (.int b2), .val (.int b3), .val (.ref ob72), .unset, .unset, .unset, .unset, .unset, .unset, .unset, .unset, .unset, .unset, .unset] []))
            refine gIloadN Xt80 hx (hb hby at_121) rfl ?_
            refine gIconst Xt80 hx (hb hby at_122) (v := (3 : Int32)) rfl ?_
            refine gIcmpN Xt80 hx (hb hby at_123) (XT.ii_le_f (by decide)) ?_
            show Goes p e below _ (Tt80.setTop (mkF m 126 #[.val (.int p0), .val (.int p1), .val (.int p2), .val (.int (4 : Int32)), .val (.int b0), .val (.int b1), .val (.int b2), .val (.int b3), .val (.ref ob72), .unset, .unset, .unset, .unset, .unset, .unset, .unset, .unset, .unset, .unset, .unset] []))
            refine gAload Xt80 hx (hb hby at_126) rfl rfl ?_
            refine gIconst Xt80 hx (hb hby at_128) (v := (3 : Int32)) rfl ?_
            refine gIload Xt80 hx (hb hby at_129) rfl ?_
            refine goZastore Xt80 hx hZ et80 Y_ob72 (hb hby at_131) (by decide) rfl (fun Tt83 ht83 Xt83 et83 Wt83 => ?_)
            have N84 := Fr.snoc Xt83 N81 fr_ob72
            replace Y_ob72 : Ary Z ht83 ob72 .boolean [(.int b0), (.int b1), (.int b2), (.int b3)] := Y_ob72.set Wt83 (by rw [nb3]; rfl)
            have O85 : Ext Z.heap ht83 := extW O82 Wt83 fr_ob72
            show Goes p e below _ (Tt83.setTop (mkF m 132 #[.val (.int p0), .val (.int p1), .val (.int p2), .val (.int (4 : Int32)), .val (.int b0), .val (.int b1), .val (.int b2), .val (.int b3), .val (.ref ob72), .unset, .unset, .unset, .unset, .unset, .unset, .unset, .unset, .unset, .unset, .unset] []))
            obtain ⟨Tt86, ht86, Xt86, et86, Et86, At86, Dt86, -, stt86⟩ := newO Xt83 hx hZ hown (hw _ (List.mem_of_getElem? (i := 1) rfl)) (hw _ (List.mem_of_getElem? (i := 2) rfl)) (hw _ (List.mem_of_getElem? (i := 3) rfl)) et83 (g := (mkF m 132 #[.val (.int p0), .val (.int p1), .val (.int p2), .val (.int (4 : Int32)), .val (.int b0), .val (.int b1), .val (.int b2), .val (.int b3), .val (.ref ob72), .unset, .unset, .unset, .unset, .unset, .unset, .unset, .unset, .unset, .unset, .unset] [])) rfl (hb hby at_132) (by decide) (by decide)
            obtain ⟨ob87, gob87⟩ : ∃ z, z = ht83.size := ⟨_, rfl⟩
            rw [← gob87] at At86 Dt86 stt86
            refine go stt86 ?_
            have ne_ob72_ob87 : ob72 ≠ ob87 := Nat.ne_of_lt (gob87 ▸ Y_ob72.lt)
            have fr_ob87 : Z.heap.size ≤ ob87 := gob87 ▸ O85.1
            replace Y_ob72 := Y_ob72.ext Et86
            have O88 : Ext Z.heap ht86 := extT O85 Et86
            have F_relevantWithin_ob87 : Fld Z ht86 ob87 "com/example/almaden/almaden/eval/JudgedRanking" "relevantWithin" "[I" .null := Dt86 (Or.inr (hw _ (List.mem_of_getElem? (i := 12) rfl))) (ty := (.array .int)) (by decide)
            have F_relevant_ob87 : Fld Z ht86 ob87 "com/example/almaden/almaden/eval/JudgedRanking" "relevant" "I" (.int (0 : Int32)) := Dt86 (Or.inr (hw _ (List.mem_of_getElem? (i := 14) rfl))) (ty := .int) (by decide)
            show Goes p e below _ (Tt86.setTop (mkF m 135 #[.val (.int p0), .val (.int p1), .val (.int p2), .val (.int (4 : Int32)), .val (.int b0), .val (.int b1), .val (.int b2), .val (.int b3), .val (.ref ob72), .unset, .unset, .unset, .unset, .unset, .unset, .unset, .unset, .unset, .unset, .unset] [(.ref ob87)]))
            refine gDup Xt86 hx (hb hby at_135) rfl ?_
            refine gAload Xt86 hx (hb hby at_136) rfl rfl ?_
            refine gIloadN Xt86 hx (hb hby at_138) rfl ?_
            have lt_ob72_t89 := Y_ob72.lt
            have lt_ob87_t89 := At86.lt
            refine goCallI Xt86 hx hZ rfl hown (hw _ (List.mem_of_getElem? (i := 4) rfl)) (hw _ (List.mem_of_getElem? (i := 5) rfl)) (hw _ (List.mem_of_getElem? (i := 3) rfl)) (hw _ (List.mem_of_getElem? (i := 6) rfl)) (by decide) (rmI4 l Z a0 hw b0 b1 b2 b3 ob87 ob72 p2 ht86 O88 At86 F_relevantWithin_ob87 F_relevant_ob87 Y_ob72 (Ne.symm ne_ob72_ob87) fr_ob87 hb0 hb1 hb2 hb3) 1 (by decide) (by decide) et86 (hsz rfl) ob87 [(.ref ob72), (.int p2)] [(.ref ob87)] pd_2 rfl rfl rfl (Nat.le_of_eq rfl) (hb hby at_139) (by decide) (by decide) (fun Tt89 vt89 Lt89 Xt89 qt89 => ?_)
            obtain ⟨ht89, et89⟩ : ∃ z, Tt89.heap = z := ⟨_, rfl⟩
            rw [et89] at qt89
            obtain ⟨rfl, N90, Kct89, u, pu, G1, G2, Yu⟩ := qt89
            have N91 := Fr.app N84 N90
            replace Y_ob72 := Y_ob72.keep Kct89 (ninS ne_ob72_ob87 nin0)
            replace At86 := At86.keep Kct89
            have O92 : Ext Z.heap ht89 := extK O88 Kct89 (allS fr_ob87 all0)
            have ne_ob72_u : ob72 ≠ u := Nat.ne_of_lt (Nat.lt_of_lt_of_le lt_ob72_t89 pu)
            have ne_ob87_u : ob87 ≠ u := Nat.ne_of_lt (Nat.lt_of_lt_of_le lt_ob87_t89 pu)
            have fr_u : Z.heap.size ≤ u := Nat.le_trans O88.1 pu
            show Goes p e below _ (Tt89.setTop (mkF m 142 #[.val (.int p0), .val (.int p1), .val (.int p2), .val (.int (4 : Int32)), .val (.int b0), .val (.int b1), .val (.int b2), .val (.int b3), .val (.ref ob72), .unset, .unset, .unset, .unset, .unset, .unset, .unset, .unset, .unset, .unset, .unset] [(.ref ob87)]))
            refine gAstore Xt89 hx (hb hby at_142) rfl (l' := #[.val (.int p0), .val (.int p1), .val (.int p2), .val (.int (4 : Int32)), .val (.int b0), .val (.int b1), .val (.int b2), .val (.int b3), .val (.ref ob72), .val (.ref ob87), .unset, .unset, .unset, .unset, .unset, .unset, .unset, .unset, .unset, .unset]) rfl ?_
            refine gAload Xt89 hx (hb hby at_144) rfl rfl ?_
            refine goCallV Xt89 hx hZ hown (hw _ (List.mem_of_getElem? (i := 15) rfl)) (hw _ (List.mem_of_getElem? (i := 16) rfl)) (hw _ (List.mem_of_getElem? (i := 18) rfl)) (hw _ (List.mem_of_getElem? (i := 17) rfl)) (hw _ (List.mem_of_getElem? (i := 3) rfl)) (hw _ (List.mem_of_getElem? (i := 19) rfl)) (by decide) (rmA4 l Z a0 hw u p2 b0 b1 b2 b3 ob87 ht89 O92 At86 G1 G2 Yu hb0 hb1 hb2 hb3) 0 (by decide) (by decide) et89 At86 (hsz rfl) [] [] pd_3 rfl rfl rfl (Nat.le_of_eq rfl) (hb hby at_146) (by decide) (by decide) (fun Tt93 vt93 Lt93 Xt93 qt93 => ?_)
            obtain ⟨rfl, N94, et93⟩ := qt93
            have N95 := Fr.app N91 N94
            show Goes p e below _ (Tt93.setTop (mkF m 149 #[.val (.int p0), .val (.int p1), .val (.int p2), .val (.int (4 : Int32)), .val (.int b0), .val (.int b1), .val (.int b2), .val (.int b3), .val (.ref ob72), .val (.ref ob87), .unset, .unset, .unset, .unset, .unset, .unset, .unset, .unset, .unset, .unset] [(.double (own_rt (own_st (own_st (own_st (own_st FP.dconst0 (0 : Int32) ((0 : Int32) + b0) (1 : Int32)) ((0 : Int32) + b0) (((0 : Int32) + b0) + b1) (2 : Int32)) (((0 : Int32) + b0) + b1) ((((0 : Int32) + b0) + b1) + b2) (3 : Int32)) ((((0 : Int32) + b0) + b1) + b2) (((((0 : Int32) + b0) + b1) + b2) + b3) (4 : Int32)) p2))]))
            refine gDstore Xt93 hx (hb hby at_149) (l' := #[.val (.int p0), .val (.int p1), .val (.int p2), .val (.int (4 : Int32)), .val (.int b0), .val (.int b1), .val (.int b2), .val (.int b3), .val (.ref ob72), .val (.ref ob87), .val (.double (own_rt (own_st (own_st (own_st (own_st FP.dconst0 (0 : Int32) ((0 : Int32) + b0) (1 : Int32)) ((0 : Int32) + b0) (((0 : Int32) + b0) + b1) (2 : Int32)) (((0 : Int32) + b0) + b1) ((((0 : Int32) + b0) + b1) + b2) (3 : Int32)) ((((0 : Int32) + b0) + b1) + b2) (((((0 : Int32) + b0) + b1) + b2) + b3) (4 : Int32)) p2)), .second, .unset, .unset, .unset, .unset, .unset, .unset, .unset, .unset]) rfl ?_
            refine gIload Xt93 hx (hb hby at_151) rfl ?_
            have C0 : ∀ (z0_ : Int32), b0 = z0_ → Goes p e below (EndN s (fun v h L => v = some (.int 1) ∧ Fr Z.heap.size L) room_1.cells room_1.slots) (Tt93.setTop (mkF m 161 #[.val (.int p0), .val (.int p1), .val (.int p2), .val (.int (4 : Int32)), .val (.int b0), .val (.int b1), .val (.int b2), .val (.int b3), .val (.ref ob72), .val (.ref ob87), .val (.double (own_rt (own_st (own_st (own_st (own_st FP.dconst0 (0 : Int32) ((0 : Int32) + b0) (1 : Int32)) ((0 : Int32) + b0) (((0 : Int32) + b0) + b1) (2 : Int32)) (((0 : Int32) + b0) + b1) ((((0 : Int32) + b0) + b1) + b2) (3 : Int32)) ((((0 : Int32) + b0) + b1) + b2) (((((0 : Int32) + b0) + b1) + b2) + b3) (4 : Int32)) p2)), .second, .unset, .unset, .unset, .unset, .unset, .unset, .unset, .unset] [(.int z0_)])) := by
              intro z0_ hz
              subst hz
              show Goes p e below _ (Tt93.setTop (mkF m 161 #[.val (.int p0), .val (.int p1), .val (.int p2), .val (.int (4 : Int32)), .val (.int b0), .val (.int b1), .val (.int b2), .val (.int b3), .val (.ref ob72), .val (.ref ob87), .val (.double (own_rt (own_st (own_st (own_st (own_st FP.dconst0 (0 : Int32) ((0 : Int32) + b0) (1 : Int32)) ((0 : Int32) + b0) (((0 : Int32) + b0) + b1) (2 : Int32)) (((0 : Int32) + b0) + b1) ((((0 : Int32) + b0) + b1) + b2) (3 : Int32)) ((((0 : Int32) + b0) + b1) + b2) (((((0 : Int32) + b0) + b1) + b2) + b3) (4 : Int32)) p2)), .second, .unset, .unset, .unset, .unset, .unset, .unset, .unset, .unset] [(.int b0)]))
              refine gIstore Xt93 hx (hb hby at_161) (l' := #[.val (.int p0), .val (.int p1), .val (.int p2), .val (.int (4 : Int32)), .val (.int b0), .val (.int b1), .val (.int b2), .val (.int b3), .val (.ref ob72), .val (.ref ob87), .val (.double (own_rt (own_st (own_st (own_st (own_st FP.dconst0 (0 : Int32) ((0 : Int32) + b0) (1 : Int32)) ((0 : Int32) + b0) (((0 : Int32) + b0) + b1) (2 : Int32)) (((0 : Int32) + b0) + b1) ((((0 : Int32) + b0) + b1) + b2) (3 : Int32)) ((((0 : Int32) + b0) + b1) + b2) (((((0 : Int32) + b0) + b1) + b2) + b3) (4 : Int32)) p2)), .second, .val (.int b0), .unset, .unset, .unset, .unset, .unset, .unset, .unset]) rfl ?_
              refine gIload Xt93 hx (hb hby at_163) rfl ?_
              refine gIload Xt93 hx (hb hby at_165) rfl ?_
              have C1 : ∀ (z1_ : Int32), b1 = z1_ → Goes p e below (EndN s (fun v h L => v = some (.int 1) ∧ Fr Z.heap.size L) room_1.cells room_1.slots) (Tt93.setTop (mkF m 175 #[.val (.int p0), .val (.int p1), .val (.int p2), .val (.int (4 : Int32)), .val (.int b0), .val (.int b1), .val (.int b2), .val (.int b3), .val (.ref ob72), .val (.ref ob87), .val (.double (own_rt (own_st (own_st (own_st (own_st FP.dconst0 (0 : Int32) ((0 : Int32) + b0) (1 : Int32)) ((0 : Int32) + b0) (((0 : Int32) + b0) + b1) (2 : Int32)) (((0 : Int32) + b0) + b1) ((((0 : Int32) + b0) + b1) + b2) (3 : Int32)) ((((0 : Int32) + b0) + b1) + b2) (((((0 : Int32) + b0) + b1) + b2) + b3) (4 : Int32)) p2)), .second, .val (.int b0), .unset, .unset, .unset, .unset, .unset, .unset, .unset] [(.int z1_), (.int b0)])) := by
                intro z1_ hz
                subst hz
                show Goes p e below _ (Tt93.setTop (mkF m 175 #[.val (.int p0), .val (.int p1), .val (.int p2), .val (.int (4 : Int32)), .val (.int b0), .val (.int b1), .val (.int b2), .val (.int b3), .val (.ref ob72), .val (.ref ob87), .val (.double (own_rt (own_st (own_st (own_st (own_st FP.dconst0 (0 : Int32) ((0 : Int32) + b0) (1 : Int32)) ((0 : Int32) + b0) (((0 : Int32) + b0) + b1) (2 : Int32)) (((0 : Int32) + b0) + b1) ((((0 : Int32) + b0) + b1) + b2) (3 : Int32)) ((((0 : Int32) + b0) + b1) + b2) (((((0 : Int32) + b0) + b1) + b2) + b3) (4 : Int32)) p2)), .second, .val (.int b0), .unset, .unset, .unset, .unset, .unset, .unset, .unset] [(.int b1), (.int b0)]))
                refine gIadd Xt93 hx (hb hby at_175) ?_
                refine gIstore Xt93 hx (hb hby at_176) (l' := #[.val (.int p0), .val (.int p1), .val (.int p2), .val (.int (4 : Int32)), .val (.int b0), .val (.int b1), .val (.int b2), .val (.int b3), .val (.ref ob72), .val (.ref ob87), .val (.double (own_rt (own_st (own_st (own_st (own_st FP.dconst0 (0 : Int32) ((0 : Int32) + b0) (1 : Int32)) ((0 : Int32) + b0) (((0 : Int32) + b0) + b1) (2 : Int32)) (((0 : Int32) + b0) + b1) ((((0 : Int32) + b0) + b1) + b2) (3 : Int32)) ((((0 : Int32) + b0) + b1) + b2) (((((0 : Int32) + b0) + b1) + b2) + b3) (4 : Int32)) p2)), .second, .val (.int b0), .val (.int (b0 + b1)), .unset, .unset, .unset, .unset, .unset, .unset]) rfl ?_
                refine gIload Xt93 hx (hb hby at_178) rfl ?_
                refine gIload Xt93 hx (hb hby at_180) rfl ?_
                have C2 : ∀ (z2_ : Int32), b2 = z2_ → Goes p e below (EndN s (fun v h L => v = some (.int 1) ∧ Fr Z.heap.size L) room_1.cells room_1.slots) (Tt93.setTop (mkF m 190 #[.val (.int p0), .val (.int p1), .val (.int p2), .val (.int (4 : Int32)), .val (.int b0), .val (.int b1), .val (.int b2), .val (.int b3), .val (.ref ob72), .val (.ref ob87), .val (.double (own_rt (own_st (own_st (own_st (own_st FP.dconst0 (0 : Int32) ((0 : Int32) + b0) (1 : Int32)) ((0 : Int32) + b0) (((0 : Int32) + b0) + b1) (2 : Int32)) (((0 : Int32) + b0) + b1) ((((0 : Int32) + b0) + b1) + b2) (3 : Int32)) ((((0 : Int32) + b0) + b1) + b2) (((((0 : Int32) + b0) + b1) + b2) + b3) (4 : Int32)) p2)), .second, .val (.int b0), .val (.int (b0 + b1)), .unset, .unset, .unset, .unset, .unset, .unset] [(.int z2_), (.int (b0 + b1))])) := by
                  intro z2_ hz
                  subst hz
                  show Goes p e below _ (Tt93.setTop (mkF m 190 #[.val (.int p0), .val (.int p1), .val (.int p2), .val (.int (4 : Int32)), .val (.int b0), .val (.int b1), .val (.int b2), .val (.int b3), .val (.ref ob72), .val (.ref ob87), .val (.double (own_rt (own_st (own_st (own_st (own_st FP.dconst0 (0 : Int32) ((0 : Int32) + b0) (1 : Int32)) ((0 : Int32) + b0) (((0 : Int32) + b0) + b1) (2 : Int32)) (((0 : Int32) + b0) + b1) ((((0 : Int32) + b0) + b1) + b2) (3 : Int32)) ((((0 : Int32) + b0) + b1) + b2) (((((0 : Int32) + b0) + b1) + b2) + b3) (4 : Int32)) p2)), .second, .val (.int b0), .val (.int (b0 + b1)), .unset, .unset, .unset, .unset, .unset, .unset] [(.int b2), (.int (b0 + b1))]))
                  refine gIadd Xt93 hx (hb hby at_190) ?_
                  refine gIstore Xt93 hx (hb hby at_191) (l' := #[.val (.int p0), .val (.int p1), .val (.int p2), .val (.int (4 : Int32)), .val (.int b0), .val (.int b1), .val (.int b2), .val (.int b3), .val (.ref ob72), .val (.ref ob87), .val (.double (own_rt (own_st (own_st (own_st (own_st FP.dconst0 (0 : Int32) ((0 : Int32) + b0) (1 : Int32)) ((0 : Int32) + b0) (((0 : Int32) + b0) + b1) (2 : Int32)) (((0 : Int32) + b0) + b1) ((((0 : Int32) + b0) + b1) + b2) (3 : Int32)) ((((0 : Int32) + b0) + b1) + b2) (((((0 : Int32) + b0) + b1) + b2) + b3) (4 : Int32)) p2)), .second, .val (.int b0), .val (.int (b0 + b1)), .val (.int ((b0 + b1) + b2)), .unset, .unset, .unset, .unset, .unset]) rfl ?_
                  refine gIload Xt93 hx (hb hby at_193) rfl ?_
                  refine gIload Xt93 hx (hb hby at_195) rfl ?_
                  have C3 : ∀ (z3_ : Int32), b3 = z3_ → Goes p e below (EndN s (fun v h L => v = some (.int 1) ∧ Fr Z.heap.size L) room_1.cells room_1.slots) (Tt93.setTop (mkF m 205 #[.val (.int p0), .val (.int p1), .val (.int p2), .val (.int (4 : Int32)), .val (.int b0), .val (.int b1), .val (.int b2), .val (.int b3), .val (.ref ob72), .val (.ref ob87), .val (.double (own_rt (own_st (own_st (own_st (own_st FP.dconst0 (0 : Int32) ((0 : Int32) + b0) (1 : Int32)) ((0 : Int32) + b0) (((0 : Int32) + b0) + b1) (2 : Int32)) (((0 : Int32) + b0) + b1) ((((0 : Int32) + b0) + b1) + b2) (3 : Int32)) ((((0 : Int32) + b0) + b1) + b2) (((((0 : Int32) + b0) + b1) + b2) + b3) (4 : Int32)) p2)), .second, .val (.int b0), .val (.int (b0 + b1)), .val (.int ((b0 + b1) + b2)), .unset, .unset, .unset, .unset, .unset] [(.int z3_), (.int ((b0 + b1) + b2))])) := by
                    intro z3_ hz
                    subst hz
                    show Goes p e below _ (Tt93.setTop (mkF m 205 #[.val (.int p0), .val (.int p1), .val (.int p2), .val (.int (4 : Int32)), .val (.int b0), .val (.int b1), .val (.int b2), .val (.int b3), .val (.ref ob72), .val (.ref ob87), .val (.double (own_rt (own_st (own_st (own_st (own_st FP.dconst0 (0 : Int32) ((0 : Int32) + b0) (1 : Int32)) ((0 : Int32) + b0) (((0 : Int32) + b0) + b1) (2 : Int32)) (((0 : Int32) + b0) + b1) ((((0 : Int32) + b0) + b1) + b2) (3 : Int32)) ((((0 : Int32) + b0) + b1) + b2) (((((0 : Int32) + b0) + b1) + b2) + b3) (4 : Int32)) p2)), .second, .val (.int b0), .val (.int (b0 + b1)), .val (.int ((b0 + b1) + b2)), .unset, .unset, .unset, .unset, .unset] [(.int b3), (.int ((b0 + b1) + b2))]))
                    refine gIadd Xt93 hx (hb hby at_205) ?_
                    refine gIstore Xt93 hx (hb hby at_206) (l' := #[.val (.int p0), .val (.int p1), .val (.int p2), .val (.int (4 : Int32)), .val (.int b0), .val (.int b1), .val (.int b2), .val (.int b3), .val (.ref ob72), .val (.ref ob87), .val (.double (own_rt (own_st (own_st (own_st (own_st FP.dconst0 (0 : Int32) ((0 : Int32) + b0) (1 : Int32)) ((0 : Int32) + b0) (((0 : Int32) + b0) + b1) (2 : Int32)) (((0 : Int32) + b0) + b1) ((((0 : Int32) + b0) + b1) + b2) (3 : Int32)) ((((0 : Int32) + b0) + b1) + b2) (((((0 : Int32) + b0) + b1) + b2) + b3) (4 : Int32)) p2)), .second, .val (.int b0), .val (.int (b0 + b1)), .val (.int ((b0 + b1) + b2)), .val (.int (((b0 + b1) + b2) + b3)), .unset, .unset, .unset, .unset]) rfl ?_
                    refine gDconst0 Xt93 hx (hb hby at_208) ?_
                    refine gDstore Xt93 hx (hb hby at_209) (l' := #[.val (.int p0), .val (.int p1), .val (.int p2), .val (.int (4 : Int32)), .val (.int b0), .val (.int b1), .val (.int b2), .val (.int b3), .val (.ref ob72), .val (.ref ob87), .val (.double (own_rt (own_st (own_st (own_st (own_st FP.dconst0 (0 : Int32) ((0 : Int32) + b0) (1 : Int32)) ((0 : Int32) + b0) (((0 : Int32) + b0) + b1) (2 : Int32)) (((0 : Int32) + b0) + b1) ((((0 : Int32) + b0) + b1) + b2) (3 : Int32)) ((((0 : Int32) + b0) + b1) + b2) (((((0 : Int32) + b0) + b1) + b2) + b3) (4 : Int32)) p2)), .second, .val (.int b0), .val (.int (b0 + b1)), .val (.int ((b0 + b1) + b2)), .val (.int (((b0 + b1) + b2) + b3)), .val (.double FP.dconst0), .second, .unset, .unset]) rfl ?_
                    refine gIload Xt93 hx (hb hby at_211) rfl ?_
                    have M0 : ∀ (s0_ : UInt64), s0_ = (own_ls FP.dconst0 b0 b0 FP.dconst1) → Goes p e below (EndN s (fun v h L => v = some (.int 1) ∧ Fr Z.heap.size L) room_1.cells room_1.slots) (Tt93.setTop (mkF m 226 #[.val (.int p0), .val (.int p1), .val (.int p2), .val (.int (4 : Int32)), .val (.int b0), .val (.int b1), .val (.int b2), .val (.int b3), .val (.ref ob72), .val (.ref ob87), .val (.double (own_rt (own_st (own_st (own_st (own_st FP.dconst0 (0 : Int32) ((0 : Int32) + b0) (1 : Int32)) ((0 : Int32) + b0) (((0 : Int32) + b0) + b1) (2 : Int32)) (((0 : Int32) + b0) + b1) ((((0 : Int32) + b0) + b1) + b2) (3 : Int32)) ((((0 : Int32) + b0) + b1) + b2) (((((0 : Int32) + b0) + b1) + b2) + b3) (4 : Int32)) p2)), .second, .val (.int b0), .val (.int (b0 + b1)), .val (.int ((b0 + b1) + b2)), .val (.int (((b0 + b1) + b2) + b3)), .val (.double s0_), .second, .unset, .unset] [])) := by
                      intro s0_ hz
                      subst hz
                      show Goes p e below _ (Tt93.setTop (mkF m 226 #[.val (.int p0), .val (.int p1), .val (.int p2), .val (.int (4 : Int32)), .val (.int b0), .val (.int b1), .val (.int b2), .val (.int b3), .val (.ref ob72), .val (.ref ob87), .val (.double (own_rt (own_st (own_st (own_st (own_st FP.dconst0 (0 : Int32) ((0 : Int32) + b0) (1 : Int32)) ((0 : Int32) + b0) (((0 : Int32) + b0) + b1) (2 : Int32)) (((0 : Int32) + b0) + b1) ((((0 : Int32) + b0) + b1) + b2) (3 : Int32)) ((((0 : Int32) + b0) + b1) + b2) (((((0 : Int32) + b0) + b1) + b2) + b3) (4 : Int32)) p2)), .second, .val (.int b0), .val (.int (b0 + b1)), .val (.int ((b0 + b1) + b2)), .val (.int (((b0 + b1) + b2) + b3)), .val (.double (own_ls FP.dconst0 b0 b0 FP.dconst1)), .second, .unset, .unset] []))
                      refine gIload Xt93 hx (hb hby at_226) rfl ?_
                      have M1 : ∀ (s1_ : UInt64), s1_ = (own_ls (own_ls FP.dconst0 b0 b0 FP.dconst1) b1 (b0 + b1) (4611686018427387904 : UInt64)) → Goes p e below (EndN s (fun v h L => v = some (.int 1) ∧ Fr Z.heap.size L) room_1.cells room_1.slots) (Tt93.setTop (mkF m 243 #[.val (.int p0), .val (.int p1), .val (.int p2), .val (.int (4 : Int32)), .val (.int b0), .val (.int b1), .val (.int b2), .val (.int b3), .val (.ref ob72), .val (.ref ob87), .val (.double (own_rt (own_st (own_st (own_st (own_st FP.dconst0 (0 : Int32) ((0 : Int32) + b0) (1 : Int32)) ((0 : Int32) + b0) (((0 : Int32) + b0) + b1) (2 : Int32)) (((0 : Int32) + b0) + b1) ((((0 : Int32) + b0) + b1) + b2) (3 : Int32)) ((((0 : Int32) + b0) + b1) + b2) (((((0 : Int32) + b0) + b1) + b2) + b3) (4 : Int32)) p2)), .second, .val (.int b0), .val (.int (b0 + b1)), .val (.int ((b0 + b1) + b2)), .val (.int (((b0 + b1) + b2) + b3)), .val (.double s1_), .second, .unset, .unset] [])) := by
                        intro s1_ hz
                        subst hz
                        show Goes p e below _ (Tt93.setTop (mkF m 243 #[.val (.int p0), .val (.int p1), .val (.int p2), .val (.int (4 : Int32)), .val (.int b0), .val (.int b1), .val (.int b2), .val (.int b3), .val (.ref ob72), .val (.ref ob87), .val (.double (own_rt (own_st (own_st (own_st (own_st FP.dconst0 (0 : Int32) ((0 : Int32) + b0) (1 : Int32)) ((0 : Int32) + b0) (((0 : Int32) + b0) + b1) (2 : Int32)) (((0 : Int32) + b0) + b1) ((((0 : Int32) + b0) + b1) + b2) (3 : Int32)) ((((0 : Int32) + b0) + b1) + b2) (((((0 : Int32) + b0) + b1) + b2) + b3) (4 : Int32)) p2)), .second, .val (.int b0), .val (.int (b0 + b1)), .val (.int ((b0 + b1) + b2)), .val (.int (((b0 + b1) + b2) + b3)), .val (.double (own_ls (own_ls FP.dconst0 b0 b0 FP.dconst1) b1 (b0 + b1) (4611686018427387904 : UInt64))), .second, .unset, .unset] []))
                        refine gIload Xt93 hx (hb hby at_243) rfl ?_
                        have M2 : ∀ (s2_ : UInt64), s2_ = (own_ls (own_ls (own_ls FP.dconst0 b0 b0 FP.dconst1) b1 (b0 + b1) (4611686018427387904 : UInt64)) b2 ((b0 + b1) + b2) (4613937818241073152 : UInt64)) → Goes p e below (EndN s (fun v h L => v = some (.int 1) ∧ Fr Z.heap.size L) room_1.cells room_1.slots) (Tt93.setTop (mkF m 260 #[.val (.int p0), .val (.int p1), .val (.int p2), .val (.int (4 : Int32)), .val (.int b0), .val (.int b1), .val (.int b2), .val (.int b3), .val (.ref ob72), .val (.ref ob87), .val (.double (own_rt (own_st (own_st (own_st (own_st FP.dconst0 (0 : Int32) ((0 : Int32) + b0) (1 : Int32)) ((0 : Int32) + b0) (((0 : Int32) + b0) + b1) (2 : Int32)) (((0 : Int32) + b0) + b1) ((((0 : Int32) + b0) + b1) + b2) (3 : Int32)) ((((0 : Int32) + b0) + b1) + b2) (((((0 : Int32) + b0) + b1) + b2) + b3) (4 : Int32)) p2)), .second, .val (.int b0), .val (.int (b0 + b1)), .val (.int ((b0 + b1) + b2)), .val (.int (((b0 + b1) + b2) + b3)), .val (.double s2_), .second, .unset, .unset] [])) := by
                          intro s2_ hz
                          subst hz
                          show Goes p e below _ (Tt93.setTop (mkF m 260 #[.val (.int p0), .val (.int p1), .val (.int p2), .val (.int (4 : Int32)), .val (.int b0), .val (.int b1), .val (.int b2), .val (.int b3), .val (.ref ob72), .val (.ref ob87), .val (.double (own_rt (own_st (own_st (own_st (own_st FP.dconst0 (0 : Int32) ((0 : Int32) + b0) (1 : Int32)) ((0 : Int32) + b0) (((0 : Int32) + b0) + b1) (2 : Int32)) (((0 : Int32) + b0) + b1) ((((0 : Int32) + b0) + b1) + b2) (3 : Int32)) ((((0 : Int32) + b0) + b1) + b2) (((((0 : Int32) + b0) + b1) + b2) + b3) (4 : Int32)) p2)), .second, .val (.int b0), .val (.int (b0 + b1)), .val (.int ((b0 + b1) + b2)), .val (.int (((b0 + b1) + b2) + b3)), .val (.double (own_ls (own_ls (own_ls FP.dconst0 b0 b0 FP.dconst1) b1 (b0 + b1) (4611686018427387904 : UInt64)) b2 ((b0 + b1) + b2) (4613937818241073152 : UInt64))), .second, .unset, .unset] []))
                          refine gIload Xt93 hx (hb hby at_260) rfl ?_
                          have M3 : ∀ (s3_ : UInt64), s3_ = (own_ls (own_ls (own_ls (own_ls FP.dconst0 b0 b0 FP.dconst1) b1 (b0 + b1) (4611686018427387904 : UInt64)) b2 ((b0 + b1) + b2) (4613937818241073152 : UInt64)) b3 (((b0 + b1) + b2) + b3) (4616189618054758400 : UInt64)) → Goes p e below (EndN s (fun v h L => v = some (.int 1) ∧ Fr Z.heap.size L) room_1.cells room_1.slots) (Tt93.setTop (mkF m 277 #[.val (.int p0), .val (.int p1), .val (.int p2), .val (.int (4 : Int32)), .val (.int b0), .val (.int b1), .val (.int b2), .val (.int b3), .val (.ref ob72), .val (.ref ob87), .val (.double (own_rt (own_st (own_st (own_st (own_st FP.dconst0 (0 : Int32) ((0 : Int32) + b0) (1 : Int32)) ((0 : Int32) + b0) (((0 : Int32) + b0) + b1) (2 : Int32)) (((0 : Int32) + b0) + b1) ((((0 : Int32) + b0) + b1) + b2) (3 : Int32)) ((((0 : Int32) + b0) + b1) + b2) (((((0 : Int32) + b0) + b1) + b2) + b3) (4 : Int32)) p2)), .second, .val (.int b0), .val (.int (b0 + b1)), .val (.int ((b0 + b1) + b2)), .val (.int (((b0 + b1) + b2) + b3)), .val (.double s3_), .second, .unset, .unset] [])) := by
                            intro s3_ hz
                            subst hz
                            show Goes p e below _ (Tt93.setTop (mkF m 277 #[.val (.int p0), .val (.int p1), .val (.int p2), .val (.int (4 : Int32)), .val (.int b0), .val (.int b1), .val (.int b2), .val (.int b3), .val (.ref ob72), .val (.ref ob87), .val (.double (own_rt (own_st (own_st (own_st (own_st FP.dconst0 (0 : Int32) ((0 : Int32) + b0) (1 : Int32)) ((0 : Int32) + b0) (((0 : Int32) + b0) + b1) (2 : Int32)) (((0 : Int32) + b0) + b1) ((((0 : Int32) + b0) + b1) + b2) (3 : Int32)) ((((0 : Int32) + b0) + b1) + b2) (((((0 : Int32) + b0) + b1) + b2) + b3) (4 : Int32)) p2)), .second, .val (.int b0), .val (.int (b0 + b1)), .val (.int ((b0 + b1) + b2)), .val (.int (((b0 + b1) + b2) + b3)), .val (.double (own_ls (own_ls (own_ls (own_ls FP.dconst0 b0 b0 FP.dconst1) b1 (b0 + b1) (4611686018427387904 : UInt64)) b2 ((b0 + b1) + b2) (4613937818241073152 : UInt64)) b3 (((b0 + b1) + b2) + b3) (4616189618054758400 : UInt64))), .second, .unset, .unset] []))
                            refine gIloadN Xt93 hx (hb hby at_277) rfl ?_
                            have same := own_same4 b0 b1 b2 b3 hb0 hb1 hb2 hb3
                            have ns := own_ns4 b0 b1 b2 b3 hb0 hb1 hb2 hb3
                            by_cases g : 0 < p2
                            · refine gIfN Xt93 hx (hb hby at_278) (XT.i0_le_f g) ?_
                              show Goes p e below _ (Tt93.setTop (mkF m 281 #[.val (.int p0), .val (.int p1), .val (.int p2), .val (.int (4 : Int32)), .val (.int b0), .val (.int b1), .val (.int b2), .val (.int b3), .val (.ref ob72), .val (.ref ob87), .val (.double (own_rt (own_st (own_st (own_st (own_st FP.dconst0 (0 : Int32) ((0 : Int32) + b0) (1 : Int32)) ((0 : Int32) + b0) (((0 : Int32) + b0) + b1) (2 : Int32)) (((0 : Int32) + b0) + b1) ((((0 : Int32) + b0) + b1) + b2) (3 : Int32)) ((((0 : Int32) + b0) + b1) + b2) (((((0 : Int32) + b0) + b1) + b2) + b3) (4 : Int32)) p2)), .second, .val (.int b0), .val (.int (b0 + b1)), .val (.int ((b0 + b1) + b2)), .val (.int (((b0 + b1) + b2) + b3)), .val (.double (own_ls (own_ls (own_ls (own_ls FP.dconst0 b0 b0 FP.dconst1) b1 (b0 + b1) (4611686018427387904 : UInt64)) b2 ((b0 + b1) + b2) (4613937818241073152 : UInt64)) b3 (((b0 + b1) + b2) + b3) (4616189618054758400 : UInt64))), .second, .unset, .unset] []))
                              refine gDload Xt93 hx (hb hby at_281) rfl ?_
                              refine gIloadN Xt93 hx (hb hby at_283) rfl ?_
                              refine gI2d Xt93 hx (hb hby at_284) ?_
                              refine gDdiv Xt93 hx (hb hby at_285) (own_div (same ▸ ns) g) ?_
                              refine gGoto Xt93 hx (hb hby at_286) (pc' := 290) (by decide) (by decide) ?_
                              show Goes p e below _ (Tt93.setTop (mkF m 290 #[.val (.int p0), .val (.int p1), .val (.int p2), .val (.int (4 : Int32)), .val (.int b0), .val (.int b1), .val (.int b2), .val (.int b3), .val (.ref ob72), .val (.ref ob87), .val (.double (own_rt (own_st (own_st (own_st (own_st FP.dconst0 (0 : Int32) ((0 : Int32) + b0) (1 : Int32)) ((0 : Int32) + b0) (((0 : Int32) + b0) + b1) (2 : Int32)) (((0 : Int32) + b0) + b1) ((((0 : Int32) + b0) + b1) + b2) (3 : Int32)) ((((0 : Int32) + b0) + b1) + b2) (((((0 : Int32) + b0) + b1) + b2) + b3) (4 : Int32)) p2)), .second, .val (.int b0), .val (.int (b0 + b1)), .val (.int ((b0 + b1) + b2)), .val (.int (((b0 + b1) + b2) + b3)), .val (.double (own_ls (own_ls (own_ls (own_ls FP.dconst0 b0 b0 FP.dconst1) b1 (b0 + b1) (4611686018427387904 : UInt64)) b2 ((b0 + b1) + b2) (4613937818241073152 : UInt64)) b3 (((b0 + b1) + b2) + b3) (4616189618054758400 : UInt64))), .second, .unset, .unset] [(.double (FP.ddiv (own_ls (own_ls (own_ls (own_ls FP.dconst0 b0 b0 FP.dconst1) b1 (b0 + b1) (4611686018427387904 : UInt64)) b2 ((b0 + b1) + b2) (4613937818241073152 : UInt64)) b3 (((b0 + b1) + b2) + b3) (4616189618054758400 : UInt64)) (FP.i2d p2)))]))
                              refine gDstore Xt93 hx (hb hby at_290) (l' := #[.val (.int p0), .val (.int p1), .val (.int p2), .val (.int (4 : Int32)), .val (.int b0), .val (.int b1), .val (.int b2), .val (.int b3), .val (.ref ob72), .val (.ref ob87), .val (.double (own_rt (own_st (own_st (own_st (own_st FP.dconst0 (0 : Int32) ((0 : Int32) + b0) (1 : Int32)) ((0 : Int32) + b0) (((0 : Int32) + b0) + b1) (2 : Int32)) (((0 : Int32) + b0) + b1) ((((0 : Int32) + b0) + b1) + b2) (3 : Int32)) ((((0 : Int32) + b0) + b1) + b2) (((((0 : Int32) + b0) + b1) + b2) + b3) (4 : Int32)) p2)), .second, .val (.int b0), .val (.int (b0 + b1)), .val (.int ((b0 + b1) + b2)), .val (.int (((b0 + b1) + b2) + b3)), .val (.double (own_ls (own_ls (own_ls (own_ls FP.dconst0 b0 b0 FP.dconst1) b1 (b0 + b1) (4611686018427387904 : UInt64)) b2 ((b0 + b1) + b2) (4613937818241073152 : UInt64)) b3 (((b0 + b1) + b2) + b3) (4616189618054758400 : UInt64))), .second, .val (.double (FP.ddiv (own_ls (own_ls (own_ls (own_ls FP.dconst0 b0 b0 FP.dconst1) b1 (b0 + b1) (4611686018427387904 : UInt64)) b2 ((b0 + b1) + b2) (4613937818241073152 : UInt64)) b3 (((b0 + b1) + b2) + b3) (4616189618054758400 : UInt64)) (FP.i2d p2))), .second]) rfl ?_
                              refine gDload Xt93 hx (hb hby at_292) rfl ?_
                              refine gDload Xt93 hx (hb hby at_294) rfl ?_
                              refine gDcmp Xt93 hx (hb hby at_296) ?_
                              refine gIfN Xt93 hx (hb hby at_297) (XT.i0_ne_f (dcmpV_eq (by rw [show own_rt (own_st (own_st (own_st (own_st FP.dconst0 (0 : Int32) ((0 : Int32) + b0) (1 : Int32)) ((0 : Int32) + b0) (((0 : Int32) + b0) + b1) (2 : Int32)) (((0 : Int32) + b0) + b1) ((((0 : Int32) + b0) + b1) + b2) (3 : Int32)) ((((0 : Int32) + b0) + b1) + b2) (((((0 : Int32) + b0) + b1) + b2) + b3) (4 : Int32)) p2 = FP.ddiv (own_st (own_st (own_st (own_st FP.dconst0 (0 : Int32) ((0 : Int32) + b0) (1 : Int32)) ((0 : Int32) + b0) (((0 : Int32) + b0) + b1) (2 : Int32)) (((0 : Int32) + b0) + b1) ((((0 : Int32) + b0) + b1) + b2) (3 : Int32)) ((((0 : Int32) + b0) + b1) + b2) (((((0 : Int32) + b0) + b1) + b2) + b3) (4 : Int32)) (FP.i2d p2) from if_pos g, same]) (own_rtn ns p2) .l)) ?_
                              show Goes p e below _ (Tt93.setTop (mkF m 300 #[.val (.int p0), .val (.int p1), .val (.int p2), .val (.int (4 : Int32)), .val (.int b0), .val (.int b1), .val (.int b2), .val (.int b3), .val (.ref ob72), .val (.ref ob87), .val (.double (own_rt (own_st (own_st (own_st (own_st FP.dconst0 (0 : Int32) ((0 : Int32) + b0) (1 : Int32)) ((0 : Int32) + b0) (((0 : Int32) + b0) + b1) (2 : Int32)) (((0 : Int32) + b0) + b1) ((((0 : Int32) + b0) + b1) + b2) (3 : Int32)) ((((0 : Int32) + b0) + b1) + b2) (((((0 : Int32) + b0) + b1) + b2) + b3) (4 : Int32)) p2)), .second, .val (.int b0), .val (.int (b0 + b1)), .val (.int ((b0 + b1) + b2)), .val (.int (((b0 + b1) + b2) + b3)), .val (.double (own_ls (own_ls (own_ls (own_ls FP.dconst0 b0 b0 FP.dconst1) b1 (b0 + b1) (4611686018427387904 : UInt64)) b2 ((b0 + b1) + b2) (4613937818241073152 : UInt64)) b3 (((b0 + b1) + b2) + b3) (4616189618054758400 : UInt64))), .second, .val (.double (FP.ddiv (own_ls (own_ls (own_ls (own_ls FP.dconst0 b0 b0 FP.dconst1) b1 (b0 + b1) (4611686018427387904 : UInt64)) b2 ((b0 + b1) + b2) (4613937818241073152 : UInt64)) b3 (((b0 + b1) + b2) + b3) (4616189618054758400 : UInt64)) (FP.i2d p2))), .second] []))
                              refine gIconst Xt93 hx (hb hby at_300) (v := (1 : Int32)) rfl ?_
                              refine gGoto Xt93 hx (hb hby at_301) (pc' := 305) (by decide) (by decide) ?_
                              show Goes p e below _ (Tt93.setTop (mkF m 305 #[.val (.int p0), .val (.int p1), .val (.int p2), .val (.int (4 : Int32)), .val (.int b0), .val (.int b1), .val (.int b2), .val (.int b3), .val (.ref ob72), .val (.ref ob87), .val (.double (own_rt (own_st (own_st (own_st (own_st FP.dconst0 (0 : Int32) ((0 : Int32) + b0) (1 : Int32)) ((0 : Int32) + b0) (((0 : Int32) + b0) + b1) (2 : Int32)) (((0 : Int32) + b0) + b1) ((((0 : Int32) + b0) + b1) + b2) (3 : Int32)) ((((0 : Int32) + b0) + b1) + b2) (((((0 : Int32) + b0) + b1) + b2) + b3) (4 : Int32)) p2)), .second, .val (.int b0), .val (.int (b0 + b1)), .val (.int ((b0 + b1) + b2)), .val (.int (((b0 + b1) + b2) + b3)), .val (.double (own_ls (own_ls (own_ls (own_ls FP.dconst0 b0 b0 FP.dconst1) b1 (b0 + b1) (4611686018427387904 : UInt64)) b2 ((b0 + b1) + b2) (4613937818241073152 : UInt64)) b3 (((b0 + b1) + b2) + b3) (4616189618054758400 : UInt64))), .second, .val (.double (FP.ddiv (own_ls (own_ls (own_ls (own_ls FP.dconst0 b0 b0 FP.dconst1) b1 (b0 + b1) (4611686018427387904 : UInt64)) b2 ((b0 + b1) + b2) (4613937818241073152 : UInt64)) b3 (((b0 + b1) + b2) + b3) (4616189618054758400 : UInt64)) (FP.i2d p2))), .second] [(.int (1 : Int32))]))
                              exact goRetN Xt93 hx (t := .boolean) hret hlocks (by simp) (hb hby at_305) (z' := (1 : Int32)) rfl (by decide) (by decide) et93 (⟨rfl, N95⟩)
                            · refine gIfY Xt93 hx (hb hby at_278) (pc' := 289) (XT.i0_le_t g) (by decide) (by decide) ?_
                              show Goes p e below _ (Tt93.setTop (mkF m 289 #[.val (.int p0), .val (.int p1), .val (.int p2), .val (.int (4 : Int32)), .val (.int b0), .val (.int b1), .val (.int b2), .val (.int b3), .val (.ref ob72), .val (.ref ob87), .val (.double (own_rt (own_st (own_st (own_st (own_st FP.dconst0 (0 : Int32) ((0 : Int32) + b0) (1 : Int32)) ((0 : Int32) + b0) (((0 : Int32) + b0) + b1) (2 : Int32)) (((0 : Int32) + b0) + b1) ((((0 : Int32) + b0) + b1) + b2) (3 : Int32)) ((((0 : Int32) + b0) + b1) + b2) (((((0 : Int32) + b0) + b1) + b2) + b3) (4 : Int32)) p2)), .second, .val (.int b0), .val (.int (b0 + b1)), .val (.int ((b0 + b1) + b2)), .val (.int (((b0 + b1) + b2) + b3)), .val (.double (own_ls (own_ls (own_ls (own_ls FP.dconst0 b0 b0 FP.dconst1) b1 (b0 + b1) (4611686018427387904 : UInt64)) b2 ((b0 + b1) + b2) (4613937818241073152 : UInt64)) b3 (((b0 + b1) + b2) + b3) (4616189618054758400 : UInt64))), .second, .unset, .unset] []))
                              refine gDconst0 Xt93 hx (hb hby at_289) ?_
                              refine gDstore Xt93 hx (hb hby at_290) (l' := #[.val (.int p0), .val (.int p1), .val (.int p2), .val (.int (4 : Int32)), .val (.int b0), .val (.int b1), .val (.int b2), .val (.int b3), .val (.ref ob72), .val (.ref ob87), .val (.double (own_rt (own_st (own_st (own_st (own_st FP.dconst0 (0 : Int32) ((0 : Int32) + b0) (1 : Int32)) ((0 : Int32) + b0) (((0 : Int32) + b0) + b1) (2 : Int32)) (((0 : Int32) + b0) + b1) ((((0 : Int32) + b0) + b1) + b2) (3 : Int32)) ((((0 : Int32) + b0) + b1) + b2) (((((0 : Int32) + b0) + b1) + b2) + b3) (4 : Int32)) p2)), .second, .val (.int b0), .val (.int (b0 + b1)), .val (.int ((b0 + b1) + b2)), .val (.int (((b0 + b1) + b2) + b3)), .val (.double (own_ls (own_ls (own_ls (own_ls FP.dconst0 b0 b0 FP.dconst1) b1 (b0 + b1) (4611686018427387904 : UInt64)) b2 ((b0 + b1) + b2) (4613937818241073152 : UInt64)) b3 (((b0 + b1) + b2) + b3) (4616189618054758400 : UInt64))), .second, .val (.double FP.dconst0), .second]) rfl ?_
                              refine gDload Xt93 hx (hb hby at_292) rfl ?_
                              refine gDload Xt93 hx (hb hby at_294) rfl ?_
                              refine gDcmp Xt93 hx (hb hby at_296) ?_
                              refine gIfN Xt93 hx (hb hby at_297) (XT.i0_ne_f (dcmpV_eq (if_neg g) (own_rtn ns p2) .l)) ?_
                              show Goes p e below _ (Tt93.setTop (mkF m 300 #[.val (.int p0), .val (.int p1), .val (.int p2), .val (.int (4 : Int32)), .val (.int b0), .val (.int b1), .val (.int b2), .val (.int b3), .val (.ref ob72), .val (.ref ob87), .val (.double (own_rt (own_st (own_st (own_st (own_st FP.dconst0 (0 : Int32) ((0 : Int32) + b0) (1 : Int32)) ((0 : Int32) + b0) (((0 : Int32) + b0) + b1) (2 : Int32)) (((0 : Int32) + b0) + b1) ((((0 : Int32) + b0) + b1) + b2) (3 : Int32)) ((((0 : Int32) + b0) + b1) + b2) (((((0 : Int32) + b0) + b1) + b2) + b3) (4 : Int32)) p2)), .second, .val (.int b0), .val (.int (b0 + b1)), .val (.int ((b0 + b1) + b2)), .val (.int (((b0 + b1) + b2) + b3)), .val (.double (own_ls (own_ls (own_ls (own_ls FP.dconst0 b0 b0 FP.dconst1) b1 (b0 + b1) (4611686018427387904 : UInt64)) b2 ((b0 + b1) + b2) (4613937818241073152 : UInt64)) b3 (((b0 + b1) + b2) + b3) (4616189618054758400 : UInt64))), .second, .val (.double FP.dconst0), .second] []))
                              refine gIconst Xt93 hx (hb hby at_300) (v := (1 : Int32)) rfl ?_
                              refine gGoto Xt93 hx (hb hby at_301) (pc' := 305) (by decide) (by decide) ?_
                              show Goes p e below _ (Tt93.setTop (mkF m 305 #[.val (.int p0), .val (.int p1), .val (.int p2), .val (.int (4 : Int32)), .val (.int b0), .val (.int b1), .val (.int b2), .val (.int b3), .val (.ref ob72), .val (.ref ob87), .val (.double (own_rt (own_st (own_st (own_st (own_st FP.dconst0 (0 : Int32) ((0 : Int32) + b0) (1 : Int32)) ((0 : Int32) + b0) (((0 : Int32) + b0) + b1) (2 : Int32)) (((0 : Int32) + b0) + b1) ((((0 : Int32) + b0) + b1) + b2) (3 : Int32)) ((((0 : Int32) + b0) + b1) + b2) (((((0 : Int32) + b0) + b1) + b2) + b3) (4 : Int32)) p2)), .second, .val (.int b0), .val (.int (b0 + b1)), .val (.int ((b0 + b1) + b2)), .val (.int (((b0 + b1) + b2) + b3)), .val (.double (own_ls (own_ls (own_ls (own_ls FP.dconst0 b0 b0 FP.dconst1) b1 (b0 + b1) (4611686018427387904 : UInt64)) b2 ((b0 + b1) + b2) (4613937818241073152 : UInt64)) b3 (((b0 + b1) + b2) + b3) (4616189618054758400 : UInt64))), .second, .val (.double FP.dconst0), .second] [(.int (1 : Int32))]))
                              exact goRetN Xt93 hx (t := .boolean) hret hlocks (by simp) (hb hby at_305) (z' := (1 : Int32)) rfl (by decide) (by decide) et93 (⟨rfl, N95⟩)
                          by_cases g : b3 = 0
                          · refine gIfY Xt93 hx (hb hby at_262) (pc' := 277) (XT.i0_eq_t g) (by decide) (by decide) ?_
                            show Goes p e below _ (Tt93.setTop (mkF m 277 #[.val (.int p0), .val (.int p1), .val (.int p2), .val (.int (4 : Int32)), .val (.int b0), .val (.int b1), .val (.int b2), .val (.int b3), .val (.ref ob72), .val (.ref ob87), .val (.double (own_rt (own_st (own_st (own_st (own_st FP.dconst0 (0 : Int32) ((0 : Int32) + b0) (1 : Int32)) ((0 : Int32) + b0) (((0 : Int32) + b0) + b1) (2 : Int32)) (((0 : Int32) + b0) + b1) ((((0 : Int32) + b0) + b1) + b2) (3 : Int32)) ((((0 : Int32) + b0) + b1) + b2) (((((0 : Int32) + b0) + b1) + b2) + b3) (4 : Int32)) p2)), .second, .val (.int b0), .val (.int (b0 + b1)), .val (.int ((b0 + b1) + b2)), .val (.int (((b0 + b1) + b2) + b3)), .val (.double (own_ls (own_ls (own_ls FP.dconst0 b0 b0 FP.dconst1) b1 (b0 + b1) (4611686018427387904 : UInt64)) b2 ((b0 + b1) + b2) (4613937818241073152 : UInt64))), .second, .unset, .unset] []))
                            exact M3 _ (if_pos g).symm
                          · refine gIfN Xt93 hx (hb hby at_262) (XT.i0_eq_f g) ?_
                            show Goes p e below _ (Tt93.setTop (mkF m 265 #[.val (.int p0), .val (.int p1), .val (.int p2), .val (.int (4 : Int32)), .val (.int b0), .val (.int b1), .val (.int b2), .val (.int b3), .val (.ref ob72), .val (.ref ob87), .val (.double (own_rt (own_st (own_st (own_st (own_st FP.dconst0 (0 : Int32) ((0 : Int32) + b0) (1 : Int32)) ((0 : Int32) + b0) (((0 : Int32) + b0) + b1) (2 : Int32)) (((0 : Int32) + b0) + b1) ((((0 : Int32) + b0) + b1) + b2) (3 : Int32)) ((((0 : Int32) + b0) + b1) + b2) (((((0 : Int32) + b0) + b1) + b2) + b3) (4 : Int32)) p2)), .second, .val (.int b0), .val (.int (b0 + b1)), .val (.int ((b0 + b1) + b2)), .val (.int (((b0 + b1) + b2) + b3)), .val (.double (own_ls (own_ls (own_ls FP.dconst0 b0 b0 FP.dconst1) b1 (b0 + b1) (4611686018427387904 : UInt64)) b2 ((b0 + b1) + b2) (4613937818241073152 : UInt64))), .second, .unset, .unset] []))
                            refine gDload Xt93 hx (hb hby at_265) rfl ?_
                            refine gIload Xt93 hx (hb hby at_267) rfl ?_
                            refine gI2d Xt93 hx (hb hby at_269) ?_
                            refine gLdc2D Xt93 hx hZ hown (hw _ (List.mem_of_getElem? (i := 29) rfl)) (hb hby at_270) ?_
                            refine gDdiv Xt93 hx (hb hby at_273) (own_ql4 b0 b1 b2 b3 hb0 hb1 hb2 hb3) ?_
                            refine gDadd Xt93 hx (hb hby at_274) (own_dl4 b0 b1 b2 b3 hb0 hb1 hb2 hb3) ?_
                            refine gDstore Xt93 hx (hb hby at_275) (l' := #[.val (.int p0), .val (.int p1), .val (.int p2), .val (.int (4 : Int32)), .val (.int b0), .val (.int b1), .val (.int b2), .val (.int b3), .val (.ref ob72), .val (.ref ob87), .val (.double (own_rt (own_st (own_st (own_st (own_st FP.dconst0 (0 : Int32) ((0 : Int32) + b0) (1 : Int32)) ((0 : Int32) + b0) (((0 : Int32) + b0) + b1) (2 : Int32)) (((0 : Int32) + b0) + b1) ((((0 : Int32) + b0) + b1) + b2) (3 : Int32)) ((((0 : Int32) + b0) + b1) + b2) (((((0 : Int32) + b0) + b1) + b2) + b3) (4 : Int32)) p2)), .second, .val (.int b0), .val (.int (b0 + b1)), .val (.int ((b0 + b1) + b2)), .val (.int (((b0 + b1) + b2) + b3)), .val (.double (FP.dadd (own_ls (own_ls (own_ls FP.dconst0 b0 b0 FP.dconst1) b1 (b0 + b1) (4611686018427387904 : UInt64)) b2 ((b0 + b1) + b2) (4613937818241073152 : UInt64)) (FP.ddiv (FP.i2d (((b0 + b1) + b2) + b3)) (4616189618054758400 : UInt64)))), .second, .unset, .unset]) rfl ?_
                            show Goes p e below _ (Tt93.setTop (mkF m 277 #[.val (.int p0), .val (.int p1), .val (.int p2), .val (.int (4 : Int32)), .val (.int b0), .val (.int b1), .val (.int b2), .val (.int b3), .val (.ref ob72), .val (.ref ob87), .val (.double (own_rt (own_st (own_st (own_st (own_st FP.dconst0 (0 : Int32) ((0 : Int32) + b0) (1 : Int32)) ((0 : Int32) + b0) (((0 : Int32) + b0) + b1) (2 : Int32)) (((0 : Int32) + b0) + b1) ((((0 : Int32) + b0) + b1) + b2) (3 : Int32)) ((((0 : Int32) + b0) + b1) + b2) (((((0 : Int32) + b0) + b1) + b2) + b3) (4 : Int32)) p2)), .second, .val (.int b0), .val (.int (b0 + b1)), .val (.int ((b0 + b1) + b2)), .val (.int (((b0 + b1) + b2) + b3)), .val (.double (FP.dadd (own_ls (own_ls (own_ls FP.dconst0 b0 b0 FP.dconst1) b1 (b0 + b1) (4611686018427387904 : UInt64)) b2 ((b0 + b1) + b2) (4613937818241073152 : UInt64)) (FP.ddiv (FP.i2d (((b0 + b1) + b2) + b3)) (4616189618054758400 : UInt64)))), .second, .unset, .unset] []))
                            exact M3 _ (if_neg g).symm
                        by_cases g : b2 = 0
                        · refine gIfY Xt93 hx (hb hby at_245) (pc' := 260) (XT.i0_eq_t g) (by decide) (by decide) ?_
                          show Goes p e below _ (Tt93.setTop (mkF m 260 #[.val (.int p0), .val (.int p1), .val (.int p2), .val (.int (4 : Int32)), .val (.int b0), .val (.int b1), .val (.int b2), .val (.int b3), .val (.ref ob72), .val (.ref ob87), .val (.double (own_rt (own_st (own_st (own_st (own_st FP.dconst0 (0 : Int32) ((0 : Int32) + b0) (1 : Int32)) ((0 : Int32) + b0) (((0 : Int32) + b0) + b1) (2 : Int32)) (((0 : Int32) + b0) + b1) ((((0 : Int32) + b0) + b1) + b2) (3 : Int32)) ((((0 : Int32) + b0) + b1) + b2) (((((0 : Int32) + b0) + b1) + b2) + b3) (4 : Int32)) p2)), .second, .val (.int b0), .val (.int (b0 + b1)), .val (.int ((b0 + b1) + b2)), .val (.int (((b0 + b1) + b2) + b3)), .val (.double (own_ls (own_ls FP.dconst0 b0 b0 FP.dconst1) b1 (b0 + b1) (4611686018427387904 : UInt64))), .second, .unset, .unset] []))
                          exact M2 _ (if_pos g).symm
                        · refine gIfN Xt93 hx (hb hby at_245) (XT.i0_eq_f g) ?_
                          show Goes p e below _ (Tt93.setTop (mkF m 248 #[.val (.int p0), .val (.int p1), .val (.int p2), .val (.int (4 : Int32)), .val (.int b0), .val (.int b1), .val (.int b2), .val (.int b3), .val (.ref ob72), .val (.ref ob87), .val (.double (own_rt (own_st (own_st (own_st (own_st FP.dconst0 (0 : Int32) ((0 : Int32) + b0) (1 : Int32)) ((0 : Int32) + b0) (((0 : Int32) + b0) + b1) (2 : Int32)) (((0 : Int32) + b0) + b1) ((((0 : Int32) + b0) + b1) + b2) (3 : Int32)) ((((0 : Int32) + b0) + b1) + b2) (((((0 : Int32) + b0) + b1) + b2) + b3) (4 : Int32)) p2)), .second, .val (.int b0), .val (.int (b0 + b1)), .val (.int ((b0 + b1) + b2)), .val (.int (((b0 + b1) + b2) + b3)), .val (.double (own_ls (own_ls FP.dconst0 b0 b0 FP.dconst1) b1 (b0 + b1) (4611686018427387904 : UInt64))), .second, .unset, .unset] []))
                          refine gDload Xt93 hx (hb hby at_248) rfl ?_
                          refine gIload Xt93 hx (hb hby at_250) rfl ?_
                          refine gI2d Xt93 hx (hb hby at_252) ?_
                          refine gLdc2D Xt93 hx hZ hown (hw _ (List.mem_of_getElem? (i := 30) rfl)) (hb hby at_253) ?_
                          refine gDdiv Xt93 hx (hb hby at_256) (own_ql3 b0 b1 b2 hb0 hb1 hb2) ?_
                          refine gDadd Xt93 hx (hb hby at_257) (own_dl3 b0 b1 b2 hb0 hb1 hb2) ?_
                          refine gDstore Xt93 hx (hb hby at_258) (l' := #[.val (.int p0), .val (.int p1), .val (.int p2), .val (.int (4 : Int32)), .val (.int b0), .val (.int b1), .val (.int b2), .val (.int b3), .val (.ref ob72), .val (.ref ob87), .val (.double (own_rt (own_st (own_st (own_st (own_st FP.dconst0 (0 : Int32) ((0 : Int32) + b0) (1 : Int32)) ((0 : Int32) + b0) (((0 : Int32) + b0) + b1) (2 : Int32)) (((0 : Int32) + b0) + b1) ((((0 : Int32) + b0) + b1) + b2) (3 : Int32)) ((((0 : Int32) + b0) + b1) + b2) (((((0 : Int32) + b0) + b1) + b2) + b3) (4 : Int32)) p2)), .second, .val (.int b0), .val (.int (b0 + b1)), .val (.int ((b0 + b1) + b2)), .val (.int (((b0 + b1) + b2) + b3)), .val (.double (FP.dadd (own_ls (own_ls FP.dconst0 b0 b0 FP.dconst1) b1 (b0 + b1) (4611686018427387904 : UInt64)) (FP.ddiv (FP.i2d ((b0 + b1) + b2)) (4613937818241073152 : UInt64)))), .second, .unset, .unset]) rfl ?_
                          show Goes p e below _ (Tt93.setTop (mkF m 260 #[.val (.int p0), .val (.int p1), .val (.int p2), .val (.int (4 : Int32)), .val (.int b0), .val (.int b1), .val (.int b2), .val (.int b3), .val (.ref ob72), .val (.ref ob87), .val (.double (own_rt (own_st (own_st (own_st (own_st FP.dconst0 (0 : Int32) ((0 : Int32) + b0) (1 : Int32)) ((0 : Int32) + b0) (((0 : Int32) + b0) + b1) (2 : Int32)) (((0 : Int32) + b0) + b1) ((((0 : Int32) + b0) + b1) + b2) (3 : Int32)) ((((0 : Int32) + b0) + b1) + b2) (((((0 : Int32) + b0) + b1) + b2) + b3) (4 : Int32)) p2)), .second, .val (.int b0), .val (.int (b0 + b1)), .val (.int ((b0 + b1) + b2)), .val (.int (((b0 + b1) + b2) + b3)), .val (.double (FP.dadd (own_ls (own_ls FP.dconst0 b0 b0 FP.dconst1) b1 (b0 + b1) (4611686018427387904 : UInt64)) (FP.ddiv (FP.i2d ((b0 + b1) + b2)) (4613937818241073152 : UInt64)))), .second, .unset, .unset] []))
                          exact M2 _ (if_neg g).symm
                      by_cases g : b1 = 0
                      · refine gIfY Xt93 hx (hb hby at_228) (pc' := 243) (XT.i0_eq_t g) (by decide) (by decide) ?_
                        show Goes p e below _ (Tt93.setTop (mkF m 243 #[.val (.int p0), .val (.int p1), .val (.int p2), .val (.int (4 : Int32)), .val (.int b0), .val (.int b1), .val (.int b2), .val (.int b3), .val (.ref ob72), .val (.ref ob87), .val (.double (own_rt (own_st (own_st (own_st (own_st FP.dconst0 (0 : Int32) ((0 : Int32) + b0) (1 : Int32)) ((0 : Int32) + b0) (((0 : Int32) + b0) + b1) (2 : Int32)) (((0 : Int32) + b0) + b1) ((((0 : Int32) + b0) + b1) + b2) (3 : Int32)) ((((0 : Int32) + b0) + b1) + b2) (((((0 : Int32) + b0) + b1) + b2) + b3) (4 : Int32)) p2)), .second, .val (.int b0), .val (.int (b0 + b1)), .val (.int ((b0 + b1) + b2)), .val (.int (((b0 + b1) + b2) + b3)), .val (.double (own_ls FP.dconst0 b0 b0 FP.dconst1)), .second, .unset, .unset] []))
                        exact M1 _ (if_pos g).symm
                      · refine gIfN Xt93 hx (hb hby at_228) (XT.i0_eq_f g) ?_
                        show Goes p e below _ (Tt93.setTop (mkF m 231 #[.val (.int p0), .val (.int p1), .val (.int p2), .val (.int (4 : Int32)), .val (.int b0), .val (.int b1), .val (.int b2), .val (.int b3), .val (.ref ob72), .val (.ref ob87), .val (.double (own_rt (own_st (own_st (own_st (own_st FP.dconst0 (0 : Int32) ((0 : Int32) + b0) (1 : Int32)) ((0 : Int32) + b0) (((0 : Int32) + b0) + b1) (2 : Int32)) (((0 : Int32) + b0) + b1) ((((0 : Int32) + b0) + b1) + b2) (3 : Int32)) ((((0 : Int32) + b0) + b1) + b2) (((((0 : Int32) + b0) + b1) + b2) + b3) (4 : Int32)) p2)), .second, .val (.int b0), .val (.int (b0 + b1)), .val (.int ((b0 + b1) + b2)), .val (.int (((b0 + b1) + b2) + b3)), .val (.double (own_ls FP.dconst0 b0 b0 FP.dconst1)), .second, .unset, .unset] []))
                        refine gDload Xt93 hx (hb hby at_231) rfl ?_
                        refine gIload Xt93 hx (hb hby at_233) rfl ?_
                        refine gI2d Xt93 hx (hb hby at_235) ?_
                        refine gLdc2D Xt93 hx hZ hown (hw _ (List.mem_of_getElem? (i := 28) rfl)) (hb hby at_236) ?_
                        refine gDdiv Xt93 hx (hb hby at_239) (own_ql2 b0 b1 hb0 hb1) ?_
                        refine gDadd Xt93 hx (hb hby at_240) (own_dl2 b0 b1 hb0 hb1) ?_
                        refine gDstore Xt93 hx (hb hby at_241) (l' := #[.val (.int p0), .val (.int p1), .val (.int p2), .val (.int (4 : Int32)), .val (.int b0), .val (.int b1), .val (.int b2), .val (.int b3), .val (.ref ob72), .val (.ref ob87), .val (.double (own_rt (own_st (own_st (own_st (own_st FP.dconst0 (0 : Int32) ((0 : Int32) + b0) (1 : Int32)) ((0 : Int32) + b0) (((0 : Int32) + b0) + b1) (2 : Int32)) (((0 : Int32) + b0) + b1) ((((0 : Int32) + b0) + b1) + b2) (3 : Int32)) ((((0 : Int32) + b0) + b1) + b2) (((((0 : Int32) + b0) + b1) + b2) + b3) (4 : Int32)) p2)), .second, .val (.int b0), .val (.int (b0 + b1)), .val (.int ((b0 + b1) + b2)), .val (.int (((b0 + b1) + b2) + b3)), .val (.double (FP.dadd (own_ls FP.dconst0 b0 b0 FP.dconst1) (FP.ddiv (FP.i2d (b0 + b1)) (4611686018427387904 : UInt64)))), .second, .unset, .unset]) rfl ?_
                        show Goes p e below _ (Tt93.setTop (mkF m 243 #[.val (.int p0), .val (.int p1), .val (.int p2), .val (.int (4 : Int32)), .val (.int b0), .val (.int b1), .val (.int b2), .val (.int b3), .val (.ref ob72), .val (.ref ob87), .val (.double (own_rt (own_st (own_st (own_st (own_st FP.dconst0 (0 : Int32) ((0 : Int32) + b0) (1 : Int32)) ((0 : Int32) + b0) (((0 : Int32) + b0) + b1) (2 : Int32)) (((0 : Int32) + b0) + b1) ((((0 : Int32) + b0) + b1) + b2) (3 : Int32)) ((((0 : Int32) + b0) + b1) + b2) (((((0 : Int32) + b0) + b1) + b2) + b3) (4 : Int32)) p2)), .second, .val (.int b0), .val (.int (b0 + b1)), .val (.int ((b0 + b1) + b2)), .val (.int (((b0 + b1) + b2) + b3)), .val (.double (FP.dadd (own_ls FP.dconst0 b0 b0 FP.dconst1) (FP.ddiv (FP.i2d (b0 + b1)) (4611686018427387904 : UInt64)))), .second, .unset, .unset] []))
                        exact M1 _ (if_neg g).symm
                    by_cases g : b0 = 0
                    · refine gIfY Xt93 hx (hb hby at_213) (pc' := 226) (XT.i0_eq_t g) (by decide) (by decide) ?_
                      show Goes p e below _ (Tt93.setTop (mkF m 226 #[.val (.int p0), .val (.int p1), .val (.int p2), .val (.int (4 : Int32)), .val (.int b0), .val (.int b1), .val (.int b2), .val (.int b3), .val (.ref ob72), .val (.ref ob87), .val (.double (own_rt (own_st (own_st (own_st (own_st FP.dconst0 (0 : Int32) ((0 : Int32) + b0) (1 : Int32)) ((0 : Int32) + b0) (((0 : Int32) + b0) + b1) (2 : Int32)) (((0 : Int32) + b0) + b1) ((((0 : Int32) + b0) + b1) + b2) (3 : Int32)) ((((0 : Int32) + b0) + b1) + b2) (((((0 : Int32) + b0) + b1) + b2) + b3) (4 : Int32)) p2)), .second, .val (.int b0), .val (.int (b0 + b1)), .val (.int ((b0 + b1) + b2)), .val (.int (((b0 + b1) + b2) + b3)), .val (.double FP.dconst0), .second, .unset, .unset] []))
                      exact M0 _ (if_pos g).symm
                    · refine gIfN Xt93 hx (hb hby at_213) (XT.i0_eq_f g) ?_
                      show Goes p e below _ (Tt93.setTop (mkF m 216 #[.val (.int p0), .val (.int p1), .val (.int p2), .val (.int (4 : Int32)), .val (.int b0), .val (.int b1), .val (.int b2), .val (.int b3), .val (.ref ob72), .val (.ref ob87), .val (.double (own_rt (own_st (own_st (own_st (own_st FP.dconst0 (0 : Int32) ((0 : Int32) + b0) (1 : Int32)) ((0 : Int32) + b0) (((0 : Int32) + b0) + b1) (2 : Int32)) (((0 : Int32) + b0) + b1) ((((0 : Int32) + b0) + b1) + b2) (3 : Int32)) ((((0 : Int32) + b0) + b1) + b2) (((((0 : Int32) + b0) + b1) + b2) + b3) (4 : Int32)) p2)), .second, .val (.int b0), .val (.int (b0 + b1)), .val (.int ((b0 + b1) + b2)), .val (.int (((b0 + b1) + b2) + b3)), .val (.double FP.dconst0), .second, .unset, .unset] []))
                      refine gDload Xt93 hx (hb hby at_216) rfl ?_
                      refine gIload Xt93 hx (hb hby at_218) rfl ?_
                      refine gI2d Xt93 hx (hb hby at_220) ?_
                      refine gDconst1 Xt93 hx (hb hby at_221) ?_
                      refine gDdiv Xt93 hx (hb hby at_222) (own_ql1 b0 hb0) ?_
                      refine gDadd Xt93 hx (hb hby at_223) (own_dl1 b0 hb0) ?_
                      refine gDstore Xt93 hx (hb hby at_224) (l' := #[.val (.int p0), .val (.int p1), .val (.int p2), .val (.int (4 : Int32)), .val (.int b0), .val (.int b1), .val (.int b2), .val (.int b3), .val (.ref ob72), .val (.ref ob87), .val (.double (own_rt (own_st (own_st (own_st (own_st FP.dconst0 (0 : Int32) ((0 : Int32) + b0) (1 : Int32)) ((0 : Int32) + b0) (((0 : Int32) + b0) + b1) (2 : Int32)) (((0 : Int32) + b0) + b1) ((((0 : Int32) + b0) + b1) + b2) (3 : Int32)) ((((0 : Int32) + b0) + b1) + b2) (((((0 : Int32) + b0) + b1) + b2) + b3) (4 : Int32)) p2)), .second, .val (.int b0), .val (.int (b0 + b1)), .val (.int ((b0 + b1) + b2)), .val (.int (((b0 + b1) + b2) + b3)), .val (.double (FP.dadd FP.dconst0 (FP.ddiv (FP.i2d b0) FP.dconst1))), .second, .unset, .unset]) rfl ?_
                      show Goes p e below _ (Tt93.setTop (mkF m 226 #[.val (.int p0), .val (.int p1), .val (.int p2), .val (.int (4 : Int32)), .val (.int b0), .val (.int b1), .val (.int b2), .val (.int b3), .val (.ref ob72), .val (.ref ob87), .val (.double (own_rt (own_st (own_st (own_st (own_st FP.dconst0 (0 : Int32) ((0 : Int32) + b0) (1 : Int32)) ((0 : Int32) + b0) (((0 : Int32) + b0) + b1) (2 : Int32)) (((0 : Int32) + b0) + b1) ((((0 : Int32) + b0) + b1) + b2) (3 : Int32)) ((((0 : Int32) + b0) + b1) + b2) (((((0 : Int32) + b0) + b1) + b2) + b3) (4 : Int32)) p2)), .second, .val (.int b0), .val (.int (b0 + b1)), .val (.int ((b0 + b1) + b2)), .val (.int (((b0 + b1) + b2) + b3)), .val (.double (FP.dadd FP.dconst0 (FP.ddiv (FP.i2d b0) FP.dconst1))), .second, .unset, .unset] []))
                      exact M0 _ (if_neg g).symm
                  by_cases g : b3 = 0
                  · refine gIfY Xt93 hx (hb hby at_197) (pc' := 204) (XT.i0_eq_t g) (by decide) (by decide) ?_
                    show Goes p e below _ (Tt93.setTop (mkF m 204 #[.val (.int p0), .val (.int p1), .val (.int p2), .val (.int (4 : Int32)), .val (.int b0), .val (.int b1), .val (.int b2), .val (.int b3), .val (.ref ob72), .val (.ref ob87), .val (.double (own_rt (own_st (own_st (own_st (own_st FP.dconst0 (0 : Int32) ((0 : Int32) + b0) (1 : Int32)) ((0 : Int32) + b0) (((0 : Int32) + b0) + b1) (2 : Int32)) (((0 : Int32) + b0) + b1) ((((0 : Int32) + b0) + b1) + b2) (3 : Int32)) ((((0 : Int32) + b0) + b1) + b2) (((((0 : Int32) + b0) + b1) + b2) + b3) (4 : Int32)) p2)), .second, .val (.int b0), .val (.int (b0 + b1)), .val (.int ((b0 + b1) + b2)), .unset, .unset, .unset, .unset, .unset] [(.int ((b0 + b1) + b2))]))
                    refine gIconst Xt93 hx (hb hby at_204) (v := (0 : Int32)) rfl ?_
                    exact C3 _ g
                  · refine gIfN Xt93 hx (hb hby at_197) (XT.i0_eq_f g) ?_
                    show Goes p e below _ (Tt93.setTop (mkF m 200 #[.val (.int p0), .val (.int p1), .val (.int p2), .val (.int (4 : Int32)), .val (.int b0), .val (.int b1), .val (.int b2), .val (.int b3), .val (.ref ob72), .val (.ref ob87), .val (.double (own_rt (own_st (own_st (own_st (own_st FP.dconst0 (0 : Int32) ((0 : Int32) + b0) (1 : Int32)) ((0 : Int32) + b0) (((0 : Int32) + b0) + b1) (2 : Int32)) (((0 : Int32) + b0) + b1) ((((0 : Int32) + b0) + b1) + b2) (3 : Int32)) ((((0 : Int32) + b0) + b1) + b2) (((((0 : Int32) + b0) + b1) + b2) + b3) (4 : Int32)) p2)), .second, .val (.int b0), .val (.int (b0 + b1)), .val (.int ((b0 + b1) + b2)), .unset, .unset, .unset, .unset, .unset] [(.int ((b0 + b1) + b2))]))
                    refine gIconst Xt93 hx (hb hby at_200) (v := (1 : Int32)) rfl ?_
                    refine gGoto Xt93 hx (hb hby at_201) (pc' := 205) (by decide) (by decide) ?_
                    show Goes p e below _ (Tt93.setTop (mkF m 205 #[.val (.int p0), .val (.int p1), .val (.int p2), .val (.int (4 : Int32)), .val (.int b0), .val (.int b1), .val (.int b2), .val (.int b3), .val (.ref ob72), .val (.ref ob87), .val (.double (own_rt (own_st (own_st (own_st (own_st FP.dconst0 (0 : Int32) ((0 : Int32) + b0) (1 : Int32)) ((0 : Int32) + b0) (((0 : Int32) + b0) + b1) (2 : Int32)) (((0 : Int32) + b0) + b1) ((((0 : Int32) + b0) + b1) + b2) (3 : Int32)) ((((0 : Int32) + b0) + b1) + b2) (((((0 : Int32) + b0) + b1) + b2) + b3) (4 : Int32)) p2)), .second, .val (.int b0), .val (.int (b0 + b1)), .val (.int ((b0 + b1) + b2)), .unset, .unset, .unset, .unset, .unset] [(.int (1 : Int32)), (.int ((b0 + b1) + b2))]))
                    exact C3 _ (hb3.resolve_left g)
                by_cases g : b2 = 0
                · refine gIfY Xt93 hx (hb hby at_182) (pc' := 189) (XT.i0_eq_t g) (by decide) (by decide) ?_
                  show Goes p e below _ (Tt93.setTop (mkF m 189 #[.val (.int p0), .val (.int p1), .val (.int p2), .val (.int (4 : Int32)), .val (.int b0), .val (.int b1), .val (.int b2), .val (.int b3), .val (.ref ob72), .val (.ref ob87), .val (.double (own_rt (own_st (own_st (own_st (own_st FP.dconst0 (0 : Int32) ((0 : Int32) + b0) (1 : Int32)) ((0 : Int32) + b0) (((0 : Int32) + b0) + b1) (2 : Int32)) (((0 : Int32) + b0) + b1) ((((0 : Int32) + b0) + b1) + b2) (3 : Int32)) ((((0 : Int32) + b0) + b1) + b2) (((((0 : Int32) + b0) + b1) + b2) + b3) (4 : Int32)) p2)), .second, .val (.int b0), .val (.int (b0 + b1)), .unset, .unset, .unset, .unset, .unset, .unset] [(.int (b0 + b1))]))
                  refine gIconst Xt93 hx (hb hby at_189) (v := (0 : Int32)) rfl ?_
                  exact C2 _ g
                · refine gIfN Xt93 hx (hb hby at_182) (XT.i0_eq_f g) ?_
                  show Goes p e below _ (Tt93.setTop (mkF m 185 #[.val (.int p0), .val (.int p1), .val (.int p2), .val (.int (4 : Int32)), .val (.int b0), .val (.int b1), .val (.int b2), .val (.int b3), .val (.ref ob72), .val (.ref ob87), .val (.double (own_rt (own_st (own_st (own_st (own_st FP.dconst0 (0 : Int32) ((0 : Int32) + b0) (1 : Int32)) ((0 : Int32) + b0) (((0 : Int32) + b0) + b1) (2 : Int32)) (((0 : Int32) + b0) + b1) ((((0 : Int32) + b0) + b1) + b2) (3 : Int32)) ((((0 : Int32) + b0) + b1) + b2) (((((0 : Int32) + b0) + b1) + b2) + b3) (4 : Int32)) p2)), .second, .val (.int b0), .val (.int (b0 + b1)), .unset, .unset, .unset, .unset, .unset, .unset] [(.int (b0 + b1))]))
                  refine gIconst Xt93 hx (hb hby at_185) (v := (1 : Int32)) rfl ?_
                  refine gGoto Xt93 hx (hb hby at_186) (pc' := 190) (by decide) (by decide) ?_
                  show Goes p e below _ (Tt93.setTop (mkF m 190 #[.val (.int p0), .val (.int p1), .val (.int p2), .val (.int (4 : Int32)), .val (.int b0), .val (.int b1), .val (.int b2), .val (.int b3), .val (.ref ob72), .val (.ref ob87), .val (.double (own_rt (own_st (own_st (own_st (own_st FP.dconst0 (0 : Int32) ((0 : Int32) + b0) (1 : Int32)) ((0 : Int32) + b0) (((0 : Int32) + b0) + b1) (2 : Int32)) (((0 : Int32) + b0) + b1) ((((0 : Int32) + b0) + b1) + b2) (3 : Int32)) ((((0 : Int32) + b0) + b1) + b2) (((((0 : Int32) + b0) + b1) + b2) + b3) (4 : Int32)) p2)), .second, .val (.int b0), .val (.int (b0 + b1)), .unset, .unset, .unset, .unset, .unset, .unset] [(.int (1 : Int32)), (.int (b0 + b1))]))
                  exact C2 _ (hb2.resolve_left g)
              by_cases g : b1 = 0
              · refine gIfY Xt93 hx (hb hby at_167) (pc' := 174) (XT.i0_eq_t g) (by decide) (by decide) ?_
                show Goes p e below _ (Tt93.setTop (mkF m 174 #[.val (.int p0), .val (.int p1), .val (.int p2), .val (.int (4 : Int32)), .val (.int b0), .val (.int b1), .val (.int b2), .val (.int b3), .val (.ref ob72), .val (.ref ob87), .val (.double (own_rt (own_st (own_st (own_st (own_st FP.dconst0 (0 : Int32) ((0 : Int32) + b0) (1 : Int32)) ((0 : Int32) + b0) (((0 : Int32) + b0) + b1) (2 : Int32)) (((0 : Int32) + b0) + b1) ((((0 : Int32) + b0) + b1) + b2) (3 : Int32)) ((((0 : Int32) + b0) + b1) + b2) (((((0 : Int32) + b0) + b1) + b2) + b3) (4 : Int32)) p2)), .second, .val (.int b0), .unset, .unset, .unset, .unset, .unset, .unset, .unset] [(.int b0)]))
                refine gIconst Xt93 hx (hb hby at_174) (v := (0 : Int32)) rfl ?_
                exact C1 _ g
              · refine gIfN Xt93 hx (hb hby at_167) (XT.i0_eq_f g) ?_
                show Goes p e below _ (Tt93.setTop (mkF m 170 #[.val (.int p0), .val (.int p1), .val (.int p2), .val (.int (4 : Int32)), .val (.int b0), .val (.int b1), .val (.int b2), .val (.int b3), .val (.ref ob72), .val (.ref ob87), .val (.double (own_rt (own_st (own_st (own_st (own_st FP.dconst0 (0 : Int32) ((0 : Int32) + b0) (1 : Int32)) ((0 : Int32) + b0) (((0 : Int32) + b0) + b1) (2 : Int32)) (((0 : Int32) + b0) + b1) ((((0 : Int32) + b0) + b1) + b2) (3 : Int32)) ((((0 : Int32) + b0) + b1) + b2) (((((0 : Int32) + b0) + b1) + b2) + b3) (4 : Int32)) p2)), .second, .val (.int b0), .unset, .unset, .unset, .unset, .unset, .unset, .unset] [(.int b0)]))
                refine gIconst Xt93 hx (hb hby at_170) (v := (1 : Int32)) rfl ?_
                refine gGoto Xt93 hx (hb hby at_171) (pc' := 175) (by decide) (by decide) ?_
                show Goes p e below _ (Tt93.setTop (mkF m 175 #[.val (.int p0), .val (.int p1), .val (.int p2), .val (.int (4 : Int32)), .val (.int b0), .val (.int b1), .val (.int b2), .val (.int b3), .val (.ref ob72), .val (.ref ob87), .val (.double (own_rt (own_st (own_st (own_st (own_st FP.dconst0 (0 : Int32) ((0 : Int32) + b0) (1 : Int32)) ((0 : Int32) + b0) (((0 : Int32) + b0) + b1) (2 : Int32)) (((0 : Int32) + b0) + b1) ((((0 : Int32) + b0) + b1) + b2) (3 : Int32)) ((((0 : Int32) + b0) + b1) + b2) (((((0 : Int32) + b0) + b1) + b2) + b3) (4 : Int32)) p2)), .second, .val (.int b0), .unset, .unset, .unset, .unset, .unset, .unset, .unset] [(.int (1 : Int32)), (.int b0)]))
                exact C1 _ (hb1.resolve_left g)
            by_cases g : b0 = 0
            · refine gIfY Xt93 hx (hb hby at_153) (pc' := 160) (XT.i0_eq_t g) (by decide) (by decide) ?_
              show Goes p e below _ (Tt93.setTop (mkF m 160 #[.val (.int p0), .val (.int p1), .val (.int p2), .val (.int (4 : Int32)), .val (.int b0), .val (.int b1), .val (.int b2), .val (.int b3), .val (.ref ob72), .val (.ref ob87), .val (.double (own_rt (own_st (own_st (own_st (own_st FP.dconst0 (0 : Int32) ((0 : Int32) + b0) (1 : Int32)) ((0 : Int32) + b0) (((0 : Int32) + b0) + b1) (2 : Int32)) (((0 : Int32) + b0) + b1) ((((0 : Int32) + b0) + b1) + b2) (3 : Int32)) ((((0 : Int32) + b0) + b1) + b2) (((((0 : Int32) + b0) + b1) + b2) + b3) (4 : Int32)) p2)), .second, .unset, .unset, .unset, .unset, .unset, .unset, .unset, .unset] []))
              refine gIconst Xt93 hx (hb hby at_160) (v := (0 : Int32)) rfl ?_
              exact C0 _ g
            · refine gIfN Xt93 hx (hb hby at_153) (XT.i0_eq_f g) ?_
              show Goes p e below _ (Tt93.setTop (mkF m 156 #[.val (.int p0), .val (.int p1), .val (.int p2), .val (.int (4 : Int32)), .val (.int b0), .val (.int b1), .val (.int b2), .val (.int b3), .val (.ref ob72), .val (.ref ob87), .val (.double (own_rt (own_st (own_st (own_st (own_st FP.dconst0 (0 : Int32) ((0 : Int32) + b0) (1 : Int32)) ((0 : Int32) + b0) (((0 : Int32) + b0) + b1) (2 : Int32)) (((0 : Int32) + b0) + b1) ((((0 : Int32) + b0) + b1) + b2) (3 : Int32)) ((((0 : Int32) + b0) + b1) + b2) (((((0 : Int32) + b0) + b1) + b2) + b3) (4 : Int32)) p2)), .second, .unset, .unset, .unset, .unset, .unset, .unset, .unset, .unset] []))
              refine gIconst Xt93 hx (hb hby at_156) (v := (1 : Int32)) rfl ?_
              refine gGoto Xt93 hx (hb hby at_157) (pc' := 161) (by decide) (by decide) ?_
              show Goes p e below _ (Tt93.setTop (mkF m 161 #[.val (.int p0), .val (.int p1), .val (.int p2), .val (.int (4 : Int32)), .val (.int b0), .val (.int b1), .val (.int b2), .val (.int b3), .val (.ref ob72), .val (.ref ob87), .val (.double (own_rt (own_st (own_st (own_st (own_st FP.dconst0 (0 : Int32) ((0 : Int32) + b0) (1 : Int32)) ((0 : Int32) + b0) (((0 : Int32) + b0) + b1) (2 : Int32)) (((0 : Int32) + b0) + b1) ((((0 : Int32) + b0) + b1) + b2) (3 : Int32)) ((((0 : Int32) + b0) + b1) + b2) (((((0 : Int32) + b0) + b1) + b2) + b3) (4 : Int32)) p2)), .second, .unset, .unset, .unset, .unset, .unset, .unset, .unset, .unset] [(.int (1 : Int32))]))
              exact C0 _ (hb0.resolve_left g)
          by_cases g : ((p0 >>> ((3 : Int32) &&& 31)) &&& (1 : Int32)) = 0
          · refine gIfY X0 hx (hb hby at_74) (pc' := 81) (XT.i0_eq_t g) (by decide) (by decide) ?_
            show Goes p e below _ (s₁.setTop (mkF m 81 #[.val (.int p0), .val (.int p1), .val (.int p2), .val (.int (4 : Int32)), .val (.int b0), .val (.int b1), .val (.int b2), .unset, .unset, .unset, .unset, .unset, .unset, .unset, .unset, .unset, .unset, .unset, .unset, .unset] []))
            refine gIconst X0 hx (hb hby at_81) (v := (0 : Int32)) rfl ?_
            exact K3 _ (Or.inl rfl)
          · refine gIfN X0 hx (hb hby at_74) (XT.i0_eq_f g) ?_
            show Goes p e below _ (s₁.setTop (mkF m 77 #[.val (.int p0), .val (.int p1), .val (.int p2), .val (.int (4 : Int32)), .val (.int b0), .val (.int b1), .val (.int b2), .unset, .unset, .unset, .unset, .unset, .unset, .unset, .unset, .unset, .unset, .unset, .unset, .unset] []))
            refine gIconst X0 hx (hb hby at_77) (v := (1 : Int32)) rfl ?_
            refine gGoto X0 hx (hb hby at_78) (pc' := 82) (by decide) (by decide) ?_
            show Goes p e below _ (s₁.setTop (mkF m 82 #[.val (.int p0), .val (.int p1), .val (.int p2), .val (.int (4 : Int32)), .val (.int b0), .val (.int b1), .val (.int b2), .unset, .unset, .unset, .unset, .unset, .unset, .unset, .unset, .unset, .unset, .unset, .unset, .unset] [(.int (1 : Int32))]))
            exact K3 _ (Or.inr rfl)
        by_cases g : ((p0 >>> ((2 : Int32) &&& 31)) &&& (1 : Int32)) = 0
        · refine gIfY X0 hx (hb hby at_54) (pc' := 61) (XT.i0_eq_t g) (by decide) (by decide) ?_
          show Goes p e below _ (s₁.setTop (mkF m 61 #[.val (.int p0), .val (.int p1), .val (.int p2), .val (.int (4 : Int32)), .val (.int b0), .val (.int b1), .unset, .unset, .unset, .unset, .unset, .unset, .unset, .unset, .unset, .unset, .unset, .unset, .unset, .unset] []))
          refine gIconst X0 hx (hb hby at_61) (v := (0 : Int32)) rfl ?_
          exact K2 _ (Or.inl rfl)
        · refine gIfN X0 hx (hb hby at_54) (XT.i0_eq_f g) ?_
          show Goes p e below _ (s₁.setTop (mkF m 57 #[.val (.int p0), .val (.int p1), .val (.int p2), .val (.int (4 : Int32)), .val (.int b0), .val (.int b1), .unset, .unset, .unset, .unset, .unset, .unset, .unset, .unset, .unset, .unset, .unset, .unset, .unset, .unset] []))
          refine gIconst X0 hx (hb hby at_57) (v := (1 : Int32)) rfl ?_
          refine gGoto X0 hx (hb hby at_58) (pc' := 62) (by decide) (by decide) ?_
          show Goes p e below _ (s₁.setTop (mkF m 62 #[.val (.int p0), .val (.int p1), .val (.int p2), .val (.int (4 : Int32)), .val (.int b0), .val (.int b1), .unset, .unset, .unset, .unset, .unset, .unset, .unset, .unset, .unset, .unset, .unset, .unset, .unset, .unset] [(.int (1 : Int32))]))
          exact K2 _ (Or.inr rfl)
      by_cases g : ((p0 >>> ((1 : Int32) &&& 31)) &&& (1 : Int32)) = 0
      · refine gIfY X0 hx (hb hby at_34) (pc' := 41) (XT.i0_eq_t g) (by decide) (by decide) ?_
        show Goes p e below _ (s₁.setTop (mkF m 41 #[.val (.int p0), .val (.int p1), .val (.int p2), .val (.int (4 : Int32)), .val (.int b0), .unset, .unset, .unset, .unset, .unset, .unset, .unset, .unset, .unset, .unset, .unset, .unset, .unset, .unset, .unset] []))
        refine gIconst X0 hx (hb hby at_41) (v := (0 : Int32)) rfl ?_
        exact K1 _ (Or.inl rfl)
      · refine gIfN X0 hx (hb hby at_34) (XT.i0_eq_f g) ?_
        show Goes p e below _ (s₁.setTop (mkF m 37 #[.val (.int p0), .val (.int p1), .val (.int p2), .val (.int (4 : Int32)), .val (.int b0), .unset, .unset, .unset, .unset, .unset, .unset, .unset, .unset, .unset, .unset, .unset, .unset, .unset, .unset, .unset] []))
        refine gIconst X0 hx (hb hby at_37) (v := (1 : Int32)) rfl ?_
        refine gGoto X0 hx (hb hby at_38) (pc' := 42) (by decide) (by decide) ?_
        show Goes p e below _ (s₁.setTop (mkF m 42 #[.val (.int p0), .val (.int p1), .val (.int p2), .val (.int (4 : Int32)), .val (.int b0), .unset, .unset, .unset, .unset, .unset, .unset, .unset, .unset, .unset, .unset, .unset, .unset, .unset, .unset, .unset] [(.int (1 : Int32))]))
        exact K1 _ (Or.inr rfl)
    by_cases g : (p0 &&& (1 : Int32)) = 0
    · refine gIfY X0 hx (hb hby at_14) (pc' := 21) (XT.i0_eq_t g) (by decide) (by decide) ?_
      show Goes p e below _ (s₁.setTop (mkF m 21 #[.val (.int p0), .val (.int p1), .val (.int p2), .val (.int (4 : Int32)), .unset, .unset, .unset, .unset, .unset, .unset, .unset, .unset, .unset, .unset, .unset, .unset, .unset, .unset, .unset, .unset] []))
      refine gIconst X0 hx (hb hby at_21) (v := (0 : Int32)) rfl ?_
      exact K0 _ (Or.inl rfl)
    · refine gIfN X0 hx (hb hby at_14) (XT.i0_eq_f g) ?_
      show Goes p e below _ (s₁.setTop (mkF m 17 #[.val (.int p0), .val (.int p1), .val (.int p2), .val (.int (4 : Int32)), .unset, .unset, .unset, .unset, .unset, .unset, .unset, .unset, .unset, .unset, .unset, .unset, .unset, .unset, .unset, .unset] []))
      refine gIconst X0 hx (hb hby at_17) (v := (1 : Int32)) rfl ?_
      refine gGoto X0 hx (hb hby at_18) (pc' := 22) (by decide) (by decide) ?_
      show Goes p e below _ (s₁.setTop (mkF m 22 #[.val (.int p0), .val (.int p1), .val (.int p2), .val (.int (4 : Int32)), .unset, .unset, .unset, .unset, .unset, .unset, .unset, .unset, .unset, .unset, .unset, .unset, .unset, .unset, .unset, .unset] [(.int (1 : Int32))]))
      exact K0 _ (Or.inr rfl)
set_option maxRecDepth 65536 in
set_option maxHeartbeats 40000000 in
theorem comes_1 {Post : Tables → Env → Array Value → State → Outcome → State → Prop} (hpost : ∀ tb e args s v u, (limb_1_1.after args s (.returned v) u = true ∧ limb_1_2.after args s (.returned v) u = true ∧ True) → FrameEnd s (.returned v) u (Jvm.fieldLocs frame_1_writes args s ++ Jvm.arrayLocs frame_1_arrays args s ++ Jvm.staticLocs frame_1_statics s) 16 128 → Post tb e args s (.returned v) u) :
    ArmFor flags0 classFile x code maxLocals ret World_1 tables_1 room_1 Calls_1 rest_1 Pre_1 Post := by
  intro l hfl _ _ p e ha hc hk s m args below hf hA hF happ hP
  obtain ⟨hcalls, hrest, hpre⟩ := hP
  obtain ⟨-, -, -, hnamed, -, -, -, hat⟩ := (Spec.applies_iff hf).mp happ
  obtain ⟨hg, hn⟩ := and_e (Cond.before_iff.mp (show (Jvm.Cond.and given_1 narrow_1).before args s = true from hpre))
  obtain ⟨hc0, r0⟩ := and_e hg
  obtain ⟨c0, r1⟩ := and_e r0
  obtain ⟨c1, r2⟩ := and_e r1
  have c2 := r2
  obtain ⟨w0, w1, w2, rfl⟩ : ∃ w0 w1 w2 : Value, args = #[w0, w1, w2] := by
    have hs : args.size = 3 := by simpa [Cond.value, given_1] using hc0
    obtain ⟨L⟩ := args
    match L, hs with
    | [w0, w1, w2], _ => exact ⟨w0, w1, w2, rfl⟩
  have hw := fun d (hd : d ∈ tables_1) => atoms_spec (ws := Jvm.Cond.code x code maxLocals ret :: tables_1) hat d (List.mem_cons_of_mem _ hd)
  have hfit : Fit s := fun {y c} hc i hi => by
    obtain ⟨ha, rfl⟩ := Array.getElem?_eq_some_iff.mp hc
    have q := List.all_eq_true.mp ((Array.all_eq_true_iff_forall_mem.mp hF) _ (Array.getElem_mem ha)) i (List.mem_range.mpr hi)
    simpa [Array.getElem?_eq_getElem hi] using q
  obtain ⟨x0, y0⟩ := is_v c0
  obtain rfl : w0 = (.int x0) := Option.some.inj y0
  obtain ⟨x1, y1⟩ := is_v c1
  obtain rfl : w1 = (.int x1) := Option.some.inj y1
  obtain ⟨x2, y2⟩ := is_v c2
  obtain rfl : w2 = (.int x2) := Option.some.inj y2
  obtain ⟨n, o, h1, h2, h3, _, L, rfl, ⟨rfl, N⟩, hq⟩ := rm0 l s _ hw x0 x1 x2 s.heap ⟨Nat.le_refl _, fun _ _ q => q⟩  p e ha hc hk s m _ below hf ((Spec.applies_iff_loose hf).mp happ).1 ⟨rfl, State.Warmed39.refl s, rfl⟩ trivial
  refine ⟨n, _, h1, h2, h3, hpost _ _ _ _ _ _ ⟨Cond.after_iff.mpr rfl, Cond.after_iff.mpr (eq_i res_at (Term.int_eval (1)) rfl), trivial⟩ ⟨hq.1, hq.2.1, (hq.2.2.sift fun y hy => Or.inr (N y hy)).mono (by decide) (by decide)⟩⟩
theorem main_1_1 : Claimed_1_1 := comes_1 fun _ _ _ _ _ _ h hF => ⟨h.1, hF⟩
theorem main_1_2 : Claimed_1_2 := comes_1 fun _ _ _ _ _ _ h hF => ⟨h.2.1, hF⟩
end Jvm.Pilot.@@N@@
namespace Jvm.Pilot.@@N@@
open Jvm Jvm.ClassFile Sem Op Lib Jvm.Free Jvm.Stand Jvm.Pilot.@@N@@.Jvm.D
/-! MADE BY PROGRAM (witnessworld.py) out of the Statement's table words and the real class files: 11 classes; the members and pool entries that the words name. The judged class is class 1, her method 1. -/
namespace start1
open Jvm.ClassFile
def u (s : String) : CpInfo := .utf8 (stringToUtf16 s)
/-- a pool by its gaps: so many unusable entries, then the entry; so many at the end -/
def gap : Nat → List CpInfo → List CpInfo
  | 0, r => r
  | n + 1, r => .unusable :: gap n r
def poolList (es : List (Nat × CpInfo)) (last : Nat) : List CpInfo := es.foldr (fun e r => gap e.1 (e.2 :: r)) (gap last [])
def pool (es : List (Nat × CpInfo)) (last : Nat) : Array CpInfo := ⟨poolList es last⟩
def fileOf (pool : Array CpInfo) (this : Nat) (attrs : Array Attribute := #[]) (ms : Array MethodInfo := #[]) (fl : Nat := 33) (sup : Nat := 0) (ifs : Array Nat := #[]) (fds : Array FieldInfo := #[]) : ClassFile where
  minorVersion := 0
  majorVersion := 65
  constantPool := pool
  accessFlags := fl
  thisClass := this
  superClass := sup
  interfaces := ifs
  fields := fds
  methods := ms
  attributes := attrs
def plain (name : String) (sup : Option ClassId) : Class where
  name := name
  kind := .ordinary
  loader := none
  accessFlags := 33
  super := sup
  interfaces := #[]
  cf := none
  fields := #[]
  methods := #[]
  instanceTypes := #[]
  staticTypes := #[]
  resolved := #[]
  callSites := []
  init := .initialized
  statics := none
  mirror := none

def pool0 : Array CpInfo := pool [(5, u "<init>"), (0, u "()V"), (1, .class_ 10), (1, u "java/lang/Object")] 113

def k0c0 : Code := { maxStack := 0, maxLocals := 1, code := object_method_1_code, exceptionTable := #[], attributes := #[] }
def k0m0 : Method := { name := "<init>", desc := "()V", sig := { parameters := [], returnType := none }, accessFlags := 1, code := some k0c0 }
/-- java/lang/Object -/
def k0 : Class := { plain "java/lang/Object" none with
  accessFlags := 33
  interfaces := #[]
  cf := some (fileOf pool0 8 #[] #[{ accessFlags := 1, nameIndex := 5, descriptorIndex := 6, attributes := #[] }] 33 0 #[] #[])
  fields := #[]
  methods := #[k0m0]
  instanceTypes := #[]
  staticTypes := #[]
  resolved := Array.replicate 124 none
  statics := none }

def pool1 : Array CpInfo := pool [(2, .class_ 4), (1, u "java/lang/Object"), (0, u "<init>"), (0, u "()V"), (0, .class_ 8), (0, u "com/example/almaden/almaden/eval/JudgedRanking"), (0, .methodref 7 10), (0, .nameAndType 5 11), (0, u "([ZI)V"), (0, .methodref 7 13), (0, .nameAndType 14 15), (0, u "averagePrecision"), (0, u "()D"), (0, .double 4611686018427387904), (1, .double 4613937818241073152), (1, .double 4616189618054758400), (1, .class_ 23), (0, u "com/example/almaden/almaden/eval/JudgedRankingAveragePrecisionPinLaw"), (2, u "law"), (0, u "(III)Z")] 5

def k1m0 : Method := { name := "<init>", desc := "()V", sig := { parameters := [], returnType := none }, accessFlags := 1, code := none }
def k1c1 : Code := { maxStack := 6, maxLocals := 20, code := code, exceptionTable := #[], attributes := #[] }
def k1m1 : Method := { name := "law", desc := "(III)Z", sig := { parameters := [.int, .int, .int], returnType := some .boolean }, accessFlags := 9, code := some k1c1 }
/-- com/example/almaden/almaden/eval/JudgedRankingAveragePrecisionPinLaw -/
def k1 : Class := { plain "com/example/almaden/almaden/eval/JudgedRankingAveragePrecisionPinLaw" (some 0) with
  accessFlags := 49
  interfaces := #[]
  cf := some (fileOf pool1 22 #[] #[{ accessFlags := 1, nameIndex := 5, descriptorIndex := 6, attributes := #[] }, { accessFlags := 9, nameIndex := 26, descriptorIndex := 27, attributes := #[] }] 49 2 #[] #[])
  fields := #[]
  methods := #[k1m0, k1m1]
  instanceTypes := #[]
  staticTypes := #[]
  resolved := Array.replicate 33 none
  statics := none }

def pool2 : Array CpInfo := pool [(1, .methodref 2 3), (0, .class_ 4), (0, .nameAndType 5 6), (0, u "java/lang/Object"), (0, u "<init>"), (0, u "()V"), (0, .fieldref 8 9), (0, .class_ 10), (0, .nameAndType 11 12), (0, u "com/example/almaden/almaden/eval/JudgedRanking"), (0, u "relevantWithin"), (0, u "[I"), (0, .fieldref 8 14), (0, .nameAndType 15 16), (0, u "relevant"), (0, u "I"), (0, .methodref 8 18), (0, .nameAndType 19 20), (0, u "retrieved"), (0, u "()I"), (6, .methodref 8 28), (0, .nameAndType 29 30), (0, u "ratio"), (0, u "(DI)D"), (6, u "()D"), (5, u "([ZI)V"), (6, u "averagePrecision")] 3

def k2c0 : Code := { maxStack := 5, maxLocals := 4, code := prog_10_method_1_code, exceptionTable := #[], attributes := #[] }
def k2m0 : Method := { name := "<init>", desc := "([ZI)V", sig := { parameters := [(.array .boolean), .int], returnType := none }, accessFlags := 0, code := some k2c0 }
def k2c1 : Code := { maxStack := 2, maxLocals := 1, code := prog_10_method_2_code, exceptionTable := #[], attributes := #[] }
def k2m1 : Method := { name := "retrieved", desc := "()I", sig := { parameters := [], returnType := some .int }, accessFlags := 0, code := some k2c1 }
def k2c2 : Code := { maxStack := 6, maxLocals := 4, code := prog_10_method_5_code, exceptionTable := #[], attributes := #[] }
def k2m2 : Method := { name := "averagePrecision", desc := "()D", sig := { parameters := [], returnType := some .double }, accessFlags := 0, code := some k2c2 }
def k2c3 : Code := { maxStack := 4, maxLocals := 3, code := prog_10_method_9_code, exceptionTable := #[], attributes := #[] }
def k2m3 : Method := { name := "ratio", desc := "(DI)D", sig := { parameters := [.double, .int], returnType := some .double }, accessFlags := 8, code := some k2c3 }
/-- com/example/almaden/almaden/eval/JudgedRanking -/
def k2 : Class := { plain "com/example/almaden/almaden/eval/JudgedRanking" (some 0) with
  accessFlags := 48
  interfaces := #[]
  cf := some (fileOf pool2 8 #[] #[{ accessFlags := 0, nameIndex := 5, descriptorIndex := 43, attributes := #[] }, { accessFlags := 0, nameIndex := 19, descriptorIndex := 20, attributes := #[] }, { accessFlags := 0, nameIndex := 50, descriptorIndex := 37, attributes := #[] }, { accessFlags := 8, nameIndex := 29, descriptorIndex := 30, attributes := #[] }] 48 2 #[] #[{ accessFlags := 18, nameIndex := 11, descriptorIndex := 12, attributes := #[] }, { accessFlags := 18, nameIndex := 15, descriptorIndex := 16, attributes := #[] }])
  fields := #[{ name := "relevantWithin", type := (.array .int), accessFlags := 18, slot := 0, constantValue := 0 }, { name := "relevant", type := .int, accessFlags := 18, slot := 1, constantValue := 0 }]
  methods := #[k2m0, k2m1, k2m2, k2m3]
  instanceTypes := #[(.array .int), .int]
  staticTypes := #[]
  resolved := Array.replicate 54 none
  statics := none }

def pool3 : Array CpInfo := pool [(1, u "java/lang/Cloneable"), (0, .class_ 1), (0, u "java/lang/Object"), (0, .class_ 3)] 3

/-- java/lang/Cloneable -/
def k3 : Class := { plain "java/lang/Cloneable" (some 0) with
  accessFlags := 1537
  interfaces := #[]
  cf := some (fileOf pool3 2 #[] #[] 1537 4 #[] #[])
  fields := #[]
  methods := #[]
  instanceTypes := #[]
  staticTypes := #[]
  resolved := Array.replicate 8 none
  statics := none }

def pool4 : Array CpInfo := pool [(1, u "java/io/Serializable"), (0, .class_ 1), (0, u "java/lang/Object"), (0, .class_ 3)] 3

/-- java/io/Serializable -/
def k4 : Class := { plain "java/io/Serializable" (some 0) with
  accessFlags := 1537
  interfaces := #[]
  cf := some (fileOf pool4 2 #[] #[] 1537 4 #[] #[])
  fields := #[]
  methods := #[]
  instanceTypes := #[]
  staticTypes := #[]
  resolved := Array.replicate 8 none
  statics := none }

/-- the primitive boolean -/
def k5 : Class := { plain "boolean" none with kind := .primitive 'Z', accessFlags := 0x411 }
/-- [Z -/
def k6 : Class := { plain "[Z" (some 0) with kind := .array 5 .boolean, interfaces := #[3, 4], accessFlags := 1041 }

/-- the primitive byte -/
def k7 : Class := { plain "byte" none with kind := .primitive 'B', accessFlags := 0x411 }
/-- [B -/
def k8 : Class := { plain "[B" (some 0) with kind := .array 7 .byte, interfaces := #[3, 4], accessFlags := 1041 }

/-- the primitive int -/
def k9 : Class := { plain "int" none with kind := .primitive 'I', accessFlags := 0x411 }
/-- [I -/
def k10 : Class := { plain "[I" (some 0) with kind := .array 9 .int, interfaces := #[3, 4], accessFlags := 1041 }

def heap : Heap := #[]
def classes : Array Class := #[k0, k1, k2, k3, k4, k5, k6, k7, k8, k9, k10]
def interned : List (Array UInt16 × Addr) := []
def slotsUsed : Nat := 0
def theMethod : MethodId := ⟨1, 1⟩
def args0 : Array Value := #[.int 5, .int 3, .int 3]
def aboutOver (below : List Frame) : State where
  vm := { classes := classes, interned := interned.toArray }
  heap := heap
  slotsUsed := slotsUsed
  threads := #[{ frames := .invoking theMethod args0 :: below }]
def below0 : List Frame := [.native { method := ⟨0, 0⟩, args := #[] }]
def about1 : State := aboutOver below0
def p0 : Program := .bare "" "" ""
def e0 : Env := launch0.env 0 0 0
theorem w_frames : about1.frames = Frame.invoking theMethod args0 :: below0 := rfl
set_option maxRecDepth 65536 in
theorem w_args : argsFit about1.vm theMethod args0 = true := by decide +kernel
set_option maxRecDepth 65536 in
theorem w_heap : heapFits about1 = true := by decide +kernel
set_option maxRecDepth 65536 in
theorem w_runnable : about1.curStatus? = some .runnable := by decide +kernel
set_option maxRecDepth 65536 in
theorem w_alone : about1.alone = true := by decide +kernel
set_option maxRecDepth 65536 in
theorem w_named : about1.methodNamed? x = some theMethod := by decide +kernel
set_option maxRecDepth 65536 in
theorem w_hears : about1.hears theMethod below0 = true := by decide +kernel
set_option maxRecDepth 65536 in
theorem w_ripe : about1.ripe theMethod args0 below0 = true := by decide +kernel
theorem w_running : about1.status = .running := rfl
set_option maxRecDepth 65536 in
theorem w_room : about1.hasRoom e0.platform room_1 = true :=
  launch0.hasRoom_least _ room_1 (by decide +kernel) (by decide +kernel) (by decide +kernel) (by decide +kernel) (by decide +kernel) (by decide +kernel)
theorem allAtoms_all (ts : List Jvm.Cond) (a : Array Jvm.Value) (st : Jvm.State) : (allAtoms ts).before a st = ts.all (fun c => c.before a st) := by
  induction ts with
  | nil => rfl
  | cons c t ih =>
    show (Jvm.Cond.and c (allAtoms t)).before a st = _
    rw [Jvm.Cond.before_and, ih, List.all_cons]
def words1 : List Jvm.Cond := Jvm.Cond.code x code maxLocals ret :: tables_1
/-- a 'code' word, met by the world's own term for the bytes: nothing is compared byte by byte -/
theorem code_word {y : MethodName} {bytes : ByteArray} {mx : Nat} {rt : Option FieldType} {a : Array Value} {s : State} {m : MethodId} {meth : Method} {c : Code} (h1 : s.methodNamed? y = some m) (h2 : s.vm.method? m = some meth) (h3 : meth.code = some c) (h4 : c.code = bytes)
    (h5 : (c.maxLocals == mx && c.exceptionTable.isEmpty && decide (c.maxStack ≤ mostOperands) && decide (meth.sig.returnType = rt) && !meth.locks && decide (parseMethodDescriptor y.desc = some meth.sig)) = true) : (Jvm.Cond.code y bytes mx rt).before a s = true := by
  simp only [Bool.and_eq_true, beq_iff_eq, Bool.not_eq_true', decide_eq_true_eq] at h5
  obtain ⟨⟨⟨⟨⟨g1, g2⟩, g3⟩, g4⟩, g5⟩, g6⟩ := h5
  simp [Cond.before, Cond.holds, Cond.value, h1, h2, h3, h4, g1, g2, g3, g4, g5, g6]
def isCode : Jvm.Cond → Bool
  | .code _ _ _ _ => true
  | _ => false
theorem all_split {L : List Jvm.Cond} {P : Jvm.Cond → Bool} (h1 : L.all (fun c => isCode c || P c) = true) (h2 : ∀ c ∈ L.filter isCode, P c = true) : L.all P = true := by
  refine List.all_eq_true.mpr fun c hc => ?_
  have h := List.all_eq_true.mp h1 c hc
  rcases Bool.eq_false_or_eq_true (isCode c) with hi | hi
  · exact h2 c (List.mem_filter.mpr ⟨hc, hi⟩)
  · simpa [hi] using h
set_option maxRecDepth 65536 in
theorem w_c0 : (Jvm.Cond.code x code maxLocals ret).before args0 about1 = true := code_word (m := ⟨1, 1⟩) (meth := k1m1) (c := k1c1) (by decide +kernel) rfl rfl rfl (by decide +kernel)
set_option maxRecDepth 65536 in
theorem w_c1 : (Jvm.Cond.code ({ cls := "com/example/almaden/almaden/eval/JudgedRanking", name := "<init>", desc := "([ZI)V" } : Jvm.MethodName) prog_10_method_1_code (4 : Nat) (Option.none : Option Jvm.ClassFile.FieldType)).before args0 about1 = true := code_word (m := ⟨2, 0⟩) (meth := k2m0) (c := k2c0) (by decide +kernel) rfl rfl rfl (by decide +kernel)
set_option maxRecDepth 65536 in
theorem w_c2 : (Jvm.Cond.code ({ cls := "java/lang/Object", name := "<init>", desc := "()V" } : Jvm.MethodName) object_method_1_code (1 : Nat) (Option.none : Option Jvm.ClassFile.FieldType)).before args0 about1 = true := code_word (m := ⟨0, 0⟩) (meth := k0m0) (c := k0c0) (by decide +kernel) rfl rfl rfl (by decide +kernel)
set_option maxRecDepth 65536 in
theorem w_c3 : (Jvm.Cond.code ({ cls := "com/example/almaden/almaden/eval/JudgedRanking", name := "averagePrecision", desc := "()D" } : Jvm.MethodName) prog_10_method_5_code (4 : Nat) (Option.some Jvm.ClassFile.FieldType.double)).before args0 about1 = true := code_word (m := ⟨2, 2⟩) (meth := k2m2) (c := k2c2) (by decide +kernel) rfl rfl rfl (by decide +kernel)
set_option maxRecDepth 65536 in
theorem w_c4 : (Jvm.Cond.code ({ cls := "com/example/almaden/almaden/eval/JudgedRanking", name := "retrieved", desc := "()I" } : Jvm.MethodName) prog_10_method_2_code (1 : Nat) (Option.some Jvm.ClassFile.FieldType.int)).before args0 about1 = true := code_word (m := ⟨2, 1⟩) (meth := k2m1) (c := k2c1) (by decide +kernel) rfl rfl rfl (by decide +kernel)
set_option maxRecDepth 65536 in
theorem w_c5 : (Jvm.Cond.code ({ cls := "com/example/almaden/almaden/eval/JudgedRanking", name := "ratio", desc := "(DI)D" } : Jvm.MethodName) prog_10_method_9_code (3 : Nat) (Option.some Jvm.ClassFile.FieldType.double)).before args0 about1 = true := code_word (m := ⟨2, 3⟩) (meth := k2m3) (c := k2c3) (by decide +kernel) rfl rfl rfl (by decide +kernel)
def codes1 : List Jvm.Cond := [Jvm.Cond.code x code maxLocals ret, Jvm.Cond.code ({ cls := "com/example/almaden/almaden/eval/JudgedRanking", name := "<init>", desc := "([ZI)V" } : Jvm.MethodName) prog_10_method_1_code (4 : Nat) (Option.none : Option Jvm.ClassFile.FieldType), Jvm.Cond.code ({ cls := "java/lang/Object", name := "<init>", desc := "()V" } : Jvm.MethodName) object_method_1_code (1 : Nat) (Option.none : Option Jvm.ClassFile.FieldType), Jvm.Cond.code ({ cls := "com/example/almaden/almaden/eval/JudgedRanking", name := "averagePrecision", desc := "()D" } : Jvm.MethodName) prog_10_method_5_code (4 : Nat) (Option.some Jvm.ClassFile.FieldType.double), Jvm.Cond.code ({ cls := "com/example/almaden/almaden/eval/JudgedRanking", name := "retrieved", desc := "()I" } : Jvm.MethodName) prog_10_method_2_code (1 : Nat) (Option.some Jvm.ClassFile.FieldType.int), Jvm.Cond.code ({ cls := "com/example/almaden/almaden/eval/JudgedRanking", name := "ratio", desc := "(DI)D" } : Jvm.MethodName) prog_10_method_9_code (3 : Nat) (Option.some Jvm.ClassFile.FieldType.double)]
set_option maxRecDepth 65536 in
theorem codes_eq : words1.filter isCode = codes1 := rfl
theorem w_codes : ∀ c ∈ words1.filter isCode, c.before args0 about1 = true := by
  rw [codes_eq]
  intro c hc
  simp only [codes1, List.mem_cons, List.not_mem_nil, or_false] at hc
  rcases hc with rfl | rfl | rfl | rfl | rfl | rfl
  · exact w_c0
  · exact w_c1
  · exact w_c2
  · exact w_c3
  · exact w_c4
  · exact w_c5
set_option maxRecDepth 65536 in
theorem w_t1 : (words1.take 24).all (fun c => isCode c || c.before args0 about1) = true := by decide +kernel
set_option maxRecDepth 65536 in
theorem w_t2 : (words1.drop 24).all (fun c => isCode c || c.before args0 about1) = true := by decide +kernel
theorem w_tables : (allAtoms (Jvm.Cond.code x code maxLocals ret :: tables_1)).before args0 about1 = true := by
  rw [allAtoms_all]
  show words1.all (fun c => c.before args0 about1) = true
  refine all_split ?_ w_codes
  rw [← List.take_append_drop 24 words1, List.all_append, w_t1, w_t2]
  rfl
set_option maxRecDepth 65536 in
theorem w_case : (Jvm.Cond.and given_1 narrow_1).before args0 about1 = true := by decide +kernel
theorem w_applies : (headSpec (Jvm.Cond.code x code maxLocals ret :: tables_1) room_1).applies x e0.platform about1 = true :=
  (Spec.applies_iff w_frames).mpr ⟨w_running, w_runnable, w_alone, w_named, w_hears, w_ripe, w_room, w_tables⟩
theorem atStart : AtStart classFile x code maxLocals ret World_1 tables_1 room_1 Calls_1 rest_1 Pre_1 launch0 p0 e0 about1 theMethod args0 below0 :=
  ⟨lists_1, trivial, launch0.admits_env _ _ _, launch0.least_env, fairChoices_fair.cas, fairChoices_fair.clock, w_frames, w_args, w_heap, w_applies, trivial, trivial, w_case⟩
end start1
theorem witness_1 : WitnessClaimed_1 := ⟨start1.p0, start1.e0, start1.about1, start1.theMethod, start1.args0, start1.below0, start1.atStart⟩
end Jvm.Pilot.@@N@@
