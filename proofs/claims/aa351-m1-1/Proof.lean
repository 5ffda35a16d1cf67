import JvmDerived
import JvmDerived.Pilot.@@N@@Statement
import JvmDerived.Pilot.@@N@@Code
set_option linter.unusedVariables false
set_option linter.unusedSimpArgs false
namespace Jvm.OwnWalk
open Sem ClassFile Op Lib Jvm.Stand Jvm.Free Jvm.LawKit Jvm.RoadKit
section Own
variable {p : Program} {l : Launch} {e : Env} {R : Room} {s : State} {m : MethodId} {args : Array Value} {below : List Frame} {meth : Method} {c : Code} {T : State} {locs : List Loc} {cells slots : Nat} {Z : State} {a0 : Array Value} {h h' : Heap} {Q : Option Value → Heap → List Loc → Prop} {kc ks : Nat} {G : Outcome → State → Prop} {A B : State}
/-- from A the invocation comes to its end, and Q holds of what it returns, of the heap and of the places written -/
def Goes (p : Program) (e : Env) (below : List Frame) (G : Outcome → State → Prop) (A : State) : Prop :=
  ∃ s₂ o, Steps p.tables e below A s₂ ∧ s₂.status = .running ∧ Ended s₂ below o ∧ G o s₂
def EndN (s : State) (Q : Option Value → Heap → List Loc → Prop) (kc ks : Nat) (o : Outcome) (t : State) : Prop := ∃ v L, o = .returned v ∧ Q v t.heap L ∧ FrameEnd s o t L kc ks
theorem go (k : ∀ t, Steps p.tables e below B t → Steps p.tables e below A t) (g : Goes p e below G B) : Goes p e below G A := by
  obtain ⟨s₂, o, st, r⟩ := g
  exact ⟨s₂, o, k _ st, r⟩
theorem goE {g g' : JFrame} (q : g = g') (k : Goes p e below G (T.setTop g')) : Goes p e below G (T.setTop g) := q ▸ k
theorem goEnd (X : Stand p l e R s m args below meth c T locs cells slots) {v : Option Value} (hv : meth.sig.returnType = none → v = none) (hlocks : meth.locks = false) (hc : cells ≤ kc) (hs : slots ≤ ks) (eT : T.heap = h) (hq : Q v h locs)
    (k : ∀ fs, (∀ (f : JFrame) (acts : List Action), f.method = m → f.locked = none → f.entered = [] → (doReturn e (T.setTop f) acts v).1 = T.setFrames fs) → Steps p.tables e below A (T.setFrames fs)) : Goes p e below (EndN s Q kc ks) A := by
  obtain ⟨fs, hr, hrun, hended, hW, hsame⟩ := X.leave hv hlocks
  exact ⟨_, _, k fs hr, hrun, hended, _, _, rfl, (by show Q v T.heap locs; rw [eT]; exact hq), ⟨_, rfl⟩, hW, hsame.mono hc hs⟩
theorem goRetV (X : Stand p l e R s m args below meth c T locs cells slots) (hx : p.tables.exec = Jvm.exec) {pc : Nat} {Ls : Array Slot} {w : Value} {t : FieldType} {i : Instr} {rest : List Value} (hret : meth.sig.returnType = some t) (hlocks : meth.locks = false) (hd : decode c.code pc = .ok (i, 1)) (hn : narrow t w = w)
    (hi : (i = .ireturn ∧ (t = .int ∨ t = .boolean ∨ t = .byte ∨ t = .char ∨ t = .short) ∧ ∃ z, w = .int z) ∨ (i = .lreturn ∧ t = .long ∧ ∃ z, w = .long z) ∨ (i = .dreturn ∧ t = .double ∧ ∃ z, w = .double z) ∨ (i = .freturn ∧ t = .float ∧ ∃ z, w = .float z) ∨ (i = .areturn ∧ t.isReference = true ∧ w.isRef = true))
    (hc : cells ≤ kc) (hs : slots ≤ ks) (eT : T.heap = h) (hq : Q (some w) h locs) : Goes p e below (EndN s Q kc ks) (T.setTop (mkF m pc Ls (w :: rest))) :=
  goEnd X (v := some w) (fun q => by rw [hret] at q; cases q) hlocks hc hs eT hq fun fs hr => retOut X hx hret hn hi hd hr
theorem goRetI (X : Stand p l e R s m args below meth c T locs cells slots) (hx : p.tables.exec = Jvm.exec) {pc : Nat} {Ls : Array Slot} {z : Int32} {rest : List Value} (hret : meth.sig.returnType = some .int) (hlocks : meth.locks = false) (hd : decode c.code pc = .ok (.ireturn, 1))
    (hc : cells ≤ kc) (hs : slots ≤ ks) (eT : T.heap = h) (hq : Q (some (.int z)) h locs) : Goes p e below (EndN s Q kc ks) (T.setTop (mkF m pc Ls (.int z :: rest))) :=
  goRetV X hx hret hlocks hd rfl (Or.inl ⟨rfl, Or.inl rfl, _, rfl⟩) hc hs eT hq
theorem goRetJ (X : Stand p l e R s m args below meth c T locs cells slots) (hx : p.tables.exec = Jvm.exec) {pc : Nat} {Ls : Array Slot} {z : Int64} {rest : List Value} (hret : meth.sig.returnType = some .long) (hlocks : meth.locks = false) (hd : decode c.code pc = .ok (.lreturn, 1))
    (hc : cells ≤ kc) (hs : slots ≤ ks) (eT : T.heap = h) (hq : Q (some (.long z)) h locs) : Goes p e below (EndN s Q kc ks) (T.setTop (mkF m pc Ls (.long z :: rest))) :=
  goRetV X hx hret hlocks hd rfl (Or.inr (Or.inl ⟨rfl, rfl, _, rfl⟩)) hc hs eT hq
theorem goRetD (X : Stand p l e R s m args below meth c T locs cells slots) (hx : p.tables.exec = Jvm.exec) {pc : Nat} {Ls : Array Slot} {z : UInt64} {rest : List Value} (hret : meth.sig.returnType = some .double) (hlocks : meth.locks = false) (hd : decode c.code pc = .ok (.dreturn, 1))
    (hc : cells ≤ kc) (hs : slots ≤ ks) (eT : T.heap = h) (hq : Q (some (.double z)) h locs) : Goes p e below (EndN s Q kc ks) (T.setTop (mkF m pc Ls (.double z :: rest))) :=
  goRetV X hx hret hlocks hd rfl (Or.inr (Or.inr (Or.inl ⟨rfl, rfl, _, rfl⟩))) hc hs eT hq
theorem goRetA (X : Stand p l e R s m args below meth c T locs cells slots) (hx : p.tables.exec = Jvm.exec) {pc : Nat} {Ls : Array Slot} {w : Value} {t : FieldType} {rest : List Value} (hret : meth.sig.returnType = some t) (hlocks : meth.locks = false) (ht : t.isReference = true) (hw : w.isRef = true) (hd : decode c.code pc = .ok (.areturn, 1))
    (hc : cells ≤ kc) (hs : slots ≤ ks) (eT : T.heap = h) (hq : Q (some w) h locs) : Goes p e below (EndN s Q kc ks) (T.setTop (mkF m pc Ls (w :: rest))) :=
  goRetV X hx hret hlocks hd (by cases t <;> first | (cases ht; done) | rfl) (Or.inr (Or.inr (Or.inr (Or.inr ⟨rfl, ht, hw⟩)))) hc hs eT hq
theorem goRetN (X : Stand p l e R s m args below meth c T locs cells slots) (hx : p.tables.exec = Jvm.exec) {pc : Nat} {Ls : Array Slot} {z z' : Int32} {t : FieldType} {rest : List Value} (hret : meth.sig.returnType = some t) (hlocks : meth.locks = false) (ht : t = .boolean ∨ t = .byte ∨ t = .char ∨ t = .short) (hd : decode c.code pc = .ok (.ireturn, 1)) (hz : nar t z = z')
    (hc : cells ≤ kc) (hs : slots ≤ ks) (eT : T.heap = h) (hq : Q (some (.int z')) h locs) : Goes p e below (EndN s Q kc ks) (T.setTop (mkF m pc Ls (.int z :: rest))) := by
  subst hz
  exact goEnd X (v := some (.int (nar t z))) (fun q => by rw [hret] at q; cases q) hlocks hc hs eT hq fun fs hr => retN X hx hret ht hd hr
theorem goRet0 (X : Stand p l e R s m args below meth c T locs cells slots) (hx : p.tables.exec = Jvm.exec) {pc : Nat} {Ls : Array Slot} (hret : meth.sig.returnType = none) (hlocks : meth.locks = false) (hd : decode c.code pc = .ok (.return_, 1))
    (hc : cells ≤ kc) (hs : slots ≤ ks) (eT : T.heap = h) (hq : Q none h locs) : Goes p e below (EndN s Q kc ks) (T.setTop (mkF m pc Ls [])) :=
  goEnd X (v := none) (fun _ => rfl) hlocks hc hs eT hq fun fs hr => X.returnOut hx hret hd hr
/-- a body's contract: called with these arguments at this heap it returns, and Q holds -/
def Ctr (l : Launch) (Z : State) (y : MethodName) (bytes : ByteArray) (maxL : Nat) (ret : Option FieldType) (ws : List Cond) (rm : Room) (as : Array Value) (h0 : Heap) (Q : Option Value → Heap → List Loc → Prop) : Prop :=
  MetFree l y (head1 (Cond.code y bytes maxL ret :: ws) rm) (fun a U => a = as ∧ Z.Warmed39 U.vm ∧ U.heap = h0) (fun _ _ _ _ _ => True) (fun _ U o U' => ∃ v L, o = .returned v ∧ Q v U'.heap L ∧ FrameEnd U o U' L rm.cells rm.slots)
theorem ctr {y : MethodName} {bytes : ByteArray} {maxL : Nat} {ret : Option FieldType} {ws : List Cond} {rm : Room} {as : Array Value} {h0 : Heap} (hpn : plainFor y = true)
    (body : ∀ (p : Program) (e : Env) (s : State) (m : MethodId) (below : List Frame) (meth : Method) (c : Code) (s₁ : State), p.tables.exec = Jvm.exec → c.code = bytes → c.maxLocals = maxL → s.vm.findClass y.cls = some m.cls → meth.name = y.name → meth.sig.returnType = ret → meth.locks = false → Z.Warmed39 s.vm →
      Stand p l e rm s m as below meth c s₁ [] 0 0 → s₁.heap = h0 → Goes p e below (EndN s Q rm.cells rm.slots) (s₁.setTop (entryFrame m as maxL))) : Ctr l Z y bytes maxL ret ws rm as h0 Q := by
  refine MetFree.of_bodySF hpn hisR ?_
  intro p e s m args below meth c s₁ Bd hml0 hP hK
  obtain ⟨rfl, hZ, hh⟩ := hP
  exact body p e s m below meth c s₁ Bd.exec Bd.bytes hml0 (findClass_of_methodNamed Bd.named) (name_of_methodNamed Bd.named Bd.method).1 Bd.returns Bd.notSynchronized hZ (Stand.of_body Bd) (by rw [← hh, Bd.state]; rfl)
theorem goCallS (X : Stand p l e R s m args below meth c T locs cells slots) (hx : p.tables.exec = Jvm.exec) (hZ : Z.Warmed39 s.vm) {own : String} {index : Nat} {y : MethodName} {bytes : ByteArray} {maxL : Nat} {ret : Option FieldType} (hown : s.vm.findClass own = some m.cls)
    (w1 : (Cond.methodLink own index y).before a0 Z = true) (w2 : (Cond.static y).before a0 Z = true) (w3 : (Cond.initialized y.cls).before a0 Z = true) (w4 : (Cond.code y bytes maxL ret).before a0 Z = true) (hy : y.cls ≠ "java/lang/invoke/MethodHandle" ∧ y.cls ≠ "java/lang/invoke/VarHandle")
    {rm : Room} {as : Array Value} {Q' : Option Value → Heap → List Loc → Prop} (hM : Ctr l Z y bytes maxL ret [] rm as h Q') (W : Nat) (hf : rm.frames + 1 ≤ R.frames) (hl : W + (maxL + 11) + rm.locals ≤ R.locals) (eT : T.heap = h)
    {pc : Nat} {Ls : Array Slot} {st : List Value} (hsize : Ls.size = c.maxLocals) (argsL rest : List Value) {ps : List FieldType} {rt : Option FieldType} (hpd : parseMethodDescriptor y.desc = some ⟨ps, rt⟩) (hlen : argsL.length = ps.length) (hst : st = argsL.reverse ++ rest) (has : argsL.toArray = as) (hW : (rest.map fun v => v.category).sum ≤ W)
    (hd : decode c.code pc = .ok (.invokestatic index, 3)) (hc : cells + rm.cells ≤ R.cells) (hs : slots + rm.slots ≤ R.slots)
    (k : ∀ T' v L, Stand p l e R s m args below meth c T' (locs ++ L) (cells + rm.cells) (slots + rm.slots) → Q' v T'.heap L → Goes p e below G (T'.setTop (mkF m (pc + 3) Ls (v.toList ++ rest)))) : Goes p e below G (T.setTop (mkF m pc Ls st)) := by
  subst hst
  obtain ⟨v, _, ⟨T', L', k', n'⟩, -, X', ⟨L, hQ, l1, y1, z1⟩, st⟩ := Jvm.LawKit.callS X hx (y := y) hown (mvT hZ w1) (mvT hZ w2) (mvT hZ w3) (mvT hZ w4) hy (backOf (W := W) hM hZ w4 w3 hf hl) (g := mkF m pc Ls (argsL.reverse ++ rest)) rfl hsize (argsL := argsL) (rest := rest) (lenOf hpd hlen) rfl (by show 2 * 0 + _ ≤ _; omega) hd (fun _ _ => ⟨has, eT, hc, hs⟩)
  dsimp only [Pt.U, Pt.locs, Pt.cells, Pt.slots] at X' l1 y1 z1 st hQ
  subst l1 y1 z1
  exact go st (k T' v L X' hQ)
theorem goCallI (X : Stand p l e R s m args below meth c T locs cells slots) (hx : p.tables.exec = Jvm.exec) (hZ : Z.Warmed39 s.vm) {own : String} {index : Nat} {y : MethodName} {bytes : ByteArray} {maxL : Nat} (hy1 : y.name = "<init>") (hown : s.vm.findClass own = some m.cls)
    (w1 : (Cond.methodLink own index y).before a0 Z = true) (w2 : (Cond.instanceMethod y).before a0 Z = true) (w3 : (Cond.initialized y.cls).before a0 Z = true) (w4 : (Cond.code y bytes maxL none).before a0 Z = true) (hy : y.cls ≠ "java/lang/invoke/MethodHandle" ∧ y.cls ≠ "java/lang/invoke/VarHandle")
    {rm : Room} {as : Array Value} {Q' : Option Value → Heap → List Loc → Prop} (hM : Ctr l Z y bytes maxL none [] rm as h Q') (W : Nat) (hf : rm.frames + 1 ≤ R.frames) (hl : W + (maxL + 11) + rm.locals ≤ R.locals) (eT : T.heap = h)
    {pc : Nat} {Ls : Array Slot} {st : List Value} (hsize : Ls.size = c.maxLocals) (a : Addr) (argsL rest : List Value) {ps : List FieldType} {rt : Option FieldType} (hpd : parseMethodDescriptor y.desc = some ⟨ps, rt⟩) (hlen : argsL.length = ps.length) (hst : st = argsL.reverse ++ .ref a :: rest) (has : (.ref a :: argsL).toArray = as) (hW : (rest.map fun v => v.category).sum ≤ W)
    (hd : decode c.code pc = .ok (.invokespecial index, 3)) (hc : cells + rm.cells ≤ R.cells) (hs : slots + rm.slots ≤ R.slots)
    (k : ∀ T' v L, Stand p l e R s m args below meth c T' (locs ++ L) (cells + rm.cells) (slots + rm.slots) → Q' v T'.heap L → Goes p e below G (T'.setTop (mkF m (pc + 3) Ls (v.toList ++ rest)))) : Goes p e below G (T.setTop (mkF m pc Ls st)) := by
  subst hst
  obtain ⟨v, _, ⟨T', L', k', n'⟩, -, X', ⟨L, hQ, l1, y1, z1⟩, st⟩ := X.specialBack hx (y := y) hy1 hown (mvT hZ w1) (mvT hZ w2) (mvT hZ w4) hy (backOf (W := W) hM hZ w4 w3 hf hl) (g := mkF m pc Ls (argsL.reverse ++ .ref a :: rest)) rfl hsize (Steps.refl _) (a := a) (argsL := argsL) (rest := rest) (lenOf hpd hlen) rfl (by show 2 * 0 + _ ≤ _; omega) hd (fun _ _ => ⟨has, eT, hc, hs⟩)
  dsimp only [Pt.U, Pt.locs, Pt.cells, Pt.slots] at X' l1 y1 z1 st hQ
  subst l1 y1 z1
  exact go (fun _ => st.trans) (k T' v L X' hQ)
theorem goCallV (X : Stand p l e R s m args below meth c T locs cells slots) (hx : p.tables.exec = Jvm.exec) (hZ : Z.Warmed39 s.vm) {own C : String} {index : Nat} {y : MethodName} {bytes : ByteArray} {maxL : Nat} {ret : Option FieldType} (hown : s.vm.findClass own = some m.cls)
    (w1 : (Cond.methodLink own index y).before a0 Z = true) (w2 : (Cond.declares y).before a0 Z = true) (w5 : (Cond.selects C y y).before a0 Z = true) (w6 : (Cond.instanceMethod y).before a0 Z = true) (w3 : (Cond.initialized y.cls).before a0 Z = true) (w4 : (Cond.code y bytes maxL ret).before a0 Z = true) (hy : y.cls ≠ "java/lang/invoke/MethodHandle" ∧ y.cls ≠ "java/lang/invoke/VarHandle")
    {rm : Room} {as : Array Value} {Q' : Option Value → Heap → List Loc → Prop} (hM : Ctr l Z y bytes maxL ret [] rm as h Q') (W : Nat) (hf : rm.frames + 1 ≤ R.frames) (hl : W + (maxL + 11) + rm.locals ≤ R.locals) (eT : T.heap = h) {a : Addr} (E : Exa Z h a C)
    {pc : Nat} {Ls : Array Slot} {st : List Value} (hsize : Ls.size = c.maxLocals) (argsL rest : List Value) {ps : List FieldType} {rt : Option FieldType} (hpd : parseMethodDescriptor y.desc = some ⟨ps, rt⟩) (hlen : argsL.length = ps.length) (hst : st = argsL.reverse ++ .ref a :: rest) (has : (.ref a :: argsL).toArray = as) (hW : (rest.map fun v => v.category).sum ≤ W)
    (hd : decode c.code pc = .ok (.invokevirtual index, 3)) (hc : cells + rm.cells ≤ R.cells) (hs : slots + rm.slots ≤ R.slots)
    (k : ∀ T' v L, Stand p l e R s m args below meth c T' (locs ++ L) (cells + rm.cells) (slots + rm.slots) → Q' v T'.heap L → Goes p e below G (T'.setTop (mkF m (pc + 3) Ls (v.toList ++ rest)))) : Goes p e below G (T.setTop (mkF m pc Ls st)) := by
  subst hst
  obtain ⟨cq, kq, qa, qb, qc⟩ := isOf hZ eT E
  obtain ⟨v, _, ⟨T', L', k', n'⟩, -, X', ⟨L, hQ, l1, y1, z1⟩, st⟩ := X.virtualBack hx (y := y) (z := y) hown (mvT hZ w1) (mvT hZ w2) (notFace_of_selects (args := #[]) (mvT hZ w5)) (mvT hZ w5) (mvT hZ w6) hy (backOf (W := W) hM hZ w4 w3 hf hl) qa qc (g := mkF m pc Ls (argsL.reverse ++ .ref a :: rest)) rfl hsize (Steps.refl _) (argsL := argsL) (rest := rest) (lenOf hpd hlen) rfl (by show 2 * 0 + _ ≤ _; omega) hd (fun _ _ => ⟨has, eT, hc, hs⟩)
  dsimp only [Pt.U, Pt.locs, Pt.cells, Pt.slots] at X' l1 y1 z1 st hQ
  subst l1 y1 z1
  exact go (fun _ => st.trans) (k T' v L X' hQ)
theorem extT {h0 : Heap} (O : Ext h0 h) (E : Ext h h') : Ext h0 h' := ⟨Nat.le_trans O.1 E.1, fun x c q => E.2 x c (O.2 x c q)⟩
theorem extK {h0 : Heap} {ws : List Addr} (O : Ext h0 h) (K : Keep h h' ws) (q : ∀ x ∈ ws, h0.size ≤ x) : Ext h0 h' := ⟨Nat.le_trans O.1 K.1, fun x c r => K.2.1 x c (O.2 x c r) fun z => absurd (Array.getElem?_eq_some_iff.mp r).1 (Nat.not_lt.mpr (q x z))⟩
theorem extW {h0 : Heap} {a : Addr} {sl : Nat} {v : Value} (O : Ext h0 h) (W : Wr h h' a sl v) (q : h0.size ≤ a) : Ext h0 h' := extK O (Keep.of_wr W) (allS q all0)
theorem eqI_v {t : Term} {k : Int32} {first s : State} {o : Option Outcome} {idx : List Nat} {args : Array Value} (h : (Cond.eq t (.int k)).value args first o s idx = some true) : t.eval args first o idx s = some (.int k) := by
  simp only [Cond.value, Term.eval] at h
  cases ht : t.eval args first o idx s with
  | none => simp [ht] at h
  | some x => cases x <;> simp [ht] at h ⊢; exact h
/-- an array with these values -/
def Ary (Z : State) (h : Heap) (a : Addr) (ty : FieldType) (vs : List Value) : Prop := ∃ cl : Cell, Arr Z h a cl ty ∧ cl.slots.toList = vs ∧ vs.length < 2 ^ 31
variable {a b : Addr} {ty : FieldType} {vs : List Value}
theorem Ary.lt (F : Ary Z h a ty vs) : a < h.size := by obtain ⟨c, A, -⟩ := F; exact A.lt
theorem Ary.ext (F : Ary Z h a ty vs) (E : Ext h h') : Ary Z h' a ty vs := by obtain ⟨c, A, r⟩ := F; exact ⟨c, A.ext E, r⟩
theorem Ary.other (F : Ary Z h b ty vs) {sl : Nat} {v : Value} (W : Wr h h' a sl v) (q : b ≠ a) : Ary Z h' b ty vs := by obtain ⟨c, A, r⟩ := F; exact ⟨c, A.other W q, r⟩
theorem Ary.keep (F : Ary Z h a ty vs) {ws : List Addr} (K : Keep h h' ws) (q : a ∉ ws) : Ary Z h' a ty vs := by obtain ⟨c, A, r⟩ := F; exact ⟨c, ⟨K.2.1 a c A.1 q, A.2⟩, r⟩
theorem Ary.set (F : Ary Z h a ty vs) {j : Int32} {v : Value} (W : Wr h h' a j.toNatClampNeg v) {ws : List Value} (e : vs.set j.toNatClampNeg v = ws) : Ary Z h' a ty ws := by
  obtain ⟨c, A, r, q⟩ := F
  refine ⟨_, A.same W, ?_, ?_⟩
  · rw [← e, ← r]; simp [Cell.setSlot]
  · rw [← e, List.length_set]; exact q
theorem Ary.new {cA : ClassId} {n : Int32} (A : Arr Z h a (newA cA ty n) ty) (e : List.replicate n.toNatClampNeg (defaultValue ty) = vs) (q : vs.length < 2 ^ 31) : Ary Z h a ty vs := ⟨_, A, by rw [← e]; simp [newA], q⟩
theorem Ary.inb {cl : Cell} (r : cl.slots.toList = vs) {j : Int32} {v : Value} (hj : ¬ j < 0) (hv : vs[j.toNatClampNeg]? = some v) : ¬ (j < 0 ∨ cl.slots.size ≤ j.toNatClampNeg) := fun q => by
  rcases q with q | q
  · exact hj q
  · subst r
    have := (List.getElem?_eq_some_iff.mp hv).1
    rw [Array.length_toList] at this
    omega
theorem Ary.at {cl : Cell} (r : cl.slots.toList = vs) {j : Int32} {v : Value} (hv : vs[j.toNatClampNeg]? = some v) : cl.slots[j.toNatClampNeg]? = some v := by subst r; simpa using hv
theorem goIaload (X : Stand p l e R s m args below meth c T locs cells slots) (hx : p.tables.exec = Jvm.exec) (hZ : Z.Warmed39 s.vm) (eT : T.heap = h) {vs : List Value} (F : Ary Z h a .int vs) {j x : Int32} {pc : Nat} {Ls : Array Slot} {rest : List Value} (hd : decode c.code pc = .ok (.iaload, 1)) (hj : ¬ j < 0) (hv : vs[j.toNatClampNeg]? = some (.int x))
    (k : Goes p e below G (T.setTop (mkF m (pc + 1) Ls (.int x :: rest)))) : Goes p e below G (T.setTop (mkF m pc Ls (.int j :: .ref a :: rest))) := by
  obtain ⟨cl, A, r, q⟩ := F
  exact go (X.iaload hx (j := j) (v := .int x) (by rw [eT]; exact A.1) (State.isArrayOf_alike hZ.alike A.2.1) A.2.2 (Ary.inb r hj hv) (Ary.at r hv) (g := mkF m pc Ls (.int j :: .ref a :: rest)) rfl rfl hd) k
theorem goBaload (X : Stand p l e R s m args below meth c T locs cells slots) (hx : p.tables.exec = Jvm.exec) (hZ : Z.Warmed39 s.vm) (eT : T.heap = h) {vs : List Value} (F : Ary Z h a .byte vs) {j x : Int32} {pc : Nat} {Ls : Array Slot} {rest : List Value} (hd : decode c.code pc = .ok (.baload, 1)) (hj : ¬ j < 0) (hv : vs[j.toNatClampNeg]? = some (.int x))
    (k : Goes p e below G (T.setTop (mkF m (pc + 1) Ls (.int x :: rest)))) : Goes p e below G (T.setTop (mkF m pc Ls (.int j :: .ref a :: rest))) := by
  obtain ⟨cl, A, r, q⟩ := F
  exact go (X.baloadBytes hx (j := j) (v := .int x) (by rw [eT]; exact A.1) (State.isArrayOf_alike hZ.alike A.2.1) A.2.2 (Ary.inb r hj hv) (Ary.at r hv) (g := mkF m pc Ls (.int j :: .ref a :: rest)) rfl rfl hd) k
theorem goZaload (X : Stand p l e R s m args below meth c T locs cells slots) (hx : p.tables.exec = Jvm.exec) (hZ : Z.Warmed39 s.vm) (eT : T.heap = h) {vs : List Value} (F : Ary Z h a .boolean vs) {j x : Int32} {pc : Nat} {Ls : Array Slot} {rest : List Value} (hd : decode c.code pc = .ok (.baload, 1)) (hj : ¬ j < 0) (hv : vs[j.toNatClampNeg]? = some (.int x))
    (k : Goes p e below G (T.setTop (mkF m (pc + 1) Ls (.int x :: rest)))) : Goes p e below G (T.setTop (mkF m pc Ls (.int j :: .ref a :: rest))) := by
  obtain ⟨cl, A, r, q⟩ := F
  exact go (X.baloadBooleans hx (j := j) (v := .int x) (by rw [eT]; exact A.1) (State.isArrayOf_alike hZ.alike A.2.1) A.2.2 (Ary.inb r hj hv) (Ary.at r hv) (g := mkF m pc Ls (.int j :: .ref a :: rest)) rfl rfl hd) k
theorem goCaload (X : Stand p l e R s m args below meth c T locs cells slots) (hx : p.tables.exec = Jvm.exec) (hZ : Z.Warmed39 s.vm) (eT : T.heap = h) {vs : List Value} (F : Ary Z h a .char vs) {j x : Int32} {pc : Nat} {Ls : Array Slot} {rest : List Value} (hd : decode c.code pc = .ok (.caload, 1)) (hj : ¬ j < 0) (hv : vs[j.toNatClampNeg]? = some (.int x))
    (k : Goes p e below G (T.setTop (mkF m (pc + 1) Ls (.int x :: rest)))) : Goes p e below G (T.setTop (mkF m pc Ls (.int j :: .ref a :: rest))) := by
  obtain ⟨cl, A, r, q⟩ := F
  exact go (X.caload hx (j := j) (v := .int x) (by rw [eT]; exact A.1) (State.isArrayOf_alike hZ.alike A.2.1) A.2.2 (Ary.inb r hj hv) (Ary.at r hv) (g := mkF m pc Ls (.int j :: .ref a :: rest)) rfl rfl hd) k
theorem goAlen (X : Stand p l e R s m args below meth c T locs cells slots) (hx : p.tables.exec = Jvm.exec) (hZ : Z.Warmed39 s.vm) (eT : T.heap = h) {vs : List Value} (F : Ary Z h a ty vs) {n : Int32} {pc : Nat} {Ls : Array Slot} {rest : List Value} (hd : decode c.code pc = .ok (.arraylength, 1)) (hn : vs.length.toInt32 = n)
    (k : Goes p e below G (T.setTop (mkF m (pc + 1) Ls (.int n :: rest)))) : Goes p e below G (T.setTop (mkF m pc Ls (.ref a :: rest))) := by
  obtain ⟨cl, A, r, q⟩ := F
  have e1 : cl.slots.size.toInt32 = n := by rw [← hn, ← r, Array.length_toList]
  refine go (X.arraylength hx (cell := cl) (by rw [eT]; exact A.1) (State.isArrayOf_alike hZ.alike A.2.1) (g := mkF m pc Ls (.ref a :: rest)) rfl (rest := rest) rfl hd) ?_
  rw [e1]
  exact k
theorem goIastore (X : Stand p l e R s m args below meth c T locs cells slots) (hx : p.tables.exec = Jvm.exec) (hZ : Z.Warmed39 s.vm) (eT : T.heap = h) {vs : List Value} (F : Ary Z h a .int vs) {j x : Int32} {v : Value} {pc : Nat} {Ls : Array Slot} {rest : List Value} (hd : decode c.code pc = .ok (.iastore, 1)) (hj : ¬ j < 0) (hv : vs[j.toNatClampNeg]? = some v)
    (k : ∀ T' h', Stand p l e R s m args below meth c T' (locs ++ [⟨a, j.toNatClampNeg⟩]) cells slots → T'.heap = h' → Wr h h' a j.toNatClampNeg (.int x) → Goes p e below G (T'.setTop (mkF m (pc + 1) Ls rest))) : Goes p e below G (T.setTop (mkF m pc Ls (.int x :: .int j :: .ref a :: rest))) := by
  obtain ⟨cl, A, r, q⟩ := F
  obtain ⟨T', h', X', e', W', st⟩ := stI X hx hZ eT A (j := j) (x := x) (Ary.inb r hj hv) (g := mkF m pc Ls (.int x :: .int j :: .ref a :: rest)) rfl rfl hd
  exact go st (k T' h' X' e' W')
theorem goBastore (X : Stand p l e R s m args below meth c T locs cells slots) (hx : p.tables.exec = Jvm.exec) (hZ : Z.Warmed39 s.vm) (eT : T.heap = h) {vs : List Value} (F : Ary Z h a .byte vs) {j x : Int32} {v : Value} {pc : Nat} {Ls : Array Slot} {rest : List Value} (hd : decode c.code pc = .ok (.bastore, 1)) (hj : ¬ j < 0) (hv : vs[j.toNatClampNeg]? = some v)
    (k : ∀ T' h', Stand p l e R s m args below meth c T' (locs ++ [⟨a, j.toNatClampNeg⟩]) cells slots → T'.heap = h' → Wr h h' a j.toNatClampNeg (.int (nar .byte x)) → Goes p e below G (T'.setTop (mkF m (pc + 1) Ls rest))) : Goes p e below G (T.setTop (mkF m pc Ls (.int x :: .int j :: .ref a :: rest))) := by
  obtain ⟨cl, A, r, q⟩ := F
  obtain ⟨T', h', X', e', W', st⟩ := stB X hx hZ eT A (j := j) (x := x) (Ary.inb r hj hv) (g := mkF m pc Ls (.int x :: .int j :: .ref a :: rest)) rfl rfl hd
  exact go st (k T' h' X' e' W')
theorem goZastore (X : Stand p l e R s m args below meth c T locs cells slots) (hx : p.tables.exec = Jvm.exec) (hZ : Z.Warmed39 s.vm) (eT : T.heap = h) {vs : List Value} (F : Ary Z h a .boolean vs) {j x : Int32} {v : Value} {pc : Nat} {Ls : Array Slot} {rest : List Value} (hd : decode c.code pc = .ok (.bastore, 1)) (hj : ¬ j < 0) (hv : vs[j.toNatClampNeg]? = some v)
    (k : ∀ T' h', Stand p l e R s m args below meth c T' (locs ++ [⟨a, j.toNatClampNeg⟩]) cells slots → T'.heap = h' → Wr h h' a j.toNatClampNeg (.int (nar .boolean x)) → Goes p e below G (T'.setTop (mkF m (pc + 1) Ls rest))) : Goes p e below G (T.setTop (mkF m pc Ls (.int x :: .int j :: .ref a :: rest))) := by
  obtain ⟨cl, A, r, q⟩ := F
  obtain ⟨T', h', X', e', W', st⟩ := stZ X hx hZ eT A (j := j) (x := x) (Ary.inb r hj hv) (g := mkF m pc Ls (.int x :: .int j :: .ref a :: rest)) rfl rfl hd
  exact go st (k T' h' X' e' W')
theorem goCastore (X : Stand p l e R s m args below meth c T locs cells slots) (hx : p.tables.exec = Jvm.exec) (hZ : Z.Warmed39 s.vm) (eT : T.heap = h) {vs : List Value} (F : Ary Z h a .char vs) {j x : Int32} {v : Value} {pc : Nat} {Ls : Array Slot} {rest : List Value} (hd : decode c.code pc = .ok (.castore, 1)) (hj : ¬ j < 0) (hv : vs[j.toNatClampNeg]? = some v)
    (k : ∀ T' h', Stand p l e R s m args below meth c T' (locs ++ [⟨a, j.toNatClampNeg⟩]) cells slots → T'.heap = h' → Wr h h' a j.toNatClampNeg (.int (nar .char x)) → Goes p e below G (T'.setTop (mkF m (pc + 1) Ls rest))) : Goes p e below G (T.setTop (mkF m pc Ls (.int x :: .int j :: .ref a :: rest))) := by
  obtain ⟨cl, A, r, q⟩ := F
  obtain ⟨T', h', X', e', W', st⟩ := stC X hx hZ eT A (j := j) (x := x) (Ary.inb r hj hv) (g := mkF m pc Ls (.int x :: .int j :: .ref a :: rest)) rfl rfl hd
  exact go st (k T' h' X' e' W')
theorem narb (x : Int32) : nar .byte x.toInt8.toInt32 = x.toInt8.toInt32 := by simp [nar]
theorem narc (x : Int32) : nar .char x.toUInt32.toUInt16.toUInt32.toInt32 = x.toUInt32.toUInt16.toUInt32.toInt32 := by simp only [nar, UInt32.toUInt32_toInt32, UInt16.toUInt16_toUInt32]
theorem gIload (X : Stand p l e R s m args below meth c T locs cells slots) (hx : p.tables.exec = Jvm.exec) {pc : Nat} {Ls : Array Slot} {st : List Value} {k : Nat} {v : Int32} (hd : decode c.code pc = .ok (.iload k, 2)) (hl : Ls[k]? = some (.val (.int v))) (K : Goes p e below G (T.setTop (mkF m (pc + 2) Ls (.int v :: st)))) : Goes p e below G (T.setTop (mkF m pc Ls (st))) :=
  go (fun _ q => XS.iload (g := mkF m pc Ls (st)) X.here hx rfl hd hl q) K
theorem gIloadN (X : Stand p l e R s m args below meth c T locs cells slots) (hx : p.tables.exec = Jvm.exec) {pc : Nat} {Ls : Array Slot} {st : List Value} {k : Fin 4} {v : Int32} (hd : decode c.code pc = .ok (.iload_n k, 1)) (hl : Ls[k.val]? = some (.val (.int v))) (K : Goes p e below G (T.setTop (mkF m (pc + 1) Ls (.int v :: st)))) : Goes p e below G (T.setTop (mkF m pc Ls (st))) :=
  go (fun _ q => XS.iloadN (g := mkF m pc Ls (st)) X.here hx rfl hd hl q) K
theorem gIstore (X : Stand p l e R s m args below meth c T locs cells slots) (hx : p.tables.exec = Jvm.exec) {pc : Nat} {Ls : Array Slot} {st : List Value} {k : Nat} {v : Int32} {l' : Array Slot} (hd : decode c.code pc = .ok (.istore k, 2)) (hl : storeLocals Ls k (.int v) = some l') (K : Goes p e below G (T.setTop (mkF m (pc + 2) l' (st)))) : Goes p e below G (T.setTop (mkF m pc Ls (.int v :: st))) :=
  go (fun _ q => XS.istore (g := mkF m pc Ls (.int v :: st)) X.here hx rfl hd rfl hl q) K
theorem gIstoreN (X : Stand p l e R s m args below meth c T locs cells slots) (hx : p.tables.exec = Jvm.exec) {pc : Nat} {Ls : Array Slot} {st : List Value} {k : Fin 4} {v : Int32} {l' : Array Slot} (hd : decode c.code pc = .ok (.istore_n k, 1)) (hl : storeLocals Ls k.val (.int v) = some l') (K : Goes p e below G (T.setTop (mkF m (pc + 1) l' (st)))) : Goes p e below G (T.setTop (mkF m pc Ls (.int v :: st))) :=
  go (fun _ q => XS.istoreN (g := mkF m pc Ls (.int v :: st)) X.here hx rfl hd rfl hl q) K
theorem gLload (X : Stand p l e R s m args below meth c T locs cells slots) (hx : p.tables.exec = Jvm.exec) {pc : Nat} {Ls : Array Slot} {st : List Value} {k : Nat} {v : Int64} (hd : decode c.code pc = .ok (.lload k, 2)) (hl : Ls[k]? = some (.val (.long v))) (K : Goes p e below G (T.setTop (mkF m (pc + 2) Ls (.long v :: st)))) : Goes p e below G (T.setTop (mkF m pc Ls (st))) :=
  go (fun _ q => XT.lload (g := mkF m pc Ls (st)) X.here hx rfl hd hl q) K
theorem gLloadN (X : Stand p l e R s m args below meth c T locs cells slots) (hx : p.tables.exec = Jvm.exec) {pc : Nat} {Ls : Array Slot} {st : List Value} {k : Fin 4} {v : Int64} (hd : decode c.code pc = .ok (.lload_n k, 1)) (hl : Ls[k.val]? = some (.val (.long v))) (K : Goes p e below G (T.setTop (mkF m (pc + 1) Ls (.long v :: st)))) : Goes p e below G (T.setTop (mkF m pc Ls (st))) :=
  go (fun _ q => XT.lloadN (g := mkF m pc Ls (st)) X.here hx rfl hd hl q) K
theorem gLstore (X : Stand p l e R s m args below meth c T locs cells slots) (hx : p.tables.exec = Jvm.exec) {pc : Nat} {Ls : Array Slot} {st : List Value} {k : Nat} {v : Int64} {l' : Array Slot} (hd : decode c.code pc = .ok (.lstore k, 2)) (hl : storeLocals Ls k (.long v) = some l') (K : Goes p e below G (T.setTop (mkF m (pc + 2) l' (st)))) : Goes p e below G (T.setTop (mkF m pc Ls (.long v :: st))) :=
  go (fun _ q => XT.lstore (g := mkF m pc Ls (.long v :: st)) X.here hx rfl hd rfl hl q) K
theorem gLstoreN (X : Stand p l e R s m args below meth c T locs cells slots) (hx : p.tables.exec = Jvm.exec) {pc : Nat} {Ls : Array Slot} {st : List Value} {k : Fin 4} {v : Int64} {l' : Array Slot} (hd : decode c.code pc = .ok (.lstore_n k, 1)) (hl : storeLocals Ls k.val (.long v) = some l') (K : Goes p e below G (T.setTop (mkF m (pc + 1) l' (st)))) : Goes p e below G (T.setTop (mkF m pc Ls (.long v :: st))) :=
  go (fun _ q => XT.lstoreN (g := mkF m pc Ls (.long v :: st)) X.here hx rfl hd rfl hl q) K
theorem gDload (X : Stand p l e R s m args below meth c T locs cells slots) (hx : p.tables.exec = Jvm.exec) {pc : Nat} {Ls : Array Slot} {st : List Value} {k : Nat} {v : UInt64} (hd : decode c.code pc = .ok (.dload k, 2)) (hl : Ls[k]? = some (.val (.double v))) (K : Goes p e below G (T.setTop (mkF m (pc + 2) Ls (.double v :: st)))) : Goes p e below G (T.setTop (mkF m pc Ls (st))) :=
  go (fun _ q => XS.dload (g := mkF m pc Ls (st)) X.here hx rfl hd hl q) K
theorem gDloadN (X : Stand p l e R s m args below meth c T locs cells slots) (hx : p.tables.exec = Jvm.exec) {pc : Nat} {Ls : Array Slot} {st : List Value} {k : Fin 4} {v : UInt64} (hd : decode c.code pc = .ok (.dload_n k, 1)) (hl : Ls[k.val]? = some (.val (.double v))) (K : Goes p e below G (T.setTop (mkF m (pc + 1) Ls (.double v :: st)))) : Goes p e below G (T.setTop (mkF m pc Ls (st))) :=
  go (fun _ q => XS.dloadN (g := mkF m pc Ls (st)) X.here hx rfl hd hl q) K
theorem gDstore (X : Stand p l e R s m args below meth c T locs cells slots) (hx : p.tables.exec = Jvm.exec) {pc : Nat} {Ls : Array Slot} {st : List Value} {k : Nat} {v : UInt64} {l' : Array Slot} (hd : decode c.code pc = .ok (.dstore k, 2)) (hl : storeLocals Ls k (.double v) = some l') (K : Goes p e below G (T.setTop (mkF m (pc + 2) l' (st)))) : Goes p e below G (T.setTop (mkF m pc Ls (.double v :: st))) :=
  go (fun _ q => XS.dstore (g := mkF m pc Ls (.double v :: st)) X.here hx rfl hd rfl hl q) K
theorem gDstoreN (X : Stand p l e R s m args below meth c T locs cells slots) (hx : p.tables.exec = Jvm.exec) {pc : Nat} {Ls : Array Slot} {st : List Value} {k : Fin 4} {v : UInt64} {l' : Array Slot} (hd : decode c.code pc = .ok (.dstore_n k, 1)) (hl : storeLocals Ls k.val (.double v) = some l') (K : Goes p e below G (T.setTop (mkF m (pc + 1) l' (st)))) : Goes p e below G (T.setTop (mkF m pc Ls (.double v :: st))) :=
  go (fun _ q => XS.dstoreN (g := mkF m pc Ls (.double v :: st)) X.here hx rfl hd rfl hl q) K
theorem gAload (X : Stand p l e R s m args below meth c T locs cells slots) (hx : p.tables.exec = Jvm.exec) {pc : Nat} {Ls : Array Slot} {st : List Value} {k : Nat} {v : Value} (hd : decode c.code pc = .ok (.aload k, 2)) (hl : Ls[k]? = some (.val v)) (hv : v.isRef = true) (K : Goes p e below G (T.setTop (mkF m (pc + 2) Ls (v :: st)))) : Goes p e below G (T.setTop (mkF m pc Ls (st))) :=
  go (fun _ q => XS.aload (g := mkF m pc Ls (st)) X.here hx rfl hd hl hv q) K
theorem gAloadN (X : Stand p l e R s m args below meth c T locs cells slots) (hx : p.tables.exec = Jvm.exec) {pc : Nat} {Ls : Array Slot} {st : List Value} {k : Fin 4} {v : Value} (hd : decode c.code pc = .ok (.aload_n k, 1)) (hl : Ls[k.val]? = some (.val v)) (hv : v.isRef = true) (K : Goes p e below G (T.setTop (mkF m (pc + 1) Ls (v :: st)))) : Goes p e below G (T.setTop (mkF m pc Ls (st))) :=
  go (fun _ q => XS.aloadN (g := mkF m pc Ls (st)) X.here hx rfl hd hl hv q) K
theorem gAstore (X : Stand p l e R s m args below meth c T locs cells slots) (hx : p.tables.exec = Jvm.exec) {pc : Nat} {Ls : Array Slot} {st : List Value} {k : Nat} {v : Value} {l' : Array Slot} (hd : decode c.code pc = .ok (.astore k, 2)) (hv : v.isRef = true) (hl : storeLocals Ls k v = some l') (K : Goes p e below G (T.setTop (mkF m (pc + 2) l' (st)))) : Goes p e below G (T.setTop (mkF m pc Ls (v :: st))) :=
  go (fun _ q => XS.astore (g := mkF m pc Ls (v :: st)) X.here hx rfl hd rfl hv hl q) K
theorem gAstoreN (X : Stand p l e R s m args below meth c T locs cells slots) (hx : p.tables.exec = Jvm.exec) {pc : Nat} {Ls : Array Slot} {st : List Value} {k : Fin 4} {v : Value} {l' : Array Slot} (hd : decode c.code pc = .ok (.astore_n k, 1)) (hv : v.isRef = true) (hl : storeLocals Ls k.val v = some l') (K : Goes p e below G (T.setTop (mkF m (pc + 1) l' (st)))) : Goes p e below G (T.setTop (mkF m pc Ls (v :: st))) :=
  go (fun _ q => XS.astoreN (g := mkF m pc Ls (v :: st)) X.here hx rfl hd rfl hv hl q) K
theorem gIstoreS (X : Stand p l e R s m args below meth c T locs cells slots) (hx : p.tables.exec = Jvm.exec) {pc : Nat} {Ls : Array Slot} {st : List Value} {k : Nat} {v : Int32} {o : Slot} (hd : decode c.code pc = .ok (.istore k, 2)) (hold : Ls[k]? = some o) (ho : o = .unset ∨ ∃ w, o = .val w ∧ w.category = 1) (K : Goes p e below G (T.setTop (mkF m (pc + 2) (Ls.setIfInBounds k (.val (.int v))) (st)))) : Goes p e below G (T.setTop (mkF m pc Ls (.int v :: st))) :=
  go (fun _ q => XS.istoreS (g := mkF m pc Ls (.int v :: st)) X.here hx rfl hd rfl hold ho q) K
theorem gIconst (X : Stand p l e R s m args below meth c T locs cells slots) (hx : p.tables.exec = Jvm.exec) {pc : Nat} {Ls : Array Slot} {st : List Value} {i : Int} {v : Int32} (hd : decode c.code pc = .ok (.iconst i, 1)) (hv : Int32.ofInt i = v) (K : Goes p e below G (T.setTop (mkF m (pc + 1) Ls (.int v :: st)))) : Goes p e below G (T.setTop (mkF m pc Ls st)) := by
  subst hv
  exact go (fun _ q => XS.iconst (g := mkF m pc Ls st) X.here hx rfl hd q) K
theorem gBipush (X : Stand p l e R s m args below meth c T locs cells slots) (hx : p.tables.exec = Jvm.exec) {pc : Nat} {Ls : Array Slot} {st : List Value} {i : Int} {v : Int32} (hd : decode c.code pc = .ok (.bipush i, 2)) (hv : (Int8.ofInt i).toInt32 = v) (K : Goes p e below G (T.setTop (mkF m (pc + 2) Ls (.int v :: st)))) : Goes p e below G (T.setTop (mkF m pc Ls st)) := by
  subst hv
  exact go (fun _ q => XS.bipush (g := mkF m pc Ls st) X.here hx rfl hd q) K
theorem gSipush (X : Stand p l e R s m args below meth c T locs cells slots) (hx : p.tables.exec = Jvm.exec) {pc : Nat} {Ls : Array Slot} {st : List Value} {i : Int} {v : Int32} (hd : decode c.code pc = .ok (.sipush i, 3)) (hv : (Int16.ofInt i).toInt32 = v) (K : Goes p e below G (T.setTop (mkF m (pc + 3) Ls (.int v :: st)))) : Goes p e below G (T.setTop (mkF m pc Ls st)) := by
  subst hv
  exact go (fun _ q => XS.sipush (g := mkF m pc Ls st) X.here hx rfl hd q) K
theorem gLconst (X : Stand p l e R s m args below meth c T locs cells slots) (hx : p.tables.exec = Jvm.exec) {pc : Nat} {Ls : Array Slot} {st : List Value} {i : Fin 2} {v : Int64} (hd : decode c.code pc = .ok (.lconst i, 1)) (hv : Int64.ofNat i = v) (K : Goes p e below G (T.setTop (mkF m (pc + 1) Ls (.long v :: st)))) : Goes p e below G (T.setTop (mkF m pc Ls st)) := by
  subst hv
  exact go (fun _ q => XT.lconst (g := mkF m pc Ls st) X.here hx rfl hd q) K
theorem gAnull (X : Stand p l e R s m args below meth c T locs cells slots) (hx : p.tables.exec = Jvm.exec) {pc : Nat} {Ls : Array Slot} {st : List Value}  (hd : decode c.code pc = .ok (.aconst_null, 1))  (K : Goes p e below G (T.setTop (mkF m (pc + 1) Ls (.null :: st)))) : Goes p e below G (T.setTop (mkF m pc Ls (st))) :=
  go (fun _ q => XS.aconstNull (g := mkF m pc Ls (st)) X.here hx rfl hd  q) K
theorem gDconst0 (X : Stand p l e R s m args below meth c T locs cells slots) (hx : p.tables.exec = Jvm.exec) {pc : Nat} {Ls : Array Slot} {st : List Value}  (hd : decode c.code pc = .ok (.dconst 0, 1))  (K : Goes p e below G (T.setTop (mkF m (pc + 1) Ls (.double FP.dconst0 :: st)))) : Goes p e below G (T.setTop (mkF m pc Ls (st))) :=
  go (fun _ q => XS.dconst0 (g := mkF m pc Ls (st)) X.here hx rfl hd rfl q) K
theorem gDconst1 (X : Stand p l e R s m args below meth c T locs cells slots) (hx : p.tables.exec = Jvm.exec) {pc : Nat} {Ls : Array Slot} {st : List Value}  (hd : decode c.code pc = .ok (.dconst 1, 1))  (K : Goes p e below G (T.setTop (mkF m (pc + 1) Ls (.double FP.dconst1 :: st)))) : Goes p e below G (T.setTop (mkF m pc Ls (st))) :=
  go (fun _ q => XS.dconst1 (g := mkF m pc Ls (st)) X.here hx rfl hd rfl q) K
theorem gIadd (X : Stand p l e R s m args below meth c T locs cells slots) (hx : p.tables.exec = Jvm.exec) {pc : Nat} {Ls : Array Slot} {st : List Value} {x y : Int32} (hd : decode c.code pc = .ok (.iadd, 1))  (K : Goes p e below G (T.setTop (mkF m (pc + 1) Ls (.int (x + y) :: st)))) : Goes p e below G (T.setTop (mkF m pc Ls (.int y :: .int x :: st))) :=
  go (fun _ q => XS.iadd (g := mkF m pc Ls (.int y :: .int x :: st)) X.here hx rfl hd rfl q) K
theorem gIsub (X : Stand p l e R s m args below meth c T locs cells slots) (hx : p.tables.exec = Jvm.exec) {pc : Nat} {Ls : Array Slot} {st : List Value} {x y : Int32} (hd : decode c.code pc = .ok (.isub, 1))  (K : Goes p e below G (T.setTop (mkF m (pc + 1) Ls (.int (x - y) :: st)))) : Goes p e below G (T.setTop (mkF m pc Ls (.int y :: .int x :: st))) :=
  go (fun _ q => XS.isub (g := mkF m pc Ls (.int y :: .int x :: st)) X.here hx rfl hd rfl q) K
theorem gImul (X : Stand p l e R s m args below meth c T locs cells slots) (hx : p.tables.exec = Jvm.exec) {pc : Nat} {Ls : Array Slot} {st : List Value} {x y : Int32} (hd : decode c.code pc = .ok (.imul, 1))  (K : Goes p e below G (T.setTop (mkF m (pc + 1) Ls (.int (x * y) :: st)))) : Goes p e below G (T.setTop (mkF m pc Ls (.int y :: .int x :: st))) :=
  go (fun _ q => XS.imul (g := mkF m pc Ls (.int y :: .int x :: st)) X.here hx rfl hd rfl q) K
theorem gIand (X : Stand p l e R s m args below meth c T locs cells slots) (hx : p.tables.exec = Jvm.exec) {pc : Nat} {Ls : Array Slot} {st : List Value} {x y : Int32} (hd : decode c.code pc = .ok (.iand, 1))  (K : Goes p e below G (T.setTop (mkF m (pc + 1) Ls (.int (x &&& y) :: st)))) : Goes p e below G (T.setTop (mkF m pc Ls (.int y :: .int x :: st))) :=
  go (fun _ q => XS.iand (g := mkF m pc Ls (.int y :: .int x :: st)) X.here hx rfl hd rfl q) K
theorem gIor (X : Stand p l e R s m args below meth c T locs cells slots) (hx : p.tables.exec = Jvm.exec) {pc : Nat} {Ls : Array Slot} {st : List Value} {x y : Int32} (hd : decode c.code pc = .ok (.ior, 1))  (K : Goes p e below G (T.setTop (mkF m (pc + 1) Ls (.int (x ||| y) :: st)))) : Goes p e below G (T.setTop (mkF m pc Ls (.int y :: .int x :: st))) :=
  go (fun _ q => XT.ior (g := mkF m pc Ls (.int y :: .int x :: st)) X.here hx rfl hd rfl q) K
theorem gIxor (X : Stand p l e R s m args below meth c T locs cells slots) (hx : p.tables.exec = Jvm.exec) {pc : Nat} {Ls : Array Slot} {st : List Value} {x y : Int32} (hd : decode c.code pc = .ok (.ixor, 1))  (K : Goes p e below G (T.setTop (mkF m (pc + 1) Ls (.int (x ^^^ y) :: st)))) : Goes p e below G (T.setTop (mkF m pc Ls (.int y :: .int x :: st))) :=
  go (fun _ q => XT.ixor (g := mkF m pc Ls (.int y :: .int x :: st)) X.here hx rfl hd rfl q) K
theorem gIshl (X : Stand p l e R s m args below meth c T locs cells slots) (hx : p.tables.exec = Jvm.exec) {pc : Nat} {Ls : Array Slot} {st : List Value} {x y : Int32} (hd : decode c.code pc = .ok (.ishl, 1))  (K : Goes p e below G (T.setTop (mkF m (pc + 1) Ls (.int (x <<< (y &&& 31)) :: st)))) : Goes p e below G (T.setTop (mkF m pc Ls (.int y :: .int x :: st))) :=
  go (fun _ q => XT.ishl (g := mkF m pc Ls (.int y :: .int x :: st)) X.here hx rfl hd rfl q) K
theorem gIshr (X : Stand p l e R s m args below meth c T locs cells slots) (hx : p.tables.exec = Jvm.exec) {pc : Nat} {Ls : Array Slot} {st : List Value} {x y : Int32} (hd : decode c.code pc = .ok (.ishr, 1))  (K : Goes p e below G (T.setTop (mkF m (pc + 1) Ls (.int (x >>> (y &&& 31)) :: st)))) : Goes p e below G (T.setTop (mkF m pc Ls (.int y :: .int x :: st))) :=
  go (fun _ q => XT.ishr (g := mkF m pc Ls (.int y :: .int x :: st)) X.here hx rfl hd rfl q) K
theorem gIushr (X : Stand p l e R s m args below meth c T locs cells slots) (hx : p.tables.exec = Jvm.exec) {pc : Nat} {Ls : Array Slot} {st : List Value} {x y : Int32} (hd : decode c.code pc = .ok (.iushr, 1))  (K : Goes p e below G (T.setTop (mkF m (pc + 1) Ls (.int (XT.ushr x y) :: st)))) : Goes p e below G (T.setTop (mkF m pc Ls (.int y :: .int x :: st))) :=
  go (fun _ q => XT.iushr (g := mkF m pc Ls (.int y :: .int x :: st)) X.here hx rfl hd rfl q) K
theorem gLadd (X : Stand p l e R s m args below meth c T locs cells slots) (hx : p.tables.exec = Jvm.exec) {pc : Nat} {Ls : Array Slot} {st : List Value} {x y : Int64} (hd : decode c.code pc = .ok (.ladd, 1))  (K : Goes p e below G (T.setTop (mkF m (pc + 1) Ls (.long (x + y) :: st)))) : Goes p e below G (T.setTop (mkF m pc Ls (.long y :: .long x :: st))) :=
  go (fun _ q => XT.ladd (g := mkF m pc Ls (.long y :: .long x :: st)) X.here hx rfl hd rfl q) K
theorem gLsub (X : Stand p l e R s m args below meth c T locs cells slots) (hx : p.tables.exec = Jvm.exec) {pc : Nat} {Ls : Array Slot} {st : List Value} {x y : Int64} (hd : decode c.code pc = .ok (.lsub, 1))  (K : Goes p e below G (T.setTop (mkF m (pc + 1) Ls (.long (x - y) :: st)))) : Goes p e below G (T.setTop (mkF m pc Ls (.long y :: .long x :: st))) :=
  go (fun _ q => XT.lsub (g := mkF m pc Ls (.long y :: .long x :: st)) X.here hx rfl hd rfl q) K
theorem gLmul (X : Stand p l e R s m args below meth c T locs cells slots) (hx : p.tables.exec = Jvm.exec) {pc : Nat} {Ls : Array Slot} {st : List Value} {x y : Int64} (hd : decode c.code pc = .ok (.lmul, 1))  (K : Goes p e below G (T.setTop (mkF m (pc + 1) Ls (.long (x * y) :: st)))) : Goes p e below G (T.setTop (mkF m pc Ls (.long y :: .long x :: st))) :=
  go (fun _ q => XT.lmul (g := mkF m pc Ls (.long y :: .long x :: st)) X.here hx rfl hd rfl q) K
theorem gLand (X : Stand p l e R s m args below meth c T locs cells slots) (hx : p.tables.exec = Jvm.exec) {pc : Nat} {Ls : Array Slot} {st : List Value} {x y : Int64} (hd : decode c.code pc = .ok (.land, 1))  (K : Goes p e below G (T.setTop (mkF m (pc + 1) Ls (.long (x &&& y) :: st)))) : Goes p e below G (T.setTop (mkF m pc Ls (.long y :: .long x :: st))) :=
  go (fun _ q => XT.land (g := mkF m pc Ls (.long y :: .long x :: st)) X.here hx rfl hd rfl q) K
theorem gLor (X : Stand p l e R s m args below meth c T locs cells slots) (hx : p.tables.exec = Jvm.exec) {pc : Nat} {Ls : Array Slot} {st : List Value} {x y : Int64} (hd : decode c.code pc = .ok (.lor, 1))  (K : Goes p e below G (T.setTop (mkF m (pc + 1) Ls (.long (x ||| y) :: st)))) : Goes p e below G (T.setTop (mkF m pc Ls (.long y :: .long x :: st))) :=
  go (fun _ q => XT.lor (g := mkF m pc Ls (.long y :: .long x :: st)) X.here hx rfl hd rfl q) K
theorem gLxor (X : Stand p l e R s m args below meth c T locs cells slots) (hx : p.tables.exec = Jvm.exec) {pc : Nat} {Ls : Array Slot} {st : List Value} {x y : Int64} (hd : decode c.code pc = .ok (.lxor, 1))  (K : Goes p e below G (T.setTop (mkF m (pc + 1) Ls (.long (x ^^^ y) :: st)))) : Goes p e below G (T.setTop (mkF m pc Ls (.long y :: .long x :: st))) :=
  go (fun _ q => XT.lxor (g := mkF m pc Ls (.long y :: .long x :: st)) X.here hx rfl hd rfl q) K
theorem gLshl (X : Stand p l e R s m args below meth c T locs cells slots) (hx : p.tables.exec = Jvm.exec) {pc : Nat} {Ls : Array Slot} {st : List Value} {x : Int64} {y : Int32} (hd : decode c.code pc = .ok (.lshl, 1))  (K : Goes p e below G (T.setTop (mkF m (pc + 1) Ls (.long (x <<< (y.toInt64 &&& 63)) :: st)))) : Goes p e below G (T.setTop (mkF m pc Ls (.int y :: .long x :: st))) :=
  go (fun _ q => XT.lshl (g := mkF m pc Ls (.int y :: .long x :: st)) X.here hx rfl hd rfl q) K
theorem gLshr (X : Stand p l e R s m args below meth c T locs cells slots) (hx : p.tables.exec = Jvm.exec) {pc : Nat} {Ls : Array Slot} {st : List Value} {x : Int64} {y : Int32} (hd : decode c.code pc = .ok (.lshr, 1))  (K : Goes p e below G (T.setTop (mkF m (pc + 1) Ls (.long (x >>> (y.toInt64 &&& 63)) :: st)))) : Goes p e below G (T.setTop (mkF m pc Ls (.int y :: .long x :: st))) :=
  go (fun _ q => XT.lshr (g := mkF m pc Ls (.int y :: .long x :: st)) X.here hx rfl hd rfl q) K
theorem gLushr (X : Stand p l e R s m args below meth c T locs cells slots) (hx : p.tables.exec = Jvm.exec) {pc : Nat} {Ls : Array Slot} {st : List Value} {x : Int64} {y : Int32} (hd : decode c.code pc = .ok (.lushr, 1))  (K : Goes p e below G (T.setTop (mkF m (pc + 1) Ls (.long (XT.ushrL x y) :: st)))) : Goes p e below G (T.setTop (mkF m pc Ls (.int y :: .long x :: st))) :=
  go (fun _ q => XT.lushr (g := mkF m pc Ls (.int y :: .long x :: st)) X.here hx rfl hd rfl q) K
theorem gIneg (X : Stand p l e R s m args below meth c T locs cells slots) (hx : p.tables.exec = Jvm.exec) {pc : Nat} {Ls : Array Slot} {st : List Value} {x : Int32} (hd : decode c.code pc = .ok (.ineg, 1))  (K : Goes p e below G (T.setTop (mkF m (pc + 1) Ls (.int (-x) :: st)))) : Goes p e below G (T.setTop (mkF m pc Ls (.int x :: st))) :=
  go (fun _ q => XS.ineg (g := mkF m pc Ls (.int x :: st)) X.here hx rfl hd rfl q) K
theorem gI2l (X : Stand p l e R s m args below meth c T locs cells slots) (hx : p.tables.exec = Jvm.exec) {pc : Nat} {Ls : Array Slot} {st : List Value} {x : Int32} (hd : decode c.code pc = .ok (.i2l, 1))  (K : Goes p e below G (T.setTop (mkF m (pc + 1) Ls (.long (x.toInt64) :: st)))) : Goes p e below G (T.setTop (mkF m pc Ls (.int x :: st))) :=
  go (fun _ q => XT.i2l (g := mkF m pc Ls (.int x :: st)) X.here hx rfl hd rfl q) K
theorem gL2i (X : Stand p l e R s m args below meth c T locs cells slots) (hx : p.tables.exec = Jvm.exec) {pc : Nat} {Ls : Array Slot} {st : List Value} {x : Int64} (hd : decode c.code pc = .ok (.l2i, 1))  (K : Goes p e below G (T.setTop (mkF m (pc + 1) Ls (.int (x.toInt32) :: st)))) : Goes p e below G (T.setTop (mkF m pc Ls (.long x :: st))) :=
  go (fun _ q => XT.l2i (g := mkF m pc Ls (.long x :: st)) X.here hx rfl hd rfl q) K
theorem gI2b (X : Stand p l e R s m args below meth c T locs cells slots) (hx : p.tables.exec = Jvm.exec) {pc : Nat} {Ls : Array Slot} {st : List Value} {x : Int32} (hd : decode c.code pc = .ok (.i2b, 1))  (K : Goes p e below G (T.setTop (mkF m (pc + 1) Ls (.int (x.toInt8.toInt32) :: st)))) : Goes p e below G (T.setTop (mkF m pc Ls (.int x :: st))) :=
  go (fun _ q => XT.i2b (g := mkF m pc Ls (.int x :: st)) X.here hx rfl hd rfl q) K
theorem gI2c (X : Stand p l e R s m args below meth c T locs cells slots) (hx : p.tables.exec = Jvm.exec) {pc : Nat} {Ls : Array Slot} {st : List Value} {x : Int32} (hd : decode c.code pc = .ok (.i2c, 1))  (K : Goes p e below G (T.setTop (mkF m (pc + 1) Ls (.int (x.toUInt32.toUInt16.toUInt32.toInt32) :: st)))) : Goes p e below G (T.setTop (mkF m pc Ls (.int x :: st))) :=
  go (fun _ q => XT.i2c (g := mkF m pc Ls (.int x :: st)) X.here hx rfl hd rfl q) K
theorem gI2d (X : Stand p l e R s m args below meth c T locs cells slots) (hx : p.tables.exec = Jvm.exec) {pc : Nat} {Ls : Array Slot} {st : List Value} {x : Int32} (hd : decode c.code pc = .ok (.i2d, 1))  (K : Goes p e below G (T.setTop (mkF m (pc + 1) Ls (.double (FP.i2d x) :: st)))) : Goes p e below G (T.setTop (mkF m pc Ls (.int x :: st))) :=
  go (fun _ q => XS.i2dS (g := mkF m pc Ls (.int x :: st)) X.here hx rfl hd rfl rfl q) K
theorem gL2d (X : Stand p l e R s m args below meth c T locs cells slots) (hx : p.tables.exec = Jvm.exec) {pc : Nat} {Ls : Array Slot} {st : List Value} {x : Int64} (hd : decode c.code pc = .ok (.l2d, 1))  (K : Goes p e below G (T.setTop (mkF m (pc + 1) Ls (.double (FP.l2d x) :: st)))) : Goes p e below G (T.setTop (mkF m pc Ls (.long x :: st))) :=
  go (fun _ q => XS.l2dS (g := mkF m pc Ls (.long x :: st)) X.here hx rfl hd rfl rfl q) K
theorem gDadd (X : Stand p l e R s m args below meth c T locs cells slots) (hx : p.tables.exec = Jvm.exec) {pc : Nat} {Ls : Array Slot} {st : List Value} {x y : UInt64} (hd : decode c.code pc = .ok (.dadd, 1)) (hn : Jvm.Free.Fl.NoNaN64 (FP.dadd x y)) (K : Goes p e below G (T.setTop (mkF m (pc + 1) Ls (.double (FP.dadd x y) :: st)))) : Goes p e below G (T.setTop (mkF m pc Ls (.double y :: .double x :: st))) :=
  go (fun _ q => XS.daddS (g := mkF m pc Ls (.double y :: .double x :: st)) X.here hx rfl hd rfl hn rfl q) K
theorem gDsub (X : Stand p l e R s m args below meth c T locs cells slots) (hx : p.tables.exec = Jvm.exec) {pc : Nat} {Ls : Array Slot} {st : List Value} {x y : UInt64} (hd : decode c.code pc = .ok (.dsub, 1)) (hn : Jvm.Free.Fl.NoNaN64 (FP.dsub x y)) (K : Goes p e below G (T.setTop (mkF m (pc + 1) Ls (.double (FP.dsub x y) :: st)))) : Goes p e below G (T.setTop (mkF m pc Ls (.double y :: .double x :: st))) :=
  go (fun _ q => XS.dsubS (g := mkF m pc Ls (.double y :: .double x :: st)) X.here hx rfl hd rfl hn rfl q) K
theorem gDmul (X : Stand p l e R s m args below meth c T locs cells slots) (hx : p.tables.exec = Jvm.exec) {pc : Nat} {Ls : Array Slot} {st : List Value} {x y : UInt64} (hd : decode c.code pc = .ok (.dmul, 1)) (hn : Jvm.Free.Fl.NoNaN64 (FP.dmul x y)) (K : Goes p e below G (T.setTop (mkF m (pc + 1) Ls (.double (FP.dmul x y) :: st)))) : Goes p e below G (T.setTop (mkF m pc Ls (.double y :: .double x :: st))) :=
  go (fun _ q => XS.dmulS (g := mkF m pc Ls (.double y :: .double x :: st)) X.here hx rfl hd rfl hn rfl q) K
theorem gDdiv (X : Stand p l e R s m args below meth c T locs cells slots) (hx : p.tables.exec = Jvm.exec) {pc : Nat} {Ls : Array Slot} {st : List Value} {x y : UInt64} (hd : decode c.code pc = .ok (.ddiv, 1)) (hn : Jvm.Free.Fl.NoNaN64 (FP.ddiv x y)) (K : Goes p e below G (T.setTop (mkF m (pc + 1) Ls (.double (FP.ddiv x y) :: st)))) : Goes p e below G (T.setTop (mkF m pc Ls (.double y :: .double x :: st))) :=
  go (fun _ q => XS.ddivS (g := mkF m pc Ls (.double y :: .double x :: st)) X.here hx rfl hd rfl hn rfl q) K
theorem gDcmp (X : Stand p l e R s m args below meth c T locs cells slots) (hx : p.tables.exec = Jvm.exec) {pc : Nat} {Ls : Array Slot} {st : List Value} {o : CmpOp} {x y : UInt64} (hd : decode c.code pc = .ok (.dcmp o, 1))  (K : Goes p e below G (T.setTop (mkF m (pc + 1) Ls (.int (cmpValue (FP.dcmp x y) o) :: st)))) : Goes p e below G (T.setTop (mkF m pc Ls (.double y :: .double x :: st))) :=
  go (fun _ q => XS.dcmpS (g := mkF m pc Ls (.double y :: .double x :: st)) X.here hx rfl hd rfl rfl q) K
theorem gLcmp (X : Stand p l e R s m args below meth c T locs cells slots) (hx : p.tables.exec = Jvm.exec) {pc : Nat} {Ls : Array Slot} {st : List Value} {x y : Int64} (hd : decode c.code pc = .ok (.lcmp, 1))  (K : Goes p e below G (T.setTop (mkF m (pc + 1) Ls (.int (XT.cmpL x y) :: st)))) : Goes p e below G (T.setTop (mkF m pc Ls (.long y :: .long x :: st))) :=
  go (fun _ q => XT.lcmp (g := mkF m pc Ls (.long y :: .long x :: st)) X.here hx rfl hd rfl q) K
theorem gDup (X : Stand p l e R s m args below meth c T locs cells slots) (hx : p.tables.exec = Jvm.exec) {pc : Nat} {Ls : Array Slot} {st : List Value} {x : Value} (hd : decode c.code pc = .ok (.dup, 1)) (hc : x.category = 1) (K : Goes p e below G (T.setTop (mkF m (pc + 1) Ls (x :: x :: st)))) : Goes p e below G (T.setTop (mkF m pc Ls (x :: st))) :=
  go (fun _ q => XS.dup (g := mkF m pc Ls (x :: st)) X.here hx rfl hd rfl hc q) K
theorem gPop (X : Stand p l e R s m args below meth c T locs cells slots) (hx : p.tables.exec = Jvm.exec) {pc : Nat} {Ls : Array Slot} {st : List Value} {x : Value} (hd : decode c.code pc = .ok (.pop, 1)) (hc : x.category = 1) (K : Goes p e below G (T.setTop (mkF m (pc + 1) Ls (st)))) : Goes p e below G (T.setTop (mkF m pc Ls (x :: st))) :=
  go (fun _ q => XT.pop (g := mkF m pc Ls (x :: st)) X.here hx rfl hd rfl hc q) K
theorem gDupX1 (X : Stand p l e R s m args below meth c T locs cells slots) (hx : p.tables.exec = Jvm.exec) {pc : Nat} {Ls : Array Slot} {st : List Value} {x y : Value} (hd : decode c.code pc = .ok (.dup_x1, 1)) (hc : x.category = 1) (hc' : y.category = 1) (K : Goes p e below G (T.setTop (mkF m (pc + 1) Ls (x :: y :: x :: st)))) : Goes p e below G (T.setTop (mkF m pc Ls (x :: y :: st))) :=
  go (fun _ q => XT.dupX1 (g := mkF m pc Ls (x :: y :: st)) X.here hx rfl hd rfl hc hc' q) K
theorem gDup2 (X : Stand p l e R s m args below meth c T locs cells slots) (hx : p.tables.exec = Jvm.exec) {pc : Nat} {Ls : Array Slot} {st : List Value} {x y : Value} (hd : decode c.code pc = .ok (.dup2, 1)) (hc : x.category = 1) (hc' : y.category = 1) (K : Goes p e below G (T.setTop (mkF m (pc + 1) Ls (x :: y :: x :: y :: st)))) : Goes p e below G (T.setTop (mkF m pc Ls (x :: y :: st))) :=
  go (fun _ q => XT.dup2 (g := mkF m pc Ls (x :: y :: st)) X.here hx rfl hd rfl hc hc' q) K
theorem gIinc (X : Stand p l e R s m args below meth c T locs cells slots) (hx : p.tables.exec = Jvm.exec) {pc : Nat} {Ls : Array Slot} {st : List Value} {k : Nat} {i : Int} {x v : Int32} {l' : Array Slot} (hd : decode c.code pc = .ok (.iinc k i, 3)) (hv : x + Int32.ofInt i = v) (hl : Ls[k]? = some (.val (.int x))) (hl' : storeLocals Ls k (.int v) = some l') (K : Goes p e below G (T.setTop (mkF m (pc + 3) l' st))) : Goes p e below G (T.setTop (mkF m pc Ls st)) := by
  subst hv
  exact go (fun _ q => XS.iinc (g := mkF m pc Ls st) X.here hx rfl hd hl hl' q) K
theorem gIrem (X : Stand p l e R s m args below meth c T locs cells slots) (hx : p.tables.exec = Jvm.exec) {pc : Nat} {Ls : Array Slot} {st : List Value} {x y : Int32} (hd : decode c.code pc = .ok (.irem, 1)) (hy : y ≠ 0) (K : Goes p e below G (T.setTop (mkF m (pc + 1) Ls (.int (x % y) :: st)))) : Goes p e below G (T.setTop (mkF m pc Ls (.int y :: .int x :: st))) :=
  go (fun _ q => iremM X hx (g := mkF m pc Ls (.int y :: .int x :: st)) rfl hd rfl hy q) K
theorem gIdiv (X : Stand p l e R s m args below meth c T locs cells slots) (hx : p.tables.exec = Jvm.exec) {pc : Nat} {Ls : Array Slot} {st : List Value} {x y : Int32} (hd : decode c.code pc = .ok (.idiv, 1)) (hy : y ≠ 0) (K : Goes p e below G (T.setTop (mkF m (pc + 1) Ls (.int (x / y) :: st)))) : Goes p e below G (T.setTop (mkF m pc Ls (.int y :: .int x :: st))) :=
  go (fun _ q => XS.idiv (g := mkF m pc Ls (.int y :: .int x :: st)) X.here hx rfl hd rfl hy q) K
theorem gGoto (X : Stand p l e R s m args below meth c T locs cells slots) (hx : p.tables.exec = Jvm.exec) {pc : Nat} {Ls : Array Slot} {st : List Value} {o : Int} {pc' : Nat} (hd : decode c.code pc = .ok (.goto o, 3)) (ho : 0 ≤ (pc : Int) + o) (hp : ((pc : Int) + o).toNat = pc') (K : Goes p e below G (T.setTop (mkF m pc' Ls (st)))) : Goes p e below G (T.setTop (mkF m pc Ls (st))) :=
  go (fun _ q => XS.goto (g := mkF m pc Ls (st)) X.here hx rfl rfl hd ho hp q) K
theorem gIfY (X : Stand p l e R s m args below meth c T locs cells slots) (hx : p.tables.exec = Jvm.exec) {pc : Nat} {Ls : Array Slot} {st : List Value} {cd : ClassFile.Cond} {x : Int32} {o : Int} {pc' : Nat} (hd : decode c.code pc = .ok (.ifCond cd o, 3)) (hc : ifCond.holds cd x = true) (ho : 0 ≤ (pc : Int) + o) (hp : ((pc : Int) + o).toNat = pc') (K : Goes p e below G (T.setTop (mkF m pc' Ls (st)))) : Goes p e below G (T.setTop (mkF m pc Ls (.int x :: st))) :=
  go (fun _ q => XS.ifYes (g := mkF m pc Ls (.int x :: st)) X.here hx rfl rfl hd rfl hc ho hp q) K
theorem gIfN (X : Stand p l e R s m args below meth c T locs cells slots) (hx : p.tables.exec = Jvm.exec) {pc : Nat} {Ls : Array Slot} {st : List Value} {cd : ClassFile.Cond} {x : Int32} {o : Int} (hd : decode c.code pc = .ok (.ifCond cd o, 3)) (hc : ifCond.holds cd x = false) (K : Goes p e below G (T.setTop (mkF m (pc + 3) Ls (st)))) : Goes p e below G (T.setTop (mkF m pc Ls (.int x :: st))) :=
  go (fun _ q => XS.ifNo (g := mkF m pc Ls (.int x :: st)) X.here hx rfl hd rfl hc q) K
theorem gIcmpY (X : Stand p l e R s m args below meth c T locs cells slots) (hx : p.tables.exec = Jvm.exec) {pc : Nat} {Ls : Array Slot} {st : List Value} {cd : ClassFile.Cond} {x y : Int32} {o : Int} {pc' : Nat} (hd : decode c.code pc = .ok (.if_icmp cd o, 3)) (hc : if_icmp.holds cd x y = true) (ho : 0 ≤ (pc : Int) + o) (hp : ((pc : Int) + o).toNat = pc') (K : Goes p e below G (T.setTop (mkF m pc' Ls (st)))) : Goes p e below G (T.setTop (mkF m pc Ls (.int y :: .int x :: st))) :=
  go (fun _ q => XS.icmpYes (g := mkF m pc Ls (.int y :: .int x :: st)) X.here hx rfl rfl hd rfl hc ho hp q) K
theorem gIcmpN (X : Stand p l e R s m args below meth c T locs cells slots) (hx : p.tables.exec = Jvm.exec) {pc : Nat} {Ls : Array Slot} {st : List Value} {cd : ClassFile.Cond} {x y : Int32} {o : Int} (hd : decode c.code pc = .ok (.if_icmp cd o, 3)) (hc : if_icmp.holds cd x y = false) (K : Goes p e below G (T.setTop (mkF m (pc + 3) Ls (st)))) : Goes p e below G (T.setTop (mkF m pc Ls (.int y :: .int x :: st))) :=
  go (fun _ q => XS.icmpNo (g := mkF m pc Ls (.int y :: .int x :: st)) X.here hx rfl hd rfl hc q) K
theorem gAcmpY (X : Stand p l e R s m args below meth c T locs cells slots) (hx : p.tables.exec = Jvm.exec) {pc : Nat} {Ls : Array Slot} {st : List Value} {cd : ClassFile.ACond} {x y : Value} {o : Int} {pc' : Nat} (hd : decode c.code pc = .ok (.if_acmp cd o, 3)) (hx' : x.isRef = true) (hy' : y.isRef = true) (hc : XT.acmp cd x y = true) (ho : 0 ≤ (pc : Int) + o) (hp : ((pc : Int) + o).toNat = pc') (K : Goes p e below G (T.setTop (mkF m pc' Ls (st)))) : Goes p e below G (T.setTop (mkF m pc Ls (y :: x :: st))) :=
  go (fun _ q => XT.acmpYes (g := mkF m pc Ls (y :: x :: st)) X.here hx rfl rfl hd rfl hx' hy' hc ho hp q) K
theorem gAcmpN (X : Stand p l e R s m args below meth c T locs cells slots) (hx : p.tables.exec = Jvm.exec) {pc : Nat} {Ls : Array Slot} {st : List Value} {cd : ClassFile.ACond} {x y : Value} {o : Int} (hd : decode c.code pc = .ok (.if_acmp cd o, 3)) (hx' : x.isRef = true) (hy' : y.isRef = true) (hc : XT.acmp cd x y = false) (K : Goes p e below G (T.setTop (mkF m (pc + 3) Ls (st)))) : Goes p e below G (T.setTop (mkF m pc Ls (y :: x :: st))) :=
  go (fun _ q => XT.acmpNo (g := mkF m pc Ls (y :: x :: st)) X.here hx rfl hd rfl hx' hy' hc q) K
theorem gNullY (X : Stand p l e R s m args below meth c T locs cells slots) (hx : p.tables.exec = Jvm.exec) {pc : Nat} {Ls : Array Slot} {st : List Value} {o : Int} {pc' : Nat} (hd : decode c.code pc = .ok (.ifnull o, 3)) (ho : 0 ≤ (pc : Int) + o) (hp : ((pc : Int) + o).toNat = pc') (K : Goes p e below G (T.setTop (mkF m pc' Ls (st)))) : Goes p e below G (T.setTop (mkF m pc Ls (.null :: st))) :=
  go (fun _ q => XS.ifnullYes (g := mkF m pc Ls (.null :: st)) X.here hx rfl rfl hd rfl ho hp q) K
theorem gNullN (X : Stand p l e R s m args below meth c T locs cells slots) (hx : p.tables.exec = Jvm.exec) {pc : Nat} {Ls : Array Slot} {st : List Value} {b : Addr} {o : Int} (hd : decode c.code pc = .ok (.ifnull o, 3))  (K : Goes p e below G (T.setTop (mkF m (pc + 3) Ls (st)))) : Goes p e below G (T.setTop (mkF m pc Ls (.ref b :: st))) :=
  go (fun _ q => XS.ifnullNo (g := mkF m pc Ls (.ref b :: st)) X.here hx rfl hd rfl q) K
theorem gNonnullY (X : Stand p l e R s m args below meth c T locs cells slots) (hx : p.tables.exec = Jvm.exec) {pc : Nat} {Ls : Array Slot} {st : List Value} {b : Addr} {o : Int} {pc' : Nat} (hd : decode c.code pc = .ok (.ifnonnull o, 3)) (ho : 0 ≤ (pc : Int) + o) (hp : ((pc : Int) + o).toNat = pc') (K : Goes p e below G (T.setTop (mkF m pc' Ls (st)))) : Goes p e below G (T.setTop (mkF m pc Ls (.ref b :: st))) :=
  go (fun _ q => XT.ifnonnullYes (g := mkF m pc Ls (.ref b :: st)) X.here hx rfl rfl hd rfl ho hp q) K
theorem gNonnullN (X : Stand p l e R s m args below meth c T locs cells slots) (hx : p.tables.exec = Jvm.exec) {pc : Nat} {Ls : Array Slot} {st : List Value} {o : Int} (hd : decode c.code pc = .ok (.ifnonnull o, 3))  (K : Goes p e below G (T.setTop (mkF m (pc + 3) Ls (st)))) : Goes p e below G (T.setTop (mkF m pc Ls (.null :: st))) :=
  go (fun _ q => XT.ifnonnullNo (g := mkF m pc Ls (.null :: st)) X.here hx rfl hd rfl q) K
theorem gLdcI (X : Stand p l e R s m args below meth c T locs cells slots) (hx : p.tables.exec = Jvm.exec) {pc : Nat} {Ls : Array Slot} {st : List Value} (hZ : Z.Warmed39 s.vm) {own : String} (hown : s.vm.findClass own = some m.cls) {i : Nat} {v : Int32} (w : (Cond.constant own i v).before a0 Z = true) (hd : decode c.code pc = .ok (.ldc i, 2)) (K : Goes p e below G (T.setTop (mkF m (pc + 2) Ls (.int v :: st)))) : Goes p e below G (T.setTop (mkF m pc Ls st)) :=
  go (fun _ q => X.ldcI hx hown (mvT hZ w) (g := mkF m pc Ls st) rfl hd q) K
theorem gLdcWI (X : Stand p l e R s m args below meth c T locs cells slots) (hx : p.tables.exec = Jvm.exec) {pc : Nat} {Ls : Array Slot} {st : List Value} (hZ : Z.Warmed39 s.vm) {own : String} (hown : s.vm.findClass own = some m.cls) {i : Nat} {v : Int32} (w : (Cond.constant own i v).before a0 Z = true) (hd : decode c.code pc = .ok (.ldc_w i, 3)) (K : Goes p e below G (T.setTop (mkF m (pc + 3) Ls (.int v :: st)))) : Goes p e below G (T.setTop (mkF m pc Ls st)) :=
  go (fun _ q => X.ldcWI hx hown (mvT hZ w) (g := mkF m pc Ls st) rfl hd q) K
theorem gLdc2J (X : Stand p l e R s m args below meth c T locs cells slots) (hx : p.tables.exec = Jvm.exec) {pc : Nat} {Ls : Array Slot} {st : List Value} (hZ : Z.Warmed39 s.vm) {own : String} (hown : s.vm.findClass own = some m.cls) {i : Nat} {v : Int64} (w : (Cond.constantLong own i v).before a0 Z = true) (hd : decode c.code pc = .ok (.ldc2_w i, 3)) (K : Goes p e below G (T.setTop (mkF m (pc + 3) Ls (.long v :: st)))) : Goes p e below G (T.setTop (mkF m pc Ls st)) :=
  go (fun _ q => X.ldc2J hx hown (mvT hZ w) (g := mkF m pc Ls st) rfl hd q) K
theorem gLdc2D (X : Stand p l e R s m args below meth c T locs cells slots) (hx : p.tables.exec = Jvm.exec) {pc : Nat} {Ls : Array Slot} {st : List Value} (hZ : Z.Warmed39 s.vm) {own : String} (hown : s.vm.findClass own = some m.cls) {i : Nat} {v : UInt64} (w : (Cond.constantDouble own i v).before a0 Z = true) (hd : decode c.code pc = .ok (.ldc2_w i, 3)) (K : Goes p e below G (T.setTop (mkF m (pc + 3) Ls (.double v :: st)))) : Goes p e below G (T.setTop (mkF m pc Ls st)) :=
  go (fun _ q => X.ldc2DoubleC hx hown (mvT hZ w) (g := mkF m pc Ls st) rfl hd _ q) K
end Own
end Jvm.OwnWalk
namespace Jvm.Pilot.@@N@@
open Jvm Jvm.ClassFile Sem Op Lib Jvm.Free Jvm.Stand Jvm.LawKit Jvm.RoadKit Jvm.OwnWalk Bundle Jvm.Pilot.@@N@@.Jvm.D
theorem own_nat {n : Nat} (h : n < 2 ^ 31) : n.toInt32.toNatClampNeg = n := by simp only [Int32.toNatClampNeg, len_toInt h]; rfl
theorem own_nn {n : Nat} (h : n < 2 ^ 31) : ¬ n.toInt32 < 0 := by
  rw [Int32.lt_iff_toInt_lt, len_toInt h]
  show ¬ ((n : Int) < 0)
  omega
theorem own_inj {i j : Nat} (hi : i < 2 ^ 31) (hj : j < 2 ^ 31) : i.toInt32 = j.toInt32 ↔ i = j := by rw [← Int32.toInt_inj, len_toInt hi, len_toInt hj]; omega
def own_vs (P : List Nat) : List Value := P.map fun n => Value.int n.toInt32
theorem own_vs_at {P : List Nat} {i p : Nat} (h : P[i]? = some p) (hi : i < 2 ^ 31) : (own_vs P)[i.toInt32.toNatClampNeg]? = some (.int p.toInt32) := by rw [own_nat hi]; simp [own_vs, h]
theorem own_vs_set {P : List Nat} {i p : Nat} (hi : i < 2 ^ 31) : (own_vs P).set i.toInt32.toNatClampNeg (.int p.toInt32) = own_vs (P.set i p) := by rw [own_nat hi]; simp [own_vs, List.map_set]
def own_Inv (n : Nat) (P : List Nat) (r d : Nat → Nat) : Prop := P.length = n ∧ ∀ i, i < n → r i < n ∧ r (r i) = r i ∧ ∃ p, P[i]? = some p ∧ p < n ∧ r p = r i ∧ (p = i → r i = i) ∧ (p ≠ i → d p < d i)
theorem own_halve {n : Nat} {P : List Nat} {r d : Nat → Nat} (H : own_Inv n P r d) {i p g : Nat} (hi : i < n) (hp : P[i]? = some p) (hne : p ≠ i) (hg : P[p]? = some g) : own_Inv n (P.set i g) r d := by
  refine ⟨by rw [List.length_set]; exact H.1, fun j hj => ?_⟩
  obtain ⟨a1, a2, p', b1, b2, b3, b4, b5⟩ := H.2 j hj
  refine ⟨a1, a2, ?_⟩
  by_cases e : j = i
  · subst e
    cases hp.symm.trans b1
    obtain ⟨-, -, g', c1, c2, c3, c4, c5⟩ := H.2 p b2
    cases hg.symm.trans c1
    have hd := b5 hne
    have hgd : d g < d j := by
      by_cases q : g = p
      · rw [q]; exact hd
      · exact Nat.lt_trans (c5 q) hd
    refine ⟨g, by rw [List.getElem?_set_self (by rw [H.1]; exact hj)], c2, c3.trans b3, fun q => ?_, fun _ => hgd⟩
    subst q
    exact absurd hgd (Nat.lt_irrefl _)
  · exact ⟨p', by rw [List.getElem?_set_ne (Ne.symm e)]; exact b1, b2, b3, b4, b5⟩
theorem own_join {n : Nat} {P : List Nat} {r d : Nat → Nat} (H : own_Inv n P r d) {a b : Nat} (ha : a < n) (hB : b < n) : ∃ d', own_Inv n (P.set (r b) (r a)) (fun i => if r i = r b then r a else r i) d' := by
  obtain ⟨ra1, ra2, -⟩ := H.2 a ha
  obtain ⟨rb1, rb2, -⟩ := H.2 b hB
  refine ⟨fun i => d i + if r i = r b then d (r a) + 1 else 0, by rw [List.length_set]; exact H.1, fun i hi => ?_⟩
  obtain ⟨a1, a2, p, b1, b2, b3, b4, b5⟩ := H.2 i hi
  refine ⟨?_, ?_, ?_⟩
  · show (if r i = r b then r a else r i) < n
    split <;> assumption
  · show (if r (if r i = r b then r a else r i) = r b then r a else r (if r i = r b then r a else r i)) = if r i = r b then r a else r i
    by_cases q : r i = r b
    · simp only [q, if_true, ra2]; split <;> rfl
    · simp only [q, if_false, a2]
  · by_cases e : i = r b
    · subst e
      refine ⟨r a, by rw [List.getElem?_set_self (by rw [H.1]; exact hi)], ra1, ?_, fun q => ?_, fun q => ?_⟩
      · show (if r (r a) = r b then r a else r (r a)) = if r (r b) = r b then r a else r (r b)
        rw [if_pos rb2, ra2]; split <;> rfl
      · show (if r (r b) = r b then r a else r (r b)) = r b
        rw [if_pos rb2]; exact q
      · show d (r a) + (if r (r a) = r b then d (r a) + 1 else 0) < d (r b) + if r (r b) = r b then d (r a) + 1 else 0
        rw [if_pos rb2, ra2, if_neg q]; omega
    · refine ⟨p, by rw [List.getElem?_set_ne (Ne.symm e)]; exact b1, b2, ?_, fun q => ?_, fun q => ?_⟩
      · show (if r p = r b then r a else r p) = if r i = r b then r a else r i
        rw [b3]
      · show (if r i = r b then r a else r i) = i
        have k := b4 q
        rw [if_neg (fun z => e (k.symm.trans z))]; exact k
      · show d p + (if r p = r b then d (r a) + 1 else 0) < d i + if r i = r b then d (r a) + 1 else 0
        rw [b3]; have := b5 q; omega
theorem d_prog_15_method_1_0 : decode prog_15_method_1_code 0 = .ok (.aload_n 0, 1) := by decide +kernel
theorem d_prog_15_method_1_1 : decode prog_15_method_1_code 1 = .ok (.invokespecial 1, 3) := by decide +kernel
theorem d_prog_15_method_1_4 : decode prog_15_method_1_code 4 = .ok (.aload_n 0, 1) := by decide +kernel
theorem d_prog_15_method_1_5 : decode prog_15_method_1_code 5 = .ok (.iload_n 1, 1) := by decide +kernel
theorem d_prog_15_method_1_6 : decode prog_15_method_1_code 6 = .ok (.newarray .int, 2) := by decide +kernel
theorem d_prog_15_method_1_8 : decode prog_15_method_1_code 8 = .ok (.putfield 7, 3) := by decide +kernel
theorem d_prog_15_method_1_11 : decode prog_15_method_1_code 11 = .ok (.iconst 0, 1) := by decide +kernel
theorem d_prog_15_method_1_12 : decode prog_15_method_1_code 12 = .ok (.istore_n 2, 1) := by decide +kernel
theorem d_prog_15_method_1_13 : decode prog_15_method_1_code 13 = .ok (.iload_n 2, 1) := by decide +kernel
theorem d_prog_15_method_1_14 : decode prog_15_method_1_code 14 = .ok (.iload_n 1, 1) := by decide +kernel
theorem d_prog_15_method_1_15 : decode prog_15_method_1_code 15 = .ok (.if_icmp .ge 16, 3) := by decide +kernel
theorem d_prog_15_method_1_18 : decode prog_15_method_1_code 18 = .ok (.aload_n 0, 1) := by decide +kernel
theorem d_prog_15_method_1_19 : decode prog_15_method_1_code 19 = .ok (.getfield 7, 3) := by decide +kernel
theorem d_prog_15_method_1_22 : decode prog_15_method_1_code 22 = .ok (.iload_n 2, 1) := by decide +kernel
theorem d_prog_15_method_1_23 : decode prog_15_method_1_code 23 = .ok (.iload_n 2, 1) := by decide +kernel
theorem d_prog_15_method_1_24 : decode prog_15_method_1_code 24 = .ok (.iastore, 1) := by decide +kernel
theorem d_prog_15_method_1_25 : decode prog_15_method_1_code 25 = .ok (.iinc 2 1, 3) := by decide +kernel
theorem d_prog_15_method_1_28 : decode prog_15_method_1_code 28 = .ok (.goto (-15), 3) := by decide +kernel
theorem d_prog_15_method_1_31 : decode prog_15_method_1_code 31 = .ok (.return_, 1) := by decide +kernel
theorem pn_0 : plainName "com/example/phal/phal/service/Groups" = true := by first | (simp [plainName, overriddenIn]; done) | decide +kernel
theorem ef_rmI (m : MethodId) (x0 : Addr) (x1 : Int32) : entryFrame m #[(.ref x0), (.int x1)] 3 = mkF m 0 #[.val (.ref x0), .val (.int x1), .unset] [] := by first | (simp [entryFrame, mkF, argsToLocals, Value.category]; done) | rfl
set_option maxRecDepth 65536 in
set_option maxHeartbeats 40000000 in
theorem rmI (l : Launch) (Z : State) (a0 : Array Value) (hw : ∀ d ∈ tables_1, d.before a0 Z = true)  (a1 : Addr) (h0 : Heap) (O0 : Ext Z.heap h0) (E1 : Exa Z h0 a1 "com/example/phal/phal/service/Groups") (F1 : Fld Z h0 a1 "com/example/phal/phal/service/Groups" "parent" "[I" .null) (fr1 : Z.heap.size ≤ a1) :
    Ctr l Z (⟨"com/example/phal/phal/service/Groups", "<init>", "(I)V"⟩ : MethodName) prog_15_method_1_code 3 none [] ({ frames := 1, cells := 1, slots := 4, locals := 12 } : Room) #[(.ref a1), (.int (4 : Int32))] h0 (fun v h L => v = none ∧ Fr Z.heap.size L ∧ Keep h0 h [a1] ∧ ∃ u, h0.size ≤ u ∧ Fld Z h a1 "com/example/phal/phal/service/Groups" "parent" "[I" (.ref u) ∧ Ary Z h u .int (own_vs (List.range 4))) := by
  refine ctr (plainFor_of_name pn_0) ?_
  intro p e s m below meth c s₁ hx hby hml hown hnm hret hlocks hZ X0 e0
  have N0 := Fr.nil Z.heap.size
  have hsz : ∀ {Ls : Array Slot}, Ls.size = 3 → Ls.size = c.maxLocals := fun q => q.trans hml.symm
  have K0 := Keep.refl h0 [a1]
  refine goE (ef_rmI m (a1) ((4 : Int32))) ?_
  show Goes p e below _ (s₁.setTop (mkF m 0 #[.val (.ref a1), .val (.int (4 : Int32)), .unset] []))
  refine gAloadN X0 hx (hb hby d_prog_15_method_1_0) rfl rfl ?_
  obtain ⟨Tt1, Xt1, et1, stt1⟩ := initO X0 hx hZ hown (hw _ (List.mem_of_getElem? (i := 7) rfl)) (hw _ (List.mem_of_getElem? (i := 8) rfl)) (hw _ (List.mem_of_getElem? (i := 9) rfl)) e0 (g := (mkF m 1 #[.val (.ref a1), .val (.int (4 : Int32)), .unset] [(.ref a1)])) rfl (by rw [hml]; rfl) rfl (hb hby d_prog_15_method_1_1) (by decide) (W := 0) (Nat.le_of_eq rfl) (by decide)
  refine go stt1 ?_
  show Goes p e below _ (Tt1.setTop (mkF m 4 #[.val (.ref a1), .val (.int (4 : Int32)), .unset] []))
  refine gAloadN Xt1 hx (hb hby d_prog_15_method_1_4) rfl rfl ?_
  refine gIloadN Xt1 hx (hb hby d_prog_15_method_1_5) rfl ?_
  obtain ⟨Tt2, ht2, kt2, Xt2, et2, Et2, At2, stt2⟩ := newP Xt1 hx hZ (hw _ (List.mem_of_getElem? (i := 0) rfl)) et1 (g := (mkF m 6 #[.val (.ref a1), .val (.int (4 : Int32)), .unset] [(.int (4 : Int32)), (.ref a1)])) rfl (hb hby d_prog_15_method_1_6) rfl (by decide) (cap := 4) (by decide) (by decide) (by decide) (by decide)
  obtain ⟨b3, gb3⟩ : ∃ z, z = h0.size := ⟨_, rfl⟩
  rw [← gb3] at At2 stt2
  refine go stt2 ?_
  have ne_a1_b3 : a1 ≠ b3 := Nat.ne_of_lt (gb3 ▸ E1.lt)
  have fr_b3 : Z.heap.size ≤ b3 := gb3 ▸ O0.1
  have pa_b3 : h0.size ≤ b3 := gb3 ▸ K0.1
  replace E1 := E1.ext Et2
  replace F1 := F1.ext Et2
  have O4 : Ext Z.heap ht2 := extT O0 Et2
  have K5 := K0.ext Et2
  have Y_b3 : Ary Z ht2 b3 .int [(.int (0 : Int32)), (.int (0 : Int32)), (.int (0 : Int32)), (.int (0 : Int32))] := Ary.new At2 rfl (by decide)
  show Goes p e below _ (Tt2.setTop (mkF m 8 #[.val (.ref a1), .val (.int (4 : Int32)), .unset] [(.ref b3), (.ref a1)]))
  obtain ⟨Tt6, ht6, Xt6, et6, Wt6, stt6⟩ := putF Xt2 hx hZ hown (host := "") (Or.inl (hw _ (List.mem_of_getElem? (i := 10) rfl))) Via.refl et2 F1 E1 (Or.inr ⟨(hw _ (List.mem_of_getElem? (i := 11) rfl)), rfl, hnm⟩) (hw _ (List.mem_of_getElem? (i := 2) rfl)) (ty := (.array .int)) (by decide) rfl rfl (g := (mkF m 8 #[.val (.ref a1), .val (.int (4 : Int32)), .unset] [(.ref b3), (.ref a1)])) rfl rfl (hb hby d_prog_15_method_1_8)
  refine go stt6 ?_
  have N7 := Fr.snoc Xt6 N0 fr1
  replace F1 := F1.same Wt6
  replace E1 := E1.wr Wt6
  replace Y_b3 := Y_b3.other Wt6 (Ne.symm ne_a1_b3)
  have O8 : Ext Z.heap ht6 := extW O4 Wt6 fr1
  have K9 := K5.wr Wt6 (Or.inl (by simp))
  show Goes p e below _ (Tt6.setTop (mkF m 11 #[.val (.ref a1), .val (.int (4 : Int32)), .unset] []))
  refine gIconst Xt6 hx (hb hby d_prog_15_method_1_11) (v := (0 : Int32)) rfl ?_
  refine gIstoreN Xt6 hx (hb hby d_prog_15_method_1_12) (l' := #[.val (.ref a1), .val (.int (4 : Int32)), .val (.int (0 : Int32))]) rfl ?_
  refine gIloadN Xt6 hx (hb hby d_prog_15_method_1_13) rfl ?_
  refine gIloadN Xt6 hx (hb hby d_prog_15_method_1_14) rfl ?_
  refine gIcmpN Xt6 hx (hb hby d_prog_15_method_1_15) (XT.ii_ge_f (by decide)) ?_
  show Goes p e below _ (Tt6.setTop (mkF m 18 #[.val (.ref a1), .val (.int (4 : Int32)), .val (.int (0 : Int32))] []))
  refine gAloadN Xt6 hx (hb hby d_prog_15_method_1_18) rfl rfl ?_
  obtain ⟨Tt10, Xt10, et10, stt10⟩ := getF Xt6 hx hZ hown (host := "") (Or.inl (hw _ (List.mem_of_getElem? (i := 10) rfl))) Via.refl et6 F1 (g := (mkF m 19 #[.val (.ref a1), .val (.int (4 : Int32)), .val (.int (0 : Int32))] [(.ref a1)])) rfl rfl (hb hby d_prog_15_method_1_19)
  refine go stt10 ?_
  show Goes p e below _ (Tt10.setTop (mkF m 22 #[.val (.ref a1), .val (.int (4 : Int32)), .val (.int (0 : Int32))] [(.ref b3)]))
  refine gIloadN Xt10 hx (hb hby d_prog_15_method_1_22) rfl ?_
  refine gIloadN Xt10 hx (hb hby d_prog_15_method_1_23) rfl ?_
  refine goIastore Xt10 hx hZ et10 Y_b3 (hb hby d_prog_15_method_1_24) (by decide) rfl (fun Tt11 ht11 Xt11 et11 Wt11 => ?_)
  have N12 := Fr.snoc Xt11 N7 fr_b3
  replace Y_b3 : Ary Z ht11 b3 .int [(.int (0 : Int32)), (.int (0 : Int32)), (.int (0 : Int32)), (.int (0 : Int32))] := Y_b3.set Wt11 rfl
  replace E1 := E1.wr Wt11
  replace F1 := F1.other Wt11 (Or.inl ne_a1_b3)
  have O13 : Ext Z.heap ht11 := extW O8 Wt11 fr_b3
  have K14 := K9.wr Wt11 (Or.inr pa_b3)
  show Goes p e below _ (Tt11.setTop (mkF m 25 #[.val (.ref a1), .val (.int (4 : Int32)), .val (.int (0 : Int32))] []))
  refine gIinc Xt11 hx (hb hby d_prog_15_method_1_25) (v := (1 : Int32)) rfl rfl (l' := #[.val (.ref a1), .val (.int (4 : Int32)), .val (.int (1 : Int32))]) rfl ?_
  refine gGoto Xt11 hx (hb hby d_prog_15_method_1_28) (pc' := 13) (by decide) (by decide) ?_
  show Goes p e below _ (Tt11.setTop (mkF m 13 #[.val (.ref a1), .val (.int (4 : Int32)), .val (.int (1 : Int32))] []))
  refine gIloadN Xt11 hx (hb hby d_prog_15_method_1_13) rfl ?_
  refine gIloadN Xt11 hx (hb hby d_prog_15_method_1_14) rfl ?_
  refine gIcmpN Xt11 hx (hb hby d_prog_15_method_1_15) (XT.ii_ge_f (by decide)) ?_
  show Goes p e below _ (Tt11.setTop (mkF m 18 #[.val (.ref a1), .val (.int (4 : Int32)), .val (.int (1 : Int32))] []))
  refine gAloadN Xt11 hx (hb hby d_prog_15_method_1_18) rfl rfl ?_
  obtain ⟨Tt15, Xt15, et15, stt15⟩ := getF Xt11 hx hZ hown (host := "") (Or.inl (hw _ (List.mem_of_getElem? (i := 10) rfl))) Via.refl et11 F1 (g := (mkF m 19 #[.val (.ref a1), .val (.int (4 : Int32)), .val (.int (1 : Int32))] [(.ref a1)])) rfl rfl (hb hby d_prog_15_method_1_19)
  refine go stt15 ?_
  show Goes p e below _ (Tt15.setTop (mkF m 22 #[.val (.ref a1), .val (.int (4 : Int32)), .val (.int (1 : Int32))] [(.ref b3)]))
  refine gIloadN Xt15 hx (hb hby d_prog_15_method_1_22) rfl ?_
  refine gIloadN Xt15 hx (hb hby d_prog_15_method_1_23) rfl ?_
  refine goIastore Xt15 hx hZ et15 Y_b3 (hb hby d_prog_15_method_1_24) (by decide) rfl (fun Tt16 ht16 Xt16 et16 Wt16 => ?_)
  have N17 := Fr.snoc Xt16 N12 fr_b3
  replace Y_b3 : Ary Z ht16 b3 .int [(.int (0 : Int32)), (.int (1 : Int32)), (.int (0 : Int32)), (.int (0 : Int32))] := Y_b3.set Wt16 rfl
  replace E1 := E1.wr Wt16
  replace F1 := F1.other Wt16 (Or.inl ne_a1_b3)
  have O18 : Ext Z.heap ht16 := extW O13 Wt16 fr_b3
  have K19 := K14.wr Wt16 (Or.inr pa_b3)
  show Goes p e below _ (Tt16.setTop (mkF m 25 #[.val (.ref a1), .val (.int (4 : Int32)), .val (.int (1 : Int32))] []))
  refine gIinc Xt16 hx (hb hby d_prog_15_method_1_25) (v := (2 : Int32)) rfl rfl (l' := #[.val (.ref a1), .val (.int (4 : Int32)), .val (.int (2 : Int32))]) rfl ?_
  refine gGoto Xt16 hx (hb hby d_prog_15_method_1_28) (pc' := 13) (by decide) (by decide) ?_
  show Goes p e below _ (Tt16.setTop (mkF m 13 #[.val (.ref a1), .val (.int (4 : Int32)), .val (.int (2 : Int32))] []))
  refine gIloadN Xt16 hx (hb hby d_prog_15_method_1_13) rfl ?_
  refine gIloadN Xt16 hx (hb hby d_prog_15_method_1_14) rfl ?_
  refine gIcmpN Xt16 hx (hb hby d_prog_15_method_1_15) (XT.ii_ge_f (by decide)) ?_
  show Goes p e below _ (Tt16.setTop (mkF m 18 #[.val (.ref a1), .val (.int (4 : Int32)), .val (.int (2 : Int32))] []))
  refine gAloadN Xt16 hx (hb hby d_prog_15_method_1_18) rfl rfl ?_
  obtain ⟨Tt20, Xt20, et20, stt20⟩ := getF Xt16 hx hZ hown (host := "") (Or.inl (hw _ (List.mem_of_getElem? (i := 10) rfl))) Via.refl et16 F1 (g := (mkF m 19 #[.val (.ref a1), .val (.int (4 : Int32)), .val (.int (2 : Int32))] [(.ref a1)])) rfl rfl (hb hby d_prog_15_method_1_19)
  refine go stt20 ?_
  show Goes p e below _ (Tt20.setTop (mkF m 22 #[.val (.ref a1), .val (.int (4 : Int32)), .val (.int (2 : Int32))] [(.ref b3)]))
  refine gIloadN Xt20 hx (hb hby d_prog_15_method_1_22) rfl ?_
  refine gIloadN Xt20 hx (hb hby d_prog_15_method_1_23) rfl ?_
  refine goIastore Xt20 hx hZ et20 Y_b3 (hb hby d_prog_15_method_1_24) (by decide) rfl (fun Tt21 ht21 Xt21 et21 Wt21 => ?_)
  have N22 := Fr.snoc Xt21 N17 fr_b3
  replace Y_b3 : Ary Z ht21 b3 .int [(.int (0 : Int32)), (.int (1 : Int32)), (.int (2 : Int32)), (.int (0 : Int32))] := Y_b3.set Wt21 rfl
  replace E1 := E1.wr Wt21
  replace F1 := F1.other Wt21 (Or.inl ne_a1_b3)
  have O23 : Ext Z.heap ht21 := extW O18 Wt21 fr_b3
  have K24 := K19.wr Wt21 (Or.inr pa_b3)
  show Goes p e below _ (Tt21.setTop (mkF m 25 #[.val (.ref a1), .val (.int (4 : Int32)), .val (.int (2 : Int32))] []))
  refine gIinc Xt21 hx (hb hby d_prog_15_method_1_25) (v := (3 : Int32)) rfl rfl (l' := #[.val (.ref a1), .val (.int (4 : Int32)), .val (.int (3 : Int32))]) rfl ?_
  refine gGoto Xt21 hx (hb hby d_prog_15_method_1_28) (pc' := 13) (by decide) (by decide) ?_
  show Goes p e below _ (Tt21.setTop (mkF m 13 #[.val (.ref a1), .val (.int (4 : Int32)), .val (.int (3 : Int32))] []))
  refine gIloadN Xt21 hx (hb hby d_prog_15_method_1_13) rfl ?_
  refine gIloadN Xt21 hx (hb hby d_prog_15_method_1_14) rfl ?_
  refine gIcmpN Xt21 hx (hb hby d_prog_15_method_1_15) (XT.ii_ge_f (by decide)) ?_
  show Goes p e below _ (Tt21.setTop (mkF m 18 #[.val (.ref a1), .val (.int (4 : Int32)), .val (.int (3 : Int32))] []))
  refine gAloadN Xt21 hx (hb hby d_prog_15_method_1_18) rfl rfl ?_
  obtain ⟨Tt25, Xt25, et25, stt25⟩ := getF Xt21 hx hZ hown (host := "") (Or.inl (hw _ (List.mem_of_getElem? (i := 10) rfl))) Via.refl et21 F1 (g := (mkF m 19 #[.val (.ref a1), .val (.int (4 : Int32)), .val (.int (3 : Int32))] [(.ref a1)])) rfl rfl (hb hby d_prog_15_method_1_19)
  refine go stt25 ?_
  show Goes p e below _ (Tt25.setTop (mkF m 22 #[.val (.ref a1), .val (.int (4 : Int32)), .val (.int (3 : Int32))] [(.ref b3)]))
  refine gIloadN Xt25 hx (hb hby d_prog_15_method_1_22) rfl ?_
  refine gIloadN Xt25 hx (hb hby d_prog_15_method_1_23) rfl ?_
  refine goIastore Xt25 hx hZ et25 Y_b3 (hb hby d_prog_15_method_1_24) (by decide) rfl (fun Tt26 ht26 Xt26 et26 Wt26 => ?_)
  have N27 := Fr.snoc Xt26 N22 fr_b3
  replace Y_b3 : Ary Z ht26 b3 .int [(.int (0 : Int32)), (.int (1 : Int32)), (.int (2 : Int32)), (.int (3 : Int32))] := Y_b3.set Wt26 rfl
  replace E1 := E1.wr Wt26
  replace F1 := F1.other Wt26 (Or.inl ne_a1_b3)
  have O28 : Ext Z.heap ht26 := extW O23 Wt26 fr_b3
  have K29 := K24.wr Wt26 (Or.inr pa_b3)
  show Goes p e below _ (Tt26.setTop (mkF m 25 #[.val (.ref a1), .val (.int (4 : Int32)), .val (.int (3 : Int32))] []))
  refine gIinc Xt26 hx (hb hby d_prog_15_method_1_25) (v := (4 : Int32)) rfl rfl (l' := #[.val (.ref a1), .val (.int (4 : Int32)), .val (.int (4 : Int32))]) rfl ?_
  refine gGoto Xt26 hx (hb hby d_prog_15_method_1_28) (pc' := 13) (by decide) (by decide) ?_
  show Goes p e below _ (Tt26.setTop (mkF m 13 #[.val (.ref a1), .val (.int (4 : Int32)), .val (.int (4 : Int32))] []))
  refine gIloadN Xt26 hx (hb hby d_prog_15_method_1_13) rfl ?_
  refine gIloadN Xt26 hx (hb hby d_prog_15_method_1_14) rfl ?_
  refine gIcmpY Xt26 hx (hb hby d_prog_15_method_1_15) (pc' := 31) (XT.ii_ge_t (by decide)) (by decide) (by decide) ?_
  show Goes p e below _ (Tt26.setTop (mkF m 31 #[.val (.ref a1), .val (.int (4 : Int32)), .val (.int (4 : Int32))] []))
  exact goRet0 Xt26 hx hret hlocks (hb hby d_prog_15_method_1_31) (by decide) (by decide) et26 (⟨rfl, N27, K29, b3, pa_b3, F1, Y_b3⟩)
theorem d_prog_15_method_4_0 : decode prog_15_method_4_code 0 = .ok (.iload_n 1, 1) := by decide +kernel
theorem d_prog_15_method_4_1 : decode prog_15_method_4_code 1 = .ok (.istore_n 2, 1) := by decide +kernel
theorem d_prog_15_method_4_2 : decode prog_15_method_4_code 2 = .ok (.aload_n 0, 1) := by decide +kernel
theorem d_prog_15_method_4_3 : decode prog_15_method_4_code 3 = .ok (.getfield 7, 3) := by decide +kernel
theorem d_prog_15_method_4_6 : decode prog_15_method_4_code 6 = .ok (.iload_n 2, 1) := by decide +kernel
theorem d_prog_15_method_4_7 : decode prog_15_method_4_code 7 = .ok (.iaload, 1) := by decide +kernel
theorem d_prog_15_method_4_8 : decode prog_15_method_4_code 8 = .ok (.iload_n 2, 1) := by decide +kernel
theorem d_prog_15_method_4_9 : decode prog_15_method_4_code 9 = .ok (.if_icmp .eq 30, 3) := by decide +kernel
theorem d_prog_15_method_4_39 : decode prog_15_method_4_code 39 = .ok (.iload_n 2, 1) := by decide +kernel
theorem d_prog_15_method_4_40 : decode prog_15_method_4_code 40 = .ok (.ireturn, 1) := by decide +kernel
theorem d_prog_15_method_4_12 : decode prog_15_method_4_code 12 = .ok (.aload_n 0, 1) := by decide +kernel
theorem d_prog_15_method_4_13 : decode prog_15_method_4_code 13 = .ok (.getfield 7, 3) := by decide +kernel
theorem d_prog_15_method_4_16 : decode prog_15_method_4_code 16 = .ok (.iload_n 2, 1) := by decide +kernel
theorem d_prog_15_method_4_17 : decode prog_15_method_4_code 17 = .ok (.aload_n 0, 1) := by decide +kernel
theorem d_prog_15_method_4_18 : decode prog_15_method_4_code 18 = .ok (.getfield 7, 3) := by decide +kernel
theorem d_prog_15_method_4_21 : decode prog_15_method_4_code 21 = .ok (.aload_n 0, 1) := by decide +kernel
theorem d_prog_15_method_4_22 : decode prog_15_method_4_code 22 = .ok (.getfield 7, 3) := by decide +kernel
theorem d_prog_15_method_4_25 : decode prog_15_method_4_code 25 = .ok (.iload_n 2, 1) := by decide +kernel
theorem d_prog_15_method_4_26 : decode prog_15_method_4_code 26 = .ok (.iaload, 1) := by decide +kernel
theorem d_prog_15_method_4_27 : decode prog_15_method_4_code 27 = .ok (.iaload, 1) := by decide +kernel
theorem d_prog_15_method_4_28 : decode prog_15_method_4_code 28 = .ok (.iastore, 1) := by decide +kernel
theorem d_prog_15_method_4_29 : decode prog_15_method_4_code 29 = .ok (.aload_n 0, 1) := by decide +kernel
theorem d_prog_15_method_4_30 : decode prog_15_method_4_code 30 = .ok (.getfield 7, 3) := by decide +kernel
theorem d_prog_15_method_4_33 : decode prog_15_method_4_code 33 = .ok (.iload_n 2, 1) := by decide +kernel
theorem d_prog_15_method_4_34 : decode prog_15_method_4_code 34 = .ok (.iaload, 1) := by decide +kernel
theorem d_prog_15_method_4_35 : decode prog_15_method_4_code 35 = .ok (.istore_n 2, 1) := by decide +kernel
theorem d_prog_15_method_4_36 : decode prog_15_method_4_code 36 = .ok (.goto (-34), 3) := by decide +kernel
theorem ef_rmT (m : MethodId) (x0 : Addr) (x1 : Int32) : entryFrame m #[(.ref x0), (.int x1)] 3 = mkF m 0 #[.val (.ref x0), .val (.int x1), .unset] [] := by first | (simp [entryFrame, mkF, argsToLocals, Value.category]; done) | rfl
set_option maxRecDepth 65536 in
set_option maxHeartbeats 40000000 in
theorem rmT (l : Launch) (Z : State) (a0 : Array Value) (hw : ∀ d ∈ tables_1, d.before a0 Z = true) (a1 : Addr) (u : Addr) (i n : Nat) (r d : Nat → Nat) (P : List Nat)  (h0 : Heap) (O0 : Ext Z.heap h0) (F1 : Fld Z h0 a1 "com/example/phal/phal/service/Groups" "parent" "[I" (.ref u)) (Y1 : Ary Z h0 u .int (own_vs P)) (I1 : own_Inv n P r d) (hi : i < n) (hn : n < 100) (ne : a1 ≠ u) (fr1 : Z.heap.size ≤ u) :
    Ctr l Z (⟨"com/example/phal/phal/service/Groups", "root", "(I)I"⟩ : MethodName) prog_15_method_4_code 3 (some .int) [] ({ frames := 0, cells := 0, slots := 0, locals := 0 } : Room) #[(.ref a1), (.int i.toInt32)] h0 (fun v h L => v = some (.int (r i).toInt32) ∧ Fr Z.heap.size L ∧ Keep h0 h [u] ∧ ∃ P', Ary Z h u .int (own_vs P') ∧ own_Inv n P' r d) := by
  refine ctr (plainFor_of_name pn_0) ?_
  intro p e s m below meth c s₁ hx hby hml hown hnm hret hlocks hZ X0 e0
  have N0 := Fr.nil Z.heap.size
  have hsz : ∀ {Ls : Array Slot}, Ls.size = 3 → Ls.size = c.maxLocals := fun q => q.trans hml.symm
  have K0 := Keep.refl h0 [u]
  refine goE (ef_rmT m (a1) (i.toInt32)) ?_
  show Goes p e below _ (s₁.setTop (mkF m 0 #[.val (.ref a1), .val (.int i.toInt32), .unset] []))
  refine gIloadN X0 hx (hb hby d_prog_15_method_4_0) rfl ?_
  refine gIstoreN X0 hx (hb hby d_prog_15_method_4_1) (l' := #[.val (.ref a1), .val (.int i.toInt32), .val (.int i.toInt32)]) rfl ?_
  have loop : ∀ (k : Nat) (j : Nat) (P2 : List Nat) (T_ : State) (h_ : Heap) (lc_ : List Loc), (d j < k) → (j < n) → (r j = r i) → (own_Inv n P2 r d) → (Stand p l e ({ frames := 0, cells := 0, slots := 0, locals := 0 } : Room) s m #[(.ref a1), (.int i.toInt32)] below meth c T_ lc_ 0 0) → (T_.heap = h_) → (Fr Z.heap.size lc_) → (Keep h0 h_ [u]) → (Ext Z.heap h_) → (Fld Z h_ a1 "com/example/phal/phal/service/Groups" "parent" "[I" (.ref u)) → (Ary Z h_ u .int (own_vs P2)) → Goes p e below (EndN s (fun v h L => v = some (.int (r i).toInt32) ∧ Fr Z.heap.size L ∧ Keep h0 h [u] ∧ ∃ P', Ary Z h u .int (own_vs P') ∧ own_Inv n P' r d) ({ frames := 0, cells := 0, slots := 0, locals := 0 } : Room).cells ({ frames := 0, cells := 0, slots := 0, locals := 0 } : Room).slots) (T_.setTop (mkF m 2 #[.val (.ref a1), .val (.int i.toInt32), .val (.int j.toInt32)] [])) := by
    intro k
    induction k with
    | zero =>
      intro j P2 T_ h_ lc_ hd hj hr I2 X_ e_ N_ K_ O_ F1 Y1
      exact absurd hd (Nat.not_lt_zero _)
    | succ k ih =>
      intro j P2 T_ h_ lc_ hd hj hr I2 X_ e_ N_ K_ O_ F1 Y1
      obtain ⟨a1_, a2_, p_, b1, b2, b3, b4, b5⟩ := I2.2 j hj
      obtain ⟨-, -, g_, c1, c2, c3, c4, c5⟩ := I2.2 p_ b2
      refine gAloadN X_ hx (hb hby d_prog_15_method_4_2) rfl rfl ?_
      obtain ⟨Tt1, Xt1, et1, stt1⟩ := getF X_ hx hZ hown (host := "") (Or.inl (hw _ (List.mem_of_getElem? (i := 10) rfl))) Via.refl e_ F1 (g := (mkF m 3 #[.val (.ref a1), .val (.int i.toInt32), .val (.int j.toInt32)] [(.ref a1)])) rfl rfl (hb hby d_prog_15_method_4_3)
      refine go stt1 ?_
      show Goes p e below _ (Tt1.setTop (mkF m 6 #[.val (.ref a1), .val (.int i.toInt32), .val (.int j.toInt32)] [(.ref u)]))
      refine gIloadN Xt1 hx (hb hby d_prog_15_method_4_6) rfl ?_
      refine goIaload Xt1 hx hZ et1 Y1 (x := p_.toInt32) (hb hby d_prog_15_method_4_7) (own_nn (by omega)) (own_vs_at b1 (by omega)) ?_
      show Goes p e below _ (Tt1.setTop (mkF m 8 #[.val (.ref a1), .val (.int i.toInt32), .val (.int j.toInt32)] [(.int p_.toInt32)]))
      refine gIloadN Xt1 hx (hb hby d_prog_15_method_4_8) rfl ?_
      by_cases q : p_ = j
      · refine gIcmpY Xt1 hx (hb hby d_prog_15_method_4_9) (pc' := 39) (XT.ii_eq_t ((own_inj (by omega) (by omega)).mpr q)) (by decide) (by decide) ?_
        show Goes p e below _ (Tt1.setTop (mkF m 39 #[.val (.ref a1), .val (.int i.toInt32), .val (.int j.toInt32)] []))
        refine gIloadN Xt1 hx (hb hby d_prog_15_method_4_39) rfl ?_
        exact goRetI Xt1 hx hret hlocks (hb hby d_prog_15_method_4_40) (by decide) (by decide) et1 (⟨by rw [← hr, b4 q], N_, K_, P2, Y1, I2⟩)
      · refine gIcmpN Xt1 hx (hb hby d_prog_15_method_4_9) (XT.ii_eq_f (fun z => q ((own_inj (by omega) (by omega)).mp z))) ?_
        show Goes p e below _ (Tt1.setTop (mkF m 12 #[.val (.ref a1), .val (.int i.toInt32), .val (.int j.toInt32)] []))
        refine gAloadN Xt1 hx (hb hby d_prog_15_method_4_12) rfl rfl ?_
        obtain ⟨Tt2, Xt2, et2, stt2⟩ := getF Xt1 hx hZ hown (host := "") (Or.inl (hw _ (List.mem_of_getElem? (i := 10) rfl))) Via.refl et1 F1 (g := (mkF m 13 #[.val (.ref a1), .val (.int i.toInt32), .val (.int j.toInt32)] [(.ref a1)])) rfl rfl (hb hby d_prog_15_method_4_13)
        refine go stt2 ?_
        show Goes p e below _ (Tt2.setTop (mkF m 16 #[.val (.ref a1), .val (.int i.toInt32), .val (.int j.toInt32)] [(.ref u)]))
        refine gIloadN Xt2 hx (hb hby d_prog_15_method_4_16) rfl ?_
        refine gAloadN Xt2 hx (hb hby d_prog_15_method_4_17) rfl rfl ?_
        obtain ⟨Tt3, Xt3, et3, stt3⟩ := getF Xt2 hx hZ hown (host := "") (Or.inl (hw _ (List.mem_of_getElem? (i := 10) rfl))) Via.refl et2 F1 (g := (mkF m 18 #[.val (.ref a1), .val (.int i.toInt32), .val (.int j.toInt32)] [(.ref a1), (.int j.toInt32), (.ref u)])) rfl rfl (hb hby d_prog_15_method_4_18)
        refine go stt3 ?_
        show Goes p e below _ (Tt3.setTop (mkF m 21 #[.val (.ref a1), .val (.int i.toInt32), .val (.int j.toInt32)] [(.ref u), (.int j.toInt32), (.ref u)]))
        refine gAloadN Xt3 hx (hb hby d_prog_15_method_4_21) rfl rfl ?_
        obtain ⟨Tt4, Xt4, et4, stt4⟩ := getF Xt3 hx hZ hown (host := "") (Or.inl (hw _ (List.mem_of_getElem? (i := 10) rfl))) Via.refl et3 F1 (g := (mkF m 22 #[.val (.ref a1), .val (.int i.toInt32), .val (.int j.toInt32)] [(.ref a1), (.ref u), (.int j.toInt32), (.ref u)])) rfl rfl (hb hby d_prog_15_method_4_22)
        refine go stt4 ?_
        show Goes p e below _ (Tt4.setTop (mkF m 25 #[.val (.ref a1), .val (.int i.toInt32), .val (.int j.toInt32)] [(.ref u), (.ref u), (.int j.toInt32), (.ref u)]))
        refine gIloadN Xt4 hx (hb hby d_prog_15_method_4_25) rfl ?_
        refine goIaload Xt4 hx hZ et4 Y1 (x := p_.toInt32) (hb hby d_prog_15_method_4_26) (own_nn (by omega)) (own_vs_at b1 (by omega)) ?_
        show Goes p e below _ (Tt4.setTop (mkF m 27 #[.val (.ref a1), .val (.int i.toInt32), .val (.int j.toInt32)] [(.int p_.toInt32), (.ref u), (.int j.toInt32), (.ref u)]))
        refine goIaload Xt4 hx hZ et4 Y1 (x := g_.toInt32) (hb hby d_prog_15_method_4_27) (own_nn (by omega)) (own_vs_at c1 (by omega)) ?_
        show Goes p e below _ (Tt4.setTop (mkF m 28 #[.val (.ref a1), .val (.int i.toInt32), .val (.int j.toInt32)] [(.int g_.toInt32), (.int j.toInt32), (.ref u)]))
        refine goIastore Xt4 hx hZ et4 Y1 (hb hby d_prog_15_method_4_28) (own_nn (by omega)) (own_vs_at b1 (by omega)) (fun Tt5 ht5 Xt5 et5 Wt5 => ?_)
        have N6 := Fr.snoc Xt5 N_ fr1
        replace Y1 : Ary Z ht5 u .int (own_vs (P2.set j g_)) := Y1.set Wt5 (own_vs_set (by omega))
        replace F1 := F1.other Wt5 (Or.inl ne)
        have O7 : Ext Z.heap ht5 := extW O_ Wt5 fr1
        have K8 := K_.wr Wt5 (Or.inl (by simp))
        show Goes p e below _ (Tt5.setTop (mkF m 29 #[.val (.ref a1), .val (.int i.toInt32), .val (.int j.toInt32)] []))
        have I3 := own_halve I2 hj b1 q c1
        refine gAloadN Xt5 hx (hb hby d_prog_15_method_4_29) rfl rfl ?_
        obtain ⟨Tt9, Xt9, et9, stt9⟩ := getF Xt5 hx hZ hown (host := "") (Or.inl (hw _ (List.mem_of_getElem? (i := 10) rfl))) Via.refl et5 F1 (g := (mkF m 30 #[.val (.ref a1), .val (.int i.toInt32), .val (.int j.toInt32)] [(.ref a1)])) rfl rfl (hb hby d_prog_15_method_4_30)
        refine go stt9 ?_
        show Goes p e below _ (Tt9.setTop (mkF m 33 #[.val (.ref a1), .val (.int i.toInt32), .val (.int j.toInt32)] [(.ref u)]))
        refine gIloadN Xt9 hx (hb hby d_prog_15_method_4_33) rfl ?_
        refine goIaload Xt9 hx hZ et9 Y1 (x := g_.toInt32) (hb hby d_prog_15_method_4_34) (own_nn (by omega)) (own_vs_at (by rw [List.getElem?_set_self (by rw [I2.1]; exact hj)]) (by omega)) ?_
        show Goes p e below _ (Tt9.setTop (mkF m 35 #[.val (.ref a1), .val (.int i.toInt32), .val (.int j.toInt32)] [(.int g_.toInt32)]))
        refine gIstoreN Xt9 hx (hb hby d_prog_15_method_4_35) (l' := #[.val (.ref a1), .val (.int i.toInt32), .val (.int g_.toInt32)]) rfl ?_
        refine gGoto Xt9 hx (hb hby d_prog_15_method_4_36) (pc' := 2) (by decide) (by decide) ?_
        show Goes p e below _ (Tt9.setTop (mkF m 2 #[.val (.ref a1), .val (.int i.toInt32), .val (.int g_.toInt32)] []))
        have hg : d g_ < d j := by
          by_cases z : g_ = p_
          · rw [z]; exact b5 q
          · exact Nat.lt_trans (c5 z) (b5 q)
        exact ih g_ _ Tt9 ht5 _ (by omega) c2 (c3.trans (b3.trans hr)) I3 Xt9 et9 N6 K8 O7 F1 Y1
  exact loop (d i + 1) i P s₁ h0 _ (Nat.lt_succ_self _) hi rfl I1 X0 e0 N0 K0 O0 F1 Y1
theorem d_prog_15_method_3_0 : decode prog_15_method_3_code 0 = .ok (.aload_n 0, 1) := by decide +kernel
theorem d_prog_15_method_3_1 : decode prog_15_method_3_code 1 = .ok (.getfield 7, 3) := by decide +kernel
theorem d_prog_15_method_3_4 : decode prog_15_method_3_code 4 = .ok (.aload_n 0, 1) := by decide +kernel
theorem d_prog_15_method_3_5 : decode prog_15_method_3_code 5 = .ok (.iload_n 2, 1) := by decide +kernel
theorem pd_0 : parseMethodDescriptor "(I)I" = some ⟨[.int], some .int⟩ := by decide +kernel
theorem d_prog_15_method_3_6 : decode prog_15_method_3_code 6 = .ok (.invokevirtual 23, 3) := by decide +kernel
theorem d_prog_15_method_3_9 : decode prog_15_method_3_code 9 = .ok (.aload_n 0, 1) := by decide +kernel
theorem d_prog_15_method_3_10 : decode prog_15_method_3_code 10 = .ok (.iload_n 1, 1) := by decide +kernel
theorem d_prog_15_method_3_11 : decode prog_15_method_3_code 11 = .ok (.invokevirtual 23, 3) := by decide +kernel
theorem d_prog_15_method_3_14 : decode prog_15_method_3_code 14 = .ok (.iastore, 1) := by decide +kernel
theorem d_prog_15_method_3_15 : decode prog_15_method_3_code 15 = .ok (.return_, 1) := by decide +kernel
theorem ef_rmJ (m : MethodId) (x0 : Addr) (x1 : Int32) (x2 : Int32) : entryFrame m #[(.ref x0), (.int x1), (.int x2)] 3 = mkF m 0 #[.val (.ref x0), .val (.int x1), .val (.int x2)] [] := by first | (simp [entryFrame, mkF, argsToLocals, Value.category]; done) | rfl
set_option maxRecDepth 65536 in
set_option maxHeartbeats 40000000 in
theorem rmJ (l : Launch) (Z : State) (a0 : Array Value) (hw : ∀ d ∈ tables_1, d.before a0 Z = true) (a1 : Addr) (u : Addr) (a b n : Nat) (r d : Nat → Nat) (P : List Nat)  (h0 : Heap) (O0 : Ext Z.heap h0) (E1 : Exa Z h0 a1 "com/example/phal/phal/service/Groups") (F1 : Fld Z h0 a1 "com/example/phal/phal/service/Groups" "parent" "[I" (.ref u)) (Y1 : Ary Z h0 u .int (own_vs P)) (I1 : own_Inv n P r d) (ha : a < n) (hB : b < n) (hn : n < 100) (ne : a1 ≠ u) (fr1 : Z.heap.size ≤ u) :
    Ctr l Z (⟨"com/example/phal/phal/service/Groups", "join", "(II)V"⟩ : MethodName) prog_15_method_3_code 3 none [] ({ frames := 1, cells := 0, slots := 0, locals := 17 } : Room) #[(.ref a1), (.int a.toInt32), (.int b.toInt32)] h0 (fun v h L => v = none ∧ Fr Z.heap.size L ∧ Keep h0 h [u] ∧ ∃ P' d', Ary Z h u .int (own_vs P') ∧ own_Inv n P' (fun i => if r i = r b then r a else r i) d') := by
  refine ctr (plainFor_of_name pn_0) ?_
  intro p e s m below meth c s₁ hx hby hml hown hnm hret hlocks hZ X0 e0
  have N0 := Fr.nil Z.heap.size
  have hsz : ∀ {Ls : Array Slot}, Ls.size = 3 → Ls.size = c.maxLocals := fun q => q.trans hml.symm
  have K0 := Keep.refl h0 [u]
  refine goE (ef_rmJ m (a1) (a.toInt32) (b.toInt32)) ?_
  show Goes p e below _ (s₁.setTop (mkF m 0 #[.val (.ref a1), .val (.int a.toInt32), .val (.int b.toInt32)] []))
  refine gAloadN X0 hx (hb hby d_prog_15_method_3_0) rfl rfl ?_
  obtain ⟨Tt1, Xt1, et1, stt1⟩ := getF X0 hx hZ hown (host := "") (Or.inl (hw _ (List.mem_of_getElem? (i := 10) rfl))) Via.refl e0 F1 (g := (mkF m 1 #[.val (.ref a1), .val (.int a.toInt32), .val (.int b.toInt32)] [(.ref a1)])) rfl rfl (hb hby d_prog_15_method_3_1)
  refine go stt1 ?_
  show Goes p e below _ (Tt1.setTop (mkF m 4 #[.val (.ref a1), .val (.int a.toInt32), .val (.int b.toInt32)] [(.ref u)]))
  refine gAloadN Xt1 hx (hb hby d_prog_15_method_3_4) rfl rfl ?_
  refine gIloadN Xt1 hx (hb hby d_prog_15_method_3_5) rfl ?_
  refine goCallV Xt1 hx hZ hown (hw _ (List.mem_of_getElem? (i := 17) rfl)) (hw _ (List.mem_of_getElem? (i := 18) rfl)) (hw _ (List.mem_of_getElem? (i := 20) rfl)) (hw _ (List.mem_of_getElem? (i := 19) rfl)) (hw _ (List.mem_of_getElem? (i := 3) rfl)) (hw _ (List.mem_of_getElem? (i := 21) rfl)) (by decide) (rmT l Z a0 hw a1 u b n r d P h0 O0 F1 Y1 I1 hB hn ne fr1) 1 (by decide) (by decide) et1 E1 (hsz rfl) [(.int b.toInt32)] [(.ref u)] pd_0 rfl rfl rfl (Nat.le_of_eq rfl) (hb hby d_prog_15_method_3_6) (by decide) (by decide) (fun Tt2 vt2 Lt2 Xt2 qt2 => ?_)
  obtain ⟨ht2, et2⟩ : ∃ z, Tt2.heap = z := ⟨_, rfl⟩
  rw [et2] at qt2
  obtain ⟨rfl, N3, Kct2, P1_, Y1_, I1_⟩ := qt2
  have N4 := Fr.app N0 N3
  replace E1 := E1.keep Kct2
  replace F1 := F1.keep Kct2 (ninS ne nin0)
  have O5 : Ext Z.heap ht2 := extK O0 Kct2 (allS fr1 all0)
  have K6 := K0.trans Kct2 (allS (Or.inl (by simp)) all0)
  show Goes p e below _ (Tt2.setTop (mkF m 9 #[.val (.ref a1), .val (.int a.toInt32), .val (.int b.toInt32)] [(.int (r b).toInt32), (.ref u)]))
  refine gAloadN Xt2 hx (hb hby d_prog_15_method_3_9) rfl rfl ?_
  refine gIloadN Xt2 hx (hb hby d_prog_15_method_3_10) rfl ?_
  refine goCallV Xt2 hx hZ hown (hw _ (List.mem_of_getElem? (i := 17) rfl)) (hw _ (List.mem_of_getElem? (i := 18) rfl)) (hw _ (List.mem_of_getElem? (i := 20) rfl)) (hw _ (List.mem_of_getElem? (i := 19) rfl)) (hw _ (List.mem_of_getElem? (i := 3) rfl)) (hw _ (List.mem_of_getElem? (i := 21) rfl)) (by decide) (rmT l Z a0 hw a1 u a n r d P1_ ht2 O5 F1 Y1_ I1_ ha hn ne fr1) 2 (by decide) (by decide) et2 E1 (hsz rfl) [(.int a.toInt32)] [(.int (r b).toInt32), (.ref u)] pd_0 rfl rfl rfl (Nat.le_of_eq rfl) (hb hby d_prog_15_method_3_11) (by decide) (by decide) (fun Tt7 vt7 Lt7 Xt7 qt7 => ?_)
  obtain ⟨ht7, et7⟩ : ∃ z, Tt7.heap = z := ⟨_, rfl⟩
  rw [et7] at qt7
  obtain ⟨rfl, N8, Kct7, P2_, Y2_, I2_⟩ := qt7
  have N9 := Fr.app N4 N8
  replace E1 := E1.keep Kct7
  replace F1 := F1.keep Kct7 (ninS ne nin0)
  have O10 : Ext Z.heap ht7 := extK O5 Kct7 (allS fr1 all0)
  have K11 := K6.trans Kct7 (allS (Or.inl (by simp)) all0)
  show Goes p e below _ (Tt7.setTop (mkF m 14 #[.val (.ref a1), .val (.int a.toInt32), .val (.int b.toInt32)] [(.int (r a).toInt32), (.int (r b).toInt32), (.ref u)]))
  obtain ⟨ra1, -⟩ := I2_.2 a ha
  obtain ⟨rb1, -, p_, b1, -⟩ := I2_.2 (r b) (I2_.2 b hB).1
  have rb0 := (I2_.2 b hB).1
  refine goIastore Xt7 hx hZ et7 Y2_ (hb hby d_prog_15_method_3_14) (own_nn (by omega)) (own_vs_at b1 (by omega)) (fun Tt12 ht12 Xt12 et12 Wt12 => ?_)
  have N13 := Fr.snoc Xt12 N9 fr1
  replace Y2_ : Ary Z ht12 u .int (own_vs (P2_.set (r b) (r a))) := Y2_.set Wt12 (own_vs_set (by omega))
  replace E1 := E1.wr Wt12
  replace F1 := F1.other Wt12 (Or.inl ne)
  have O14 : Ext Z.heap ht12 := extW O10 Wt12 fr1
  have K15 := K11.wr Wt12 (Or.inl (by simp))
  show Goes p e below _ (Tt12.setTop (mkF m 15 #[.val (.ref a1), .val (.int a.toInt32), .val (.int b.toInt32)] []))
  obtain ⟨d_, I3_⟩ := own_join I2_ ha hB
  exact goRet0 Xt12 hx hret hlocks (hb hby d_prog_15_method_3_15) (by decide) (by decide) et12 (⟨rfl, N13, K15, _, d_, Y2_, I3_⟩)
theorem own_and3 (x : Int32) : ∃ a : Nat, a < 4 ∧ x &&& (3 : Int32) = a.toInt32 := by
  have m : (x &&& 3).toInt = x.toInt % 4 := c_mask x 3 2 (by decide) (by decide)
  refine ⟨(x.toInt % 4).toNat, by omega, ?_⟩
  apply Int32.toInt_inj.mp
  rw [len_toInt (by omega), m]
  omega
def own_f (ra rb x : Int32) : Int32 := if x = rb then ra else x
theorem own_fp {ra rb x : Int32} (h : x = rb) : own_f ra rb x = ra := if_pos h
theorem own_fn {ra rb x : Int32} (h : ¬ x = rb) : own_f ra rb x = x := if_neg h
theorem own_fr {ra rb x : Nat} (hb : rb < 100) (hx : x < 100) : own_f ra.toInt32 rb.toInt32 x.toInt32 = (if x = rb then ra else x).toInt32 := by
  by_cases q : x = rb
  · rw [if_pos q, own_fp (by rw [q])]
  · rw [if_neg q, own_fn (fun z => q ((own_inj (by omega) (by omega)).mp z))]
theorem own_at4 (f : Nat → Value) {a : Nat} (h : a < 4) : [f 0, f 1, f 2, f 3][a.toInt32.toNatClampNeg]? = some (f a) := by
  rw [own_nat (by omega)]
  match a, h with
  | 0, _ => rfl
  | 1, _ => rfl
  | 2, _ => rfl
  | 3, _ => rfl
theorem own_Inv0 : own_Inv 4 (List.range 4) (fun i => i) (fun _ => 0) := ⟨rfl, fun i hi => ⟨hi, rfl, i, by simp [hi], hi, rfl, fun _ => rfl, fun q => absurd rfl q⟩⟩
theorem d_method_2_0 : decode method_2_code 0 = .ok (.aload_n 0, 1) := by decide +kernel
theorem d_method_2_1 : decode method_2_code 1 = .ok (.iload_n 1, 1) := by decide +kernel
theorem d_method_2_2 : decode method_2_code 2 = .ok (.iaload, 1) := by decide +kernel
theorem d_method_2_3 : decode method_2_code 3 = .ok (.istore_n 3, 1) := by decide +kernel
theorem d_method_2_4 : decode method_2_code 4 = .ok (.aload_n 0, 1) := by decide +kernel
theorem d_method_2_5 : decode method_2_code 5 = .ok (.iload_n 2, 1) := by decide +kernel
theorem d_method_2_6 : decode method_2_code 6 = .ok (.iaload, 1) := by decide +kernel
theorem d_method_2_7 : decode method_2_code 7 = .ok (.istore 4, 2) := by decide +kernel
theorem d_method_2_9 : decode method_2_code 9 = .ok (.aload_n 0, 1) := by decide +kernel
theorem d_method_2_10 : decode method_2_code 10 = .ok (.iconst 0, 1) := by decide +kernel
theorem d_method_2_11 : decode method_2_code 11 = .ok (.iaload, 1) := by decide +kernel
theorem d_method_2_12 : decode method_2_code 12 = .ok (.iload 4, 2) := by decide +kernel
theorem d_method_2_14 : decode method_2_code 14 = .ok (.if_icmp .ne 7, 3) := by decide +kernel
theorem d_method_2_17 : decode method_2_code 17 = .ok (.aload_n 0, 1) := by decide +kernel
theorem d_method_2_18 : decode method_2_code 18 = .ok (.iconst 0, 1) := by decide +kernel
theorem d_method_2_19 : decode method_2_code 19 = .ok (.iload_n 3, 1) := by decide +kernel
theorem d_method_2_20 : decode method_2_code 20 = .ok (.iastore, 1) := by decide +kernel
theorem d_method_2_21 : decode method_2_code 21 = .ok (.aload_n 0, 1) := by decide +kernel
theorem d_method_2_22 : decode method_2_code 22 = .ok (.iconst 1, 1) := by decide +kernel
theorem d_method_2_23 : decode method_2_code 23 = .ok (.iaload, 1) := by decide +kernel
theorem d_method_2_24 : decode method_2_code 24 = .ok (.iload 4, 2) := by decide +kernel
theorem d_method_2_26 : decode method_2_code 26 = .ok (.if_icmp .ne 7, 3) := by decide +kernel
theorem d_method_2_29 : decode method_2_code 29 = .ok (.aload_n 0, 1) := by decide +kernel
theorem d_method_2_30 : decode method_2_code 30 = .ok (.iconst 1, 1) := by decide +kernel
theorem d_method_2_31 : decode method_2_code 31 = .ok (.iload_n 3, 1) := by decide +kernel
theorem d_method_2_32 : decode method_2_code 32 = .ok (.iastore, 1) := by decide +kernel
theorem d_method_2_33 : decode method_2_code 33 = .ok (.aload_n 0, 1) := by decide +kernel
theorem d_method_2_34 : decode method_2_code 34 = .ok (.iconst 2, 1) := by decide +kernel
theorem d_method_2_35 : decode method_2_code 35 = .ok (.iaload, 1) := by decide +kernel
theorem d_method_2_36 : decode method_2_code 36 = .ok (.iload 4, 2) := by decide +kernel
theorem d_method_2_38 : decode method_2_code 38 = .ok (.if_icmp .ne 7, 3) := by decide +kernel
theorem d_method_2_41 : decode method_2_code 41 = .ok (.aload_n 0, 1) := by decide +kernel
theorem d_method_2_42 : decode method_2_code 42 = .ok (.iconst 2, 1) := by decide +kernel
theorem d_method_2_43 : decode method_2_code 43 = .ok (.iload_n 3, 1) := by decide +kernel
theorem d_method_2_44 : decode method_2_code 44 = .ok (.iastore, 1) := by decide +kernel
theorem d_method_2_45 : decode method_2_code 45 = .ok (.aload_n 0, 1) := by decide +kernel
theorem d_method_2_46 : decode method_2_code 46 = .ok (.iconst 3, 1) := by decide +kernel
theorem d_method_2_47 : decode method_2_code 47 = .ok (.iaload, 1) := by decide +kernel
theorem d_method_2_48 : decode method_2_code 48 = .ok (.iload 4, 2) := by decide +kernel
theorem d_method_2_50 : decode method_2_code 50 = .ok (.if_icmp .ne 7, 3) := by decide +kernel
theorem d_method_2_53 : decode method_2_code 53 = .ok (.aload_n 0, 1) := by decide +kernel
theorem d_method_2_54 : decode method_2_code 54 = .ok (.iconst 3, 1) := by decide +kernel
theorem d_method_2_55 : decode method_2_code 55 = .ok (.iload_n 3, 1) := by decide +kernel
theorem d_method_2_56 : decode method_2_code 56 = .ok (.iastore, 1) := by decide +kernel
theorem d_method_2_57 : decode method_2_code 57 = .ok (.return_, 1) := by decide +kernel
theorem pn_1 : plainName "com/example/phal/phal/service/GroupsRootPinLaw" = true := by first | (simp [plainName, overriddenIn]; done) | decide +kernel
theorem ef_rmM (m : MethodId) (x0 : Addr) (x1 : Int32) (x2 : Int32) : entryFrame m #[(.ref x0), (.int x1), (.int x2)] 5 = mkF m 0 #[.val (.ref x0), .val (.int x1), .val (.int x2), .unset, .unset] [] := by first | (simp [entryFrame, mkF, argsToLocals, Value.category]; done) | rfl
set_option maxRecDepth 65536 in
set_option maxHeartbeats 40000000 in
theorem rmM (l : Launch) (Z : State) (a0 : Array Value) (hw : ∀ d ∈ tables_1, d.before a0 Z = true) (ra rb x0 x1 x2 x3 : Int32) (a1 : Addr) (p2 : Int32) (p3 : Int32) (h0 : Heap) (O0 : Ext Z.heap h0) (Y1 : Ary Z h0 a1 .int [(.int x0), (.int x1), (.int x2), (.int x3)]) (j2 : ¬ p2 < 0) (v2 : [Value.int x0, Value.int x1, Value.int x2, Value.int x3][p2.toNatClampNeg]? = some (.int ra)) (j3 : ¬ p3 < 0) (v3 : [Value.int x0, Value.int x1, Value.int x2, Value.int x3][p3.toNatClampNeg]? = some (.int rb)) (fr1 : Z.heap.size ≤ a1) :
    Ctr l Z (⟨"com/example/phal/phal/service/GroupsRootPinLaw", "merge", "([III)V"⟩ : MethodName) method_2_code 5 none [] ({ frames := 0, cells := 0, slots := 0, locals := 0 } : Room) #[(.ref a1), (.int p2), (.int p3)] h0 (fun v h L => v = none ∧ Fr Z.heap.size L ∧ Keep h0 h [a1] ∧ Ary Z h a1 .int [.int (own_f ra rb x0), .int (own_f ra rb x1), .int (own_f ra rb x2), .int (own_f ra rb x3)]) := by
  refine ctr (plainFor_of_name pn_1) ?_
  intro p e s m below meth c s₁ hx hby hml hown hnm hret hlocks hZ X0 e0
  have N0 := Fr.nil Z.heap.size
  have hsz : ∀ {Ls : Array Slot}, Ls.size = 5 → Ls.size = c.maxLocals := fun q => q.trans hml.symm
  have K0 := Keep.refl h0 [a1]
  refine goE (ef_rmM m (a1) (p2) (p3)) ?_
  show Goes p e below _ (s₁.setTop (mkF m 0 #[.val (.ref a1), .val (.int p2), .val (.int p3), .unset, .unset] []))
  refine gAloadN X0 hx (hb hby d_method_2_0) rfl rfl ?_
  refine gIloadN X0 hx (hb hby d_method_2_1) rfl ?_
  refine goIaload X0 hx hZ e0 Y1 (x := ra) (hb hby d_method_2_2) j2 v2 ?_
  show Goes p e below _ (s₁.setTop (mkF m 3 #[.val (.ref a1), .val (.int p2), .val (.int p3), .unset, .unset] [(.int ra)]))
  refine gIstoreN X0 hx (hb hby d_method_2_3) (l' := #[.val (.ref a1), .val (.int p2), .val (.int p3), .val (.int ra), .unset]) rfl ?_
  refine gAloadN X0 hx (hb hby d_method_2_4) rfl rfl ?_
  refine gIloadN X0 hx (hb hby d_method_2_5) rfl ?_
  refine goIaload X0 hx hZ e0 Y1 (x := rb) (hb hby d_method_2_6) j3 v3 ?_
  show Goes p e below _ (s₁.setTop (mkF m 7 #[.val (.ref a1), .val (.int p2), .val (.int p3), .val (.int ra), .unset] [(.int rb)]))
  refine gIstore X0 hx (hb hby d_method_2_7) (l' := #[.val (.ref a1), .val (.int p2), .val (.int p3), .val (.int ra), .val (.int rb)]) rfl ?_
  refine gAloadN X0 hx (hb hby d_method_2_9) rfl rfl ?_
  refine gIconst X0 hx (hb hby d_method_2_10) (v := (0 : Int32)) rfl ?_
  refine goIaload X0 hx hZ e0 Y1 (x := x0) (hb hby d_method_2_11) (by decide) rfl ?_
  refine gIload X0 hx (hb hby d_method_2_12) rfl ?_
  by_cases g0 : x0 = rb
  · refine gIcmpN X0 hx (hb hby d_method_2_14) (XT.ii_ne_f g0) ?_
    show Goes p e below _ (s₁.setTop (mkF m 17 #[.val (.ref a1), .val (.int p2), .val (.int p3), .val (.int ra), .val (.int rb)] []))
    refine gAloadN X0 hx (hb hby d_method_2_17) rfl rfl ?_
    refine gIconst X0 hx (hb hby d_method_2_18) (v := (0 : Int32)) rfl ?_
    refine gIloadN X0 hx (hb hby d_method_2_19) rfl ?_
    refine goIastore X0 hx hZ e0 Y1 (hb hby d_method_2_20) (by decide) rfl (fun Tt1 ht1 Xt1 et1 Wt1 => ?_)
    have N2 := Fr.snoc Xt1 N0 fr1
    replace Y1 : Ary Z ht1 a1 .int [(.int ra), (.int x1), (.int x2), (.int x3)] := Y1.set Wt1 rfl
    have O3 : Ext Z.heap ht1 := extW O0 Wt1 fr1
    have K4 := K0.wr Wt1 (Or.inl (by simp))
    show Goes p e below _ (Tt1.setTop (mkF m 21 #[.val (.ref a1), .val (.int p2), .val (.int p3), .val (.int ra), .val (.int rb)] []))
    refine gAloadN Xt1 hx (hb hby d_method_2_21) rfl rfl ?_
    refine gIconst Xt1 hx (hb hby d_method_2_22) (v := (1 : Int32)) rfl ?_
    refine goIaload Xt1 hx hZ et1 Y1 (x := x1) (hb hby d_method_2_23) (by decide) rfl ?_
    refine gIload Xt1 hx (hb hby d_method_2_24) rfl ?_
    by_cases g1 : x1 = rb
    · refine gIcmpN Xt1 hx (hb hby d_method_2_26) (XT.ii_ne_f g1) ?_
      show Goes p e below _ (Tt1.setTop (mkF m 29 #[.val (.ref a1), .val (.int p2), .val (.int p3), .val (.int ra), .val (.int rb)] []))
      refine gAloadN Xt1 hx (hb hby d_method_2_29) rfl rfl ?_
      refine gIconst Xt1 hx (hb hby d_method_2_30) (v := (1 : Int32)) rfl ?_
      refine gIloadN Xt1 hx (hb hby d_method_2_31) rfl ?_
      refine goIastore Xt1 hx hZ et1 Y1 (hb hby d_method_2_32) (by decide) rfl (fun Tt5 ht5 Xt5 et5 Wt5 => ?_)
      have N6 := Fr.snoc Xt5 N2 fr1
      replace Y1 : Ary Z ht5 a1 .int [(.int ra), (.int ra), (.int x2), (.int x3)] := Y1.set Wt5 rfl
      have O7 : Ext Z.heap ht5 := extW O3 Wt5 fr1
      have K8 := K4.wr Wt5 (Or.inl (by simp))
      show Goes p e below _ (Tt5.setTop (mkF m 33 #[.val (.ref a1), .val (.int p2), .val (.int p3), .val (.int ra), .val (.int rb)] []))
      refine gAloadN Xt5 hx (hb hby d_method_2_33) rfl rfl ?_
      refine gIconst Xt5 hx (hb hby d_method_2_34) (v := (2 : Int32)) rfl ?_
      refine goIaload Xt5 hx hZ et5 Y1 (x := x2) (hb hby d_method_2_35) (by decide) rfl ?_
      refine gIload Xt5 hx (hb hby d_method_2_36) rfl ?_
      by_cases g2 : x2 = rb
      · refine gIcmpN Xt5 hx (hb hby d_method_2_38) (XT.ii_ne_f g2) ?_
        show Goes p e below _ (Tt5.setTop (mkF m 41 #[.val (.ref a1), .val (.int p2), .val (.int p3), .val (.int ra), .val (.int rb)] []))
        refine gAloadN Xt5 hx (hb hby d_method_2_41) rfl rfl ?_
        refine gIconst Xt5 hx (hb hby d_method_2_42) (v := (2 : Int32)) rfl ?_
        refine gIloadN Xt5 hx (hb hby d_method_2_43) rfl ?_
        refine goIastore Xt5 hx hZ et5 Y1 (hb hby d_method_2_44) (by decide) rfl (fun Tt9 ht9 Xt9 et9 Wt9 => ?_)
        have N10 := Fr.snoc Xt9 N6 fr1
        replace Y1 : Ary Z ht9 a1 .int [(.int ra), (.int ra), (.int ra), (.int x3)] := Y1.set Wt9 rfl
        have O11 : Ext Z.heap ht9 := extW O7 Wt9 fr1
        have K12 := K8.wr Wt9 (Or.inl (by simp))
        show Goes p e below _ (Tt9.setTop (mkF m 45 #[.val (.ref a1), .val (.int p2), .val (.int p3), .val (.int ra), .val (.int rb)] []))
        refine gAloadN Xt9 hx (hb hby d_method_2_45) rfl rfl ?_
        refine gIconst Xt9 hx (hb hby d_method_2_46) (v := (3 : Int32)) rfl ?_
        refine goIaload Xt9 hx hZ et9 Y1 (x := x3) (hb hby d_method_2_47) (by decide) rfl ?_
        refine gIload Xt9 hx (hb hby d_method_2_48) rfl ?_
        by_cases g3 : x3 = rb
        · refine gIcmpN Xt9 hx (hb hby d_method_2_50) (XT.ii_ne_f g3) ?_
          show Goes p e below _ (Tt9.setTop (mkF m 53 #[.val (.ref a1), .val (.int p2), .val (.int p3), .val (.int ra), .val (.int rb)] []))
          refine gAloadN Xt9 hx (hb hby d_method_2_53) rfl rfl ?_
          refine gIconst Xt9 hx (hb hby d_method_2_54) (v := (3 : Int32)) rfl ?_
          refine gIloadN Xt9 hx (hb hby d_method_2_55) rfl ?_
          refine goIastore Xt9 hx hZ et9 Y1 (hb hby d_method_2_56) (by decide) rfl (fun Tt13 ht13 Xt13 et13 Wt13 => ?_)
          have N14 := Fr.snoc Xt13 N10 fr1
          replace Y1 : Ary Z ht13 a1 .int [(.int ra), (.int ra), (.int ra), (.int ra)] := Y1.set Wt13 rfl
          have O15 : Ext Z.heap ht13 := extW O11 Wt13 fr1
          have K16 := K12.wr Wt13 (Or.inl (by simp))
          show Goes p e below _ (Tt13.setTop (mkF m 57 #[.val (.ref a1), .val (.int p2), .val (.int p3), .val (.int ra), .val (.int rb)] []))
          exact goRet0 Xt13 hx hret hlocks (hb hby d_method_2_57) (by decide) (by decide) et13 (⟨rfl, N14, K16, by rw [own_fp g0, own_fp g1, own_fp g2, own_fp g3]; exact Y1⟩)
        · refine gIcmpY Xt9 hx (hb hby d_method_2_50) (pc' := 57) (XT.ii_ne_t g3) (by decide) (by decide) ?_
          show Goes p e below _ (Tt9.setTop (mkF m 57 #[.val (.ref a1), .val (.int p2), .val (.int p3), .val (.int ra), .val (.int rb)] []))
          exact goRet0 Xt9 hx hret hlocks (hb hby d_method_2_57) (by decide) (by decide) et9 (⟨rfl, N10, K12, by rw [own_fp g0, own_fp g1, own_fp g2, own_fn g3]; exact Y1⟩)
      · refine gIcmpY Xt5 hx (hb hby d_method_2_38) (pc' := 45) (XT.ii_ne_t g2) (by decide) (by decide) ?_
        show Goes p e below _ (Tt5.setTop (mkF m 45 #[.val (.ref a1), .val (.int p2), .val (.int p3), .val (.int ra), .val (.int rb)] []))
        refine gAloadN Xt5 hx (hb hby d_method_2_45) rfl rfl ?_
        refine gIconst Xt5 hx (hb hby d_method_2_46) (v := (3 : Int32)) rfl ?_
        refine goIaload Xt5 hx hZ et5 Y1 (x := x3) (hb hby d_method_2_47) (by decide) rfl ?_
        refine gIload Xt5 hx (hb hby d_method_2_48) rfl ?_
        by_cases g3 : x3 = rb
        · refine gIcmpN Xt5 hx (hb hby d_method_2_50) (XT.ii_ne_f g3) ?_
          show Goes p e below _ (Tt5.setTop (mkF m 53 #[.val (.ref a1), .val (.int p2), .val (.int p3), .val (.int ra), .val (.int rb)] []))
          refine gAloadN Xt5 hx (hb hby d_method_2_53) rfl rfl ?_
          refine gIconst Xt5 hx (hb hby d_method_2_54) (v := (3 : Int32)) rfl ?_
          refine gIloadN Xt5 hx (hb hby d_method_2_55) rfl ?_
          refine goIastore Xt5 hx hZ et5 Y1 (hb hby d_method_2_56) (by decide) rfl (fun Tt17 ht17 Xt17 et17 Wt17 => ?_)
          have N18 := Fr.snoc Xt17 N6 fr1
          replace Y1 : Ary Z ht17 a1 .int [(.int ra), (.int ra), (.int x2), (.int ra)] := Y1.set Wt17 rfl
          have O19 : Ext Z.heap ht17 := extW O7 Wt17 fr1
          have K20 := K8.wr Wt17 (Or.inl (by simp))
          show Goes p e below _ (Tt17.setTop (mkF m 57 #[.val (.ref a1), .val (.int p2), .val (.int p3), .val (.int ra), .val (.int rb)] []))
          exact goRet0 Xt17 hx hret hlocks (hb hby d_method_2_57) (by decide) (by decide) et17 (⟨rfl, N18, K20, by rw [own_fp g0, own_fp g1, own_fn g2, own_fp g3]; exact Y1⟩)
        · refine gIcmpY Xt5 hx (hb hby d_method_2_50) (pc' := 57) (XT.ii_ne_t g3) (by decide) (by decide) ?_
          show Goes p e below _ (Tt5.setTop (mkF m 57 #[.val (.ref a1), .val (.int p2), .val (.int p3), .val (.int ra), .val (.int rb)] []))
          exact goRet0 Xt5 hx hret hlocks (hb hby d_method_2_57) (by decide) (by decide) et5 (⟨rfl, N6, K8, by rw [own_fp g0, own_fp g1, own_fn g2, own_fn g3]; exact Y1⟩)
    · refine gIcmpY Xt1 hx (hb hby d_method_2_26) (pc' := 33) (XT.ii_ne_t g1) (by decide) (by decide) ?_
      show Goes p e below _ (Tt1.setTop (mkF m 33 #[.val (.ref a1), .val (.int p2), .val (.int p3), .val (.int ra), .val (.int rb)] []))
      refine gAloadN Xt1 hx (hb hby d_method_2_33) rfl rfl ?_
      refine gIconst Xt1 hx (hb hby d_method_2_34) (v := (2 : Int32)) rfl ?_
      refine goIaload Xt1 hx hZ et1 Y1 (x := x2) (hb hby d_method_2_35) (by decide) rfl ?_
      refine gIload Xt1 hx (hb hby d_method_2_36) rfl ?_
      by_cases g2 : x2 = rb
      · refine gIcmpN Xt1 hx (hb hby d_method_2_38) (XT.ii_ne_f g2) ?_
        show Goes p e below _ (Tt1.setTop (mkF m 41 #[.val (.ref a1), .val (.int p2), .val (.int p3), .val (.int ra), .val (.int rb)] []))
        refine gAloadN Xt1 hx (hb hby d_method_2_41) rfl rfl ?_
        refine gIconst Xt1 hx (hb hby d_method_2_42) (v := (2 : Int32)) rfl ?_
        refine gIloadN Xt1 hx (hb hby d_method_2_43) rfl ?_
        refine goIastore Xt1 hx hZ et1 Y1 (hb hby d_method_2_44) (by decide) rfl (fun Tt21 ht21 Xt21 et21 Wt21 => ?_)
        have N22 := Fr.snoc Xt21 N2 fr1
        replace Y1 : Ary Z ht21 a1 .int [(.int ra), (.int x1), (.int ra), (.int x3)] := Y1.set Wt21 rfl
        have O23 : Ext Z.heap ht21 := extW O3 Wt21 fr1
        have K24 := K4.wr Wt21 (Or.inl (by simp))
        show Goes p e below _ (Tt21.setTop (mkF m 45 #[.val (.ref a1), .val (.int p2), .val (.int p3), .val (.int ra), .val (.int rb)] []))
        refine gAloadN Xt21 hx (hb hby d_method_2_45) rfl rfl ?_
        refine gIconst Xt21 hx (hb hby d_method_2_46) (v := (3 : Int32)) rfl ?_
        refine goIaload Xt21 hx hZ et21 Y1 (x := x3) (hb hby d_method_2_47) (by decide) rfl ?_
        refine gIload Xt21 hx (hb hby d_method_2_48) rfl ?_
        by_cases g3 : x3 = rb
        · refine gIcmpN Xt21 hx (hb hby d_method_2_50) (XT.ii_ne_f g3) ?_
          show Goes p e below _ (Tt21.setTop (mkF m 53 #[.val (.ref a1), .val (.int p2), .val (.int p3), .val (.int ra), .val (.int rb)] []))
          refine gAloadN Xt21 hx (hb hby d_method_2_53) rfl rfl ?_
          refine gIconst Xt21 hx (hb hby d_method_2_54) (v := (3 : Int32)) rfl ?_
          refine gIloadN Xt21 hx (hb hby d_method_2_55) rfl ?_
          refine goIastore Xt21 hx hZ et21 Y1 (hb hby d_method_2_56) (by decide) rfl (fun Tt25 ht25 Xt25 et25 Wt25 => ?_)
          have N26 := Fr.snoc Xt25 N22 fr1
          replace Y1 : Ary Z ht25 a1 .int [(.int ra), (.int x1), (.int ra), (.int ra)] := Y1.set Wt25 rfl
          have O27 : Ext Z.heap ht25 := extW O23 Wt25 fr1
          have K28 := K24.wr Wt25 (Or.inl (by simp))
          show Goes p e below _ (Tt25.setTop (mkF m 57 #[.val (.ref a1), .val (.int p2), .val (.int p3), .val (.int ra), .val (.int rb)] []))
          exact goRet0 Xt25 hx hret hlocks (hb hby d_method_2_57) (by decide) (by decide) et25 (⟨rfl, N26, K28, by rw [own_fp g0, own_fn g1, own_fp g2, own_fp g3]; exact Y1⟩)
        · refine gIcmpY Xt21 hx (hb hby d_method_2_50) (pc' := 57) (XT.ii_ne_t g3) (by decide) (by decide) ?_
          show Goes p e below _ (Tt21.setTop (mkF m 57 #[.val (.ref a1), .val (.int p2), .val (.int p3), .val (.int ra), .val (.int rb)] []))
          exact goRet0 Xt21 hx hret hlocks (hb hby d_method_2_57) (by decide) (by decide) et21 (⟨rfl, N22, K24, by rw [own_fp g0, own_fn g1, own_fp g2, own_fn g3]; exact Y1⟩)
      · refine gIcmpY Xt1 hx (hb hby d_method_2_38) (pc' := 45) (XT.ii_ne_t g2) (by decide) (by decide) ?_
        show Goes p e below _ (Tt1.setTop (mkF m 45 #[.val (.ref a1), .val (.int p2), .val (.int p3), .val (.int ra), .val (.int rb)] []))
        refine gAloadN Xt1 hx (hb hby d_method_2_45) rfl rfl ?_
        refine gIconst Xt1 hx (hb hby d_method_2_46) (v := (3 : Int32)) rfl ?_
        refine goIaload Xt1 hx hZ et1 Y1 (x := x3) (hb hby d_method_2_47) (by decide) rfl ?_
        refine gIload Xt1 hx (hb hby d_method_2_48) rfl ?_
        by_cases g3 : x3 = rb
        · refine gIcmpN Xt1 hx (hb hby d_method_2_50) (XT.ii_ne_f g3) ?_
          show Goes p e below _ (Tt1.setTop (mkF m 53 #[.val (.ref a1), .val (.int p2), .val (.int p3), .val (.int ra), .val (.int rb)] []))
          refine gAloadN Xt1 hx (hb hby d_method_2_53) rfl rfl ?_
          refine gIconst Xt1 hx (hb hby d_method_2_54) (v := (3 : Int32)) rfl ?_
          refine gIloadN Xt1 hx (hb hby d_method_2_55) rfl ?_
          refine goIastore Xt1 hx hZ et1 Y1 (hb hby d_method_2_56) (by decide) rfl (fun Tt29 ht29 Xt29 et29 Wt29 => ?_)
          have N30 := Fr.snoc Xt29 N2 fr1
          replace Y1 : Ary Z ht29 a1 .int [(.int ra), (.int x1), (.int x2), (.int ra)] := Y1.set Wt29 rfl
          have O31 : Ext Z.heap ht29 := extW O3 Wt29 fr1
          have K32 := K4.wr Wt29 (Or.inl (by simp))
          show Goes p e below _ (Tt29.setTop (mkF m 57 #[.val (.ref a1), .val (.int p2), .val (.int p3), .val (.int ra), .val (.int rb)] []))
          exact goRet0 Xt29 hx hret hlocks (hb hby d_method_2_57) (by decide) (by decide) et29 (⟨rfl, N30, K32, by rw [own_fp g0, own_fn g1, own_fn g2, own_fp g3]; exact Y1⟩)
        · refine gIcmpY Xt1 hx (hb hby d_method_2_50) (pc' := 57) (XT.ii_ne_t g3) (by decide) (by decide) ?_
          show Goes p e below _ (Tt1.setTop (mkF m 57 #[.val (.ref a1), .val (.int p2), .val (.int p3), .val (.int ra), .val (.int rb)] []))
          exact goRet0 Xt1 hx hret hlocks (hb hby d_method_2_57) (by decide) (by decide) et1 (⟨rfl, N2, K4, by rw [own_fp g0, own_fn g1, own_fn g2, own_fn g3]; exact Y1⟩)
  · refine gIcmpY X0 hx (hb hby d_method_2_14) (pc' := 21) (XT.ii_ne_t g0) (by decide) (by decide) ?_
    show Goes p e below _ (s₁.setTop (mkF m 21 #[.val (.ref a1), .val (.int p2), .val (.int p3), .val (.int ra), .val (.int rb)] []))
    refine gAloadN X0 hx (hb hby d_method_2_21) rfl rfl ?_
    refine gIconst X0 hx (hb hby d_method_2_22) (v := (1 : Int32)) rfl ?_
    refine goIaload X0 hx hZ e0 Y1 (x := x1) (hb hby d_method_2_23) (by decide) rfl ?_
    refine gIload X0 hx (hb hby d_method_2_24) rfl ?_
    by_cases g1 : x1 = rb
    · refine gIcmpN X0 hx (hb hby d_method_2_26) (XT.ii_ne_f g1) ?_
      show Goes p e below _ (s₁.setTop (mkF m 29 #[.val (.ref a1), .val (.int p2), .val (.int p3), .val (.int ra), .val (.int rb)] []))
      refine gAloadN X0 hx (hb hby d_method_2_29) rfl rfl ?_
      refine gIconst X0 hx (hb hby d_method_2_30) (v := (1 : Int32)) rfl ?_
      refine gIloadN X0 hx (hb hby d_method_2_31) rfl ?_
      refine goIastore X0 hx hZ e0 Y1 (hb hby d_method_2_32) (by decide) rfl (fun Tt33 ht33 Xt33 et33 Wt33 => ?_)
      have N34 := Fr.snoc Xt33 N0 fr1
      replace Y1 : Ary Z ht33 a1 .int [(.int x0), (.int ra), (.int x2), (.int x3)] := Y1.set Wt33 rfl
      have O35 : Ext Z.heap ht33 := extW O0 Wt33 fr1
      have K36 := K0.wr Wt33 (Or.inl (by simp))
      show Goes p e below _ (Tt33.setTop (mkF m 33 #[.val (.ref a1), .val (.int p2), .val (.int p3), .val (.int ra), .val (.int rb)] []))
      refine gAloadN Xt33 hx (hb hby d_method_2_33) rfl rfl ?_
      refine gIconst Xt33 hx (hb hby d_method_2_34) (v := (2 : Int32)) rfl ?_
      refine goIaload Xt33 hx hZ et33 Y1 (x := x2) (hb hby d_method_2_35) (by decide) rfl ?_
      refine gIload Xt33 hx (hb hby d_method_2_36) rfl ?_
      by_cases g2 : x2 = rb
      · refine gIcmpN Xt33 hx (hb hby d_method_2_38) (XT.ii_ne_f g2) ?_
        show Goes p e below _ (Tt33.setTop (mkF m 41 #[.val (.ref a1), .val (.int p2), .val (.int p3), .val (.int ra), .val (.int rb)] []))
        refine gAloadN Xt33 hx (hb hby d_method_2_41) rfl rfl ?_
        refine gIconst Xt33 hx (hb hby d_method_2_42) (v := (2 : Int32)) rfl ?_
        refine gIloadN Xt33 hx (hb hby d_method_2_43) rfl ?_
        refine goIastore Xt33 hx hZ et33 Y1 (hb hby d_method_2_44) (by decide) rfl (fun Tt37 ht37 Xt37 et37 Wt37 => ?_)
        have N38 := Fr.snoc Xt37 N34 fr1
        replace Y1 : Ary Z ht37 a1 .int [(.int x0), (.int ra), (.int ra), (.int x3)] := Y1.set Wt37 rfl
        have O39 : Ext Z.heap ht37 := extW O35 Wt37 fr1
        have K40 := K36.wr Wt37 (Or.inl (by simp))
        show Goes p e below _ (Tt37.setTop (mkF m 45 #[.val (.ref a1), .val (.int p2), .val (.int p3), .val (.int ra), .val (.int rb)] []))
        refine gAloadN Xt37 hx (hb hby d_method_2_45) rfl rfl ?_
        refine gIconst Xt37 hx (hb hby d_method_2_46) (v := (3 : Int32)) rfl ?_
        refine goIaload Xt37 hx hZ et37 Y1 (x := x3) (hb hby d_method_2_47) (by decide) rfl ?_
        refine gIload Xt37 hx (hb hby d_method_2_48) rfl ?_
        by_cases g3 : x3 = rb
        · refine gIcmpN Xt37 hx (hb hby d_method_2_50) (XT.ii_ne_f g3) ?_
          show Goes p e below _ (Tt37.setTop (mkF m 53 #[.val (.ref a1), .val (.int p2), .val (.int p3), .val (.int ra), .val (.int rb)] []))
          refine gAloadN Xt37 hx (hb hby d_method_2_53) rfl rfl ?_
          refine gIconst Xt37 hx (hb hby d_method_2_54) (v := (3 : Int32)) rfl ?_
          refine gIloadN Xt37 hx (hb hby d_method_2_55) rfl ?_
          refine goIastore Xt37 hx hZ et37 Y1 (hb hby d_method_2_56) (by decide) rfl (fun Tt41 ht41 Xt41 et41 Wt41 => ?_)
          have N42 := Fr.snoc Xt41 N38 fr1
          replace Y1 : Ary Z ht41 a1 .int [(.int x0), (.int ra), (.int ra), (.int ra)] := Y1.set Wt41 rfl
          have O43 : Ext Z.heap ht41 := extW O39 Wt41 fr1
          have K44 := K40.wr Wt41 (Or.inl (by simp))
          show Goes p e below _ (Tt41.setTop (mkF m 57 #[.val (.ref a1), .val (.int p2), .val (.int p3), .val (.int ra), .val (.int rb)] []))
          exact goRet0 Xt41 hx hret hlocks (hb hby d_method_2_57) (by decide) (by decide) et41 (⟨rfl, N42, K44, by rw [own_fn g0, own_fp g1, own_fp g2, own_fp g3]; exact Y1⟩)
        · refine gIcmpY Xt37 hx (hb hby d_method_2_50) (pc' := 57) (XT.ii_ne_t g3) (by decide) (by decide) ?_
          show Goes p e below _ (Tt37.setTop (mkF m 57 #[.val (.ref a1), .val (.int p2), .val (.int p3), .val (.int ra), .val (.int rb)] []))
          exact goRet0 Xt37 hx hret hlocks (hb hby d_method_2_57) (by decide) (by decide) et37 (⟨rfl, N38, K40, by rw [own_fn g0, own_fp g1, own_fp g2, own_fn g3]; exact Y1⟩)
      · refine gIcmpY Xt33 hx (hb hby d_method_2_38) (pc' := 45) (XT.ii_ne_t g2) (by decide) (by decide) ?_
        show Goes p e below _ (Tt33.setTop (mkF m 45 #[.val (.ref a1), .val (.int p2), .val (.int p3), .val (.int ra), .val (.int rb)] []))
        refine gAloadN Xt33 hx (hb hby d_method_2_45) rfl rfl ?_
        refine gIconst Xt33 hx (hb hby d_method_2_46) (v := (3 : Int32)) rfl ?_
        refine goIaload Xt33 hx hZ et33 Y1 (x := x3) (hb hby d_method_2_47) (by decide) rfl ?_
        refine gIload Xt33 hx (hb hby d_method_2_48) rfl ?_
        by_cases g3 : x3 = rb
        · refine gIcmpN Xt33 hx (hb hby d_method_2_50) (XT.ii_ne_f g3) ?_
          show Goes p e below _ (Tt33.setTop (mkF m 53 #[.val (.ref a1), .val (.int p2), .val (.int p3), .val (.int ra), .val (.int rb)] []))
          refine gAloadN Xt33 hx (hb hby d_method_2_53) rfl rfl ?_
          refine gIconst Xt33 hx (hb hby d_method_2_54) (v := (3 : Int32)) rfl ?_
          refine gIloadN Xt33 hx (hb hby d_method_2_55) rfl ?_
          refine goIastore Xt33 hx hZ et33 Y1 (hb hby d_method_2_56) (by decide) rfl (fun Tt45 ht45 Xt45 et45 Wt45 => ?_)
          have N46 := Fr.snoc Xt45 N34 fr1
          replace Y1 : Ary Z ht45 a1 .int [(.int x0), (.int ra), (.int x2), (.int ra)] := Y1.set Wt45 rfl
          have O47 : Ext Z.heap ht45 := extW O35 Wt45 fr1
          have K48 := K36.wr Wt45 (Or.inl (by simp))
          show Goes p e below _ (Tt45.setTop (mkF m 57 #[.val (.ref a1), .val (.int p2), .val (.int p3), .val (.int ra), .val (.int rb)] []))
          exact goRet0 Xt45 hx hret hlocks (hb hby d_method_2_57) (by decide) (by decide) et45 (⟨rfl, N46, K48, by rw [own_fn g0, own_fp g1, own_fn g2, own_fp g3]; exact Y1⟩)
        · refine gIcmpY Xt33 hx (hb hby d_method_2_50) (pc' := 57) (XT.ii_ne_t g3) (by decide) (by decide) ?_
          show Goes p e below _ (Tt33.setTop (mkF m 57 #[.val (.ref a1), .val (.int p2), .val (.int p3), .val (.int ra), .val (.int rb)] []))
          exact goRet0 Xt33 hx hret hlocks (hb hby d_method_2_57) (by decide) (by decide) et33 (⟨rfl, N34, K36, by rw [own_fn g0, own_fp g1, own_fn g2, own_fn g3]; exact Y1⟩)
    · refine gIcmpY X0 hx (hb hby d_method_2_26) (pc' := 33) (XT.ii_ne_t g1) (by decide) (by decide) ?_
      show Goes p e below _ (s₁.setTop (mkF m 33 #[.val (.ref a1), .val (.int p2), .val (.int p3), .val (.int ra), .val (.int rb)] []))
      refine gAloadN X0 hx (hb hby d_method_2_33) rfl rfl ?_
      refine gIconst X0 hx (hb hby d_method_2_34) (v := (2 : Int32)) rfl ?_
      refine goIaload X0 hx hZ e0 Y1 (x := x2) (hb hby d_method_2_35) (by decide) rfl ?_
      refine gIload X0 hx (hb hby d_method_2_36) rfl ?_
      by_cases g2 : x2 = rb
      · refine gIcmpN X0 hx (hb hby d_method_2_38) (XT.ii_ne_f g2) ?_
        show Goes p e below _ (s₁.setTop (mkF m 41 #[.val (.ref a1), .val (.int p2), .val (.int p3), .val (.int ra), .val (.int rb)] []))
        refine gAloadN X0 hx (hb hby d_method_2_41) rfl rfl ?_
        refine gIconst X0 hx (hb hby d_method_2_42) (v := (2 : Int32)) rfl ?_
        refine gIloadN X0 hx (hb hby d_method_2_43) rfl ?_
        refine goIastore X0 hx hZ e0 Y1 (hb hby d_method_2_44) (by decide) rfl (fun Tt49 ht49 Xt49 et49 Wt49 => ?_)
        have N50 := Fr.snoc Xt49 N0 fr1
        replace Y1 : Ary Z ht49 a1 .int [(.int x0), (.int x1), (.int ra), (.int x3)] := Y1.set Wt49 rfl
        have O51 : Ext Z.heap ht49 := extW O0 Wt49 fr1
        have K52 := K0.wr Wt49 (Or.inl (by simp))
        show Goes p e below _ (Tt49.setTop (mkF m 45 #[.val (.ref a1), .val (.int p2), .val (.int p3), .val (.int ra), .val (.int rb)] []))
        refine gAloadN Xt49 hx (hb hby d_method_2_45) rfl rfl ?_
        refine gIconst Xt49 hx (hb hby d_method_2_46) (v := (3 : Int32)) rfl ?_
        refine goIaload Xt49 hx hZ et49 Y1 (x := x3) (hb hby d_method_2_47) (by decide) rfl ?_
        refine gIload Xt49 hx (hb hby d_method_2_48) rfl ?_
        by_cases g3 : x3 = rb
        · refine gIcmpN Xt49 hx (hb hby d_method_2_50) (XT.ii_ne_f g3) ?_
          show Goes p e below _ (Tt49.setTop (mkF m 53 #[.val (.ref a1), .val (.int p2), .val (.int p3), .val (.int ra), .val (.int rb)] []))
          refine gAloadN Xt49 hx (hb hby d_method_2_53) rfl rfl ?_
          refine gIconst Xt49 hx (hb hby d_method_2_54) (v := (3 : Int32)) rfl ?_
          refine gIloadN Xt49 hx (hb hby d_method_2_55) rfl ?_
          refine goIastore Xt49 hx hZ et49 Y1 (hb hby d_method_2_56) (by decide) rfl (fun Tt53 ht53 Xt53 et53 Wt53 => ?_)
          have N54 := Fr.snoc Xt53 N50 fr1
          replace Y1 : Ary Z ht53 a1 .int [(.int x0), (.int x1), (.int ra), (.int ra)] := Y1.set Wt53 rfl
          have O55 : Ext Z.heap ht53 := extW O51 Wt53 fr1
          have K56 := K52.wr Wt53 (Or.inl (by simp))
          show Goes p e below _ (Tt53.setTop (mkF m 57 #[.val (.ref a1), .val (.int p2), .val (.int p3), .val (.int ra), .val (.int rb)] []))
          exact goRet0 Xt53 hx hret hlocks (hb hby d_method_2_57) (by decide) (by decide) et53 (⟨rfl, N54, K56, by rw [own_fn g0, own_fn g1, own_fp g2, own_fp g3]; exact Y1⟩)
        · refine gIcmpY Xt49 hx (hb hby d_method_2_50) (pc' := 57) (XT.ii_ne_t g3) (by decide) (by decide) ?_
          show Goes p e below _ (Tt49.setTop (mkF m 57 #[.val (.ref a1), .val (.int p2), .val (.int p3), .val (.int ra), .val (.int rb)] []))
          exact goRet0 Xt49 hx hret hlocks (hb hby d_method_2_57) (by decide) (by decide) et49 (⟨rfl, N50, K52, by rw [own_fn g0, own_fn g1, own_fp g2, own_fn g3]; exact Y1⟩)
      · refine gIcmpY X0 hx (hb hby d_method_2_38) (pc' := 45) (XT.ii_ne_t g2) (by decide) (by decide) ?_
        show Goes p e below _ (s₁.setTop (mkF m 45 #[.val (.ref a1), .val (.int p2), .val (.int p3), .val (.int ra), .val (.int rb)] []))
        refine gAloadN X0 hx (hb hby d_method_2_45) rfl rfl ?_
        refine gIconst X0 hx (hb hby d_method_2_46) (v := (3 : Int32)) rfl ?_
        refine goIaload X0 hx hZ e0 Y1 (x := x3) (hb hby d_method_2_47) (by decide) rfl ?_
        refine gIload X0 hx (hb hby d_method_2_48) rfl ?_
        by_cases g3 : x3 = rb
        · refine gIcmpN X0 hx (hb hby d_method_2_50) (XT.ii_ne_f g3) ?_
          show Goes p e below _ (s₁.setTop (mkF m 53 #[.val (.ref a1), .val (.int p2), .val (.int p3), .val (.int ra), .val (.int rb)] []))
          refine gAloadN X0 hx (hb hby d_method_2_53) rfl rfl ?_
          refine gIconst X0 hx (hb hby d_method_2_54) (v := (3 : Int32)) rfl ?_
          refine gIloadN X0 hx (hb hby d_method_2_55) rfl ?_
          refine goIastore X0 hx hZ e0 Y1 (hb hby d_method_2_56) (by decide) rfl (fun Tt57 ht57 Xt57 et57 Wt57 => ?_)
          have N58 := Fr.snoc Xt57 N0 fr1
          replace Y1 : Ary Z ht57 a1 .int [(.int x0), (.int x1), (.int x2), (.int ra)] := Y1.set Wt57 rfl
          have O59 : Ext Z.heap ht57 := extW O0 Wt57 fr1
          have K60 := K0.wr Wt57 (Or.inl (by simp))
          show Goes p e below _ (Tt57.setTop (mkF m 57 #[.val (.ref a1), .val (.int p2), .val (.int p3), .val (.int ra), .val (.int rb)] []))
          exact goRet0 Xt57 hx hret hlocks (hb hby d_method_2_57) (by decide) (by decide) et57 (⟨rfl, N58, K60, by rw [own_fn g0, own_fn g1, own_fn g2, own_fp g3]; exact Y1⟩)
        · refine gIcmpY X0 hx (hb hby d_method_2_50) (pc' := 57) (XT.ii_ne_t g3) (by decide) (by decide) ?_
          show Goes p e below _ (s₁.setTop (mkF m 57 #[.val (.ref a1), .val (.int p2), .val (.int p3), .val (.int ra), .val (.int rb)] []))
          exact goRet0 X0 hx hret hlocks (hb hby d_method_2_57) (by decide) (by decide) e0 (⟨rfl, N0, K0, by rw [own_fn g0, own_fn g1, own_fn g2, own_fn g3]; exact Y1⟩)
theorem pd_1 : parseMethodDescriptor "(I)V" = some ⟨[.int], none⟩ := by decide +kernel
theorem pd_2 : parseMethodDescriptor "(II)V" = some ⟨[.int, .int], none⟩ := by decide +kernel
theorem pd_3 : parseMethodDescriptor "([III)V" = some ⟨[(.array .int), .int, .int], none⟩ := by decide +kernel
theorem ef_rm0 (m : MethodId) (x0 : Int32) (x1 : Int32) (x2 : Int32) (x3 : Int32) : entryFrame m #[(.int x0), (.int x1), (.int x2), (.int x3)] maxLocals = mkF m 0 #[.val (.int x0), .val (.int x1), .val (.int x2), .val (.int x3), .unset, .unset, .unset, .unset, .unset, .unset, .unset, .unset, .unset, .unset, .unset, .unset, .unset, .unset] [] := by first | (simp [entryFrame, mkF, argsToLocals, Value.category, maxLocals]; done) | rfl
set_option maxRecDepth 65536 in
set_option maxHeartbeats 40000000 in
theorem rm0 (l : Launch) (Z : State) (a0 : Array Value) (hw : ∀ d ∈ tables_1, d.before a0 Z = true)  (p0 : Int32) (p1 : Int32) (p2 : Int32) (p3 : Int32) (h0 : Heap) (O0 : Ext Z.heap h0)  :
    Ctr l Z x code maxLocals ret tables_1 room_1 #[(.int p0), (.int p1), (.int p2), (.int p3)] h0 (fun v h L => v = some (.int 1) ∧ Fr Z.heap.size L) := by
  refine ctr (plainFor_of_name pn_1) ?_
  intro p e s m below meth c s₁ hx hby hml hown hnm hret hlocks hZ X0 e0
  have N0 := Fr.nil Z.heap.size
  have hsz : ∀ {Ls : Array Slot}, Ls.size = 18 → Ls.size = c.maxLocals := fun q => q.trans hml.symm
  refine goE (ef_rm0 m (p0) (p1) (p2) (p3)) ?_
  show Goes p e below _ (s₁.setTop (mkF m 0 #[.val (.int p0), .val (.int p1), .val (.int p2), .val (.int p3), .unset, .unset, .unset, .unset, .unset, .unset, .unset, .unset, .unset, .unset, .unset, .unset, .unset, .unset] []))
  refine gIconst X0 hx (hb hby at_0) (v := (4 : Int32)) rfl ?_
  obtain ⟨Tt1, ht1, kt1, Xt1, et1, Et1, At1, stt1⟩ := newP X0 hx hZ (hw _ (List.mem_of_getElem? (i := 0) rfl)) e0 (g := (mkF m 1 #[.val (.int p0), .val (.int p1), .val (.int p2), .val (.int p3), .unset, .unset, .unset, .unset, .unset, .unset, .unset, .unset, .unset, .unset, .unset, .unset, .unset, .unset] [(.int (4 : Int32))])) rfl (hb hby at_1) rfl (by decide) (cap := 4) (by decide) (by decide) (by decide) (by decide)
  obtain ⟨b2, gb2⟩ : ∃ z, z = h0.size := ⟨_, rfl⟩
  rw [← gb2] at At1 stt1
  refine go stt1 ?_
  have fr_b2 : Z.heap.size ≤ b2 := gb2 ▸ O0.1
  have O3 : Ext Z.heap ht1 := extT O0 Et1
  have Y_b2 : Ary Z ht1 b2 .int [(.int (0 : Int32)), (.int (0 : Int32)), (.int (0 : Int32)), (.int (0 : Int32))] := Ary.new At1 rfl (by decide)
  show Goes p e below _ (Tt1.setTop (mkF m 3 #[.val (.int p0), .val (.int p1), .val (.int p2), .val (.int p3), .unset, .unset, .unset, .unset, .unset, .unset, .unset, .unset, .unset, .unset, .unset, .unset, .unset, .unset] [(.ref b2)]))
  refine gDup Xt1 hx (hb hby at_3) rfl ?_
  refine gIconst Xt1 hx (hb hby at_4) (v := (0 : Int32)) rfl ?_
  refine gIconst Xt1 hx (hb hby at_5) (v := (0 : Int32)) rfl ?_
  refine goIastore Xt1 hx hZ et1 Y_b2 (hb hby at_6) (by decide) rfl (fun Tt4 ht4 Xt4 et4 Wt4 => ?_)
  have N5 := Fr.snoc Xt4 N0 fr_b2
  replace Y_b2 : Ary Z ht4 b2 .int [(.int (0 : Int32)), (.int (0 : Int32)), (.int (0 : Int32)), (.int (0 : Int32))] := Y_b2.set Wt4 rfl
  have O6 : Ext Z.heap ht4 := extW O3 Wt4 fr_b2
  show Goes p e below _ (Tt4.setTop (mkF m 7 #[.val (.int p0), .val (.int p1), .val (.int p2), .val (.int p3), .unset, .unset, .unset, .unset, .unset, .unset, .unset, .unset, .unset, .unset, .unset, .unset, .unset, .unset] [(.ref b2)]))
  refine gDup Xt4 hx (hb hby at_7) rfl ?_
  refine gIconst Xt4 hx (hb hby at_8) (v := (1 : Int32)) rfl ?_
  refine gIconst Xt4 hx (hb hby at_9) (v := (1 : Int32)) rfl ?_
  refine goIastore Xt4 hx hZ et4 Y_b2 (hb hby at_10) (by decide) rfl (fun Tt7 ht7 Xt7 et7 Wt7 => ?_)
  have N8 := Fr.snoc Xt7 N5 fr_b2
  replace Y_b2 : Ary Z ht7 b2 .int [(.int (0 : Int32)), (.int (1 : Int32)), (.int (0 : Int32)), (.int (0 : Int32))] := Y_b2.set Wt7 rfl
  have O9 : Ext Z.heap ht7 := extW O6 Wt7 fr_b2
  show Goes p e below _ (Tt7.setTop (mkF m 11 #[.val (.int p0), .val (.int p1), .val (.int p2), .val (.int p3), .unset, .unset, .unset, .unset, .unset, .unset, .unset, .unset, .unset, .unset, .unset, .unset, .unset, .unset] [(.ref b2)]))
  refine gDup Xt7 hx (hb hby at_11) rfl ?_
  refine gIconst Xt7 hx (hb hby at_12) (v := (2 : Int32)) rfl ?_
  refine gIconst Xt7 hx (hb hby at_13) (v := (2 : Int32)) rfl ?_
  refine goIastore Xt7 hx hZ et7 Y_b2 (hb hby at_14) (by decide) rfl (fun Tt10 ht10 Xt10 et10 Wt10 => ?_)
  have N11 := Fr.snoc Xt10 N8 fr_b2
  replace Y_b2 : Ary Z ht10 b2 .int [(.int (0 : Int32)), (.int (1 : Int32)), (.int (2 : Int32)), (.int (0 : Int32))] := Y_b2.set Wt10 rfl
  have O12 : Ext Z.heap ht10 := extW O9 Wt10 fr_b2
  show Goes p e below _ (Tt10.setTop (mkF m 15 #[.val (.int p0), .val (.int p1), .val (.int p2), .val (.int p3), .unset, .unset, .unset, .unset, .unset, .unset, .unset, .unset, .unset, .unset, .unset, .unset, .unset, .unset] [(.ref b2)]))
  refine gDup Xt10 hx (hb hby at_15) rfl ?_
  refine gIconst Xt10 hx (hb hby at_16) (v := (3 : Int32)) rfl ?_
  refine gIconst Xt10 hx (hb hby at_17) (v := (3 : Int32)) rfl ?_
  refine goIastore Xt10 hx hZ et10 Y_b2 (hb hby at_18) (by decide) rfl (fun Tt13 ht13 Xt13 et13 Wt13 => ?_)
  have N14 := Fr.snoc Xt13 N11 fr_b2
  replace Y_b2 : Ary Z ht13 b2 .int [(.int (0 : Int32)), (.int (1 : Int32)), (.int (2 : Int32)), (.int (3 : Int32))] := Y_b2.set Wt13 rfl
  have O15 : Ext Z.heap ht13 := extW O12 Wt13 fr_b2
  show Goes p e below _ (Tt13.setTop (mkF m 19 #[.val (.int p0), .val (.int p1), .val (.int p2), .val (.int p3), .unset, .unset, .unset, .unset, .unset, .unset, .unset, .unset, .unset, .unset, .unset, .unset, .unset, .unset] [(.ref b2)]))
  refine gAstore Xt13 hx (hb hby at_19) rfl (l' := #[.val (.int p0), .val (.int p1), .val (.int p2), .val (.int p3), .val (.ref b2), .unset, .unset, .unset, .unset, .unset, .unset, .unset, .unset, .unset, .unset, .unset, .unset, .unset]) rfl ?_
  obtain ⟨Tt16, ht16, Xt16, et16, Et16, At16, Dt16, -, stt16⟩ := newO Xt13 hx hZ hown (hw _ (List.mem_of_getElem? (i := 1) rfl)) (hw _ (List.mem_of_getElem? (i := 2) rfl)) (hw _ (List.mem_of_getElem? (i := 3) rfl)) et13 (g := (mkF m 21 #[.val (.int p0), .val (.int p1), .val (.int p2), .val (.int p3), .val (.ref b2), .unset, .unset, .unset, .unset, .unset, .unset, .unset, .unset, .unset, .unset, .unset, .unset, .unset] [])) rfl (hb hby at_21) (by decide) (by decide)
  obtain ⟨b17, gb17⟩ : ∃ z, z = ht13.size := ⟨_, rfl⟩
  rw [← gb17] at At16 Dt16 stt16
  refine go stt16 ?_
  have ne_b2_b17 : b2 ≠ b17 := Nat.ne_of_lt (gb17 ▸ Y_b2.lt)
  have fr_b17 : Z.heap.size ≤ b17 := gb17 ▸ O15.1
  replace Y_b2 := Y_b2.ext Et16
  have O18 : Ext Z.heap ht16 := extT O15 Et16
  have F_parent_b17 : Fld Z ht16 b17 "com/example/phal/phal/service/Groups" "parent" "[I" .null := Dt16 (Or.inr (hw _ (List.mem_of_getElem? (i := 11) rfl))) (ty := (.array .int)) (by decide)
  show Goes p e below _ (Tt16.setTop (mkF m 24 #[.val (.int p0), .val (.int p1), .val (.int p2), .val (.int p3), .val (.ref b2), .unset, .unset, .unset, .unset, .unset, .unset, .unset, .unset, .unset, .unset, .unset, .unset, .unset] [(.ref b17)]))
  refine gDup Xt16 hx (hb hby at_24) rfl ?_
  refine gIconst Xt16 hx (hb hby at_25) (v := (4 : Int32)) rfl ?_
  have lt_b2_t19 := Y_b2.lt
  have lt_b17_t19 := At16.lt
  refine goCallI Xt16 hx hZ rfl hown (hw _ (List.mem_of_getElem? (i := 4) rfl)) (hw _ (List.mem_of_getElem? (i := 5) rfl)) (hw _ (List.mem_of_getElem? (i := 3) rfl)) (hw _ (List.mem_of_getElem? (i := 6) rfl)) (by decide) (rmI l Z a0 hw b17 ht16 O18 At16 F_parent_b17 fr_b17) 1 (by decide) (by decide) et16 (hsz rfl) b17 [(.int (4 : Int32))] [(.ref b17)] pd_1 rfl rfl rfl (Nat.le_of_eq rfl) (hb hby at_26) (by decide) (by decide) (fun Tt19 vt19 Lt19 Xt19 qt19 => ?_)
  obtain ⟨ht19, et19⟩ : ∃ z, Tt19.heap = z := ⟨_, rfl⟩
  rw [et19] at qt19
  obtain ⟨rfl, N20, Kct19, u, pu, Fp, Yp⟩ := qt19
  have N21 := Fr.app N14 N20
  replace Y_b2 := Y_b2.keep Kct19 (ninS ne_b2_b17 nin0)
  replace At16 := At16.keep Kct19
  have O22 : Ext Z.heap ht19 := extK O18 Kct19 (allS fr_b17 all0)
  have ne_b2_u : b2 ≠ u := Nat.ne_of_lt (Nat.lt_of_lt_of_le lt_b2_t19 pu)
  have ne_b17_u : b17 ≠ u := Nat.ne_of_lt (Nat.lt_of_lt_of_le lt_b17_t19 pu)
  have fr_u : Z.heap.size ≤ u := Nat.le_trans O18.1 pu
  show Goes p e below _ (Tt19.setTop (mkF m 29 #[.val (.int p0), .val (.int p1), .val (.int p2), .val (.int p3), .val (.ref b2), .unset, .unset, .unset, .unset, .unset, .unset, .unset, .unset, .unset, .unset, .unset, .unset, .unset] [(.ref b17)]))
  refine gAstore Xt19 hx (hb hby at_29) rfl (l' := #[.val (.int p0), .val (.int p1), .val (.int p2), .val (.int p3), .val (.ref b2), .val (.ref b17), .unset, .unset, .unset, .unset, .unset, .unset, .unset, .unset, .unset, .unset, .unset, .unset]) rfl ?_
  refine gIloadN Xt19 hx (hb hby at_31) rfl ?_
  refine gIconst Xt19 hx (hb hby at_32) (v := (3 : Int32)) rfl ?_
  refine gIand Xt19 hx (hb hby at_33) ?_
  refine gIstore Xt19 hx (hb hby at_34) (l' := #[.val (.int p0), .val (.int p1), .val (.int p2), .val (.int p3), .val (.ref b2), .val (.ref b17), .val (.int (p0 &&& (3 : Int32))), .unset, .unset, .unset, .unset, .unset, .unset, .unset, .unset, .unset, .unset, .unset]) rfl ?_
  refine gIloadN Xt19 hx (hb hby at_36) rfl ?_
  refine gIconst Xt19 hx (hb hby at_37) (v := (2 : Int32)) rfl ?_
  show Goes p e below _ (Tt19.setTop (mkF m 38 #[.val (.int p0), .val (.int p1), .val (.int p2), .val (.int p3), .val (.ref b2), .val (.ref b17), .val (.int (p0 &&& (3 : Int32))), .unset, .unset, .unset, .unset, .unset, .unset, .unset, .unset, .unset, .unset, .unset] [(.int (2 : Int32)), (.int p0)]))
  refine gIushr Xt19 hx (hb hby at_38) ?_
  refine gIconst Xt19 hx (hb hby at_39) (v := (3 : Int32)) rfl ?_
  refine gIand Xt19 hx (hb hby at_40) ?_
  refine gIstore Xt19 hx (hb hby at_41) (l' := #[.val (.int p0), .val (.int p1), .val (.int p2), .val (.int p3), .val (.ref b2), .val (.ref b17), .val (.int (p0 &&& (3 : Int32))), .val (.int ((XT.ushr p0 (2 : Int32)) &&& (3 : Int32))), .unset, .unset, .unset, .unset, .unset, .unset, .unset, .unset, .unset, .unset]) rfl ?_
  refine gIloadN Xt19 hx (hb hby at_43) rfl ?_
  refine gIconst Xt19 hx (hb hby at_44) (v := (3 : Int32)) rfl ?_
  refine gIand Xt19 hx (hb hby at_45) ?_
  show Goes p e below _ (Tt19.setTop (mkF m 46 #[.val (.int p0), .val (.int p1), .val (.int p2), .val (.int p3), .val (.ref b2), .val (.ref b17), .val (.int (p0 &&& (3 : Int32))), .val (.int ((XT.ushr p0 (2 : Int32)) &&& (3 : Int32))), .unset, .unset, .unset, .unset, .unset, .unset, .unset, .unset, .unset, .unset] [(.int (p1 &&& (3 : Int32)))]))
  refine gIstore Xt19 hx (hb hby at_46) (l' := #[.val (.int p0), .val (.int p1), .val (.int p2), .val (.int p3), .val (.ref b2), .val (.ref b17), .val (.int (p0 &&& (3 : Int32))), .val (.int ((XT.ushr p0 (2 : Int32)) &&& (3 : Int32))), .val (.int (p1 &&& (3 : Int32))), .unset, .unset, .unset, .unset, .unset, .unset, .unset, .unset, .unset]) rfl ?_
  refine gIloadN Xt19 hx (hb hby at_48) rfl ?_
  refine gIconst Xt19 hx (hb hby at_49) (v := (2 : Int32)) rfl ?_
  refine gIushr Xt19 hx (hb hby at_50) ?_
  refine gIconst Xt19 hx (hb hby at_51) (v := (3 : Int32)) rfl ?_
  refine gIand Xt19 hx (hb hby at_52) ?_
  refine gIstore Xt19 hx (hb hby at_53) (l' := #[.val (.int p0), .val (.int p1), .val (.int p2), .val (.int p3), .val (.ref b2), .val (.ref b17), .val (.int (p0 &&& (3 : Int32))), .val (.int ((XT.ushr p0 (2 : Int32)) &&& (3 : Int32))), .val (.int (p1 &&& (3 : Int32))), .val (.int ((XT.ushr p1 (2 : Int32)) &&& (3 : Int32))), .unset, .unset, .unset, .unset, .unset, .unset, .unset, .unset]) rfl ?_
  show Goes p e below _ (Tt19.setTop (mkF m 55 #[.val (.int p0), .val (.int p1), .val (.int p2), .val (.int p3), .val (.ref b2), .val (.ref b17), .val (.int (p0 &&& (3 : Int32))), .val (.int ((XT.ushr p0 (2 : Int32)) &&& (3 : Int32))), .val (.int (p1 &&& (3 : Int32))), .val (.int ((XT.ushr p1 (2 : Int32)) &&& (3 : Int32))), .unset, .unset, .unset, .unset, .unset, .unset, .unset, .unset] []))
  refine gIloadN Xt19 hx (hb hby at_55) rfl ?_
  refine gIconst Xt19 hx (hb hby at_56) (v := (3 : Int32)) rfl ?_
  refine gIand Xt19 hx (hb hby at_57) ?_
  refine gIstore Xt19 hx (hb hby at_58) (l' := #[.val (.int p0), .val (.int p1), .val (.int p2), .val (.int p3), .val (.ref b2), .val (.ref b17), .val (.int (p0 &&& (3 : Int32))), .val (.int ((XT.ushr p0 (2 : Int32)) &&& (3 : Int32))), .val (.int (p1 &&& (3 : Int32))), .val (.int ((XT.ushr p1 (2 : Int32)) &&& (3 : Int32))), .val (.int (p2 &&& (3 : Int32))), .unset, .unset, .unset, .unset, .unset, .unset, .unset]) rfl ?_
  refine gIloadN Xt19 hx (hb hby at_60) rfl ?_
  refine gIconst Xt19 hx (hb hby at_61) (v := (2 : Int32)) rfl ?_
  refine gIushr Xt19 hx (hb hby at_62) ?_
  show Goes p e below _ (Tt19.setTop (mkF m 63 #[.val (.int p0), .val (.int p1), .val (.int p2), .val (.int p3), .val (.ref b2), .val (.ref b17), .val (.int (p0 &&& (3 : Int32))), .val (.int ((XT.ushr p0 (2 : Int32)) &&& (3 : Int32))), .val (.int (p1 &&& (3 : Int32))), .val (.int ((XT.ushr p1 (2 : Int32)) &&& (3 : Int32))), .val (.int (p2 &&& (3 : Int32))), .unset, .unset, .unset, .unset, .unset, .unset, .unset] [(.int (XT.ushr p2 (2 : Int32)))]))
  refine gIconst Xt19 hx (hb hby at_63) (v := (3 : Int32)) rfl ?_
  refine gIand Xt19 hx (hb hby at_64) ?_
  refine gIstore Xt19 hx (hb hby at_65) (l' := #[.val (.int p0), .val (.int p1), .val (.int p2), .val (.int p3), .val (.ref b2), .val (.ref b17), .val (.int (p0 &&& (3 : Int32))), .val (.int ((XT.ushr p0 (2 : Int32)) &&& (3 : Int32))), .val (.int (p1 &&& (3 : Int32))), .val (.int ((XT.ushr p1 (2 : Int32)) &&& (3 : Int32))), .val (.int (p2 &&& (3 : Int32))), .val (.int ((XT.ushr p2 (2 : Int32)) &&& (3 : Int32))), .unset, .unset, .unset, .unset, .unset, .unset]) rfl ?_
  obtain ⟨c1, lc1, qc1⟩ := own_and3 p0
  rw [qc1]
  show Goes p e below _ (Tt19.setTop (mkF m 67 #[.val (.int p0), .val (.int p1), .val (.int p2), .val (.int p3), .val (.ref b2), .val (.ref b17), .val (.int c1.toInt32), .val (.int ((XT.ushr p0 (2 : Int32)) &&& (3 : Int32))), .val (.int (p1 &&& (3 : Int32))), .val (.int ((XT.ushr p1 (2 : Int32)) &&& (3 : Int32))), .val (.int (p2 &&& (3 : Int32))), .val (.int ((XT.ushr p2 (2 : Int32)) &&& (3 : Int32))), .unset, .unset, .unset, .unset, .unset, .unset] []))
  obtain ⟨e1, le1, qe1⟩ := own_and3 (XT.ushr p0 (2 : Int32))
  rw [qe1]
  show Goes p e below _ (Tt19.setTop (mkF m 67 #[.val (.int p0), .val (.int p1), .val (.int p2), .val (.int p3), .val (.ref b2), .val (.ref b17), .val (.int c1.toInt32), .val (.int e1.toInt32), .val (.int (p1 &&& (3 : Int32))), .val (.int ((XT.ushr p1 (2 : Int32)) &&& (3 : Int32))), .val (.int (p2 &&& (3 : Int32))), .val (.int ((XT.ushr p2 (2 : Int32)) &&& (3 : Int32))), .unset, .unset, .unset, .unset, .unset, .unset] []))
  obtain ⟨c2, lc2, qc2⟩ := own_and3 p1
  rw [qc2]
  show Goes p e below _ (Tt19.setTop (mkF m 67 #[.val (.int p0), .val (.int p1), .val (.int p2), .val (.int p3), .val (.ref b2), .val (.ref b17), .val (.int c1.toInt32), .val (.int e1.toInt32), .val (.int c2.toInt32), .val (.int ((XT.ushr p1 (2 : Int32)) &&& (3 : Int32))), .val (.int (p2 &&& (3 : Int32))), .val (.int ((XT.ushr p2 (2 : Int32)) &&& (3 : Int32))), .unset, .unset, .unset, .unset, .unset, .unset] []))
  obtain ⟨e2, le2, qe2⟩ := own_and3 (XT.ushr p1 (2 : Int32))
  rw [qe2]
  show Goes p e below _ (Tt19.setTop (mkF m 67 #[.val (.int p0), .val (.int p1), .val (.int p2), .val (.int p3), .val (.ref b2), .val (.ref b17), .val (.int c1.toInt32), .val (.int e1.toInt32), .val (.int c2.toInt32), .val (.int e2.toInt32), .val (.int (p2 &&& (3 : Int32))), .val (.int ((XT.ushr p2 (2 : Int32)) &&& (3 : Int32))), .unset, .unset, .unset, .unset, .unset, .unset] []))
  obtain ⟨c3, lc3, qc3⟩ := own_and3 p2
  rw [qc3]
  show Goes p e below _ (Tt19.setTop (mkF m 67 #[.val (.int p0), .val (.int p1), .val (.int p2), .val (.int p3), .val (.ref b2), .val (.ref b17), .val (.int c1.toInt32), .val (.int e1.toInt32), .val (.int c2.toInt32), .val (.int e2.toInt32), .val (.int c3.toInt32), .val (.int ((XT.ushr p2 (2 : Int32)) &&& (3 : Int32))), .unset, .unset, .unset, .unset, .unset, .unset] []))
  obtain ⟨e3, le3, qe3⟩ := own_and3 (XT.ushr p2 (2 : Int32))
  rw [qe3]
  show Goes p e below _ (Tt19.setTop (mkF m 67 #[.val (.int p0), .val (.int p1), .val (.int p2), .val (.int p3), .val (.ref b2), .val (.ref b17), .val (.int c1.toInt32), .val (.int e1.toInt32), .val (.int c2.toInt32), .val (.int e2.toInt32), .val (.int c3.toInt32), .val (.int e3.toInt32), .unset, .unset, .unset, .unset, .unset, .unset] []))
  have I0 := own_Inv0
  obtain ⟨r0, hr0⟩ : ∃ r : Nat → Nat, r = fun i => i := ⟨_, rfl⟩
  obtain ⟨d0, hd0⟩ : ∃ d : Nat → Nat, d = fun _ => 0 := ⟨_, rfl⟩
  rw [← hr0, ← hd0] at I0
  have Yr : Ary Z ht19 b2 .int [(.int (r0 0).toInt32), (.int (r0 1).toInt32), (.int (r0 2).toInt32), (.int (r0 3).toInt32)] := by subst hr0; exact Y_b2
  refine gAload Xt19 hx (hb hby at_67) rfl rfl ?_
  refine gIload Xt19 hx (hb hby at_69) rfl ?_
  refine gIload Xt19 hx (hb hby at_71) rfl ?_
  refine goCallV Xt19 hx hZ hown (hw _ (List.mem_of_getElem? (i := 12) rfl)) (hw _ (List.mem_of_getElem? (i := 13) rfl)) (hw _ (List.mem_of_getElem? (i := 15) rfl)) (hw _ (List.mem_of_getElem? (i := 14) rfl)) (hw _ (List.mem_of_getElem? (i := 3) rfl)) (hw _ (List.mem_of_getElem? (i := 16) rfl)) (by decide) (rmJ l Z a0 hw b17 u c1 e1 4 r0 d0 (List.range 4) ht19 O22 At16 Fp Yp I0 lc1 le1 (by decide) ne_b17_u fr_u) 0 (by decide) (by decide) et19 At16 (hsz rfl) [(.int c1.toInt32), (.int e1.toInt32)] [] pd_2 rfl rfl rfl (Nat.le_of_eq rfl) (hb hby at_73) (by decide) (by decide) (fun Tt23 vt23 Lt23 Xt23 qt23 => ?_)
  obtain ⟨ht23, et23⟩ : ∃ z, Tt23.heap = z := ⟨_, rfl⟩
  rw [et23] at qt23
  obtain ⟨rfl, N24, Kct23, Pj0, dj0, Yj0, Ij0⟩ := qt23
  have N25 := Fr.app N21 N24
  replace Yr := Yr.keep Kct23 (ninS ne_b2_u nin0)
  replace At16 := At16.keep Kct23
  replace Fp := Fp.keep Kct23 (ninS ne_b17_u nin0)
  have O26 : Ext Z.heap ht23 := extK O22 Kct23 (allS fr_u all0)
  show Goes p e below _ (Tt23.setTop (mkF m 76 #[.val (.int p0), .val (.int p1), .val (.int p2), .val (.int p3), .val (.ref b2), .val (.ref b17), .val (.int c1.toInt32), .val (.int e1.toInt32), .val (.int c2.toInt32), .val (.int e2.toInt32), .val (.int c3.toInt32), .val (.int e3.toInt32), .unset, .unset, .unset, .unset, .unset, .unset] []))
  refine gAload Xt23 hx (hb hby at_76) rfl rfl ?_
  refine gIload Xt23 hx (hb hby at_78) rfl ?_
  refine gIload Xt23 hx (hb hby at_80) rfl ?_
  refine goCallS Xt23 hx hZ hown (hw _ (List.mem_of_getElem? (i := 22) rfl)) (hw _ (List.mem_of_getElem? (i := 23) rfl)) (hw _ (List.mem_of_getElem? (i := 24) rfl)) (hw _ (List.mem_of_getElem? (i := 25) rfl)) (by decide) (rmM l Z a0 hw (r0 c1).toInt32 (r0 e1).toInt32 (r0 0).toInt32 (r0 1).toInt32 (r0 2).toInt32 (r0 3).toInt32 b2 c1.toInt32 e1.toInt32 ht23 O26 Yr (own_nn (by omega)) (own_at4 (fun i => Value.int (r0 i).toInt32) lc1) (own_nn (by omega)) (own_at4 (fun i => Value.int (r0 i).toInt32) le1) fr_b2) 0 (by decide) (by decide) et23 (hsz rfl) [(.ref b2), (.int c1.toInt32), (.int e1.toInt32)] [] pd_3 rfl rfl rfl (Nat.le_of_eq rfl) (hb hby at_82) (by decide) (by decide) (fun Tt27 vt27 Lt27 Xt27 qt27 => ?_)
  obtain ⟨ht27, et27⟩ : ∃ z, Tt27.heap = z := ⟨_, rfl⟩
  rw [et27] at qt27
  obtain ⟨rfl, N28, Kct27, Ym0⟩ := qt27
  have N29 := Fr.app N25 N28
  replace At16 := At16.keep Kct27
  replace Fp := Fp.keep Kct27 (ninS (Ne.symm ne_b2_b17) nin0)
  replace Yj0 := Yj0.keep Kct27 (ninS (Ne.symm ne_b2_u) nin0)
  have O30 : Ext Z.heap ht27 := extK O26 Kct27 (allS fr_b2 all0)
  show Goes p e below _ (Tt27.setTop (mkF m 85 #[.val (.int p0), .val (.int p1), .val (.int p2), .val (.int p3), .val (.ref b2), .val (.ref b17), .val (.int c1.toInt32), .val (.int e1.toInt32), .val (.int c2.toInt32), .val (.int e2.toInt32), .val (.int c3.toInt32), .val (.int e3.toInt32), .unset, .unset, .unset, .unset, .unset, .unset] []))
  obtain ⟨r1, hr1⟩ : ∃ z : Nat → Nat, z = fun i => if r0 i = r0 e1 then r0 c1 else r0 i := ⟨_, rfl⟩
  rw [← hr1] at Ij0
  have Yn0 : Ary Z ht27 b2 .int [(.int (r1 0).toInt32), (.int (r1 1).toInt32), (.int (r1 2).toInt32), (.int (r1 3).toInt32)] := by
    have b0 := fun i (hi : i < 4) => (I0.2 i hi).1
    have e := fun i (hi : i < 4) => own_fr (ra := r0 c1) (rb := r0 e1) (x := r0 i) (by have := b0 e1 le1; omega) (by have := b0 i hi; omega)
    rw [e 0 (by decide), e 1 (by decide), e 2 (by decide), e 3 (by decide)] at Ym0
    rw [hr1]; exact Ym0
  refine gAload Xt27 hx (hb hby at_85) rfl rfl ?_
  refine gIload Xt27 hx (hb hby at_87) rfl ?_
  refine gIload Xt27 hx (hb hby at_89) rfl ?_
  refine goCallV Xt27 hx hZ hown (hw _ (List.mem_of_getElem? (i := 12) rfl)) (hw _ (List.mem_of_getElem? (i := 13) rfl)) (hw _ (List.mem_of_getElem? (i := 15) rfl)) (hw _ (List.mem_of_getElem? (i := 14) rfl)) (hw _ (List.mem_of_getElem? (i := 3) rfl)) (hw _ (List.mem_of_getElem? (i := 16) rfl)) (by decide) (rmJ l Z a0 hw b17 u c2 e2 4 r1 dj0 Pj0 ht27 O30 At16 Fp Yj0 Ij0 lc2 le2 (by decide) ne_b17_u fr_u) 0 (by decide) (by decide) et27 At16 (hsz rfl) [(.int c2.toInt32), (.int e2.toInt32)] [] pd_2 rfl rfl rfl (Nat.le_of_eq rfl) (hb hby at_91) (by decide) (by decide) (fun Tt31 vt31 Lt31 Xt31 qt31 => ?_)
  obtain ⟨ht31, et31⟩ : ∃ z, Tt31.heap = z := ⟨_, rfl⟩
  rw [et31] at qt31
  obtain ⟨rfl, N32, Kct31, Pj1, dj1, Yj1, Ij1⟩ := qt31
  have N33 := Fr.app N29 N32
  replace At16 := At16.keep Kct31
  replace Fp := Fp.keep Kct31 (ninS ne_b17_u nin0)
  replace Yn0 := Yn0.keep Kct31 (ninS ne_b2_u nin0)
  have O34 : Ext Z.heap ht31 := extK O30 Kct31 (allS fr_u all0)
  show Goes p e below _ (Tt31.setTop (mkF m 94 #[.val (.int p0), .val (.int p1), .val (.int p2), .val (.int p3), .val (.ref b2), .val (.ref b17), .val (.int c1.toInt32), .val (.int e1.toInt32), .val (.int c2.toInt32), .val (.int e2.toInt32), .val (.int c3.toInt32), .val (.int e3.toInt32), .unset, .unset, .unset, .unset, .unset, .unset] []))
  refine gAload Xt31 hx (hb hby at_94) rfl rfl ?_
  refine gIload Xt31 hx (hb hby at_96) rfl ?_
  refine gIload Xt31 hx (hb hby at_98) rfl ?_
  refine goCallS Xt31 hx hZ hown (hw _ (List.mem_of_getElem? (i := 22) rfl)) (hw _ (List.mem_of_getElem? (i := 23) rfl)) (hw _ (List.mem_of_getElem? (i := 24) rfl)) (hw _ (List.mem_of_getElem? (i := 25) rfl)) (by decide) (rmM l Z a0 hw (r1 c2).toInt32 (r1 e2).toInt32 (r1 0).toInt32 (r1 1).toInt32 (r1 2).toInt32 (r1 3).toInt32 b2 c2.toInt32 e2.toInt32 ht31 O34 Yn0 (own_nn (by omega)) (own_at4 (fun i => Value.int (r1 i).toInt32) lc2) (own_nn (by omega)) (own_at4 (fun i => Value.int (r1 i).toInt32) le2) fr_b2) 0 (by decide) (by decide) et31 (hsz rfl) [(.ref b2), (.int c2.toInt32), (.int e2.toInt32)] [] pd_3 rfl rfl rfl (Nat.le_of_eq rfl) (hb hby at_100) (by decide) (by decide) (fun Tt35 vt35 Lt35 Xt35 qt35 => ?_)
  obtain ⟨ht35, et35⟩ : ∃ z, Tt35.heap = z := ⟨_, rfl⟩
  rw [et35] at qt35
  obtain ⟨rfl, N36, Kct35, Ym1⟩ := qt35
  have N37 := Fr.app N33 N36
  replace At16 := At16.keep Kct35
  replace Fp := Fp.keep Kct35 (ninS (Ne.symm ne_b2_b17) nin0)
  replace Yj1 := Yj1.keep Kct35 (ninS (Ne.symm ne_b2_u) nin0)
  have O38 : Ext Z.heap ht35 := extK O34 Kct35 (allS fr_b2 all0)
  show Goes p e below _ (Tt35.setTop (mkF m 103 #[.val (.int p0), .val (.int p1), .val (.int p2), .val (.int p3), .val (.ref b2), .val (.ref b17), .val (.int c1.toInt32), .val (.int e1.toInt32), .val (.int c2.toInt32), .val (.int e2.toInt32), .val (.int c3.toInt32), .val (.int e3.toInt32), .unset, .unset, .unset, .unset, .unset, .unset] []))
  obtain ⟨r2, hr2⟩ : ∃ z : Nat → Nat, z = fun i => if r1 i = r1 e2 then r1 c2 else r1 i := ⟨_, rfl⟩
  rw [← hr2] at Ij1
  have Yn1 : Ary Z ht35 b2 .int [(.int (r2 0).toInt32), (.int (r2 1).toInt32), (.int (r2 2).toInt32), (.int (r2 3).toInt32)] := by
    have b0 := fun i (hi : i < 4) => (Ij0.2 i hi).1
    have e := fun i (hi : i < 4) => own_fr (ra := r1 c2) (rb := r1 e2) (x := r1 i) (by have := b0 e2 le2; omega) (by have := b0 i hi; omega)
    rw [e 0 (by decide), e 1 (by decide), e 2 (by decide), e 3 (by decide)] at Ym1
    rw [hr2]; exact Ym1
  refine gAload Xt35 hx (hb hby at_103) rfl rfl ?_
  refine gIload Xt35 hx (hb hby at_105) rfl ?_
  refine gIload Xt35 hx (hb hby at_107) rfl ?_
  refine goCallV Xt35 hx hZ hown (hw _ (List.mem_of_getElem? (i := 12) rfl)) (hw _ (List.mem_of_getElem? (i := 13) rfl)) (hw _ (List.mem_of_getElem? (i := 15) rfl)) (hw _ (List.mem_of_getElem? (i := 14) rfl)) (hw _ (List.mem_of_getElem? (i := 3) rfl)) (hw _ (List.mem_of_getElem? (i := 16) rfl)) (by decide) (rmJ l Z a0 hw b17 u c3 e3 4 r2 dj1 Pj1 ht35 O38 At16 Fp Yj1 Ij1 lc3 le3 (by decide) ne_b17_u fr_u) 0 (by decide) (by decide) et35 At16 (hsz rfl) [(.int c3.toInt32), (.int e3.toInt32)] [] pd_2 rfl rfl rfl (Nat.le_of_eq rfl) (hb hby at_109) (by decide) (by decide) (fun Tt39 vt39 Lt39 Xt39 qt39 => ?_)
  obtain ⟨ht39, et39⟩ : ∃ z, Tt39.heap = z := ⟨_, rfl⟩
  rw [et39] at qt39
  obtain ⟨rfl, N40, Kct39, Pj2, dj2, Yj2, Ij2⟩ := qt39
  have N41 := Fr.app N37 N40
  replace At16 := At16.keep Kct39
  replace Fp := Fp.keep Kct39 (ninS ne_b17_u nin0)
  replace Yn1 := Yn1.keep Kct39 (ninS ne_b2_u nin0)
  have O42 : Ext Z.heap ht39 := extK O38 Kct39 (allS fr_u all0)
  show Goes p e below _ (Tt39.setTop (mkF m 112 #[.val (.int p0), .val (.int p1), .val (.int p2), .val (.int p3), .val (.ref b2), .val (.ref b17), .val (.int c1.toInt32), .val (.int e1.toInt32), .val (.int c2.toInt32), .val (.int e2.toInt32), .val (.int c3.toInt32), .val (.int e3.toInt32), .unset, .unset, .unset, .unset, .unset, .unset] []))
  refine gAload Xt39 hx (hb hby at_112) rfl rfl ?_
  refine gIload Xt39 hx (hb hby at_114) rfl ?_
  refine gIload Xt39 hx (hb hby at_116) rfl ?_
  refine goCallS Xt39 hx hZ hown (hw _ (List.mem_of_getElem? (i := 22) rfl)) (hw _ (List.mem_of_getElem? (i := 23) rfl)) (hw _ (List.mem_of_getElem? (i := 24) rfl)) (hw _ (List.mem_of_getElem? (i := 25) rfl)) (by decide) (rmM l Z a0 hw (r2 c3).toInt32 (r2 e3).toInt32 (r2 0).toInt32 (r2 1).toInt32 (r2 2).toInt32 (r2 3).toInt32 b2 c3.toInt32 e3.toInt32 ht39 O42 Yn1 (own_nn (by omega)) (own_at4 (fun i => Value.int (r2 i).toInt32) lc3) (own_nn (by omega)) (own_at4 (fun i => Value.int (r2 i).toInt32) le3) fr_b2) 0 (by decide) (by decide) et39 (hsz rfl) [(.ref b2), (.int c3.toInt32), (.int e3.toInt32)] [] pd_3 rfl rfl rfl (Nat.le_of_eq rfl) (hb hby at_118) (by decide) (by decide) (fun Tt43 vt43 Lt43 Xt43 qt43 => ?_)
  obtain ⟨ht43, et43⟩ : ∃ z, Tt43.heap = z := ⟨_, rfl⟩
  rw [et43] at qt43
  obtain ⟨rfl, N44, Kct43, Ym2⟩ := qt43
  have N45 := Fr.app N41 N44
  replace At16 := At16.keep Kct43
  replace Fp := Fp.keep Kct43 (ninS (Ne.symm ne_b2_b17) nin0)
  replace Yj2 := Yj2.keep Kct43 (ninS (Ne.symm ne_b2_u) nin0)
  have O46 : Ext Z.heap ht43 := extK O42 Kct43 (allS fr_b2 all0)
  show Goes p e below _ (Tt43.setTop (mkF m 121 #[.val (.int p0), .val (.int p1), .val (.int p2), .val (.int p3), .val (.ref b2), .val (.ref b17), .val (.int c1.toInt32), .val (.int e1.toInt32), .val (.int c2.toInt32), .val (.int e2.toInt32), .val (.int c3.toInt32), .val (.int e3.toInt32), .unset, .unset, .unset, .unset, .unset, .unset] []))
  obtain ⟨r3, hr3⟩ : ∃ z : Nat → Nat, z = fun i => if r2 i = r2 e3 then r2 c3 else r2 i := ⟨_, rfl⟩
  rw [← hr3] at Ij2
  have Yn2 : Ary Z ht43 b2 .int [(.int (r3 0).toInt32), (.int (r3 1).toInt32), (.int (r3 2).toInt32), (.int (r3 3).toInt32)] := by
    have b0 := fun i (hi : i < 4) => (Ij1.2 i hi).1
    have e := fun i (hi : i < 4) => own_fr (ra := r2 c3) (rb := r2 e3) (x := r2 i) (by have := b0 e3 le3; omega) (by have := b0 i hi; omega)
    rw [e 0 (by decide), e 1 (by decide), e 2 (by decide), e 3 (by decide)] at Ym2
    rw [hr3]; exact Ym2
  refine gAload Xt43 hx (hb hby at_121) rfl rfl ?_
  refine gIconst Xt43 hx (hb hby at_123) (v := (0 : Int32)) rfl ?_
  show Goes p e below _ (Tt43.setTop (mkF m 124 #[.val (.int p0), .val (.int p1), .val (.int p2), .val (.int p3), .val (.ref b2), .val (.ref b17), .val (.int c1.toInt32), .val (.int e1.toInt32), .val (.int c2.toInt32), .val (.int e2.toInt32), .val (.int c3.toInt32), .val (.int e3.toInt32), .unset, .unset, .unset, .unset, .unset, .unset] [(.int (0 : Nat).toInt32), (.ref b17)]))
  refine goCallV Xt43 hx hZ hown (hw _ (List.mem_of_getElem? (i := 26) rfl)) (hw _ (List.mem_of_getElem? (i := 18) rfl)) (hw _ (List.mem_of_getElem? (i := 20) rfl)) (hw _ (List.mem_of_getElem? (i := 19) rfl)) (hw _ (List.mem_of_getElem? (i := 3) rfl)) (hw _ (List.mem_of_getElem? (i := 21) rfl)) (by decide) (rmT l Z a0 hw b17 u 0 4 r3 dj2 Pj2 ht43 O46 Fp Yj2 Ij2 (by decide) (by decide) ne_b17_u fr_u) 0 (by decide) (by decide) et43 At16 (hsz rfl) [(.int (0 : Nat).toInt32)] [] pd_0 rfl rfl rfl (Nat.le_of_eq rfl) (hb hby at_124) (by decide) (by decide) (fun Tt47 vt47 Lt47 Xt47 qt47 => ?_)
  obtain ⟨ht47, et47⟩ : ∃ z, Tt47.heap = z := ⟨_, rfl⟩
  rw [et47] at qt47
  obtain ⟨rfl, N48, Kct47, P10_, Y10_, I10_⟩ := qt47
  have N49 := Fr.app N45 N48
  replace At16 := At16.keep Kct47
  replace Fp := Fp.keep Kct47 (ninS ne_b17_u nin0)
  replace Yn2 := Yn2.keep Kct47 (ninS ne_b2_u nin0)
  have O50 : Ext Z.heap ht47 := extK O46 Kct47 (allS fr_u all0)
  show Goes p e below _ (Tt47.setTop (mkF m 127 #[.val (.int p0), .val (.int p1), .val (.int p2), .val (.int p3), .val (.ref b2), .val (.ref b17), .val (.int c1.toInt32), .val (.int e1.toInt32), .val (.int c2.toInt32), .val (.int e2.toInt32), .val (.int c3.toInt32), .val (.int e3.toInt32), .unset, .unset, .unset, .unset, .unset, .unset] [(.int (r3 0).toInt32)]))
  refine gIstore Xt47 hx (hb hby at_127) (l' := #[.val (.int p0), .val (.int p1), .val (.int p2), .val (.int p3), .val (.ref b2), .val (.ref b17), .val (.int c1.toInt32), .val (.int e1.toInt32), .val (.int c2.toInt32), .val (.int e2.toInt32), .val (.int c3.toInt32), .val (.int e3.toInt32), .val (.int (r3 0).toInt32), .unset, .unset, .unset, .unset, .unset]) rfl ?_
  refine gAload Xt47 hx (hb hby at_129) rfl rfl ?_
  refine gIconst Xt47 hx (hb hby at_131) (v := (1 : Int32)) rfl ?_
  show Goes p e below _ (Tt47.setTop (mkF m 132 #[.val (.int p0), .val (.int p1), .val (.int p2), .val (.int p3), .val (.ref b2), .val (.ref b17), .val (.int c1.toInt32), .val (.int e1.toInt32), .val (.int c2.toInt32), .val (.int e2.toInt32), .val (.int c3.toInt32), .val (.int e3.toInt32), .val (.int (r3 0).toInt32), .unset, .unset, .unset, .unset, .unset] [(.int (1 : Nat).toInt32), (.ref b17)]))
  refine goCallV Xt47 hx hZ hown (hw _ (List.mem_of_getElem? (i := 26) rfl)) (hw _ (List.mem_of_getElem? (i := 18) rfl)) (hw _ (List.mem_of_getElem? (i := 20) rfl)) (hw _ (List.mem_of_getElem? (i := 19) rfl)) (hw _ (List.mem_of_getElem? (i := 3) rfl)) (hw _ (List.mem_of_getElem? (i := 21) rfl)) (by decide) (rmT l Z a0 hw b17 u 1 4 r3 dj2 P10_ ht47 O50 Fp Y10_ I10_ (by decide) (by decide) ne_b17_u fr_u) 0 (by decide) (by decide) et47 At16 (hsz rfl) [(.int (1 : Nat).toInt32)] [] pd_0 rfl rfl rfl (Nat.le_of_eq rfl) (hb hby at_132) (by decide) (by decide) (fun Tt51 vt51 Lt51 Xt51 qt51 => ?_)
  obtain ⟨ht51, et51⟩ : ∃ z, Tt51.heap = z := ⟨_, rfl⟩
  rw [et51] at qt51
  obtain ⟨rfl, N52, Kct51, P11_, Y11_, I11_⟩ := qt51
  have N53 := Fr.app N49 N52
  replace At16 := At16.keep Kct51
  replace Fp := Fp.keep Kct51 (ninS ne_b17_u nin0)
  replace Yn2 := Yn2.keep Kct51 (ninS ne_b2_u nin0)
  have O54 : Ext Z.heap ht51 := extK O50 Kct51 (allS fr_u all0)
  show Goes p e below _ (Tt51.setTop (mkF m 135 #[.val (.int p0), .val (.int p1), .val (.int p2), .val (.int p3), .val (.ref b2), .val (.ref b17), .val (.int c1.toInt32), .val (.int e1.toInt32), .val (.int c2.toInt32), .val (.int e2.toInt32), .val (.int c3.toInt32), .val (.int e3.toInt32), .val (.int (r3 0).toInt32), .unset, .unset, .unset, .unset, .unset] [(.int (r3 1).toInt32)]))
  refine gIstore Xt51 hx (hb hby at_135) (l' := #[.val (.int p0), .val (.int p1), .val (.int p2), .val (.int p3), .val (.ref b2), .val (.ref b17), .val (.int c1.toInt32), .val (.int e1.toInt32), .val (.int c2.toInt32), .val (.int e2.toInt32), .val (.int c3.toInt32), .val (.int e3.toInt32), .val (.int (r3 0).toInt32), .val (.int (r3 1).toInt32), .unset, .unset, .unset, .unset]) rfl ?_
  refine gAload Xt51 hx (hb hby at_137) rfl rfl ?_
  refine gIconst Xt51 hx (hb hby at_139) (v := (2 : Int32)) rfl ?_
  show Goes p e below _ (Tt51.setTop (mkF m 140 #[.val (.int p0), .val (.int p1), .val (.int p2), .val (.int p3), .val (.ref b2), .val (.ref b17), .val (.int c1.toInt32), .val (.int e1.toInt32), .val (.int c2.toInt32), .val (.int e2.toInt32), .val (.int c3.toInt32), .val (.int e3.toInt32), .val (.int (r3 0).toInt32), .val (.int (r3 1).toInt32), .unset, .unset, .unset, .unset] [(.int (2 : Nat).toInt32), (.ref b17)]))
  refine goCallV Xt51 hx hZ hown (hw _ (List.mem_of_getElem? (i := 26) rfl)) (hw _ (List.mem_of_getElem? (i := 18) rfl)) (hw _ (List.mem_of_getElem? (i := 20) rfl)) (hw _ (List.mem_of_getElem? (i := 19) rfl)) (hw _ (List.mem_of_getElem? (i := 3) rfl)) (hw _ (List.mem_of_getElem? (i := 21) rfl)) (by decide) (rmT l Z a0 hw b17 u 2 4 r3 dj2 P11_ ht51 O54 Fp Y11_ I11_ (by decide) (by decide) ne_b17_u fr_u) 0 (by decide) (by decide) et51 At16 (hsz rfl) [(.int (2 : Nat).toInt32)] [] pd_0 rfl rfl rfl (Nat.le_of_eq rfl) (hb hby at_140) (by decide) (by decide) (fun Tt55 vt55 Lt55 Xt55 qt55 => ?_)
  obtain ⟨ht55, et55⟩ : ∃ z, Tt55.heap = z := ⟨_, rfl⟩
  rw [et55] at qt55
  obtain ⟨rfl, N56, Kct55, P12_, Y12_, I12_⟩ := qt55
  have N57 := Fr.app N53 N56
  replace At16 := At16.keep Kct55
  replace Fp := Fp.keep Kct55 (ninS ne_b17_u nin0)
  replace Yn2 := Yn2.keep Kct55 (ninS ne_b2_u nin0)
  have O58 : Ext Z.heap ht55 := extK O54 Kct55 (allS fr_u all0)
  show Goes p e below _ (Tt55.setTop (mkF m 143 #[.val (.int p0), .val (.int p1), .val (.int p2), .val (.int p3), .val (.ref b2), .val (.ref b17), .val (.int c1.toInt32), .val (.int e1.toInt32), .val (.int c2.toInt32), .val (.int e2.toInt32), .val (.int c3.toInt32), .val (.int e3.toInt32), .val (.int (r3 0).toInt32), .val (.int (r3 1).toInt32), .unset, .unset, .unset, .unset] [(.int (r3 2).toInt32)]))
  refine gIstore Xt55 hx (hb hby at_143) (l' := #[.val (.int p0), .val (.int p1), .val (.int p2), .val (.int p3), .val (.ref b2), .val (.ref b17), .val (.int c1.toInt32), .val (.int e1.toInt32), .val (.int c2.toInt32), .val (.int e2.toInt32), .val (.int c3.toInt32), .val (.int e3.toInt32), .val (.int (r3 0).toInt32), .val (.int (r3 1).toInt32), .val (.int (r3 2).toInt32), .unset, .unset, .unset]) rfl ?_
  refine gAload Xt55 hx (hb hby at_145) rfl rfl ?_
  refine gIconst Xt55 hx (hb hby at_147) (v := (3 : Int32)) rfl ?_
  show Goes p e below _ (Tt55.setTop (mkF m 148 #[.val (.int p0), .val (.int p1), .val (.int p2), .val (.int p3), .val (.ref b2), .val (.ref b17), .val (.int c1.toInt32), .val (.int e1.toInt32), .val (.int c2.toInt32), .val (.int e2.toInt32), .val (.int c3.toInt32), .val (.int e3.toInt32), .val (.int (r3 0).toInt32), .val (.int (r3 1).toInt32), .val (.int (r3 2).toInt32), .unset, .unset, .unset] [(.int (3 : Nat).toInt32), (.ref b17)]))
  refine goCallV Xt55 hx hZ hown (hw _ (List.mem_of_getElem? (i := 26) rfl)) (hw _ (List.mem_of_getElem? (i := 18) rfl)) (hw _ (List.mem_of_getElem? (i := 20) rfl)) (hw _ (List.mem_of_getElem? (i := 19) rfl)) (hw _ (List.mem_of_getElem? (i := 3) rfl)) (hw _ (List.mem_of_getElem? (i := 21) rfl)) (by decide) (rmT l Z a0 hw b17 u 3 4 r3 dj2 P12_ ht55 O58 Fp Y12_ I12_ (by decide) (by decide) ne_b17_u fr_u) 0 (by decide) (by decide) et55 At16 (hsz rfl) [(.int (3 : Nat).toInt32)] [] pd_0 rfl rfl rfl (Nat.le_of_eq rfl) (hb hby at_148) (by decide) (by decide) (fun Tt59 vt59 Lt59 Xt59 qt59 => ?_)
  obtain ⟨ht59, et59⟩ : ∃ z, Tt59.heap = z := ⟨_, rfl⟩
  rw [et59] at qt59
  obtain ⟨rfl, N60, Kct59, P13_, Y13_, I13_⟩ := qt59
  have N61 := Fr.app N57 N60
  replace At16 := At16.keep Kct59
  replace Fp := Fp.keep Kct59 (ninS ne_b17_u nin0)
  replace Yn2 := Yn2.keep Kct59 (ninS ne_b2_u nin0)
  have O62 : Ext Z.heap ht59 := extK O58 Kct59 (allS fr_u all0)
  show Goes p e below _ (Tt59.setTop (mkF m 151 #[.val (.int p0), .val (.int p1), .val (.int p2), .val (.int p3), .val (.ref b2), .val (.ref b17), .val (.int c1.toInt32), .val (.int e1.toInt32), .val (.int c2.toInt32), .val (.int e2.toInt32), .val (.int c3.toInt32), .val (.int e3.toInt32), .val (.int (r3 0).toInt32), .val (.int (r3 1).toInt32), .val (.int (r3 2).toInt32), .unset, .unset, .unset] [(.int (r3 3).toInt32)]))
  refine gIstore Xt59 hx (hb hby at_151) (l' := #[.val (.int p0), .val (.int p1), .val (.int p2), .val (.int p3), .val (.ref b2), .val (.ref b17), .val (.int c1.toInt32), .val (.int e1.toInt32), .val (.int c2.toInt32), .val (.int e2.toInt32), .val (.int c3.toInt32), .val (.int e3.toInt32), .val (.int (r3 0).toInt32), .val (.int (r3 1).toInt32), .val (.int (r3 2).toInt32), .val (.int (r3 3).toInt32), .unset, .unset]) rfl ?_
  refine gIloadN Xt59 hx (hb hby at_153) rfl ?_
  refine gIconst Xt59 hx (hb hby at_154) (v := (3 : Int32)) rfl ?_
  refine gIand Xt59 hx (hb hby at_155) ?_
  refine gIstore Xt59 hx (hb hby at_156) (l' := #[.val (.int p0), .val (.int p1), .val (.int p2), .val (.int p3), .val (.ref b2), .val (.ref b17), .val (.int c1.toInt32), .val (.int e1.toInt32), .val (.int c2.toInt32), .val (.int e2.toInt32), .val (.int c3.toInt32), .val (.int e3.toInt32), .val (.int (r3 0).toInt32), .val (.int (r3 1).toInt32), .val (.int (r3 2).toInt32), .val (.int (r3 3).toInt32), .val (.int (p3 &&& (3 : Int32))), .unset]) rfl ?_
  refine gAload Xt59 hx (hb hby at_158) rfl rfl ?_
  refine gIload Xt59 hx (hb hby at_160) rfl ?_
  show Goes p e below _ (Tt59.setTop (mkF m 162 #[.val (.int p0), .val (.int p1), .val (.int p2), .val (.int p3), .val (.ref b2), .val (.ref b17), .val (.int c1.toInt32), .val (.int e1.toInt32), .val (.int c2.toInt32), .val (.int e2.toInt32), .val (.int c3.toInt32), .val (.int e3.toInt32), .val (.int (r3 0).toInt32), .val (.int (r3 1).toInt32), .val (.int (r3 2).toInt32), .val (.int (r3 3).toInt32), .val (.int (p3 &&& (3 : Int32))), .unset] [(.int (p3 &&& (3 : Int32))), (.ref b17)]))
  obtain ⟨cq, lcq, qcq⟩ := own_and3 p3
  rw [qcq]
  show Goes p e below _ (Tt59.setTop (mkF m 162 #[.val (.int p0), .val (.int p1), .val (.int p2), .val (.int p3), .val (.ref b2), .val (.ref b17), .val (.int c1.toInt32), .val (.int e1.toInt32), .val (.int c2.toInt32), .val (.int e2.toInt32), .val (.int c3.toInt32), .val (.int e3.toInt32), .val (.int (r3 0).toInt32), .val (.int (r3 1).toInt32), .val (.int (r3 2).toInt32), .val (.int (r3 3).toInt32), .val (.int cq.toInt32), .unset] [(.int cq.toInt32), (.ref b17)]))
  refine goCallV Xt59 hx hZ hown (hw _ (List.mem_of_getElem? (i := 26) rfl)) (hw _ (List.mem_of_getElem? (i := 18) rfl)) (hw _ (List.mem_of_getElem? (i := 20) rfl)) (hw _ (List.mem_of_getElem? (i := 19) rfl)) (hw _ (List.mem_of_getElem? (i := 3) rfl)) (hw _ (List.mem_of_getElem? (i := 21) rfl)) (by decide) (rmT l Z a0 hw b17 u cq 4 r3 dj2 P13_ ht59 O62 Fp Y13_ I13_ lcq (by decide) ne_b17_u fr_u) 0 (by decide) (by decide) et59 At16 (hsz rfl) [(.int cq.toInt32)] [] pd_0 rfl rfl rfl (Nat.le_of_eq rfl) (hb hby at_162) (by decide) (by decide) (fun Tt63 vt63 Lt63 Xt63 qt63 => ?_)
  obtain ⟨ht63, et63⟩ : ∃ z, Tt63.heap = z := ⟨_, rfl⟩
  rw [et63] at qt63
  obtain ⟨rfl, N64, Kct63, P20_, Y20_, I20_⟩ := qt63
  have N65 := Fr.app N61 N64
  replace At16 := At16.keep Kct63
  replace Fp := Fp.keep Kct63 (ninS ne_b17_u nin0)
  replace Yn2 := Yn2.keep Kct63 (ninS ne_b2_u nin0)
  have O66 : Ext Z.heap ht63 := extK O62 Kct63 (allS fr_u all0)
  show Goes p e below _ (Tt63.setTop (mkF m 165 #[.val (.int p0), .val (.int p1), .val (.int p2), .val (.int p3), .val (.ref b2), .val (.ref b17), .val (.int c1.toInt32), .val (.int e1.toInt32), .val (.int c2.toInt32), .val (.int e2.toInt32), .val (.int c3.toInt32), .val (.int e3.toInt32), .val (.int (r3 0).toInt32), .val (.int (r3 1).toInt32), .val (.int (r3 2).toInt32), .val (.int (r3 3).toInt32), .val (.int cq.toInt32), .unset] [(.int (r3 cq).toInt32)]))
  refine gIstore Xt63 hx (hb hby at_165) (l' := #[.val (.int p0), .val (.int p1), .val (.int p2), .val (.int p3), .val (.ref b2), .val (.ref b17), .val (.int c1.toInt32), .val (.int e1.toInt32), .val (.int c2.toInt32), .val (.int e2.toInt32), .val (.int c3.toInt32), .val (.int e3.toInt32), .val (.int (r3 0).toInt32), .val (.int (r3 1).toInt32), .val (.int (r3 2).toInt32), .val (.int (r3 3).toInt32), .val (.int cq.toInt32), .val (.int (r3 cq).toInt32)]) rfl ?_
  refine gIload Xt63 hx (hb hby at_167) rfl ?_
  refine gAload Xt63 hx (hb hby at_169) rfl rfl ?_
  refine gIconst Xt63 hx (hb hby at_171) (v := (0 : Int32)) rfl ?_
  refine goIaload Xt63 hx hZ et63 Yn2 (x := (r3 0).toInt32) (hb hby at_172) (by decide) rfl ?_
  refine gIcmpN Xt63 hx (hb hby at_173) (XT.ii_ne_f rfl) ?_
  show Goes p e below _ (Tt63.setTop (mkF m 176 #[.val (.int p0), .val (.int p1), .val (.int p2), .val (.int p3), .val (.ref b2), .val (.ref b17), .val (.int c1.toInt32), .val (.int e1.toInt32), .val (.int c2.toInt32), .val (.int e2.toInt32), .val (.int c3.toInt32), .val (.int e3.toInt32), .val (.int (r3 0).toInt32), .val (.int (r3 1).toInt32), .val (.int (r3 2).toInt32), .val (.int (r3 3).toInt32), .val (.int cq.toInt32), .val (.int (r3 cq).toInt32)] []))
  refine gIload Xt63 hx (hb hby at_176) rfl ?_
  refine gAload Xt63 hx (hb hby at_178) rfl rfl ?_
  refine gIconst Xt63 hx (hb hby at_180) (v := (1 : Int32)) rfl ?_
  refine goIaload Xt63 hx hZ et63 Yn2 (x := (r3 1).toInt32) (hb hby at_181) (by decide) rfl ?_
  refine gIcmpN Xt63 hx (hb hby at_182) (XT.ii_ne_f rfl) ?_
  show Goes p e below _ (Tt63.setTop (mkF m 185 #[.val (.int p0), .val (.int p1), .val (.int p2), .val (.int p3), .val (.ref b2), .val (.ref b17), .val (.int c1.toInt32), .val (.int e1.toInt32), .val (.int c2.toInt32), .val (.int e2.toInt32), .val (.int c3.toInt32), .val (.int e3.toInt32), .val (.int (r3 0).toInt32), .val (.int (r3 1).toInt32), .val (.int (r3 2).toInt32), .val (.int (r3 3).toInt32), .val (.int cq.toInt32), .val (.int (r3 cq).toInt32)] []))
  refine gIload Xt63 hx (hb hby at_185) rfl ?_
  refine gAload Xt63 hx (hb hby at_187) rfl rfl ?_
  refine gIconst Xt63 hx (hb hby at_189) (v := (2 : Int32)) rfl ?_
  refine goIaload Xt63 hx hZ et63 Yn2 (x := (r3 2).toInt32) (hb hby at_190) (by decide) rfl ?_
  refine gIcmpN Xt63 hx (hb hby at_191) (XT.ii_ne_f rfl) ?_
  show Goes p e below _ (Tt63.setTop (mkF m 194 #[.val (.int p0), .val (.int p1), .val (.int p2), .val (.int p3), .val (.ref b2), .val (.ref b17), .val (.int c1.toInt32), .val (.int e1.toInt32), .val (.int c2.toInt32), .val (.int e2.toInt32), .val (.int c3.toInt32), .val (.int e3.toInt32), .val (.int (r3 0).toInt32), .val (.int (r3 1).toInt32), .val (.int (r3 2).toInt32), .val (.int (r3 3).toInt32), .val (.int cq.toInt32), .val (.int (r3 cq).toInt32)] []))
  refine gIload Xt63 hx (hb hby at_194) rfl ?_
  refine gAload Xt63 hx (hb hby at_196) rfl rfl ?_
  refine gIconst Xt63 hx (hb hby at_198) (v := (3 : Int32)) rfl ?_
  refine goIaload Xt63 hx hZ et63 Yn2 (x := (r3 3).toInt32) (hb hby at_199) (by decide) rfl ?_
  refine gIcmpN Xt63 hx (hb hby at_200) (XT.ii_ne_f rfl) ?_
  show Goes p e below _ (Tt63.setTop (mkF m 203 #[.val (.int p0), .val (.int p1), .val (.int p2), .val (.int p3), .val (.ref b2), .val (.ref b17), .val (.int c1.toInt32), .val (.int e1.toInt32), .val (.int c2.toInt32), .val (.int e2.toInt32), .val (.int c3.toInt32), .val (.int e3.toInt32), .val (.int (r3 0).toInt32), .val (.int (r3 1).toInt32), .val (.int (r3 2).toInt32), .val (.int (r3 3).toInt32), .val (.int cq.toInt32), .val (.int (r3 cq).toInt32)] []))
  refine gIload Xt63 hx (hb hby at_203) rfl ?_
  refine gAload Xt63 hx (hb hby at_205) rfl rfl ?_
  refine gIload Xt63 hx (hb hby at_207) rfl ?_
  refine goIaload Xt63 hx hZ et63 Yn2 (x := (r3 cq).toInt32) (hb hby at_209) (own_nn (by omega)) (own_at4 (fun i => Value.int (r3 i).toInt32) lcq) ?_
  show Goes p e below _ (Tt63.setTop (mkF m 210 #[.val (.int p0), .val (.int p1), .val (.int p2), .val (.int p3), .val (.ref b2), .val (.ref b17), .val (.int c1.toInt32), .val (.int e1.toInt32), .val (.int c2.toInt32), .val (.int e2.toInt32), .val (.int c3.toInt32), .val (.int e3.toInt32), .val (.int (r3 0).toInt32), .val (.int (r3 1).toInt32), .val (.int (r3 2).toInt32), .val (.int (r3 3).toInt32), .val (.int cq.toInt32), .val (.int (r3 cq).toInt32)] [(.int (r3 cq).toInt32), (.int (r3 cq).toInt32)]))
  refine gIcmpN Xt63 hx (hb hby at_210) (XT.ii_ne_f rfl) ?_
  show Goes p e below _ (Tt63.setTop (mkF m 213 #[.val (.int p0), .val (.int p1), .val (.int p2), .val (.int p3), .val (.ref b2), .val (.ref b17), .val (.int c1.toInt32), .val (.int e1.toInt32), .val (.int c2.toInt32), .val (.int e2.toInt32), .val (.int c3.toInt32), .val (.int e3.toInt32), .val (.int (r3 0).toInt32), .val (.int (r3 1).toInt32), .val (.int (r3 2).toInt32), .val (.int (r3 3).toInt32), .val (.int cq.toInt32), .val (.int (r3 cq).toInt32)] []))
  refine gIconst Xt63 hx (hb hby at_213) (v := (1 : Int32)) rfl ?_
  refine gGoto Xt63 hx (hb hby at_214) (pc' := 218) (by decide) (by decide) ?_
  show Goes p e below _ (Tt63.setTop (mkF m 218 #[.val (.int p0), .val (.int p1), .val (.int p2), .val (.int p3), .val (.ref b2), .val (.ref b17), .val (.int c1.toInt32), .val (.int e1.toInt32), .val (.int c2.toInt32), .val (.int e2.toInt32), .val (.int c3.toInt32), .val (.int e3.toInt32), .val (.int (r3 0).toInt32), .val (.int (r3 1).toInt32), .val (.int (r3 2).toInt32), .val (.int (r3 3).toInt32), .val (.int cq.toInt32), .val (.int (r3 cq).toInt32)] [(.int (1 : Int32))]))
  exact goRetN Xt63 hx (t := .boolean) hret hlocks (by simp) (hb hby at_218) (z' := (1 : Int32)) rfl (by decide) (by decide) et63 (⟨rfl, N65⟩)
set_option maxRecDepth 65536 in
set_option maxHeartbeats 40000000 in
theorem comes_1 {Post : Tables → Env → Array Value → State → Outcome → State → Prop} (hpost : ∀ tb e args s v u, (limb_1_1.after args s (.returned v) u = true ∧ limb_1_2.after args s (.returned v) u = true ∧ True) → FrameEnd s (.returned v) u (Jvm.fieldLocs frame_1_writes args s ++ Jvm.arrayLocs frame_1_arrays args s ++ Jvm.staticLocs frame_1_statics s) 16 128 → Post tb e args s (.returned v) u) :
    ArmFor flags0 classFile x code maxLocals ret World_1 tables_1 room_1 Calls_1 rest_1 Pre_1 Post := by
  intro l hfl _ _ p e ha hc hk s m args below hf hA hF happ hP
  obtain ⟨hcalls, hrest, hpre⟩ := hP
  obtain ⟨-, -, -, hnamed, -, -, -, hat⟩ := (Spec.applies_iff hf).mp happ
  obtain ⟨hg, hn⟩ := and_e (Cond.before_iff.mp (show (Jvm.Cond.and given_1 narrow_1).before args s = true from hpre))
  obtain ⟨hc0, r0⟩ := and_e hg
  obtain ⟨c0, r1⟩ := and_e r0
  obtain ⟨c1, r2⟩ := and_e r1
  obtain ⟨c2, r3⟩ := and_e r2
  have c3 := r3
  obtain ⟨w0, w1, w2, w3, rfl⟩ : ∃ w0 w1 w2 w3 : Value, args = #[w0, w1, w2, w3] := by
    have hs : args.size = 4 := by simpa [Cond.value, given_1] using hc0
    obtain ⟨L⟩ := args
    match L, hs with
    | [w0, w1, w2, w3], _ => exact ⟨w0, w1, w2, w3, rfl⟩
  have hw := fun d (hd : d ∈ tables_1) => atoms_spec (ws := Jvm.Cond.code x code maxLocals ret :: tables_1) hat d (List.mem_cons_of_mem _ hd)
  have hfit : Fit s := fun {y c} hc i hi => by
    obtain ⟨ha, rfl⟩ := Array.getElem?_eq_some_iff.mp hc
    have q := List.all_eq_true.mp ((Array.all_eq_true_iff_forall_mem.mp hF) _ (Array.getElem_mem ha)) i (List.mem_range.mpr hi)
    simpa [Array.getElem?_eq_getElem hi] using q
  obtain ⟨x0, y0⟩ := is_v c0
  obtain rfl : w0 = (.int x0) := Option.some.inj y0
  obtain ⟨x1, y1⟩ := is_v c1
  obtain rfl : w1 = (.int x1) := Option.some.inj y1
  obtain ⟨x2, y2⟩ := is_v c2
  obtain rfl : w2 = (.int x2) := Option.some.inj y2
  obtain ⟨x3, y3⟩ := is_v c3
  obtain rfl : w3 = (.int x3) := Option.some.inj y3
  obtain ⟨n, o, h1, h2, h3, _, L, rfl, ⟨rfl, N⟩, hq⟩ := rm0 l s _ hw x0 x1 x2 x3 s.heap ⟨Nat.le_refl _, fun _ _ q => q⟩  p e ha hc hk s m _ below hf ((Spec.applies_iff_loose hf).mp happ).1 ⟨rfl, State.Warmed39.refl s, rfl⟩ trivial
  refine ⟨n, _, h1, h2, h3, hpost _ _ _ _ _ _ ⟨Cond.after_iff.mpr rfl, Cond.after_iff.mpr (eq_i res_at (Term.int_eval (1)) rfl), trivial⟩ ⟨hq.1, hq.2.1, (hq.2.2.sift fun y hy => Or.inr (N y hy)).mono (by decide) (by decide)⟩⟩
theorem main_1_1 : Claimed_1_1 := comes_1 fun _ _ _ _ _ _ h hF => ⟨h.1, hF⟩
theorem main_1_2 : Claimed_1_2 := comes_1 fun _ _ _ _ _ _ h hF => ⟨h.2.1, hF⟩
end Jvm.Pilot.@@N@@
namespace Jvm.Pilot.@@N@@
open Jvm Jvm.ClassFile Sem Op Lib Jvm.Free Jvm.Stand Jvm.Pilot.@@N@@.Jvm.D
/-! MADE BY PROGRAM (witnessworld.py) out of the Statement's table words and the real class files: 9 classes; the members and pool entries that the words name. The judged class is class 1, her method 2. -/
namespace start1
open Jvm.ClassFile
def u (s : String) : CpInfo := .utf8 (stringToUtf16 s)
/-- a pool by its gaps: so many unusable entries, then the entry; so many at the end -/
def gap : Nat → List CpInfo → List CpInfo
  | 0, r => r
  | n + 1, r => .unusable :: gap n r
def poolList (es : List (Nat × CpInfo)) (last : Nat) : List CpInfo := es.foldr (fun e r => gap e.1 (e.2 :: r)) (gap last [])
def pool (es : List (Nat × CpInfo)) (last : Nat) : Array CpInfo := ⟨poolList es last⟩
def fileOf (pool : Array CpInfo) (this : Nat) (attrs : Array Attribute := #[]) (ms : Array MethodInfo := #[]) (fl : Nat := 33) (sup : Nat := 0) (ifs : Array Nat := #[]) (fds : Array FieldInfo := #[]) : ClassFile where
  minorVersion := 0
  majorVersion := 65
  constantPool := pool
  accessFlags := fl
  thisClass := this
  superClass := sup
  interfaces := ifs
  fields := fds
  methods := ms
  attributes := attrs
def plain (name : String) (sup : Option ClassId) : Class where
  name := name
  kind := .ordinary
  loader := none
  accessFlags := 33
  super := sup
  interfaces := #[]
  cf := none
  fields := #[]
  methods := #[]
  instanceTypes := #[]
  staticTypes := #[]
  resolved := #[]
  callSites := []
  init := .initialized
  statics := none
  mirror := none

def pool0 : Array CpInfo := pool [(5, u "<init>"), (0, u "()V"), (1, .class_ 10), (1, u "java/lang/Object")] 113

def k0c0 : Code := { maxStack := 0, maxLocals := 1, code := object_method_1_code, exceptionTable := #[], attributes := #[] }
def k0m0 : Method := { name := "<init>", desc := "()V", sig := { parameters := [], returnType := none }, accessFlags := 1, code := some k0c0 }
/-- java/lang/Object -/
def k0 : Class := { plain "java/lang/Object" none with
  accessFlags := 33
  interfaces := #[]
  cf := some (fileOf pool0 8 #[] #[{ accessFlags := 1, nameIndex := 5, descriptorIndex := 6, attributes := #[] }] 33 0 #[] #[])
  fields := #[]
  methods := #[k0m0]
  instanceTypes := #[]
  staticTypes := #[]
  resolved := Array.replicate 124 none
  statics := none }

def pool1 : Array CpInfo := pool [(2, .class_ 4), (1, u "java/lang/Object"), (0, u "<init>"), (0, u "()V"), (0, .class_ 8), (0, u "com/example/phal/phal/service/Groups"), (0, .methodref 7 10), (0, .nameAndType 5 11), (0, u "(I)V"), (0, .methodref 7 13), (0, .nameAndType 14 15), (0, u "join"), (0, u "(II)V"), (0, .methodref 17 18), (0, .class_ 19), (0, .nameAndType 20 21), (0, u "com/example/phal/phal/service/GroupsRootPinLaw"), (0, u "merge"), (0, u "([III)V"), (0, .methodref 7 23), (0, .nameAndType 24 25), (0, u "root"), (0, u "(I)I"), (3, u "law"), (0, u "(IIII)Z")] 4

def k1m0 : Method := { name := "<init>", desc := "()V", sig := { parameters := [], returnType := none }, accessFlags := 1, code := none }
def k1c1 : Code := { maxStack := 3, maxLocals := 5, code := method_2_code, exceptionTable := #[], attributes := #[] }
def k1m1 : Method := { name := "merge", desc := "([III)V", sig := { parameters := [(.array .int), .int, .int], returnType := none }, accessFlags := 10, code := some k1c1 }
def k1c2 : Code := { maxStack := 4, maxLocals := 18, code := code, exceptionTable := #[], attributes := #[] }
def k1m2 : Method := { name := "law", desc := "(IIII)Z", sig := { parameters := [.int, .int, .int, .int], returnType := some .boolean }, accessFlags := 9, code := some k1c2 }
/-- com/example/phal/phal/service/GroupsRootPinLaw -/
def k1 : Class := { plain "com/example/phal/phal/service/GroupsRootPinLaw" (some 0) with
  accessFlags := 49
  interfaces := #[]
  cf := some (fileOf pool1 17 #[] #[{ accessFlags := 1, nameIndex := 5, descriptorIndex := 6, attributes := #[] }, { accessFlags := 10, nameIndex := 20, descriptorIndex := 21, attributes := #[] }, { accessFlags := 9, nameIndex := 29, descriptorIndex := 30, attributes := #[] }] 49 2 #[] #[])
  fields := #[]
  methods := #[k1m0, k1m1, k1m2]
  instanceTypes := #[]
  staticTypes := #[]
  resolved := Array.replicate 35 none
  statics := none }

def pool2 : Array CpInfo := pool [(1, .methodref 2 3), (0, .class_ 4), (0, .nameAndType 5 6), (0, u "java/lang/Object"), (0, u "<init>"), (0, u "()V"), (0, .fieldref 8 9), (0, .class_ 10), (0, .nameAndType 11 12), (0, u "com/example/phal/phal/service/Groups"), (0, u "parent"), (0, u "[I"), (5, u "(I)I"), (2, u "join"), (0, u "(II)V"), (0, .methodref 8 24), (0, .nameAndType 25 18), (0, u "root"), (0, u "(I)V")] 6

def k2c0 : Code := { maxStack := 3, maxLocals := 3, code := prog_15_method_1_code, exceptionTable := #[], attributes := #[] }
def k2m0 : Method := { name := "<init>", desc := "(I)V", sig := { parameters := [.int], returnType := none }, accessFlags := 0, code := some k2c0 }
def k2c1 : Code := { maxStack := 4, maxLocals := 3, code := prog_15_method_3_code, exceptionTable := #[], attributes := #[] }
def k2m1 : Method := { name := "join", desc := "(II)V", sig := { parameters := [.int, .int], returnType := none }, accessFlags := 0, code := some k2c1 }
def k2c2 : Code := { maxStack := 5, maxLocals := 3, code := prog_15_method_4_code, exceptionTable := #[], attributes := #[] }
def k2m2 : Method := { name := "root", desc := "(I)I", sig := { parameters := [.int], returnType := some .int }, accessFlags := 0, code := some k2c2 }
/-- com/example/phal/phal/service/Groups -/
def k2 : Class := { plain "com/example/phal/phal/service/Groups" (some 0) with
  accessFlags := 48
  interfaces := #[]
  cf := some (fileOf pool2 8 #[] #[{ accessFlags := 0, nameIndex := 5, descriptorIndex := 26, attributes := #[] }, { accessFlags := 0, nameIndex := 21, descriptorIndex := 22, attributes := #[] }, { accessFlags := 0, nameIndex := 25, descriptorIndex := 18, attributes := #[] }] 48 2 #[] #[{ accessFlags := 18, nameIndex := 11, descriptorIndex := 12, attributes := #[] }])
  fields := #[{ name := "parent", type := (.array .int), accessFlags := 18, slot := 0, constantValue := 0 }]
  methods := #[k2m0, k2m1, k2m2]
  instanceTypes := #[(.array .int)]
  staticTypes := #[]
  resolved := Array.replicate 33 none
  statics := none }

def pool3 : Array CpInfo := pool [(1, u "java/lang/Cloneable"), (0, .class_ 1), (0, u "java/lang/Object"), (0, .class_ 3)] 3

/-- java/lang/Cloneable -/
def k3 : Class := { plain "java/lang/Cloneable" (some 0) with
  accessFlags := 1537
  interfaces := #[]
  cf := some (fileOf pool3 2 #[] #[] 1537 4 #[] #[])
  fields := #[]
  methods := #[]
  instanceTypes := #[]
  staticTypes := #[]
  resolved := Array.replicate 8 none
  statics := none }

def pool4 : Array CpInfo := pool [(1, u "java/io/Serializable"), (0, .class_ 1), (0, u "java/lang/Object"), (0, .class_ 3)] 3

/-- java/io/Serializable -/
def k4 : Class := { plain "java/io/Serializable" (some 0) with
  accessFlags := 1537
  interfaces := #[]
  cf := some (fileOf pool4 2 #[] #[] 1537 4 #[] #[])
  fields := #[]
  methods := #[]
  instanceTypes := #[]
  staticTypes := #[]
  resolved := Array.replicate 8 none
  statics := none }

/-- the primitive byte -/
def k5 : Class := { plain "byte" none with kind := .primitive 'B', accessFlags := 0x411 }
/-- [B -/
def k6 : Class := { plain "[B" (some 0) with kind := .array 5 .byte, interfaces := #[3, 4], accessFlags := 1041 }

/-- the primitive int -/
def k7 : Class := { plain "int" none with kind := .primitive 'I', accessFlags := 0x411 }
/-- [I -/
def k8 : Class := { plain "[I" (some 0) with kind := .array 7 .int, interfaces := #[3, 4], accessFlags := 1041 }

def heap : Heap := #[]
def classes : Array Class := #[k0, k1, k2, k3, k4, k5, k6, k7, k8]
def interned : List (Array UInt16 × Addr) := []
def slotsUsed : Nat := 0
def theMethod : MethodId := ⟨1, 2⟩
def args0 : Array Value := #[.int 5, .int 80, .int 3, .int 9]
def aboutOver (below : List Frame) : State where
  vm := { classes := classes, interned := interned.toArray }
  heap := heap
  slotsUsed := slotsUsed
  threads := #[{ frames := .invoking theMethod args0 :: below }]
def below0 : List Frame := [.native { method := ⟨0, 0⟩, args := #[] }]
def about1 : State := aboutOver below0
def p0 : Program := .bare "" "" ""
def e0 : Env := launch0.env 0 0 0
theorem w_frames : about1.frames = Frame.invoking theMethod args0 :: below0 := rfl
set_option maxRecDepth 65536 in
theorem w_args : argsFit about1.vm theMethod args0 = true := by decide +kernel
set_option maxRecDepth 65536 in
theorem w_heap : heapFits about1 = true := by decide +kernel
set_option maxRecDepth 65536 in
theorem w_runnable : about1.curStatus? = some .runnable := by decide +kernel
set_option maxRecDepth 65536 in
theorem w_alone : about1.alone = true := by decide +kernel
set_option maxRecDepth 65536 in
theorem w_named : about1.methodNamed? x = some theMethod := by decide +kernel
set_option maxRecDepth 65536 in
theorem w_hears : about1.hears theMethod below0 = true := by decide +kernel
set_option maxRecDepth 65536 in
theorem w_ripe : about1.ripe theMethod args0 below0 = true := by decide +kernel
theorem w_running : about1.status = .running := rfl
set_option maxRecDepth 65536 in
theorem w_room : about1.hasRoom e0.platform room_1 = true :=
  launch0.hasRoom_least _ room_1 (by decide +kernel) (by decide +kernel) (by decide +kernel) (by decide +kernel) (by decide +kernel) (by decide +kernel)
theorem allAtoms_all (ts : List Jvm.Cond) (a : Array Jvm.Value) (st : Jvm.State) : (allAtoms ts).before a st = ts.all (fun c => c.before a st) := by
  induction ts with
  | nil => rfl
  | cons c t ih =>
    show (Jvm.Cond.and c (allAtoms t)).before a st = _
    rw [Jvm.Cond.before_and, ih, List.all_cons]
def words1 : List Jvm.Cond := Jvm.Cond.code x code maxLocals ret :: tables_1
/-- a 'code' word, met by the world's own term for the bytes: nothing is compared byte by byte -/
theorem code_word {y : MethodName} {bytes : ByteArray} {mx : Nat} {rt : Option FieldType} {a : Array Value} {s : State} {m : MethodId} {meth : Method} {c : Code} (h1 : s.methodNamed? y = some m) (h2 : s.vm.method? m = some meth) (h3 : meth.code = some c) (h4 : c.code = bytes)
    (h5 : (c.maxLocals == mx && c.exceptionTable.isEmpty && decide (c.maxStack ≤ mostOperands) && decide (meth.sig.returnType = rt) && !meth.locks && decide (parseMethodDescriptor y.desc = some meth.sig)) = true) : (Jvm.Cond.code y bytes mx rt).before a s = true := by
  simp only [Bool.and_eq_true, beq_iff_eq, Bool.not_eq_true', decide_eq_true_eq] at h5
  obtain ⟨⟨⟨⟨⟨g1, g2⟩, g3⟩, g4⟩, g5⟩, g6⟩ := h5
  simp [Cond.before, Cond.holds, Cond.value, h1, h2, h3, h4, g1, g2, g3, g4, g5, g6]
def isCode : Jvm.Cond → Bool
  | .code _ _ _ _ => true
  | _ => false
theorem all_split {L : List Jvm.Cond} {P : Jvm.Cond → Bool} (h1 : L.all (fun c => isCode c || P c) = true) (h2 : ∀ c ∈ L.filter isCode, P c = true) : L.all P = true := by
  refine List.all_eq_true.mpr fun c hc => ?_
  have h := List.all_eq_true.mp h1 c hc
  rcases Bool.eq_false_or_eq_true (isCode c) with hi | hi
  · exact h2 c (List.mem_filter.mpr ⟨hc, hi⟩)
  · simpa [hi] using h
set_option maxRecDepth 65536 in
theorem w_c0 : (Jvm.Cond.code x code maxLocals ret).before args0 about1 = true := code_word (m := ⟨1, 2⟩) (meth := k1m2) (c := k1c2) (by decide +kernel) rfl rfl rfl (by decide +kernel)
set_option maxRecDepth 65536 in
theorem w_c1 : (Jvm.Cond.code ({ cls := "com/example/phal/phal/service/Groups", name := "<init>", desc := "(I)V" } : Jvm.MethodName) prog_15_method_1_code (3 : Nat) (Option.none : Option Jvm.ClassFile.FieldType)).before args0 about1 = true := code_word (m := ⟨2, 0⟩) (meth := k2m0) (c := k2c0) (by decide +kernel) rfl rfl rfl (by decide +kernel)
set_option maxRecDepth 65536 in
theorem w_c2 : (Jvm.Cond.code ({ cls := "java/lang/Object", name := "<init>", desc := "()V" } : Jvm.MethodName) object_method_1_code (1 : Nat) (Option.none : Option Jvm.ClassFile.FieldType)).before args0 about1 = true := code_word (m := ⟨0, 0⟩) (meth := k0m0) (c := k0c0) (by decide +kernel) rfl rfl rfl (by decide +kernel)
set_option maxRecDepth 65536 in
theorem w_c3 : (Jvm.Cond.code ({ cls := "com/example/phal/phal/service/Groups", name := "join", desc := "(II)V" } : Jvm.MethodName) prog_15_method_3_code (3 : Nat) (Option.none : Option Jvm.ClassFile.FieldType)).before args0 about1 = true := code_word (m := ⟨2, 1⟩) (meth := k2m1) (c := k2c1) (by decide +kernel) rfl rfl rfl (by decide +kernel)
set_option maxRecDepth 65536 in
theorem w_c4 : (Jvm.Cond.code ({ cls := "com/example/phal/phal/service/Groups", name := "root", desc := "(I)I" } : Jvm.MethodName) prog_15_method_4_code (3 : Nat) (Option.some Jvm.ClassFile.FieldType.int)).before args0 about1 = true := code_word (m := ⟨2, 2⟩) (meth := k2m2) (c := k2c2) (by decide +kernel) rfl rfl rfl (by decide +kernel)
set_option maxRecDepth 65536 in
theorem w_c5 : (Jvm.Cond.code ({ cls := "com/example/phal/phal/service/GroupsRootPinLaw", name := "merge", desc := "([III)V" } : Jvm.MethodName) method_2_code (5 : Nat) (Option.none : Option Jvm.ClassFile.FieldType)).before args0 about1 = true := code_word (m := ⟨1, 1⟩) (meth := k1m1) (c := k1c1) (by decide +kernel) rfl rfl rfl (by decide +kernel)
def codes1 : List Jvm.Cond := [Jvm.Cond.code x code maxLocals ret, Jvm.Cond.code ({ cls := "com/example/phal/phal/service/Groups", name := "<init>", desc := "(I)V" } : Jvm.MethodName) prog_15_method_1_code (3 : Nat) (Option.none : Option Jvm.ClassFile.FieldType), Jvm.Cond.code ({ cls := "java/lang/Object", name := "<init>", desc := "()V" } : Jvm.MethodName) object_method_1_code (1 : Nat) (Option.none : Option Jvm.ClassFile.FieldType), Jvm.Cond.code ({ cls := "com/example/phal/phal/service/Groups", name := "join", desc := "(II)V" } : Jvm.MethodName) prog_15_method_3_code (3 : Nat) (Option.none : Option Jvm.ClassFile.FieldType), Jvm.Cond.code ({ cls := "com/example/phal/phal/service/Groups", name := "root", desc := "(I)I" } : Jvm.MethodName) prog_15_method_4_code (3 : Nat) (Option.some Jvm.ClassFile.FieldType.int), Jvm.Cond.code ({ cls := "com/example/phal/phal/service/GroupsRootPinLaw", name := "merge", desc := "([III)V" } : Jvm.MethodName) method_2_code (5 : Nat) (Option.none : Option Jvm.ClassFile.FieldType)]
set_option maxRecDepth 65536 in
theorem codes_eq : words1.filter isCode = codes1 := rfl
theorem w_codes : ∀ c ∈ words1.filter isCode, c.before args0 about1 = true := by
  rw [codes_eq]
  intro c hc
  simp only [codes1, List.mem_cons, List.not_mem_nil, or_false] at hc
  rcases hc with rfl | rfl | rfl | rfl | rfl | rfl
  · exact w_c0
  · exact w_c1
  · exact w_c2
  · exact w_c3
  · exact w_c4
  · exact w_c5
set_option maxRecDepth 65536 in
theorem w_t1 : (words1.take 24).all (fun c => isCode c || c.before args0 about1) = true := by decide +kernel
set_option maxRecDepth 65536 in
theorem w_t2 : (words1.drop 24).all (fun c => isCode c || c.before args0 about1) = true := by decide +kernel
theorem w_tables : (allAtoms (Jvm.Cond.code x code maxLocals ret :: tables_1)).before args0 about1 = true := by
  rw [allAtoms_all]
  show words1.all (fun c => c.before args0 about1) = true
  refine all_split ?_ w_codes
  rw [← List.take_append_drop 24 words1, List.all_append, w_t1, w_t2]
  rfl
set_option maxRecDepth 65536 in
theorem w_case : (Jvm.Cond.and given_1 narrow_1).before args0 about1 = true := by decide +kernel
theorem w_applies : (headSpec (Jvm.Cond.code x code maxLocals ret :: tables_1) room_1).applies x e0.platform about1 = true :=
  (Spec.applies_iff w_frames).mpr ⟨w_running, w_runnable, w_alone, w_named, w_hears, w_ripe, w_room, w_tables⟩
theorem atStart : AtStart classFile x code maxLocals ret World_1 tables_1 room_1 Calls_1 rest_1 Pre_1 launch0 p0 e0 about1 theMethod args0 below0 :=
  ⟨lists_1, trivial, launch0.admits_env _ _ _, launch0.least_env, fairChoices_fair.cas, fairChoices_fair.clock, w_frames, w_args, w_heap, w_applies, trivial, trivial, w_case⟩
end start1
theorem witness_1 : WitnessClaimed_1 := ⟨start1.p0, start1.e0, start1.about1, start1.theMethod, start1.args0, start1.below0, start1.atStart⟩
end Jvm.Pilot.@@N@@
