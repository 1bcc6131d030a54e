import JvmDerived
import JvmDerived.Pilot.@@N@@Statement
import JvmDerived.Pilot.@@N@@Code
set_option linter.unusedVariables false
set_option linter.unusedSimpArgs false
namespace Jvm.OwnKit
open Jvm Sem ClassFile Op Lib Jvm.Stand Jvm.Free Jvm.LawKit Jvm.RoadKit
section K
variable {p : Program} {l : Launch} {e : Env} {R : Room} {s : State} {m : MethodId} {args : Array Value} {below : List Frame} {meth : Method} {c : Code} {T T' : State} {locs : List Loc} {cells slots : Nat} {Z : State} {a0 : Array Value} {h h0 : Heap} {ce sl : Nat} {Q : Option Value → Heap → List Loc → Prop} {P : Option Value → State → List Loc → Prop} {pc : Nat} {Ls : Array Slot} {rest : List Value}
/-- from this state and frame the body runs to its end, and Q holds there -/
def Go (p : Program) (e : Env) (below : List Frame) (P : Option Value → State → List Loc → Prop) (T : State) (g : JFrame) : Prop :=
  ∃ u v L, Steps p.tables e below (T.setTop g) u ∧ u.status = .running ∧ Ended u below (.returned v) ∧ P v u L
/-- the end of a body that interns nothing -/
def EndF (s : State) (ce sl : Nat) (Q : Option Value → Heap → List Loc → Prop) (v : Option Value) (u : State) (L : List Loc) : Prop := Q v u.heap L ∧ FrameEnd s (.returned v) u L ce sl
theorem Go.by {g g' : JFrame} (st : ∀ t, Steps p.tables e below (T'.setTop g') t → Steps p.tables e below (T.setTop g) t) (k : Go p e below P T' g') : Go p e below P T g := by
  obtain ⟨u, v, L, h1, r⟩ := k; exact ⟨u, v, L, st u h1, r⟩
theorem Go.st {g g' : JFrame} (st : ∀ t, Steps p.tables e below (T.setTop g') t → Steps p.tables e below (T.setTop g) t) (k : Go p e below P T g') : Go p e below P T g := Go.by st k
theorem Go.cast {g g' : JFrame} (q : g = g') (k : Go p e below P T g') : Go p e below P T g := q ▸ k
/-- a body's contract at given arguments and a given heap -/
def Ct (l : Launch) (y : MethodName) (bytes : ByteArray) (maxL : Nat) (ret : Option FieldType) (rm : Room) (Z : State) (as' : Array Value) (h0 : Heap) (Q : Option Value → Heap → List Loc → Prop) : Prop :=
  ∀ ws : List Jvm.Cond, MetFree l y (head1 (Jvm.Cond.code y bytes maxL ret :: ws) rm) (fun a U => a = as' ∧ Z.Warmed39 U.vm ∧ U.heap = h0) (fun _ _ _ _ _ => True) (fun _ U o U' => ∃ v L, o = .returned v ∧ Q v U'.heap L ∧ FrameEnd U o U' L rm.cells rm.slots)
theorem Ct.of {y : MethodName} {bytes : ByteArray} {maxL : Nat} {ret : Option FieldType} {rm : Room} {as' : Array Value} (hpl : plainFor y = true)
    (body : ∀ (p : Program) (e : Env) (s : State) (m : MethodId) (below : List Frame) (meth : Method) (c : Code) (T : State), Stand p l e rm s m as' below meth c T [] 0 0 → p.tables.exec = Jvm.exec → c.code = bytes → c.maxLocals = maxL → s.vm.findClass y.cls = some m.cls → meth.name = y.name → meth.sig.returnType = ret → meth.locks = false → Z.Warmed39 s.vm → T.heap = h0 →
      Go p e below (EndF s rm.cells rm.slots Q) T (entryFrame m as' maxL)) : Ct l y bytes maxL ret rm Z as' h0 Q := by
  intro ws
  refine MetFree.of_bodySF hpl hisR ?_
  intro p e s m args below meth c s₁ Bd hml0 hP hK
  obtain ⟨rfl, hZ, hh⟩ := hP
  obtain ⟨u, v, L, h1, h2, h3, r⟩ := body p e s m below meth c s₁ (Stand.of_body Bd) Bd.exec Bd.bytes hml0 (findClass_of_methodNamed Bd.named) (name_of_methodNamed Bd.named Bd.method).1 Bd.returns (BodyLoose.notSynchronized Bd) hZ (by rw [← hh, Bd.state]; rfl)
  exact ⟨u, _, h1, h2, h3, v, L, rfl, r.1, r.2⟩
theorem wd {ws : List Jvm.Cond} (hw : ∀ d ∈ ws, d.before a0 Z = true) {d : Jvm.Cond} (i : Nat) (q : ws[i]? = some d) : d.before a0 Z = true := hw _ (List.mem_of_getElem? q)
theorem Go.fin (X : Stand p l e R s m args below meth c T locs cells slots) (hlk : meth.locks = false) {v : Option Value} (hv : meth.sig.returnType = none → v = none) {g : JFrame}
    (st : ∀ fs, (∀ (f : JFrame) (acts : List Action), f.method = m → f.locked = none → f.entered = [] → (doReturn e (T.setTop f) acts v).1 = T.setFrames fs) → Steps p.tables e below (T.setTop g) (T.setFrames fs)) (hc : cells ≤ ce) (hs : slots ≤ sl) (eT : T.heap = h) (q : Q v h locs) : Go p e below (EndF s ce sl Q) T g := by
  obtain ⟨fs, hr, hrun, hended, hW, hsame⟩ := X.leave (v := v) hv hlk
  subst eT
  exact ⟨_, _, _, st fs hr, hrun, hended, q, ⟨_, rfl⟩, hW, hsame.mono hc hs⟩
theorem Go.retI (X : Stand p l e R s m args below meth c T locs cells slots) (hx : p.tables.exec = Jvm.exec) (hlk : meth.locks = false) (hret : meth.sig.returnType = some .int) {z : Int32} (hd : decode c.code pc = .ok (.ireturn, 1)) (hc : cells ≤ ce) (hs : slots ≤ sl) (eT : T.heap = h) (q : Q (some (.int z)) h locs) : Go p e below (EndF s ce sl Q) T (mkF m pc Ls (.int z :: rest)) :=
  Go.fin X hlk (fun h => by rw [hret] at h; cases h) (fun fs hl => retOut X hx hret rfl (Or.inl ⟨rfl, Or.inl rfl, z, rfl⟩) hd hl) hc hs eT q
theorem Go.retZ (X : Stand p l e R s m args below meth c T locs cells slots) (hx : p.tables.exec = Jvm.exec) (hlk : meth.locks = false) (hret : meth.sig.returnType = some .boolean) {z : Int32} (hz : z = 0 ∨ z = 1) (hd : decode c.code pc = .ok (.ireturn, 1)) (hc : cells ≤ ce) (hs : slots ≤ sl) (eT : T.heap = h) (q : Q (some (.int z)) h locs) : Go p e below (EndF s ce sl Q) T (mkF m pc Ls (.int z :: rest)) :=
  Go.fin X hlk (fun h => by rw [hret] at h; cases h) (fun fs hl => retOut X hx hret (by rcases hz with rfl | rfl <;> rfl) (Or.inl ⟨rfl, Or.inr (Or.inl rfl), z, rfl⟩) hd hl) hc hs eT q
theorem Go.retS (X : Stand p l e R s m args below meth c T locs cells slots) (hx : p.tables.exec = Jvm.exec) (hlk : meth.locks = false) {t : FieldType} (hret : meth.sig.returnType = some t) (ht : t = .byte ∨ t = .char ∨ t = .short) {z : Int32} (hz : narrow t (.int z) = .int z) (hd : decode c.code pc = .ok (.ireturn, 1)) (hc : cells ≤ ce) (hs : slots ≤ sl) (eT : T.heap = h) (q : Q (some (.int z)) h locs) : Go p e below (EndF s ce sl Q) T (mkF m pc Ls (.int z :: rest)) :=
  Go.fin X hlk (fun h => by rw [hret] at h; cases h) (fun fs hl => retOut X hx hret hz (Or.inl ⟨rfl, Or.inr (Or.inr ht), z, rfl⟩) hd hl) hc hs eT q
theorem Go.retA (X : Stand p l e R s m args below meth c T locs cells slots) (hx : p.tables.exec = Jvm.exec) (hlk : meth.locks = false) {t : FieldType} (hret : meth.sig.returnType = some t) (ht : t.isReference = true) {v : Value} (hv : v.isRef = true) (hd : decode c.code pc = .ok (.areturn, 1)) (hc : cells ≤ ce) (hs : slots ≤ sl) (eT : T.heap = h) (q : Q (some v) h locs) : Go p e below (EndF s ce sl Q) T (mkF m pc Ls (v :: rest)) :=
  Go.fin X hlk (fun h => by rw [hret] at h; cases h) (fun fs hl => retOut X hx hret (by cases t <;> simp_all [FieldType.isReference, narrow]) (Or.inr (Or.inr (Or.inr (Or.inr ⟨rfl, ht, hv⟩)))) hd hl) hc hs eT q
theorem Go.retV (X : Stand p l e R s m args below meth c T locs cells slots) (hx : p.tables.exec = Jvm.exec) (hlk : meth.locks = false) (hret : meth.sig.returnType = none) (hd : decode c.code pc = .ok (.return_, 1)) (hc : cells ≤ ce) (hs : slots ≤ sl) (eT : T.heap = h) (q : Q none h locs) : Go p e below (EndF s ce sl Q) T (mkF m pc Ls []) :=
  Go.fin X hlk (fun _ => rfl) (fun fs hl => X.returnOut hx hret hd hl) hc hs eT q
/-! one law a step that reads the tables or the heap -/
theorem Go.getF (X : Stand p l e R s m args below meth c T locs cells slots) (hx : p.tables.exec = Jvm.exec) (hZ : Z.Warmed39 s.vm) {own R0 O n d : String} {index : Nat} (hown : s.vm.findClass own = some m.cls) (w : (Jvm.Cond.fieldLink own index R0 n d).before a0 Z = true) (via : Via Z R0 O n d) (eT : T.heap = h) {a : Addr} {v : Value} (F : Fld Z h a O n d v)
    (hd : decode c.code pc = .ok (.getfield index, 3)) (k : ∀ T', Stand p l e R s m args below meth c T' locs cells slots → T'.heap = h → Go p e below P T' (mkF m (pc + 3) Ls (v :: rest))) : Go p e below P T (mkF m pc Ls (.ref a :: rest)) := by
  obtain ⟨T', X', e', st⟩ := RoadKit.getF X hx hZ hown (host := "") (Or.inl w) via eT F (g := mkF m pc Ls (.ref a :: rest)) rfl rfl hd
  exact Go.by st (k T' X' e')
theorem Go.putF (X : Stand p l e R s m args below meth c T locs cells slots) (hx : p.tables.exec = Jvm.exec) (hZ : Z.Warmed39 s.vm) {own R0 O n d C : String} {index kk : Nat} {ty : FieldType} (hown : s.vm.findClass own = some m.cls) (w : (Jvm.Cond.fieldLink own index R0 n d).before a0 Z = true) (via : Via Z R0 O n d) (eT : T.heap = h) {a : Addr} {v old : Value} (F : Fld Z h a O n d old) (E : Exa Z h a C)
    (L : (Jvm.Cond.lays C O n d).before a0 Z = true ∨ ((Jvm.Cond.laysFinal C O n d).before a0 Z = true ∧ own = O ∧ meth.name = "<init>")) (wi : (Jvm.Cond.instantiable C kk).before a0 Z = true) (hty : parseFieldDescriptor d = some ty) (hn : narrow ty v = v) (hf : fits ty v = true) (hd : decode c.code pc = .ok (.putfield index, 3))
    (k : ∀ T' h', Stand p l e R s m args below meth c T' (locs ++ [⟨a, RoadKit.slotOf Z O n d⟩]) cells slots → T'.heap = h' → Wr h h' a (RoadKit.slotOf Z O n d) v → Go p e below P T' (mkF m (pc + 3) Ls rest)) : Go p e below P T (mkF m pc Ls (v :: .ref a :: rest)) := by
  obtain ⟨T', h', X', e', W', st⟩ := RoadKit.putF X hx hZ hown (host := "") (Or.inl w) via eT F E L wi hty hn hf (g := mkF m pc Ls (v :: .ref a :: rest)) rfl rfl hd
  exact Go.by st (k T' h' X' e' W')
theorem Go.getS (X : Stand p l e R s m args below meth c T locs cells slots) (hx : p.tables.exec = Jvm.exec) (hZ : Z.Warmed39 s.vm) {own R0 O n d : String} {index : Nat} (hown : s.vm.findClass own = some m.cls) (w : (Jvm.Cond.fieldLink own index R0 n d).before a0 Z = true) (via : Via Z R0 O n d) (eT : T.heap = h) {v : Value} (F : Sta Z h O n d v) {st : List Value}
    (hd : decode c.code pc = .ok (.getstatic index, 3)) (k : ∀ T', Stand p l e R s m args below meth c T' locs cells slots → T'.heap = h → Go p e below P T' (mkF m (pc + 3) Ls (v :: st))) : Go p e below P T (mkF m pc Ls st) := by
  obtain ⟨T', X', e', st'⟩ := RoadKit.getS X hx hZ hown (host := "") w via eT F (g := mkF m pc Ls st) rfl hd
  exact Go.by st' (k T' X' e')
theorem Go.newO (X : Stand p l e R s m args below meth c T locs cells slots) (hx : p.tables.exec = Jvm.exec) (hZ : Z.Warmed39 s.vm) {own C : String} {index n : Nat} (hown : s.vm.findClass own = some m.cls) (w : (Jvm.Cond.classLink own index C).before a0 Z = true) (wi : (Jvm.Cond.instantiable C n).before a0 Z = true) (wz : (Jvm.Cond.initialized C).before a0 Z = true) (eT : T.heap = h) {st : List Value}
    (hd : decode c.code pc = .ok (.new index, 3)) (hc : cells + 1 ≤ R.cells) (hl : slots + n ≤ R.slots)
    (k : ∀ T' h' b, Stand p l e R s m args below meth c T' locs (cells + 1) (slots + n) → T'.heap = h' → Ext h h' → b = h.size → Exa Z h' b C → (∀ {O nm d : String} {ty : FieldType}, Laid Z a0 C O nm d → parseFieldDescriptor d = some ty → Fld Z h' b O nm d (defaultValue ty)) → Go p e below P T' (mkF m (pc + 3) Ls (.ref b :: st))) : Go p e below P T (mkF m pc Ls st) := by
  obtain ⟨T', h', X', e', E', A', D', -, st'⟩ := RoadKit.newO X hx hZ hown w wi wz eT (g := mkF m pc Ls st) rfl hd hc hl
  exact Go.by st' (k T' h' _ X' e' E' rfl A' D')
theorem Go.newP (X : Stand p l e R s m args below meth c T locs cells slots) (hx : p.tables.exec = Jvm.exec) (hZ : Z.Warmed39 s.vm) {aty : ArrayType} (w : (Jvm.Cond.arrayClass (newarray.typeOf aty)).before a0 Z = true) (eT : T.heap = h) {n : Int32} (hd : decode c.code pc = .ok (.newarray aty, 2)) (hn : ¬ n < 0) {cap : Nat} (hcap : n.toNatClampNeg ≤ cap) (hb : cap * 8 ≤ 536870912) (hc : cells + 1 ≤ R.cells) (hl : slots + cap ≤ R.slots)
    (k : ∀ T' h' b kA, Stand p l e R s m args below meth c T' locs (cells + 1) (slots + cap) → T'.heap = h' → Ext h h' → b = h.size → Arv Z h' b kA (newarray.typeOf aty) n [] (defaultValue (newarray.typeOf aty)) → Go p e below P T' (mkF m (pc + 2) Ls (.ref b :: rest))) : Go p e below P T (mkF m pc Ls (.int n :: rest)) := by
  obtain ⟨T', h', kA, X', e', E', A', st'⟩ := RoadKit.newP X hx hZ w eT (g := mkF m pc Ls (.int n :: rest)) rfl hd rfl hn hcap hb hc hl
  exact Go.by st' (k T' h' _ kA X' e' E' rfl (Arv.new A' hn))
theorem Go.initO (X : Stand p l e R s m args below meth c T locs cells slots) (hx : p.tables.exec = Jvm.exec) (hZ : Z.Warmed39 s.vm) {own : String} {idx : Nat} (hown : s.vm.findClass own = some m.cls) (w1 : (Jvm.Cond.methodLink own idx Lib.objectInit).before a0 Z = true) (w2 : (Jvm.Cond.instanceMethod Lib.objectInit).before a0 Z = true) (w3 : (Jvm.Cond.code Lib.objectInit ⟨#[0xb1]⟩ 1 none).before a0 Z = true) (eT : T.heap = h)
    {a : Addr} (hsz : Ls.size = c.maxLocals) (hd : decode c.code pc = .ok (.invokespecial idx, 3)) (hf : 1 ≤ R.frames) {W : Nat} (hW : (rest.map fun v => v.category).sum = W) (hl : W + 12 ≤ R.locals)
    (k : ∀ T', Stand p l e R s m args below meth c T' locs cells slots → T'.heap = h → Go p e below P T' (mkF m (pc + 3) Ls rest)) : Go p e below P T (mkF m pc Ls (.ref a :: rest)) := by
  obtain ⟨T', X', e', st⟩ := RoadKit.initO X hx hZ hown w1 w2 w3 eT (g := mkF m pc Ls (.ref a :: rest)) rfl hsz rfl hd hf (W := W) (by subst hW; show 2 * 0 + _ ≤ _; omega) hl
  exact Go.by st (k T' X' e')
theorem Go.aload (X : Stand p l e R s m args below meth c T locs cells slots) (hx : p.tables.exec = Jvm.exec) (hZ : Z.Warmed39 s.vm) (eT : T.heap = h) {a : Addr} {cl : Cell} {ty : FieldType} (A : Arr Z h a cl ty) {j : Int32} {v : Value} (hin : ¬ (j < 0 ∨ cl.slots.size ≤ j.toNatClampNeg)) (hat : cl.slots[j.toNatClampNeg]? = some v) {i : Instr}
    (hi : (i = .iaload ∧ ty = .int) ∨ (i = .laload ∧ ty = .long) ∨ (i = .aaload ∧ ty.isReference = true) ∨ (i = .caload ∧ ty = .char) ∨ (i = .saload ∧ ty = .short) ∨ (i = .baload ∧ ty = .byte)) (hd : decode c.code pc = .ok (i, 1)) (k : Go p e below P T (mkF m (pc + 1) Ls (v :: rest))) : Go p e below P T (mkF m pc Ls (.int j :: .ref a :: rest)) := by
  refine Go.by (fun t kk => ?_) k
  have hc : T.heap[a]? = some cl := by rw [eT]; exact A.1
  have ha := State.isArrayOf_alike hZ.alike A.2.1
  rcases hi with ⟨rfl, rfl⟩ | ⟨rfl, rfl⟩ | ⟨rfl, hr⟩ | ⟨rfl, rfl⟩ | ⟨rfl, rfl⟩ | ⟨rfl, rfl⟩
  · exact X.iaload hx hc ha A.2.2 hin hat (g := mkF m pc Ls (.int j :: .ref a :: rest)) rfl rfl hd _ kk
  · exact X.laload hx hc ha A.2.2 hin hat (g := mkF m pc Ls (.int j :: .ref a :: rest)) rfl rfl hd _ kk
  · exact X.aaload hx hc ha hr A.2.2 hin hat (g := mkF m pc Ls (.int j :: .ref a :: rest)) rfl rfl hd _ kk
  · exact X.caload hx hc ha A.2.2 hin hat (g := mkF m pc Ls (.int j :: .ref a :: rest)) rfl rfl hd _ kk
  · exact X.saload hx hc ha A.2.2 hin hat (g := mkF m pc Ls (.int j :: .ref a :: rest)) rfl rfl hd _ kk
  · exact X.baloadBytes hx hc ha A.2.2 hin hat (g := mkF m pc Ls (.int j :: .ref a :: rest)) rfl rfl hd _ kk
theorem Go.alen (X : Stand p l e R s m args below meth c T locs cells slots) (hx : p.tables.exec = Jvm.exec) (hZ : Z.Warmed39 s.vm) (eT : T.heap = h) {a : Addr} {cl : Cell} {ty : FieldType} (A : Arr Z h a cl ty) {z : Int32} (hz : cl.slots.size.toInt32 = z) (hd : decode c.code pc = .ok (.arraylength, 1)) (k : Go p e below P T (mkF m (pc + 1) Ls (.int z :: rest))) : Go p e below P T (mkF m pc Ls (.ref a :: rest)) := by
  refine Go.by (fun t kk => ?_) k
  subst hz
  exact X.arraylength hx (by rw [eT]; exact A.1) (State.isArrayOf_alike hZ.alike A.2.1) (g := mkF m pc Ls (.ref a :: rest)) rfl rfl hd _ kk
theorem Go.alenV (X : Stand p l e R s m args below meth c T locs cells slots) (hx : p.tables.exec = Jvm.exec) (hZ : Z.Warmed39 s.vm) (eT : T.heap = h) {a : Addr} {k : ClassId} {ty : FieldType} {z : Int32} {vs : List Value} {dv : Value} (F : Arv Z h a k ty z vs dv) (hd : decode c.code pc = .ok (.arraylength, 1)) (kk : Go p e below P T (mkF m (pc + 1) Ls (.int z :: rest))) : Go p e below P T (mkF m pc Ls (.ref a :: rest)) := by
  obtain ⟨cl, A, -, S, q, -, -⟩ := F; exact Go.alen X hx hZ eT A (len_of S q) hd kk
theorem Go.aloadV (X : Stand p l e R s m args below meth c T locs cells slots) (hx : p.tables.exec = Jvm.exec) (hZ : Z.Warmed39 s.vm) (eT : T.heap = h) {a : Addr} {k : ClassId} {ty : FieldType} {z : Int32} {vs : List Value} {dv : Value} (F : Arv Z h a k ty z vs dv) {j : Int32} {v : Value} (hj : ¬ j < 0 ∧ j < z) (hv : vs.getD j.toNatClampNeg dv = v) {i : Instr}
    (hi : (i = .iaload ∧ ty = .int) ∨ (i = .laload ∧ ty = .long) ∨ (i = .aaload ∧ ty.isReference = true) ∨ (i = .caload ∧ ty = .char) ∨ (i = .saload ∧ ty = .short) ∨ (i = .baload ∧ ty = .byte)) (hd : decode c.code pc = .ok (i, 1)) (kk : Go p e below P T (mkF m (pc + 1) Ls (v :: rest))) : Go p e below P T (mkF m pc Ls (.int j :: .ref a :: rest)) := by
  obtain ⟨cl, A, -, S, q, H, -⟩ := F
  have hin := inb_of S hj
  exact Go.aload X hx hZ eT A hin (H.at hin hv) hi hd kk
theorem Go.nstV (X : Stand p l e R s m args below meth c T locs cells slots) (hx : p.tables.exec = Jvm.exec) (hZ : Z.Warmed39 s.vm) (eT : T.heap = h) {a : Addr} {k : ClassId} {z : Int32} {vs : List Value} {dv : Value} {ty : FieldType} (F : Arv Z h a k ty z vs dv) {j x : Int32} (hj : ¬ j < 0 ∧ j < z) (i : Nat) (hji : j.toNatClampNeg = i) (hi : i < vs.length) {ins : Instr} (hii : (ins = .castore ∧ ty = .char) ∨ (ins = .bastore ∧ ty = .byte)) (hd : decode c.code pc = .ok (ins, 1))
    (kk : ∀ T' h', Stand p l e R s m args below meth c T' (locs ++ [⟨a, j.toNatClampNeg⟩]) cells slots → T'.heap = h' → Wr h h' a j.toNatClampNeg (.int (nar ty x)) → Arv Z h' a k ty z (vs.set i (.int (nar ty x))) dv → Go p e below P T' (mkF m (pc + 1) Ls rest)) : Go p e below P T (mkF m pc Ls (.int x :: .int j :: .ref a :: rest)) := by
  obtain ⟨cl, A, q1, S, q3, H, G⟩ := F
  have hin := inb_of S hj
  rcases hii with ⟨rfl, rfl⟩ | ⟨rfl, rfl⟩
  · obtain ⟨T', h', X', e', W', st⟩ := stC X hx hZ eT A (j := j) (x := x) hin (g := mkF m pc Ls (.int x :: .int j :: .ref a :: rest)) rfl rfl hd
    exact Go.by st (kk T' h' X' e' W' (Arv.set A q1 S q3 H G (fits_nar_char x) W' i hji hi))
  · obtain ⟨T', h', X', e', W', st⟩ := stB X hx hZ eT A (j := j) (x := x) hin (g := mkF m pc Ls (.int x :: .int j :: .ref a :: rest)) rfl rfl hd
    exact Go.by st (kk T' h' X' e' W' (Arv.set A q1 S q3 H G (fits_nar_byte x) W' i hji hi))
/-! calls by the callee's contract -/
section Call
variable {own : String} {index : Nat} {y : MethodName} {bytes : ByteArray} {maxL : Nat} {ret : Option FieldType} {rm : Room} {argsL : List Value} {Q' : Option Value → Heap → List Loc → Prop} {st : List Value} {W : Nat}
theorem Go.callS (X : Stand p l e R s m args below meth c T locs cells slots) (hx : p.tables.exec = Jvm.exec) (hZ : Z.Warmed39 s.vm) (hown : s.vm.findClass own = some m.cls) (w1 : (Jvm.Cond.methodLink own index y).before a0 Z = true) (w2 : (Jvm.Cond.static y).before a0 Z = true) (w3 : (Jvm.Cond.initialized y.cls).before a0 Z = true) (w4 : (Jvm.Cond.code y bytes maxL ret).before a0 Z = true)
    (hy : y.cls ≠ "java/lang/invoke/MethodHandle" ∧ y.cls ≠ "java/lang/invoke/VarHandle") (ct : Ct l y bytes maxL ret rm Z argsL.toArray h Q') (eT : T.heap = h) (hsz : Ls.size = c.maxLocals) (hlen : ∀ sig, parseMethodDescriptor y.desc = some sig → argsL.length = sig.parameters.length) (hst : st = argsL.reverse ++ rest) (hW : (rest.map fun v => v.category).sum = W)
    (hd : decode c.code pc = .ok (.invokestatic index, 3)) (k : ∀ v T' h' L, Stand p l e R s m args below meth c T' (locs ++ L) (cells + rm.cells) (slots + rm.slots) → T'.heap = h' → Q' v h' L → Go p e below P T' (mkF m (pc + 3) Ls (v.toList ++ rest))) (hf : rm.frames + 1 ≤ R.frames := by decide) (hl : W + (maxL + 11) + rm.locals ≤ R.locals := by decide) (hc : cells + rm.cells ≤ R.cells := by decide) (hs : slots + rm.slots ≤ R.slots := by decide) : Go p e below P T (mkF m pc Ls st) := by
  obtain ⟨v, _, ⟨T', L, k', n'⟩, -, X', ⟨Lc, hQ, hl', hk', hn'⟩, st'⟩ := Jvm.LawKit.callS X hx (y := y) hown (mvT hZ w1) (mvT hZ w2) (mvT hZ w3) (mvT hZ w4) hy (backOf (W := W) (ct []) hZ w4 w3 hf hl) (g := mkF m pc Ls st) rfl hsz (argsL := argsL) (rest := rest) hlen hst (by subst hW; show 2 * 0 + _ ≤ _; omega) hd (fun _ _ => ⟨rfl, eT, hc, hs⟩)
  dsimp only [Pt.U, Pt.locs, Pt.cells, Pt.slots] at X' hl' hk' hn' st' hQ
  subst hl' hk' hn'
  exact Go.by st' (k v T' _ Lc X' rfl hQ)
theorem Go.callC (X : Stand p l e R s m args below meth c T locs cells slots) (hx : p.tables.exec = Jvm.exec) (hZ : Z.Warmed39 s.vm) (hown : s.vm.findClass own = some m.cls) (hy1 : y.name = "<init>") (w1 : (Jvm.Cond.methodLink own index y).before a0 Z = true) (w2 : (Jvm.Cond.instanceMethod y).before a0 Z = true) (w3 : (Jvm.Cond.initialized y.cls).before a0 Z = true) (w4 : (Jvm.Cond.code y bytes maxL none).before a0 Z = true)
    (hy : y.cls ≠ "java/lang/invoke/MethodHandle" ∧ y.cls ≠ "java/lang/invoke/VarHandle") {a : Addr} (ct : Ct l y bytes maxL none rm Z (.ref a :: argsL).toArray h Q') (eT : T.heap = h) (hsz : Ls.size = c.maxLocals) (hlen : ∀ sig, parseMethodDescriptor y.desc = some sig → argsL.length = sig.parameters.length) (hst : st = argsL.reverse ++ .ref a :: rest) (hW : (rest.map fun v => v.category).sum = W)
    (hd : decode c.code pc = .ok (.invokespecial index, 3)) (k : ∀ v T' h' L, Stand p l e R s m args below meth c T' (locs ++ L) (cells + rm.cells) (slots + rm.slots) → T'.heap = h' → Q' v h' L → Go p e below P T' (mkF m (pc + 3) Ls (v.toList ++ rest))) (hf : rm.frames + 1 ≤ R.frames := by decide) (hl : W + (maxL + 11) + rm.locals ≤ R.locals := by decide) (hc : cells + rm.cells ≤ R.cells := by decide) (hs : slots + rm.slots ≤ R.slots := by decide) : Go p e below P T (mkF m pc Ls st) := by
  obtain ⟨v, _, ⟨T', L, k', n'⟩, -, X', ⟨Lc, hQ, hl', hk', hn'⟩, st'⟩ := X.specialBack hx (y := y) hy1 hown (mvT hZ w1) (mvT hZ w2) (mvT hZ w4) hy (backOf (W := W) (ct []) hZ w4 w3 hf hl) (g := mkF m pc Ls st) rfl hsz (Steps.refl _) (a := a) (argsL := argsL) (rest := rest) hlen hst (by subst hW; show 2 * 0 + _ ≤ _; omega) hd (fun _ _ => ⟨rfl, eT, hc, hs⟩)
  dsimp only [Pt.U, Pt.locs, Pt.cells, Pt.slots] at X' hl' hk' hn' st' hQ
  subst hl' hk' hn'
  exact Go.by (fun _ kk => st'.trans kk) (k v T' _ Lc X' rfl hQ)
theorem Go.callV (X : Stand p l e R s m args below meth c T locs cells slots) (hx : p.tables.exec = Jvm.exec) (hZ : Z.Warmed39 s.vm) (hown : s.vm.findClass own = some m.cls) {C : String} {z : MethodName} (w1 : (Jvm.Cond.methodLink own index y).before a0 Z = true) (w2 : (Jvm.Cond.declares y).before a0 Z = true) (nf : NotFace s y) (w5 : (Jvm.Cond.selects C y z).before a0 Z = true) (w6 : (Jvm.Cond.instanceMethod z).before a0 Z = true) (w3 : (Jvm.Cond.initialized z.cls).before a0 Z = true) (w4 : (Jvm.Cond.code z bytes maxL ret).before a0 Z = true)
    (hy : y.cls ≠ "java/lang/invoke/MethodHandle" ∧ y.cls ≠ "java/lang/invoke/VarHandle") {a : Addr} (E : Exa Z h a C) (ct : Ct l z bytes maxL ret rm Z (.ref a :: argsL).toArray h Q') (eT : T.heap = h) (hsz : Ls.size = c.maxLocals) (hlen : ∀ sig, parseMethodDescriptor y.desc = some sig → argsL.length = sig.parameters.length) (hst : st = argsL.reverse ++ .ref a :: rest) (hW : (rest.map fun v => v.category).sum = W)
    (hd : decode c.code pc = .ok (.invokevirtual index, 3)) (k : ∀ v T' h' L, Stand p l e R s m args below meth c T' (locs ++ L) (cells + rm.cells) (slots + rm.slots) → T'.heap = h' → Q' v h' L → Go p e below P T' (mkF m (pc + 3) Ls (v.toList ++ rest))) (hf : rm.frames + 1 ≤ R.frames := by decide) (hl : W + (maxL + 11) + rm.locals ≤ R.locals := by decide) (hc : cells + rm.cells ≤ R.cells := by decide) (hs : slots + rm.slots ≤ R.slots := by decide) : Go p e below P T (mkF m pc Ls st) := by
  obtain ⟨cq, kq, qa, qb, qc⟩ := isOf hZ eT E
  obtain ⟨v, _, ⟨T', L, k', n'⟩, -, X', ⟨Lc, hQ, hl', hk', hn'⟩, st'⟩ := X.virtualBack hx (y := y) (z := z) hown (mvT hZ w1) (mvT hZ w2) nf (mvT hZ w5) (mvT hZ w6) hy (backOf (W := W) (ct []) hZ w4 w3 hf hl) qa qc (g := mkF m pc Ls st) rfl hsz (Steps.refl _) (argsL := argsL) (rest := rest) hlen hst (by subst hW; show 2 * 0 + _ ≤ _; omega) hd (fun _ _ => ⟨rfl, eT, hc, hs⟩)
  dsimp only [Pt.U, Pt.locs, Pt.cells, Pt.slots] at X' hl' hk' hn' st' hQ
  subst hl' hk' hn'
  exact Go.by (fun _ kk => st'.trans kk) (k v T' _ Lc X' rfl hQ)
end Call
theorem eqI_v {args : Array Value} {first s : State} {o : Option Outcome} {idx : List Nat} {t : Term} {n : Int32} (h : (Jvm.Cond.eq t (.int n)).value args first o s idx = some true) : t.eval args first o idx s = some (.int n) := by
  simp only [Cond.value, Term.eval] at h
  cases ht : t.eval args first o idx s with
  | none => simp [ht] at h
  | some x => cases x <;> simp [ht] at h ⊢; exact h
theorem Old.le {n0 : Nat} (O : Old Z n0 h) : n0 ≤ h.size := O.1 ▸ O.2.1
end K
end Jvm.OwnKit
namespace Jvm.OwnKit
open Jvm Sem ClassFile Op Lib Jvm.Stand Jvm.Free Jvm.LawKit Jvm.RoadKit
section KS
variable {p : Program} {l : Launch} {e : Env} {R : Room} {s : State} {vm0 : Vm} {m : MethodId} {args : Array Value} {below : List Frame} {meth : Method} {c : Code} {T T' : State} {locs : List Loc} {cells slots : Nat} {Z : State} {a0 : Array Value} {h h0 : Heap} {ce sl k0 : Nat} {Q : Option Value → Heap → List Loc → Prop} {P : Option Value → State → List Loc → Prop} {pc : Nat} {Ls : Array Slot} {rest : List Value}
/-- the end of a body that may intern -/
def EndW (s : State) (ce sl : Nat) (Q : Option Value → Heap → List Loc → Prop) (v : Option Value) (u : State) (L : List Loc) : Prop := Q v u.heap L ∧ ReturnedEndW s (.returned v) u L ce sl
def CtW (l : Launch) (y : MethodName) (bytes : ByteArray) (maxL : Nat) (ret : Option FieldType) (rm : Room) (Z : State) (as' : Array Value) (h0 : Heap) (Q : Option Value → Heap → List Loc → Prop) : Prop :=
  ∀ ws : List Jvm.Cond, MetFree l y (head1 (Jvm.Cond.code y bytes maxL ret :: ws) rm) (fun a U => a = as' ∧ Z.Warmed39 U.vm ∧ U.heap = h0) (fun _ _ _ _ _ => True) (fun _ U o U' => ∃ v L, o = .returned v ∧ Q v U'.heap L ∧ ReturnedEndW U o U' L rm.cells rm.slots)
theorem Go.finW (X : Stand p l e R (s.setVm vm0) m args below meth c T locs cells slots) (hS : s.Since vm0 k0) (hk : k0 ≤ h.size) (hlk : meth.locks = false) {v : Option Value} (hv : meth.sig.returnType = none → v = none) {g : JFrame}
    (st : ∀ fs, (∀ (f : JFrame) (acts : List Action), f.method = m → f.locked = none → f.entered = [] → (doReturn e (T.setTop f) acts v).1 = T.setFrames fs) → Steps p.tables e below (T.setTop g) (T.setFrames fs)) (hc : cells ≤ ce) (hs : slots ≤ sl) (eT : T.heap = h) (q : Q v h locs) : Go p e below (EndW s ce sl Q) T g := by
  subst eT
  obtain ⟨fs, hr, hrun, hended, e1, e2, e3, e4⟩ := X.leaveW hS hk (v := v) hv hlk
  exact ⟨_, _, _, st fs hr, hrun, hended, q, e1, e2, e3, e4.mono hc hs⟩
theorem Go.retZW (X : Stand p l e R (s.setVm vm0) m args below meth c T locs cells slots) (hx : p.tables.exec = Jvm.exec) (hlk : meth.locks = false) (hret : meth.sig.returnType = some .boolean) {z : Int32} (hz : z = 0 ∨ z = 1) (hd : decode c.code pc = .ok (.ireturn, 1)) (hc : cells ≤ ce) (hs : slots ≤ sl) (eT : T.heap = h) (hS : s.Since vm0 k0) (hk : k0 ≤ h.size) (q : Q (some (.int z)) h locs) : Go p e below (EndW s ce sl Q) T (mkF m pc Ls (.int z :: rest)) :=
  Go.finW X hS hk hlk (fun h => by rw [hret] at h; cases h) (fun fs hl => retOut X hx hret (by rcases hz with rfl | rfl <;> rfl) (Or.inl ⟨rfl, Or.inr (Or.inl rfl), z, rfl⟩) hd hl) hc hs eT q
theorem Go.retVW (X : Stand p l e R (s.setVm vm0) m args below meth c T locs cells slots) (hx : p.tables.exec = Jvm.exec) (hlk : meth.locks = false) (hret : meth.sig.returnType = none) (hd : decode c.code pc = .ok (.return_, 1)) (hc : cells ≤ ce) (hs : slots ≤ sl) (eT : T.heap = h) (hS : s.Since vm0 k0) (hk : k0 ≤ h.size) (q : Q none h locs) : Go p e below (EndW s ce sl Q) T (mkF m pc Ls []) :=
  Go.finW X hS hk hlk (fun _ => rfl) (fun fs hl => X.returnOut hx hret hd hl) hc hs eT q
section Call
variable {own : String} {index : Nat} {y : MethodName} {bytes : ByteArray} {maxL : Nat} {ret : Option FieldType} {rm : Room} {argsL : List Value} {Q' : Option Value → Heap → List Loc → Prop} {st : List Value} {W : Nat}
end Call
end KS
end Jvm.OwnKit
namespace Jvm.OwnKit
open Jvm Sem ClassFile Op Lib Jvm.Stand Jvm.Free Jvm.LawKit Jvm.RoadKit
section KV
variable {p : Program} {l : Launch} {e : Env} {R : Room} {s : State} {vm0 : Vm} {m : MethodId} {args : Array Value} {below : List Frame} {meth : Method} {c : Code} {T T' : State} {locs : List Loc} {cells slots : Nat} {Z : State} {a0 : Array Value} {h h0 : Heap} {ce sl k0 : Nat} {Q : Option Value → Heap → List Loc → Prop} {P : Option Value → State → List Loc → Prop} {pc : Nat} {Ls : Array Slot} {rest : List Value}
/-- a contract of a body that may intern, where nothing has been interned since Z -/
def CtV (l : Launch) (y : MethodName) (bytes : ByteArray) (maxL : Nat) (ret : Option FieldType) (rm : Room) (Z : State) (as' : Array Value) (h0 : Heap) (Q : Option Value → Heap → List Loc → Prop) : Prop :=
  ∀ ws : List Jvm.Cond, MetFree l y (head1 (Jvm.Cond.code y bytes maxL ret :: ws) rm) (fun a U => a = as' ∧ Z.Warmed39 U.vm ∧ U.heap = h0 ∧ U.vm.interned = Z.vm.interned) (fun _ _ _ _ _ => True) (fun _ U o U' => ∃ v L, o = .returned v ∧ Q v U'.heap L ∧ ReturnedEndW U o U' L rm.cells rm.slots)
theorem CtV.of {y : MethodName} {bytes : ByteArray} {maxL : Nat} {ret : Option FieldType} {rm : Room} {as' : Array Value} (hpl : plainFor y = true)
    (body : ∀ (p : Program) (e : Env) (s : State) (vm0 : Vm) (m : MethodId) (below : List Frame) (meth : Method) (c : Code) (T : State), Stand p l e rm (s.setVm vm0) m as' below meth c T [] 0 0 → p.tables.exec = Jvm.exec → c.code = bytes → c.maxLocals = maxL → vm0.findClass y.cls = some m.cls → meth.name = y.name → meth.sig.returnType = ret → meth.locks = false → Z.Warmed39 vm0 → T.heap = h0 → s.Since vm0 0 → 0 ≤ h0.size → s.heap = h0 → vm0.interned = Z.vm.interned →
      Go p e below (EndW s rm.cells rm.slots Q) T (entryFrame m as' maxL)) : CtV l y bytes maxL ret rm Z as' h0 Q := by
  intro ws
  refine MetFree.of_bodySF hpl hisR ?_
  intro p e s m args below meth c s₁ Bd hml0 hP hK
  obtain ⟨rfl, hZ, hh, hI⟩ := hP
  obtain ⟨u, v, L, h1, h2, h3, r⟩ := body p e s s.vm m below meth c s₁ (Stand.of_body Bd) Bd.exec Bd.bytes hml0 (findClass_of_methodNamed Bd.named) (name_of_methodNamed Bd.named Bd.method).1 Bd.returns (BodyLoose.notSynchronized Bd) hZ (by rw [← hh, Bd.state]; rfl) ((State.WarmedH.refl s).since 0) (Nat.zero_le _) hh hI
  exact ⟨u, _, h1, h2, h3, v, L, rfl, r.1, r.2⟩
theorem backOfSV {y : MethodName} {bytes : ByteArray} {maxL : Nat} {ret : Option FieldType} {rm : Room} {len W : Nat} {as' : Array Value}
    (hM : MetFree l y (head1 [Jvm.Cond.code y bytes maxL ret] rm) (fun a U => a = as' ∧ Z.Warmed39 U.vm ∧ U.heap = h ∧ U.vm.interned = Z.vm.interned) (fun _ _ _ _ _ => True) (fun _ U o U' => ∃ v L, o = .returned v ∧ Q v U'.heap L ∧ ReturnedEndW U o U' L rm.cells rm.slots))
    (hZ : Z.Warmed39 s.vm) (hI : s.vm.interned = Z.vm.interned) (wc : (Jvm.Cond.code y bytes maxL ret).before a0 Z = true) (wz : (Jvm.Cond.initialized y.cls).before a0 Z = true) (hf : rm.frames + 1 ≤ R.frames) (hl : W + (maxL + 11) + rm.locals ≤ R.locals) :
    BackS l R p e below s args y len W (fun A a => a = as' ∧ A.U.heap = h ∧ A.cells + rm.cells ≤ R.cells ∧ A.slots + rm.slots ≤ R.slots)
      (fun A _ v B => ∃ L, Q v B.U.heap L ∧ B.locs = A.locs ++ L ∧ B.cells = A.cells + rm.cells ∧ B.slots = A.slots + rm.slots) :=
  BackS.of_freeW (bytes := bytes) (maxL := maxL) (ret := ret) (E := fun _ _ o t L k n => k = rm.cells ∧ n = rm.slots ∧ ∃ v, o = .returned v ∧ Q v t.heap L) hM hf hl
    (fun m meth c A a Y hp => have hU : Z.Warmed39 A.U.vm := wtrans hZ Y.warmed
      ⟨by show (Jvm.Cond.and _ .tt).before a A.U = true; rw [Cond.before_and, mv hU wc]; rfl, mv hU wc, mv hU wz, hp.2.2.1, hp.2.2.2⟩)
    (fun m meth c A a g mk Y hp => ⟨hp.1, wtrans hZ Y.warmed, hp.2.1, Y.warmed.interned_eq.trans hI⟩) (fun _ _ _ _ _ _ _ _ _ => trivial)
    (fun _ _ _ _ ⟨v, L, h1, h2, h3⟩ => ⟨L, _, _, h3, rfl, rfl, v, h1, h2⟩)
    (fun m meth c A a g mk v t L k n Y hp _ _ ⟨e1, e2, v', e3, e4⟩ => by cases e3; subst e1 e2; exact ⟨L, e4, rfl, rfl, rfl⟩)
theorem Go.callCV (X : Stand p l e R (s.setVm vm0) m args below meth c T locs cells slots) (hx : p.tables.exec = Jvm.exec) (hZ : Z.Warmed39 vm0) {own : String} {index : Nat} {y : MethodName} {bytes : ByteArray} {maxL : Nat} {rm : Room} {argsL : List Value} {Q' : Option Value → Heap → List Loc → Prop} {st : List Value} {W : Nat} (hown : vm0.findClass own = some m.cls) (hy1 : y.name = "<init>") (w1 : (Jvm.Cond.methodLink own index y).before a0 Z = true) (w2 : (Jvm.Cond.instanceMethod y).before a0 Z = true) (w3 : (Jvm.Cond.initialized y.cls).before a0 Z = true) (w4 : (Jvm.Cond.code y bytes maxL none).before a0 Z = true)
    (hy : y.cls ≠ "java/lang/invoke/MethodHandle" ∧ y.cls ≠ "java/lang/invoke/VarHandle") {a : Addr} (ct : CtV l y bytes maxL none rm Z (.ref a :: argsL).toArray h Q') (eT : T.heap = h) (hS : s.Since vm0 k0) (hk : k0 ≤ h.size) (hI : vm0.interned = Z.vm.interned) (hsz : Ls.size = c.maxLocals) (hlen : ∀ sig, parseMethodDescriptor y.desc = some sig → argsL.length = sig.parameters.length) (hst : st = argsL.reverse ++ .ref a :: rest) (hW : (rest.map fun v => v.category).sum = W)
    (hd : decode c.code pc = .ok (.invokespecial index, 3)) (k : ∀ v T' h' L vm1 k1, Stand p l e R (s.setVm vm1) m args below meth c T' (locs ++ L) (cells + rm.cells) (slots + rm.slots) → T'.heap = h' → Q' v h' L → s.Since vm1 k1 → k1 ≤ h'.size → Z.Warmed39 vm1 → vm1.findClass own = some m.cls → Go p e below P T' (mkF m (pc + 3) Ls (v.toList ++ rest))) (hf : rm.frames + 1 ≤ R.frames := by decide) (hl : W + (maxL + 11) + rm.locals ≤ R.locals := by decide) (hc : cells + rm.cells ≤ R.cells := by decide) (hs : slots + rm.slots ≤ R.slots := by decide) : Go p e below P T (mkF m pc Ls st) := by
  have hZ' : Z.Warmed39 (s.setVm vm0).vm := hZ
  have hown' : (s.setVm vm0).vm.findClass own = some m.cls := hown
  obtain ⟨v, _, ⟨T', L, k', n'⟩, -, X', hS', hge, ⟨Lc, hQ, hl', hk', hn'⟩, st'⟩ := X.specialBackS hx (y := y) hy1 hown' (mvT hZ' w1) (mvT hZ' w2) (mvT hZ' w4) hy (backOfSV (W := W) (ct []) hZ' hI w4 w3 hf hl) (g := mkF m pc Ls st) rfl hsz (Steps.refl _) (a := a) (argsL := argsL) (rest := rest) hlen hst (by subst hW; show 2 * 0 + _ ≤ _; omega) hd (fun _ _ => ⟨rfl, eT, hc, hs⟩)
  dsimp only [Pt.U, Pt.locs, Pt.cells, Pt.slots] at X' hl' hk' hn' st' hQ hS' hge
  subst hl' hk' hn'
  refine Go.by (fun _ kk => st'.trans kk) (k v T' _ Lc T'.vm T'.heap.size X' rfl hQ (hS.trans hS' (Nat.le_trans hk (eT ▸ hge))) (Nat.le_refl _) (State.Warmed39.trans hZ' hS'.1) ?_)
  rw [hS'.1.alike.findClass]; exact hown
/-- the empty literal, whose object is read afterwards -/
theorem Go.ldcE (X : Stand p l e R (s.setVm vm0) m args below meth c T [] cells slots) (hx : p.tables.exec = Jvm.exec) (hZ : Z.Warmed39 vm0) {own : String} {index : Nat} (hown : vm0.findClass own = some m.cls) (w : (Jvm.Cond.stringLink own index "").before a0 Z = true) (wS : ∀ a ∈ Bundle.stringAtoms, a.before a0 Z = true) (eT : T.heap = h) (hS : s.Since vm0 k0) (hk : k0 ≤ h.size)
    (hkeep : ∀ (b : Addr) (cl : Cell), Z.heap[b]? = some cl → s.heap[b]? = some cl) (hI : vm0.interned = Z.vm.interned) (hh : Jvm.Lit.constHeld Z own index) (hcw : Jvm.Lit.compactW.before a0 Z = true) {st : List Value} (hd : decode c.code pc = .ok (.ldc index, 2)) (hc : cells + 2 ≤ R.cells) (hl : slots + (0 + 4) ≤ R.slots)
    (k : ∀ a T' h' vm1 k1 b kb, Stand p l e R (s.setVm vm1) m args below meth c T' [] (cells + 2) (slots + (0 + 4)) → T'.heap = h' → Ext h h' → s.Since vm1 k1 → k1 ≤ h'.size → Z.Warmed39 vm1 → vm1.findClass own = some m.cls → Exa Z h' a "java/lang/String" → Fld Z h' a "java/lang/String" "coder" "B" (.int 0) → Fld Z h' a "java/lang/String" "value" "[B" (.ref b) → Arv Z h' b kb .byte 0 [] (.int 0) → Lit (s.setVm vm1) own index a → Go p e below P T' (mkF m (pc + 2) Ls (.ref a :: st))) : Go p e below P T (mkF m pc Ls st) := by
  obtain ⟨a, T', h', k1, b, kb, X', e', E', hS', hk', hZ', hown', r1, r2, r3, r4, -, -, -, r5, st'⟩ := ldcSVL (Ts := []) (vs := []) (z := 0) X hx hZ hown w wS eT hS hk (Fr.nil _) hkeep ⟨#[], by simp [hI], fun q hq => by simp at hq⟩ (by simp) hh hcw ⟨by simp, by simp⟩ (by decide) rfl (g := mkF m pc Ls st) rfl hd (n := 0) (by simp) (by decide) hc hl
  exact Go.by st' (k a T' h' T'.vm k1 b kb X' e' E' hS' hk' hZ' hown' r1 r2 r3 r4 r5)
theorem Go.ldcAg (X : Stand p l e R (s.setVm vm0) m args below meth c T locs cells slots) (hx : p.tables.exec = Jvm.exec) (hZ : Z.Warmed39 vm0) {own text : String} {index : Nat} (hown : vm0.findClass own = some m.cls) (w : (Jvm.Cond.stringLink own index text).before a0 Z = true) {a : Addr} (L : Lit (s.setVm vm0) own index a) {st : List Value} (hd : decode c.code pc = .ok (.ldc index, 2))
    (k : Go p e below P T (mkF m (pc + 2) Ls (.ref a :: st))) : Go p e below P T (mkF m pc Ls st) :=
  Go.by (ldcAgain X hx hZ hown w L (g := mkF m pc Ls st) rfl hd) k
end KV
end Jvm.OwnKit
namespace Jvm.Pilot.@@N@@
open Jvm Jvm.ClassFile Sem Op Lib Jvm.Free Jvm.Stand Jvm.LawKit Jvm.RoadKit Jvm.OwnKit Bundle Jvm.Pilot.@@N@@.Jvm.D
set_option maxRecDepth 65536
set_option maxHeartbeats 40000000
def Gl (Z : State) (zc : Int32) (fm : Value) : Prop := (Sta Z Z.heap "java/lang/String" "COMPACT_STRINGS" "Z" (.int zc)) ∧ (¬ zc = (0 : Int32)) ∧ (Sta Z Z.heap "jdk/internal/util/Preconditions" "SIOOBE_FORMATTER" "Ljava/util/function/BiFunction;" fm) ∧ (fm.isRef = true) ∧ (Sta Z Z.heap "java/lang/StringUTF16" "$assertionsDisabled" "Z" (.int 1)) ∧ (Sta Z Z.heap "java/lang/StringUTF16" "HI_BYTE_SHIFT" "I" (.int 0)) ∧ (Sta Z Z.heap "java/lang/StringUTF16" "LO_BYTE_SHIFT" "I" (.int 8))
theorem own_wS {Z : State} {a0 : Array Value} (hw : ∀ d ∈ tables_1, d.before a0 Z = true) : ∀ a ∈ Bundle.stringAtoms, a.before a0 Z = true := fun a ha => hw a ((by decide +kernel : ∀ w ∈ Bundle.stringAtoms, w ∈ tables_1) a ha)
theorem ne_arv_exa {Z : State} {h : Heap} {a : Addr} {k : ClassId} {ty : FieldType} {z : Int32} {vs : List Value} {dv : Value} {C : String} {n : Nat} {a0 : Array Value} (F : Arv Z h a k ty z vs dv) (E : Exa Z h a C) (w : (Jvm.Cond.instantiable C n).before a0 Z = true) : False := by
  obtain ⟨c, A, -⟩ := F; exact ne_arr E w A rfl
def hiB (c : Int32) : Bool := !decide (c < (55296 : Int32)) && decide (c < (56320 : Int32))
def loB (c : Int32) : Bool := !decide (c < (56320 : Int32)) && decide (c < (57344 : Int32))
def goodF (c : Int32) (hp : Bool) (p : Int32) (hn : Bool) (n : Int32) : Int32 := if c = 0 then 0 else if hiB c = true then (if hn = true then (if loB n = true then 1 else 0) else 0) else if loB c = true then (if hp = true then (if hiB p = true then 1 else 0) else 0) else 1
def stor : List Int32 → Int32
  | [] => 1
  | [c] => if c = 0 then 0 else if hiB c = true then 0 else if loB c = true then 0 else 1
  | c :: d :: r => if c = 0 then 0 else if hiB c = true then (if loB d = true then stor r else 0) else if loB c = true then 0 else stor (d :: r)
theorem own_ihs_lt {c : Int32} (h : c < (55296 : Int32)) : (if hiB c = true then (1 : Int32) else 0) = 0 := by simp [hiB, h]
theorem own_ihs_y {c : Int32} (h : ¬ c < (55296 : Int32)) (h2 : c < (56320 : Int32)) : (if hiB c = true then (1 : Int32) else 0) = 1 := by simp [hiB, h, h2]
theorem own_ihs_n {c : Int32} (h : ¬ c < (55296 : Int32)) (h2 : ¬ c < (56320 : Int32)) : (if hiB c = true then (1 : Int32) else 0) = 0 := by simp [hiB, h, h2]
theorem own_ils_lt {c : Int32} (h : c < (56320 : Int32)) : (if loB c = true then (1 : Int32) else 0) = 0 := by simp [loB, h]
theorem own_ils_y {c : Int32} (h : ¬ c < (56320 : Int32)) (h2 : c < (57344 : Int32)) : (if loB c = true then (1 : Int32) else 0) = 1 := by simp [loB, h, h2]
theorem own_ils_n {c : Int32} (h : ¬ c < (56320 : Int32)) (h2 : ¬ c < (57344 : Int32)) : (if loB c = true then (1 : Int32) else 0) = 0 := by simp [loB, h, h2]
theorem own_56 {c : Int32} : c < (56320 : Int32) ↔ ¬ (56319 : Int32) < c := by
  rw [Int32.lt_iff_toInt_lt, Int32.lt_iff_toInt_lt]; have e1 : (56320 : Int32).toInt = 56320 := rfl; have e2 : (56319 : Int32).toInt = 56319 := rfl; omega
theorem own_57 {c : Int32} : c < (57344 : Int32) ↔ ¬ (57343 : Int32) < c := by
  rw [Int32.lt_iff_toInt_lt, Int32.lt_iff_toInt_lt]; have e1 : (57344 : Int32).toInt = 57344 := rfl; have e2 : (57343 : Int32).toInt = 57343 := rfl; omega
theorem own_55 {c : Int32} (h : c < (55296 : Int32)) : c < (56320 : Int32) := by
  rw [Int32.lt_iff_toInt_lt] at *; have e1 : (56320 : Int32).toInt = 56320 := rfl; have e2 : (55296 : Int32).toInt = 55296 := rfl; omega
theorem own_58 {c : Int32} (h : c < (56320 : Int32)) : c < (57344 : Int32) := by
  rw [Int32.lt_iff_toInt_lt] at *; have e1 : (56320 : Int32).toInt = 56320 := rfl; have e2 : (57344 : Int32).toInt = 57344 := rfl; omega
theorem own_iHi_lt {c : Int32} (h : c < (55296 : Int32)) : (if hiB c = true then (1 : Int32) else 0) = 0 := own_ihs_lt h
theorem own_iHi_y {c : Int32} (h : ¬ c < (55296 : Int32)) (h2 : ¬ (56319 : Int32) < c) : (if hiB c = true then (1 : Int32) else 0) = 1 := own_ihs_y h (own_56.mpr h2)
theorem own_iHi_n {c : Int32} (h : ¬ c < (55296 : Int32)) (h2 : (56319 : Int32) < c) : (if hiB c = true then (1 : Int32) else 0) = 0 := own_ihs_n h (fun q => own_56.mp q h2)
theorem own_iLo_lt {c : Int32} (h : c < (56320 : Int32)) : (if loB c = true then (1 : Int32) else 0) = 0 := own_ils_lt h
theorem own_iLo_y {c : Int32} (h : ¬ c < (56320 : Int32)) (h2 : ¬ (57343 : Int32) < c) : (if loB c = true then (1 : Int32) else 0) = 1 := own_ils_y h (own_57.mpr h2)
theorem own_iLo_n {c : Int32} (h : ¬ c < (56320 : Int32)) (h2 : (57343 : Int32) < c) : (if loB c = true then (1 : Int32) else 0) = 0 := own_ils_n h (fun q => own_57.mp q h2)
theorem own_isr_lt {c : Int32} (h : c < (55296 : Int32)) : (if (hiB c || loB c) = true then (1 : Int32) else 0) = 0 := by simp [hiB, loB, h, own_55 h]
theorem own_isr_y {c : Int32} (h : ¬ c < (55296 : Int32)) (h2 : c < (57344 : Int32)) : (if (hiB c || loB c) = true then (1 : Int32) else 0) = 1 := by
  by_cases q : c < (56320 : Int32) <;> simp [hiB, loB, h, h2, q]
theorem own_isr_n {c : Int32} (h : ¬ c < (55296 : Int32)) (h2 : ¬ c < (57344 : Int32)) : (if (hiB c || loB c) = true then (1 : Int32) else 0) = 0 := by
  have q : ¬ c < (56320 : Int32) := fun q => h2 (own_58 q)
  simp [hiB, loB, h, h2, q]
theorem own_or1 {c : Int32} (h : hiB c = true) : (hiB c || loB c) = true := by simp [h]
theorem own_or2 {c : Int32} (h : loB c = true) : (hiB c || loB c) = true := by simp [h]
theorem own_or3 {c : Int32} (h : ¬ hiB c = true) (h2 : ¬ loB c = true) : ¬ (hiB c || loB c) = true := by simp [h, h2]
theorem own_hl {c : Int32} (h : hiB c = true) : loB c = false := by
  simp only [hiB, loB, Bool.and_eq_true, Bool.not_eq_true', decide_eq_false_iff_not, decide_eq_true_eq] at h ⊢
  simp [h.2]
theorem own_h0 : hiB 0 = false := by decide
theorem own_l0 : loB 0 = false := by decide
section Fin
variable {c0 c1 c2 : Int32}
theorem own_t1 (h0 : ¬ (goodF c0 false c0 false c1) = (0 : Int32)) : (stor [c0]) = (1 : Int32) := by
  simp only [goodF, stor] at *
  by_cases a : c0 = 0 <;> by_cases b : hiB c0 = true <;> by_cases d : loB c0 = true <;> simp_all
theorem own_f1_1 (h0 : (goodF c0 false c0 false c1) = (0 : Int32)) : (stor [c0]) = (0 : Int32) := by
  simp only [goodF, stor] at *
  by_cases a : c0 = 0 <;> by_cases b : hiB c0 = true <;> by_cases d : loB c0 = true <;> simp_all
theorem own_t2 (h0 : ¬ (goodF c0 false c0 true c1) = (0 : Int32)) (h1 : ¬ (goodF c1 true c0 false c2) = (0 : Int32)) : (stor [c0, c1]) = (1 : Int32) := by
  have e0 := own_hl (c := c0); have e1 := own_hl (c := c1)
  simp only [goodF, stor] at *
  by_cases a : c0 = 0 <;> by_cases b : hiB c0 = true <;> by_cases d : loB c0 = true <;> by_cases a1 : c1 = 0 <;> by_cases b1 : hiB c1 = true <;> by_cases d1 : loB c1 = true <;> simp_all
theorem own_f2_1 (h0 : (goodF c0 false c0 true c1) = (0 : Int32)) : (stor [c0, c1]) = (0 : Int32) := by
  have e0 := own_hl (c := c0); have e1 := own_hl (c := c1)
  simp only [goodF, stor] at *
  by_cases a : c0 = 0 <;> by_cases b : hiB c0 = true <;> by_cases d : loB c0 = true <;> by_cases a1 : c1 = 0 <;> by_cases b1 : hiB c1 = true <;> by_cases d1 : loB c1 = true <;> simp_all
theorem own_f2_2 (h0 : ¬ (goodF c0 false c0 true c1) = (0 : Int32)) (h1 : (goodF c1 true c0 false c2) = (0 : Int32)) : (stor [c0, c1]) = (0 : Int32) := by
  have e0 := own_hl (c := c0); have e1 := own_hl (c := c1); have z1 := own_h0; have z2 := own_l0
  simp only [goodF, stor] at *
  by_cases a : c0 = 0 <;> by_cases b : hiB c0 = true <;> by_cases d : loB c0 = true <;> by_cases a1 : c1 = 0 <;> by_cases b1 : hiB c1 = true <;> by_cases d1 : loB c1 = true <;> simp_all
theorem own_t3 (h0 : ¬ (goodF c0 false c0 true c1) = (0 : Int32)) (h1 : ¬ (goodF c1 true c0 true c2) = (0 : Int32)) (h2 : ¬ (goodF c2 true c1 false c2) = (0 : Int32)) : (stor [c0, c1, c2]) = (1 : Int32) := by
  have e0 := own_hl (c := c0); have e1 := own_hl (c := c1); have e2 := own_hl (c := c2)
  simp only [goodF, stor] at *
  by_cases a : c0 = 0 <;> by_cases b : hiB c0 = true <;> by_cases d : loB c0 = true <;> by_cases a1 : c1 = 0 <;> by_cases b1 : hiB c1 = true <;> by_cases d1 : loB c1 = true <;> by_cases a2 : c2 = 0 <;> by_cases b2 : hiB c2 = true <;> by_cases d2 : loB c2 = true <;> simp_all
theorem own_f3_1 (h0 : (goodF c0 false c0 true c1) = (0 : Int32)) : (stor [c0, c1, c2]) = (0 : Int32) := by
  have e0 := own_hl (c := c0); have e1 := own_hl (c := c1)
  simp only [goodF, stor] at *
  by_cases a : c0 = 0 <;> by_cases b : hiB c0 = true <;> by_cases d : loB c0 = true <;> by_cases a1 : c1 = 0 <;> by_cases b1 : hiB c1 = true <;> by_cases d1 : loB c1 = true <;> simp_all
theorem own_f3_2 (h0 : ¬ (goodF c0 false c0 true c1) = (0 : Int32)) (h1 : (goodF c1 true c0 true c2) = (0 : Int32)) : (stor [c0, c1, c2]) = (0 : Int32) := by
  have e0 := own_hl (c := c0); have e1 := own_hl (c := c1); have e2 := own_hl (c := c2); have z1 := own_h0; have z2 := own_l0
  simp only [goodF, stor] at *
  by_cases a : c0 = 0 <;> by_cases b : hiB c0 = true <;> by_cases d : loB c0 = true <;> by_cases a1 : c1 = 0 <;> by_cases b1 : hiB c1 = true <;> by_cases d1 : loB c1 = true <;> by_cases b2 : hiB c2 = true <;> by_cases d2 : loB c2 = true <;> simp_all
theorem own_f3_3 (h0 : ¬ (goodF c0 false c0 true c1) = (0 : Int32)) (h1 : ¬ (goodF c1 true c0 true c2) = (0 : Int32)) (h2 : (goodF c2 true c1 false c2) = (0 : Int32)) : (stor [c0, c1, c2]) = (0 : Int32) := by
  have e0 := own_hl (c := c0); have e1 := own_hl (c := c1); have e2 := own_hl (c := c2); have z1 := own_h0; have z2 := own_l0
  simp only [goodF, stor] at *
  by_cases a : c0 = 0 <;> by_cases b : hiB c0 = true <;> by_cases d : loB c0 = true <;> by_cases a1 : c1 = 0 <;> by_cases b1 : hiB c1 = true <;> by_cases d1 : loB c1 = true <;> by_cases a2 : c2 = 0 <;> by_cases b2 : hiB c2 = true <;> by_cases d2 : loB c2 = true <;> simp_all
end Fin
theorem own_and3 (x : Int32) : (x &&& (3 : Int32)) = (0 : Int32) ∨ (x &&& (3 : Int32)) = (1 : Int32) ∨ (x &&& (3 : Int32)) = (2 : Int32) ∨ (x &&& (3 : Int32)) = (3 : Int32) := by
  have h := c_and x (3 : Int32) (by decide)
  have e : (3 : Int32).toInt = 3 := rfl
  have h3 : (x &&& (3 : Int32)).toInt = 0 ∨ (x &&& (3 : Int32)).toInt = 1 ∨ (x &&& (3 : Int32)).toInt = 2 ∨ (x &&& (3 : Int32)).toInt = 3 := by omega
  rcases h3 with h | h | h | h
  · exact Or.inl (Int32.toInt_inj.mp h)
  · exact Or.inr (Or.inl (Int32.toInt_inj.mp h))
  · exact Or.inr (Or.inr (Or.inl (Int32.toInt_inj.mp h)))
  · exact Or.inr (Or.inr (Or.inr (Int32.toInt_inj.mp h)))
theorem own_i2c {c : Int32} (hr : 0 ≤ c.toInt ∧ c.toInt < 65536) : c.toUInt32.toUInt16.toUInt32.toInt32 = c := by
  apply Int32.toInt_inj.mp; have := c_i2c c; omega
theorem own_nar {c : Int32} (hr : 0 ≤ c.toInt ∧ c.toInt < 65536) : nar .char c = c := own_i2c hr
theorem own_nr {c : Int32} (hr : 0 ≤ c.toInt ∧ c.toInt < 65536) : narrow .char (.int c) = .int c := by
  show Value.int (c.toUInt32.toUInt16.toUInt32.toInt32) = _
  rw [own_i2c hr]
theorem own_nc (x : Int32) : narrow .char (.int (x.toUInt32.toUInt16.toUInt32.toInt32)) = .int (x.toUInt32.toUInt16.toUInt32.toInt32) := own_nr (c_i2c x).2
theorem own_by (x : Int32) : (((nar .byte (x.toInt8.toInt32)) &&& (255 : Int32))).toInt = x.toInt % 256 := by
  have q := c_mask (nar .byte (x.toInt8.toInt32)) (255 : Int32) 8 (by decide) (by decide)
  have q1 := (c_i2b (x.toInt8.toInt32)).1
  have q2 := (c_i2b x).1
  rw [q]
  show ((x.toInt8.toInt32).toInt8.toInt32).toInt % (2 ^ 8 : Nat) = _
  have e : ((2 ^ 8 : Nat) : Int) = 256 := rfl
  rw [e]
  omega
theorem own_lc {c : Int32} (hr : 0 ≤ c.toInt ∧ c.toInt < 65536) (hv : ¬ (255 : Int32) < c) : ((((nar .byte (c.toInt8.toInt32)) &&& (255 : Int32))).toUInt32.toUInt16.toUInt32.toInt32) = c := by
  apply Int32.toInt_inj.mp
  rw [Int32.lt_iff_toInt_lt] at hv
  have e : (255 : Int32).toInt = 255 := rfl
  have q := own_by c
  have q2 := c_i2c ((nar .byte (c.toInt8.toInt32)) &&& (255 : Int32))
  omega
theorem own_gc {c : Int32} (hr : 0 ≤ c.toInt ∧ c.toInt < 65536) : (((((nar .byte ((c >>> ((0 : Int32) &&& 31)).toInt8.toInt32)) &&& (255 : Int32)) <<< ((0 : Int32) &&& 31)) ||| (((nar .byte ((c >>> ((8 : Int32) &&& 31)).toInt8.toInt32)) &&& (255 : Int32)) <<< ((8 : Int32) &&& 31))).toUInt32.toUInt16.toUInt32.toInt32) = c := by
  apply Int32.toInt_inj.mp
  have a1 := own_by (c >>> ((0 : Int32) &&& 31))
  have a2 := own_by (c >>> ((8 : Int32) &&& 31))
  have s0 := c_ishr c (0 : Int32) 0 (by decide)
  have s8 := c_ishr c (8 : Int32) 8 (by decide)
  generalize ((nar .byte ((c >>> ((0 : Int32) &&& 31)).toInt8.toInt32)) &&& (255 : Int32)) = lo at *
  generalize ((nar .byte ((c >>> ((8 : Int32) &&& 31)).toInt8.toInt32)) &&& (255 : Int32)) = hi at *
  have l0 := c_ishl lo (0 : Int32) 0 (by decide)
  have l8 := c_ishl hi (8 : Int32) 8 (by decide)
  have rl := rng32 (lo <<< ((0 : Int32) &&& 31))
  have rh := rng32 (hi <<< ((8 : Int32) &&& 31))
  have e1 : ((2 ^ 0 : Nat) : Int) = 1 := rfl
  have e8 : ((2 ^ 8 : Nat) : Int) = 256 := rfl
  rw [e1] at s0 l0
  rw [e8] at s8 l8
  generalize (lo <<< ((0 : Int32) &&& 31)) = L at *
  generalize (hi <<< ((8 : Int32) &&& 31)) = H at *
  have hL : L.toInt = c.toInt % 256 := by omega
  have hH : H.toInt = c.toInt / 256 * 256 := by omega
  have o := c_or' L H 8 (by decide) 256 rfl (by omega) (by omega) (by omega)
  have r := rng32 (L ||| H)
  have q := c_i2c (L ||| H)
  omega
theorem d_j42_m149_0 : decode jdk_42_method_149_code 0 = .ok (.aload_n 0, 1) := by decide +kernel
theorem d_j42_m149_1 : decode jdk_42_method_149_code 1 = .ok (.invokespecial 1, 3) := by decide +kernel
theorem d_j42_m149_4 : decode jdk_42_method_149_code 4 = .ok (.iload_n 3, 1) := by decide +kernel
theorem d_j42_m149_5 : decode jdk_42_method_149_code 5 = .ok (.ifCond .ne 22, 3) := by decide +kernel
theorem d_j42_m149_8 : decode jdk_42_method_149_code 8 = .ok (.aload_n 0, 1) := by decide +kernel
theorem d_j42_m149_9 : decode jdk_42_method_149_code 9 = .ok (.ldc 7, 2) := by decide +kernel
theorem d_j42_m149_11 : decode jdk_42_method_149_code 11 = .ok (.getfield 9, 3) := by decide +kernel
theorem d_j42_m149_14 : decode jdk_42_method_149_code 14 = .ok (.putfield 9, 3) := by decide +kernel
theorem d_j42_m149_17 : decode jdk_42_method_149_code 17 = .ok (.aload_n 0, 1) := by decide +kernel
theorem d_j42_m149_18 : decode jdk_42_method_149_code 18 = .ok (.ldc 7, 2) := by decide +kernel
theorem d_j42_m149_20 : decode jdk_42_method_149_code 20 = .ok (.getfield 15, 3) := by decide +kernel
theorem d_j42_m149_23 : decode jdk_42_method_149_code 23 = .ok (.putfield 15, 3) := by decide +kernel
theorem d_j42_m149_26 : decode jdk_42_method_149_code 26 = .ok (.return_, 1) := by decide +kernel
theorem pn_String_837 : plainName "java/lang/String" = true := by first | (simp [plainName, overriddenIn]; done) | decide +kernel
theorem d_j42_m3_0 : decode jdk_42_method_3_code 0 = .ok (.aload_n 0, 1) := by decide +kernel
theorem d_j42_m3_1 : decode jdk_42_method_3_code 1 = .ok (.aload_n 1, 1) := by decide +kernel
theorem d_j42_m3_2 : decode jdk_42_method_3_code 2 = .ok (.iconst 0, 1) := by decide +kernel
theorem d_j42_m3_3 : decode jdk_42_method_3_code 3 = .ok (.aload_n 1, 1) := by decide +kernel
theorem d_j42_m3_4 : decode jdk_42_method_3_code 4 = .ok (.arraylength, 1) := by decide +kernel
theorem d_j42_m3_5 : decode jdk_42_method_3_code 5 = .ok (.aconst_null, 1) := by decide +kernel
theorem pd___CIILjava_lang_Void__V_1319 : parseMethodDescriptor "([CIILjava/lang/Void;)V" = some ⟨[(.array .char), .int, .int, (.object "java/lang/Void")], none⟩ := by decide +kernel
theorem d_j42_m3_6 : decode jdk_42_method_3_code 6 = .ok (.invokespecial 27, 3) := by decide +kernel
theorem d_j42_m3_9 : decode jdk_42_method_3_code 9 = .ok (.return_, 1) := by decide +kernel
theorem d_j89_m14_0 : decode jdk_89_method_14_code 0 = .ok (.iload_n 0, 1) := by decide +kernel
theorem d_j89_m14_1 : decode jdk_89_method_14_code 1 = .ok (.ldc 75, 2) := by decide +kernel
theorem d_j89_m14_3 : decode jdk_89_method_14_code 3 = .ok (.if_icmp .lt 13, 3) := by decide +kernel
theorem d_j89_m14_16 : decode jdk_89_method_14_code 16 = .ok (.iconst 0, 1) := by decide +kernel
theorem d_j89_m14_17 : decode jdk_89_method_14_code 17 = .ok (.ireturn, 1) := by decide +kernel
theorem d_j89_m14_6 : decode jdk_89_method_14_code 6 = .ok (.iload_n 0, 1) := by decide +kernel
theorem d_j89_m14_7 : decode jdk_89_method_14_code 7 = .ok (.ldc 76, 2) := by decide +kernel
theorem d_j89_m14_9 : decode jdk_89_method_14_code 9 = .ok (.if_icmp .ge 7, 3) := by decide +kernel
theorem d_j89_m14_12 : decode jdk_89_method_14_code 12 = .ok (.iconst 1, 1) := by decide +kernel
theorem d_j89_m14_13 : decode jdk_89_method_14_code 13 = .ok (.goto 4, 3) := by decide +kernel
theorem pn_Character_130 : plainName "java/lang/Character" = true := by first | (simp [plainName, overriddenIn]; done) | decide +kernel
theorem d_j89_m15_0 : decode jdk_89_method_15_code 0 = .ok (.iload_n 0, 1) := by decide +kernel
theorem d_j89_m15_1 : decode jdk_89_method_15_code 1 = .ok (.ldc 76, 2) := by decide +kernel
theorem d_j89_m15_3 : decode jdk_89_method_15_code 3 = .ok (.if_icmp .lt 13, 3) := by decide +kernel
theorem d_j89_m15_16 : decode jdk_89_method_15_code 16 = .ok (.iconst 0, 1) := by decide +kernel
theorem d_j89_m15_17 : decode jdk_89_method_15_code 17 = .ok (.ireturn, 1) := by decide +kernel
theorem d_j89_m15_6 : decode jdk_89_method_15_code 6 = .ok (.iload_n 0, 1) := by decide +kernel
theorem d_j89_m15_7 : decode jdk_89_method_15_code 7 = .ok (.ldc 77, 2) := by decide +kernel
theorem d_j89_m15_9 : decode jdk_89_method_15_code 9 = .ok (.if_icmp .ge 7, 3) := by decide +kernel
theorem d_j89_m15_12 : decode jdk_89_method_15_code 12 = .ok (.iconst 1, 1) := by decide +kernel
theorem d_j89_m15_13 : decode jdk_89_method_15_code 13 = .ok (.goto 4, 3) := by decide +kernel
theorem d_j89_m16_0 : decode jdk_89_method_16_code 0 = .ok (.iload_n 0, 1) := by decide +kernel
theorem d_j89_m16_1 : decode jdk_89_method_16_code 1 = .ok (.ldc 75, 2) := by decide +kernel
theorem d_j89_m16_3 : decode jdk_89_method_16_code 3 = .ok (.if_icmp .lt 13, 3) := by decide +kernel
theorem d_j89_m16_16 : decode jdk_89_method_16_code 16 = .ok (.iconst 0, 1) := by decide +kernel
theorem d_j89_m16_17 : decode jdk_89_method_16_code 17 = .ok (.ireturn, 1) := by decide +kernel
theorem d_j89_m16_6 : decode jdk_89_method_16_code 6 = .ok (.iload_n 0, 1) := by decide +kernel
theorem d_j89_m16_7 : decode jdk_89_method_16_code 7 = .ok (.ldc 77, 2) := by decide +kernel
theorem d_j89_m16_9 : decode jdk_89_method_16_code 9 = .ok (.if_icmp .ge 7, 3) := by decide +kernel
theorem d_j89_m16_12 : decode jdk_89_method_16_code 12 = .ok (.iconst 1, 1) := by decide +kernel
theorem d_j89_m16_13 : decode jdk_89_method_16_code 13 = .ok (.goto 4, 3) := by decide +kernel
theorem d_m3_0 : decode method_3_code 0 = .ok (.iload_n 0, 1) := by decide +kernel
theorem d_m3_1 : decode method_3_code 1 = .ok (.ldc 7, 2) := by decide +kernel
theorem d_m3_3 : decode method_3_code 3 = .ok (.if_icmp .lt 13, 3) := by decide +kernel
theorem d_m3_16 : decode method_3_code 16 = .ok (.iconst 0, 1) := by decide +kernel
theorem d_m3_17 : decode method_3_code 17 = .ok (.ireturn, 1) := by decide +kernel
theorem d_m3_6 : decode method_3_code 6 = .ok (.iload_n 0, 1) := by decide +kernel
theorem d_m3_7 : decode method_3_code 7 = .ok (.ldc 10, 2) := by decide +kernel
theorem d_m3_9 : decode method_3_code 9 = .ok (.if_icmp .gt 7, 3) := by decide +kernel
theorem d_m3_12 : decode method_3_code 12 = .ok (.iconst 1, 1) := by decide +kernel
theorem d_m3_13 : decode method_3_code 13 = .ok (.goto 4, 3) := by decide +kernel
theorem pn_CatalogTextIsStorablePinLaw_167 : plainName "com/example/provenara/provenara/model/CatalogTextIsStorablePinLaw" = true := by first | (simp [plainName, overriddenIn]; done) | decide +kernel
theorem d_m4_0 : decode method_4_code 0 = .ok (.iload_n 0, 1) := by decide +kernel
theorem d_m4_1 : decode method_4_code 1 = .ok (.ldc 8, 2) := by decide +kernel
theorem d_m4_3 : decode method_4_code 3 = .ok (.if_icmp .lt 13, 3) := by decide +kernel
theorem d_m4_16 : decode method_4_code 16 = .ok (.iconst 0, 1) := by decide +kernel
theorem d_m4_17 : decode method_4_code 17 = .ok (.ireturn, 1) := by decide +kernel
theorem d_m4_6 : decode method_4_code 6 = .ok (.iload_n 0, 1) := by decide +kernel
theorem d_m4_7 : decode method_4_code 7 = .ok (.ldc 11, 2) := by decide +kernel
theorem d_m4_9 : decode method_4_code 9 = .ok (.if_icmp .gt 7, 3) := by decide +kernel
theorem d_m4_12 : decode method_4_code 12 = .ok (.iconst 1, 1) := by decide +kernel
theorem d_m4_13 : decode method_4_code 13 = .ok (.goto 4, 3) := by decide +kernel
theorem d_m2_0 : decode method_2_code 0 = .ok (.iload_n 0, 1) := by decide +kernel
theorem d_m2_1 : decode method_2_code 1 = .ok (.iconst 3, 1) := by decide +kernel
theorem d_m2_2 : decode method_2_code 2 = .ok (.iand, 1) := by decide +kernel
theorem d_m2_3 : decode method_2_code 3 = .ok (.istore_n 1, 1) := by decide +kernel
theorem d_m2_4 : decode method_2_code 4 = .ok (.iload_n 0, 1) := by decide +kernel
theorem d_m2_5 : decode method_2_code 5 = .ok (.iconst 2, 1) := by decide +kernel
theorem d_m2_6 : decode method_2_code 6 = .ok (.iushr, 1) := by decide +kernel
theorem d_m2_7 : decode method_2_code 7 = .ok (.istore_n 2, 1) := by decide +kernel
theorem d_m2_8 : decode method_2_code 8 = .ok (.iload_n 1, 1) := by decide +kernel
theorem d_m2_9 : decode method_2_code 9 = .ok (.ifCond .ne 5, 3) := by decide +kernel
theorem d_m2_12 : decode method_2_code 12 = .ok (.iconst 0, 1) := by decide +kernel
theorem d_m2_13 : decode method_2_code 13 = .ok (.ireturn, 1) := by decide +kernel
theorem d_m2_14 : decode method_2_code 14 = .ok (.iload_n 1, 1) := by decide +kernel
theorem d_m2_15 : decode method_2_code 15 = .ok (.iconst 1, 1) := by decide +kernel
theorem d_m2_16 : decode method_2_code 16 = .ok (.if_icmp .ne 13, 3) := by decide +kernel
theorem d_m2_19 : decode method_2_code 19 = .ok (.ldc 7, 2) := by decide +kernel
theorem d_m2_21 : decode method_2_code 21 = .ok (.iload_n 2, 1) := by decide +kernel
theorem d_m2_22 : decode method_2_code 22 = .ok (.sipush 1023, 3) := by decide +kernel
theorem d_m2_25 : decode method_2_code 25 = .ok (.iand, 1) := by decide +kernel
theorem d_m2_26 : decode method_2_code 26 = .ok (.iadd, 1) := by decide +kernel
theorem d_m2_27 : decode method_2_code 27 = .ok (.i2c, 1) := by decide +kernel
theorem d_m2_28 : decode method_2_code 28 = .ok (.ireturn, 1) := by decide +kernel
theorem d_m2_29 : decode method_2_code 29 = .ok (.iload_n 1, 1) := by decide +kernel
theorem d_m2_30 : decode method_2_code 30 = .ok (.iconst 2, 1) := by decide +kernel
theorem d_m2_31 : decode method_2_code 31 = .ok (.if_icmp .ne 13, 3) := by decide +kernel
theorem d_m2_34 : decode method_2_code 34 = .ok (.ldc 8, 2) := by decide +kernel
theorem d_m2_36 : decode method_2_code 36 = .ok (.iload_n 2, 1) := by decide +kernel
theorem d_m2_37 : decode method_2_code 37 = .ok (.sipush 1023, 3) := by decide +kernel
theorem d_m2_40 : decode method_2_code 40 = .ok (.iand, 1) := by decide +kernel
theorem d_m2_41 : decode method_2_code 41 = .ok (.iadd, 1) := by decide +kernel
theorem d_m2_42 : decode method_2_code 42 = .ok (.i2c, 1) := by decide +kernel
theorem d_m2_43 : decode method_2_code 43 = .ok (.ireturn, 1) := by decide +kernel
theorem d_m2_44 : decode method_2_code 44 = .ok (.iload_n 2, 1) := by decide +kernel
theorem d_m2_45 : decode method_2_code 45 = .ok (.ldc 9, 2) := by decide +kernel
theorem d_m2_47 : decode method_2_code 47 = .ok (.iand, 1) := by decide +kernel
theorem d_m2_48 : decode method_2_code 48 = .ok (.i2c, 1) := by decide +kernel
theorem d_m2_49 : decode method_2_code 49 = .ok (.ireturn, 1) := by decide +kernel
theorem pd__I_C_7757 : parseMethodDescriptor "(I)C" = some ⟨[.int], some .char⟩ := by decide +kernel
theorem pd___C_V_902 : parseMethodDescriptor "([C)V" = some ⟨[(.array .char)], none⟩ := by decide +kernel
theorem d_j42_m54_0 : decode jdk_42_method_54_code 0 = .ok (.aload_n 0, 1) := by decide +kernel
theorem d_j42_m54_1 : decode jdk_42_method_54_code 1 = .ok (.getfield 9, 3) := by decide +kernel
theorem d_j42_m54_4 : decode jdk_42_method_54_code 4 = .ok (.arraylength, 1) := by decide +kernel
theorem d_j42_m54_5 : decode jdk_42_method_54_code 5 = .ok (.aload_n 0, 1) := by decide +kernel
theorem d_j42_m152_0 : decode jdk_42_method_152_code 0 = .ok (.getstatic 38, 3) := by decide +kernel
theorem d_j42_m152_3 : decode jdk_42_method_152_code 3 = .ok (.ifCond .eq 10, 3) := by decide +kernel
theorem d_j42_m152_6 : decode jdk_42_method_152_code 6 = .ok (.aload_n 0, 1) := by decide +kernel
theorem d_j42_m152_7 : decode jdk_42_method_152_code 7 = .ok (.getfield 15, 3) := by decide +kernel
theorem d_j42_m152_10 : decode jdk_42_method_152_code 10 = .ok (.goto 4, 3) := by decide +kernel
theorem d_j42_m152_14 : decode jdk_42_method_152_code 14 = .ok (.ireturn, 1) := by decide +kernel
theorem pd___B_8314 : parseMethodDescriptor "()B" = some ⟨[], some .byte⟩ := by decide +kernel
theorem d_j42_m54_6 : decode jdk_42_method_54_code 6 = .ok (.invokevirtual 335, 3) := by decide +kernel
theorem d_j42_m54_9 : decode jdk_42_method_54_code 9 = .ok (.ishr, 1) := by decide +kernel
theorem d_j42_m54_10 : decode jdk_42_method_54_code 10 = .ok (.ireturn, 1) := by decide +kernel
theorem d_p6_m2_0 : decode prog_6_method_2_code 0 = .ok (.iconst 0, 1) := by decide +kernel
theorem d_p6_m2_1 : decode prog_6_method_2_code 1 = .ok (.istore_n 1, 1) := by decide +kernel
theorem d_p6_m2_2 : decode prog_6_method_2_code 2 = .ok (.iload_n 1, 1) := by decide +kernel
theorem d_p6_m2_3 : decode prog_6_method_2_code 3 = .ok (.aload_n 0, 1) := by decide +kernel
theorem pd___I_8321 : parseMethodDescriptor "()I" = some ⟨[], some .int⟩ := by decide +kernel
theorem d_p6_m2_4 : decode prog_6_method_2_code 4 = .ok (.invokevirtual 7, 3) := by decide +kernel
theorem d_p6_m2_7 : decode prog_6_method_2_code 7 = .ok (.if_icmp .ge 66, 3) := by decide +kernel
theorem d_p6_m2_73 : decode prog_6_method_2_code 73 = .ok (.iconst 1, 1) := by decide +kernel
theorem d_p6_m2_74 : decode prog_6_method_2_code 74 = .ok (.ireturn, 1) := by decide +kernel
theorem pn_CatalogText_186 : plainName "com/example/provenara/provenara/model/CatalogText" = true := by first | (simp [plainName, overriddenIn]; done) | decide +kernel
theorem pd__Ljava_lang_String__Z_965 : parseMethodDescriptor "(Ljava/lang/String;)Z" = some ⟨[(.object "java/lang/String")], some .boolean⟩ := by decide +kernel
theorem d_j42_m149_27 : decode jdk_42_method_149_code 27 = .ok (.getstatic 38, 3) := by decide +kernel
theorem d_j42_m149_30 : decode jdk_42_method_149_code 30 = .ok (.ifCond .eq 28, 3) := by decide +kernel
theorem d_j42_m149_33 : decode jdk_42_method_149_code 33 = .ok (.aload_n 1, 1) := by decide +kernel
theorem d_j42_m149_34 : decode jdk_42_method_149_code 34 = .ok (.iload_n 2, 1) := by decide +kernel
theorem d_j42_m149_35 : decode jdk_42_method_149_code 35 = .ok (.iload_n 3, 1) := by decide +kernel
theorem d_j52_m16_0 : decode jdk_52_method_16_code 0 = .ok (.iload_n 2, 1) := by decide +kernel
theorem d_j52_m16_1 : decode jdk_52_method_16_code 1 = .ok (.newarray .byte, 2) := by decide +kernel
theorem d_j52_m16_3 : decode jdk_52_method_16_code 3 = .ok (.astore_n 3, 1) := by decide +kernel
theorem d_j52_m16_4 : decode jdk_52_method_16_code 4 = .ok (.aload_n 0, 1) := by decide +kernel
theorem d_j52_m16_5 : decode jdk_52_method_16_code 5 = .ok (.iload_n 1, 1) := by decide +kernel
theorem d_j52_m16_6 : decode jdk_52_method_16_code 6 = .ok (.aload_n 3, 1) := by decide +kernel
theorem d_j52_m16_7 : decode jdk_52_method_16_code 7 = .ok (.iconst 0, 1) := by decide +kernel
theorem d_j52_m16_8 : decode jdk_52_method_16_code 8 = .ok (.iload_n 2, 1) := by decide +kernel
theorem d_j52_m21_0 : decode jdk_52_method_21_code 0 = .ok (.iconst 0, 1) := by decide +kernel
theorem d_j52_m21_1 : decode jdk_52_method_21_code 1 = .ok (.istore 5, 2) := by decide +kernel
theorem d_j52_m21_3 : decode jdk_52_method_21_code 3 = .ok (.iload 5, 2) := by decide +kernel
theorem d_j52_m21_5 : decode jdk_52_method_21_code 5 = .ok (.iload 4, 2) := by decide +kernel
theorem d_j52_m21_7 : decode jdk_52_method_21_code 7 = .ok (.if_icmp .ge 37, 3) := by decide +kernel
theorem d_j52_m21_10 : decode jdk_52_method_21_code 10 = .ok (.aload_n 0, 1) := by decide +kernel
theorem d_j52_m21_11 : decode jdk_52_method_21_code 11 = .ok (.iload_n 1, 1) := by decide +kernel
theorem d_j52_m21_12 : decode jdk_52_method_21_code 12 = .ok (.caload, 1) := by decide +kernel
theorem d_j52_m21_13 : decode jdk_52_method_21_code 13 = .ok (.istore 6, 2) := by decide +kernel
theorem d_j52_m21_15 : decode jdk_52_method_21_code 15 = .ok (.iload 6, 2) := by decide +kernel
theorem d_j52_m21_17 : decode jdk_52_method_21_code 17 = .ok (.sipush 255, 3) := by decide +kernel
theorem d_j52_m21_20 : decode jdk_52_method_21_code 20 = .ok (.if_icmp .le 6, 3) := by decide +kernel
theorem d_j52_m21_23 : decode jdk_52_method_21_code 23 = .ok (.iload 5, 2) := by decide +kernel
theorem d_j52_m21_25 : decode jdk_52_method_21_code 25 = .ok (.ireturn, 1) := by decide +kernel
theorem pn_StringUTF16_856 : plainName "java/lang/StringUTF16" = true := by first | (simp [plainName, overriddenIn]; done) | decide +kernel
theorem pd___CI_BII_I_6624 : parseMethodDescriptor "([CI[BII)I" = some ⟨[(.array .char), .int, (.array .byte), .int, .int], some .int⟩ := by decide +kernel
theorem d_j52_m16_9 : decode jdk_52_method_16_code 9 = .ok (.invokestatic 115, 3) := by decide +kernel
theorem d_j52_m16_12 : decode jdk_52_method_16_code 12 = .ok (.istore 4, 2) := by decide +kernel
theorem d_j52_m16_14 : decode jdk_52_method_16_code 14 = .ok (.iload 4, 2) := by decide +kernel
theorem d_j52_m16_16 : decode jdk_52_method_16_code 16 = .ok (.iload_n 2, 1) := by decide +kernel
theorem d_j52_m16_17 : decode jdk_52_method_16_code 17 = .ok (.if_icmp .eq 40, 3) := by decide +kernel
theorem d_j52_m16_20 : decode jdk_52_method_16_code 20 = .ok (.aload_n 0, 1) := by decide +kernel
theorem d_j52_m16_21 : decode jdk_52_method_16_code 21 = .ok (.iload_n 1, 1) := by decide +kernel
theorem d_j52_m16_22 : decode jdk_52_method_16_code 22 = .ok (.iload_n 2, 1) := by decide +kernel
theorem d_j52_m14_0 : decode jdk_52_method_14_code 0 = .ok (.iload_n 2, 1) := by decide +kernel
theorem d_j52_m2_0 : decode jdk_52_method_2_code 0 = .ok (.iload_n 0, 1) := by decide +kernel
theorem d_j52_m3_0 : decode jdk_52_method_3_code 0 = .ok (.iload_n 0, 1) := by decide +kernel
theorem d_j52_m3_1 : decode jdk_52_method_3_code 1 = .ok (.ifCond .ge 11, 3) := by decide +kernel
theorem d_j52_m3_12 : decode jdk_52_method_3_code 12 = .ok (.iload_n 0, 1) := by decide +kernel
theorem d_j52_m3_13 : decode jdk_52_method_3_code 13 = .ok (.ldc 20, 2) := by decide +kernel
theorem d_j52_m3_15 : decode jdk_52_method_3_code 15 = .ok (.if_icmp .lt 40, 3) := by decide +kernel
theorem d_j52_m3_55 : decode jdk_52_method_3_code 55 = .ok (.iload_n 0, 1) := by decide +kernel
theorem d_j52_m3_56 : decode jdk_52_method_3_code 56 = .ok (.iconst 1, 1) := by decide +kernel
theorem d_j52_m3_57 : decode jdk_52_method_3_code 57 = .ok (.ishl, 1) := by decide +kernel
theorem d_j52_m3_58 : decode jdk_52_method_3_code 58 = .ok (.ireturn, 1) := by decide +kernel
theorem pd__I_I_7763 : parseMethodDescriptor "(I)I" = some ⟨[.int], some .int⟩ := by decide +kernel
theorem d_j52_m2_1 : decode jdk_52_method_2_code 1 = .ok (.invokestatic 11, 3) := by decide +kernel
theorem d_j52_m2_4 : decode jdk_52_method_2_code 4 = .ok (.newarray .byte, 2) := by decide +kernel
theorem d_j52_m2_6 : decode jdk_52_method_2_code 6 = .ok (.areturn, 1) := by decide +kernel
theorem pd__I__B_1211 : parseMethodDescriptor "(I)[B" = some ⟨[.int], some (.array .byte)⟩ := by decide +kernel
theorem d_j52_m14_1 : decode jdk_52_method_14_code 1 = .ok (.invokestatic 107, 3) := by decide +kernel
theorem d_j52_m14_4 : decode jdk_52_method_14_code 4 = .ok (.astore_n 3, 1) := by decide +kernel
theorem d_j52_m14_5 : decode jdk_52_method_14_code 5 = .ok (.iconst 0, 1) := by decide +kernel
theorem d_j52_m14_6 : decode jdk_52_method_14_code 6 = .ok (.istore 4, 2) := by decide +kernel
theorem d_j52_m14_8 : decode jdk_52_method_14_code 8 = .ok (.iload 4, 2) := by decide +kernel
theorem d_j52_m14_10 : decode jdk_52_method_14_code 10 = .ok (.iload_n 2, 1) := by decide +kernel
theorem d_j52_m14_11 : decode jdk_52_method_14_code 11 = .ok (.if_icmp .ge 21, 3) := by decide +kernel
theorem d_j52_m14_14 : decode jdk_52_method_14_code 14 = .ok (.aload_n 3, 1) := by decide +kernel
theorem d_j52_m14_15 : decode jdk_52_method_14_code 15 = .ok (.iload 4, 2) := by decide +kernel
theorem d_j52_m14_17 : decode jdk_52_method_14_code 17 = .ok (.aload_n 0, 1) := by decide +kernel
theorem d_j52_m14_18 : decode jdk_52_method_14_code 18 = .ok (.iload_n 1, 1) := by decide +kernel
theorem d_j52_m14_19 : decode jdk_52_method_14_code 19 = .ok (.caload, 1) := by decide +kernel
theorem d_j52_m4_0 : decode jdk_52_method_4_code 0 = .ok (.getstatic 44, 3) := by decide +kernel
theorem d_j52_m4_3 : decode jdk_52_method_4_code 3 = .ok (.ifCond .ne 25, 3) := by decide +kernel
theorem d_j52_m4_28 : decode jdk_52_method_4_code 28 = .ok (.iload_n 1, 1) := by decide +kernel
theorem d_j52_m4_29 : decode jdk_52_method_4_code 29 = .ok (.iconst 1, 1) := by decide +kernel
theorem d_j52_m4_30 : decode jdk_52_method_4_code 30 = .ok (.ishl, 1) := by decide +kernel
theorem d_j52_m4_31 : decode jdk_52_method_4_code 31 = .ok (.istore_n 1, 1) := by decide +kernel
theorem d_j52_m4_32 : decode jdk_52_method_4_code 32 = .ok (.aload_n 0, 1) := by decide +kernel
theorem d_j52_m4_33 : decode jdk_52_method_4_code 33 = .ok (.iload_n 1, 1) := by decide +kernel
theorem d_j52_m4_34 : decode jdk_52_method_4_code 34 = .ok (.iinc 1 1, 3) := by decide +kernel
theorem d_j52_m4_37 : decode jdk_52_method_4_code 37 = .ok (.iload_n 2, 1) := by decide +kernel
theorem d_j52_m4_38 : decode jdk_52_method_4_code 38 = .ok (.getstatic 59, 3) := by decide +kernel
theorem d_j52_m4_41 : decode jdk_52_method_4_code 41 = .ok (.ishr, 1) := by decide +kernel
theorem d_j52_m4_42 : decode jdk_52_method_4_code 42 = .ok (.i2b, 1) := by decide +kernel
theorem d_j52_m4_43 : decode jdk_52_method_4_code 43 = .ok (.bastore, 1) := by decide +kernel
theorem d_j52_m4_44 : decode jdk_52_method_4_code 44 = .ok (.aload_n 0, 1) := by decide +kernel
theorem d_j52_m4_45 : decode jdk_52_method_4_code 45 = .ok (.iload_n 1, 1) := by decide +kernel
theorem d_j52_m4_46 : decode jdk_52_method_4_code 46 = .ok (.iload_n 2, 1) := by decide +kernel
theorem d_j52_m4_47 : decode jdk_52_method_4_code 47 = .ok (.getstatic 63, 3) := by decide +kernel
theorem d_j52_m4_50 : decode jdk_52_method_4_code 50 = .ok (.ishr, 1) := by decide +kernel
theorem d_j52_m4_51 : decode jdk_52_method_4_code 51 = .ok (.i2b, 1) := by decide +kernel
theorem d_j52_m4_52 : decode jdk_52_method_4_code 52 = .ok (.bastore, 1) := by decide +kernel
theorem d_j52_m4_53 : decode jdk_52_method_4_code 53 = .ok (.return_, 1) := by decide +kernel
theorem pd___BII_V_5129 : parseMethodDescriptor "([BII)V" = some ⟨[(.array .byte), .int, .int], none⟩ := by decide +kernel
theorem d_j52_m14_20 : decode jdk_52_method_14_code 20 = .ok (.invokestatic 111, 3) := by decide +kernel
theorem d_j52_m14_23 : decode jdk_52_method_14_code 23 = .ok (.iinc 1 1, 3) := by decide +kernel
theorem d_j52_m14_26 : decode jdk_52_method_14_code 26 = .ok (.iinc 4 1, 3) := by decide +kernel
theorem d_j52_m14_29 : decode jdk_52_method_14_code 29 = .ok (.goto (-21), 3) := by decide +kernel
theorem d_j52_m14_32 : decode jdk_52_method_14_code 32 = .ok (.aload_n 3, 1) := by decide +kernel
theorem d_j52_m14_33 : decode jdk_52_method_14_code 33 = .ok (.areturn, 1) := by decide +kernel
theorem pd___CII__B_8269 : parseMethodDescriptor "([CII)[B" = some ⟨[(.array .char), .int, .int], some (.array .byte)⟩ := by decide +kernel
theorem d_j52_m16_23 : decode jdk_52_method_16_code 23 = .ok (.invokestatic 119, 3) := by decide +kernel
theorem d_j52_m16_26 : decode jdk_52_method_16_code 26 = .ok (.astore 5, 2) := by decide +kernel
theorem d_j52_m16_28 : decode jdk_52_method_16_code 28 = .ok (.aload 5, 2) := by decide +kernel
theorem d_j52_m16_30 : decode jdk_52_method_16_code 30 = .ok (.iload 4, 2) := by decide +kernel
theorem d_j52_m5_0 : decode jdk_52_method_5_code 0 = .ok (.getstatic 44, 3) := by decide +kernel
theorem d_j52_m5_3 : decode jdk_52_method_5_code 3 = .ok (.ifCond .ne 25, 3) := by decide +kernel
theorem d_j52_m5_28 : decode jdk_52_method_5_code 28 = .ok (.iload_n 1, 1) := by decide +kernel
theorem d_j52_m5_29 : decode jdk_52_method_5_code 29 = .ok (.iconst 1, 1) := by decide +kernel
theorem d_j52_m5_30 : decode jdk_52_method_5_code 30 = .ok (.ishl, 1) := by decide +kernel
theorem d_j52_m5_31 : decode jdk_52_method_5_code 31 = .ok (.istore_n 1, 1) := by decide +kernel
theorem d_j52_m5_32 : decode jdk_52_method_5_code 32 = .ok (.aload_n 0, 1) := by decide +kernel
theorem d_j52_m5_33 : decode jdk_52_method_5_code 33 = .ok (.iload_n 1, 1) := by decide +kernel
theorem d_j52_m5_34 : decode jdk_52_method_5_code 34 = .ok (.iinc 1 1, 3) := by decide +kernel
theorem d_j52_m5_37 : decode jdk_52_method_5_code 37 = .ok (.baload, 1) := by decide +kernel
theorem d_j52_m5_38 : decode jdk_52_method_5_code 38 = .ok (.sipush 255, 3) := by decide +kernel
theorem d_j52_m5_41 : decode jdk_52_method_5_code 41 = .ok (.iand, 1) := by decide +kernel
theorem d_j52_m5_42 : decode jdk_52_method_5_code 42 = .ok (.getstatic 59, 3) := by decide +kernel
theorem d_j52_m5_45 : decode jdk_52_method_5_code 45 = .ok (.ishl, 1) := by decide +kernel
theorem d_j52_m5_46 : decode jdk_52_method_5_code 46 = .ok (.aload_n 0, 1) := by decide +kernel
theorem d_j52_m5_47 : decode jdk_52_method_5_code 47 = .ok (.iload_n 1, 1) := by decide +kernel
theorem d_j52_m5_48 : decode jdk_52_method_5_code 48 = .ok (.baload, 1) := by decide +kernel
theorem d_j52_m5_49 : decode jdk_52_method_5_code 49 = .ok (.sipush 255, 3) := by decide +kernel
theorem d_j52_m5_52 : decode jdk_52_method_5_code 52 = .ok (.iand, 1) := by decide +kernel
theorem d_j52_m5_53 : decode jdk_52_method_5_code 53 = .ok (.getstatic 63, 3) := by decide +kernel
theorem d_j52_m5_56 : decode jdk_52_method_5_code 56 = .ok (.ishl, 1) := by decide +kernel
theorem d_j52_m5_57 : decode jdk_52_method_5_code 57 = .ok (.ior, 1) := by decide +kernel
theorem d_j52_m5_58 : decode jdk_52_method_5_code 58 = .ok (.i2c, 1) := by decide +kernel
theorem d_j52_m5_59 : decode jdk_52_method_5_code 59 = .ok (.ireturn, 1) := by decide +kernel
theorem pd___BI_C_7586 : parseMethodDescriptor "([BI)C" = some ⟨[(.array .byte), .int], some .char⟩ := by decide +kernel
theorem d_j52_m16_32 : decode jdk_52_method_16_code 32 = .ok (.invokestatic 71, 3) := by decide +kernel
theorem d_j52_m16_35 : decode jdk_52_method_16_code 35 = .ok (.sipush 255, 3) := by decide +kernel
theorem d_j52_m16_38 : decode jdk_52_method_16_code 38 = .ok (.if_icmp .gt 16, 3) := by decide +kernel
theorem d_j52_m16_54 : decode jdk_52_method_16_code 54 = .ok (.aload 5, 2) := by decide +kernel
theorem d_j52_m16_56 : decode jdk_52_method_16_code 56 = .ok (.areturn, 1) := by decide +kernel
theorem d_j42_m149_36 : decode jdk_42_method_149_code 36 = .ok (.invokestatic 177, 3) := by decide +kernel
theorem d_j42_m149_39 : decode jdk_42_method_149_code 39 = .ok (.astore 5, 2) := by decide +kernel
theorem d_j42_m149_41 : decode jdk_42_method_149_code 41 = .ok (.aload_n 0, 1) := by decide +kernel
theorem d_j42_m149_42 : decode jdk_42_method_149_code 42 = .ok (.aload 5, 2) := by decide +kernel
theorem d_j42_m149_44 : decode jdk_42_method_149_code 44 = .ok (.iload_n 3, 1) := by decide +kernel
theorem d_j52_m15_0 : decode jdk_52_method_15_code 0 = .ok (.iload_n 1, 1) := by decide +kernel
theorem d_j52_m15_1 : decode jdk_52_method_15_code 1 = .ok (.aload_n 0, 1) := by decide +kernel
theorem d_j52_m15_2 : decode jdk_52_method_15_code 2 = .ok (.arraylength, 1) := by decide +kernel
theorem d_j52_m15_3 : decode jdk_52_method_15_code 3 = .ok (.isub, 1) := by decide +kernel
theorem d_j52_m15_4 : decode jdk_52_method_15_code 4 = .ok (.bipush 31, 2) := by decide +kernel
theorem d_j52_m15_6 : decode jdk_52_method_15_code 6 = .ok (.iushr, 1) := by decide +kernel
theorem d_j52_m15_7 : decode jdk_52_method_15_code 7 = .ok (.i2b, 1) := by decide +kernel
theorem d_j52_m15_8 : decode jdk_52_method_15_code 8 = .ok (.ireturn, 1) := by decide +kernel
theorem pd___BI_B_7585 : parseMethodDescriptor "([BI)B" = some ⟨[(.array .byte), .int], some .byte⟩ := by decide +kernel
theorem d_j42_m149_45 : decode jdk_42_method_149_code 45 = .ok (.invokestatic 47, 3) := by decide +kernel
theorem d_j42_m149_48 : decode jdk_42_method_149_code 48 = .ok (.putfield 15, 3) := by decide +kernel
theorem d_j42_m149_51 : decode jdk_42_method_149_code 51 = .ok (.aload_n 0, 1) := by decide +kernel
theorem d_j42_m149_52 : decode jdk_42_method_149_code 52 = .ok (.aload 5, 2) := by decide +kernel
theorem d_j42_m149_54 : decode jdk_42_method_149_code 54 = .ok (.putfield 9, 3) := by decide +kernel
theorem d_j42_m149_57 : decode jdk_42_method_149_code 57 = .ok (.return_, 1) := by decide +kernel
theorem d_m5_0 : decode method_5_code 0 = .ok (.iload_n 0, 1) := by decide +kernel
theorem d_m5_1 : decode method_5_code 1 = .ok (.ifCond .ne 5, 3) := by decide +kernel
theorem d_m5_4 : decode method_5_code 4 = .ok (.iconst 0, 1) := by decide +kernel
theorem d_m5_5 : decode method_5_code 5 = .ok (.ireturn, 1) := by decide +kernel
theorem d_m5_6 : decode method_5_code 6 = .ok (.iload_n 0, 1) := by decide +kernel
theorem pd__C_Z_2014 : parseMethodDescriptor "(C)Z" = some ⟨[.char], some .boolean⟩ := by decide +kernel
theorem d_m5_7 : decode method_5_code 7 = .ok (.invokestatic 12, 3) := by decide +kernel
theorem d_m5_10 : decode method_5_code 10 = .ok (.ifCond .eq 21, 3) := by decide +kernel
theorem d_m5_13 : decode method_5_code 13 = .ok (.iload_n 3, 1) := by decide +kernel
theorem d_m5_14 : decode method_5_code 14 = .ok (.ifCond .eq 15, 3) := by decide +kernel
theorem d_m5_29 : decode method_5_code 29 = .ok (.iconst 0, 1) := by decide +kernel
theorem d_m5_30 : decode method_5_code 30 = .ok (.ireturn, 1) := by decide +kernel
theorem d_m5_31 : decode method_5_code 31 = .ok (.iload_n 0, 1) := by decide +kernel
theorem d_m5_32 : decode method_5_code 32 = .ok (.invokestatic 18, 3) := by decide +kernel
theorem d_m5_35 : decode method_5_code 35 = .ok (.ifCond .eq 20, 3) := by decide +kernel
theorem d_m5_38 : decode method_5_code 38 = .ok (.iload_n 1, 1) := by decide +kernel
theorem d_m5_39 : decode method_5_code 39 = .ok (.ifCond .eq 14, 3) := by decide +kernel
theorem d_m5_53 : decode method_5_code 53 = .ok (.iconst 0, 1) := by decide +kernel
theorem d_m5_54 : decode method_5_code 54 = .ok (.ireturn, 1) := by decide +kernel
theorem d_m5_55 : decode method_5_code 55 = .ok (.iconst 1, 1) := by decide +kernel
theorem d_m5_56 : decode method_5_code 56 = .ok (.ireturn, 1) := by decide +kernel
theorem pd__CZCZC_Z_1117 : parseMethodDescriptor "(CZCZC)Z" = some ⟨[.char, .boolean, .char, .boolean, .char], some .boolean⟩ := by decide +kernel
theorem d_j42_m56_0 : decode jdk_42_method_56_code 0 = .ok (.aload_n 0, 1) := by decide +kernel
theorem d_j42_m154_0 : decode jdk_42_method_154_code 0 = .ok (.getstatic 38, 3) := by decide +kernel
theorem d_j42_m154_3 : decode jdk_42_method_154_code 3 = .ok (.ifCond .eq 14, 3) := by decide +kernel
theorem d_j42_m154_6 : decode jdk_42_method_154_code 6 = .ok (.aload_n 0, 1) := by decide +kernel
theorem d_j42_m154_7 : decode jdk_42_method_154_code 7 = .ok (.getfield 15, 3) := by decide +kernel
theorem d_j42_m154_10 : decode jdk_42_method_154_code 10 = .ok (.ifCond .ne 7, 3) := by decide +kernel
theorem d_j42_m154_17 : decode jdk_42_method_154_code 17 = .ok (.iconst 0, 1) := by decide +kernel
theorem d_j42_m154_18 : decode jdk_42_method_154_code 18 = .ok (.ireturn, 1) := by decide +kernel
theorem pd___Z_8338 : parseMethodDescriptor "()Z" = some ⟨[], some .boolean⟩ := by decide +kernel
theorem d_j42_m56_1 : decode jdk_42_method_56_code 1 = .ok (.invokevirtual 492, 3) := by decide +kernel
theorem d_j42_m56_4 : decode jdk_42_method_56_code 4 = .ok (.ifCond .eq 12, 3) := by decide +kernel
theorem d_j42_m56_16 : decode jdk_42_method_56_code 16 = .ok (.aload_n 0, 1) := by decide +kernel
theorem d_j42_m56_17 : decode jdk_42_method_56_code 17 = .ok (.getfield 9, 3) := by decide +kernel
theorem d_j42_m56_20 : decode jdk_42_method_56_code 20 = .ok (.iload_n 1, 1) := by decide +kernel
theorem d_j52_m83_0 : decode jdk_52_method_83_code 0 = .ok (.iload_n 1, 1) := by decide +kernel
theorem d_j52_m83_1 : decode jdk_52_method_83_code 1 = .ok (.aload_n 0, 1) := by decide +kernel
theorem d_j52_m91_0 : decode jdk_52_method_91_code 0 = .ok (.iload_n 0, 1) := by decide +kernel
theorem d_j52_m91_1 : decode jdk_52_method_91_code 1 = .ok (.aload_n 1, 1) := by decide +kernel
theorem d_j52_m6_0 : decode jdk_52_method_6_code 0 = .ok (.aload_n 0, 1) := by decide +kernel
theorem d_j52_m6_1 : decode jdk_52_method_6_code 1 = .ok (.arraylength, 1) := by decide +kernel
theorem d_j52_m6_2 : decode jdk_52_method_6_code 2 = .ok (.iconst 1, 1) := by decide +kernel
theorem d_j52_m6_3 : decode jdk_52_method_6_code 3 = .ok (.ishr, 1) := by decide +kernel
theorem d_j52_m6_4 : decode jdk_52_method_6_code 4 = .ok (.ireturn, 1) := by decide +kernel
theorem pd___B_I_9928 : parseMethodDescriptor "([B)I" = some ⟨[(.array .byte)], some .int⟩ := by decide +kernel
theorem d_j52_m91_2 : decode jdk_52_method_91_code 2 = .ok (.invokestatic 48, 3) := by decide +kernel
theorem d_j42_m155_0 : decode jdk_42_method_155_code 0 = .ok (.iload_n 0, 1) := by decide +kernel
theorem d_j42_m155_1 : decode jdk_42_method_155_code 1 = .ok (.iload_n 1, 1) := by decide +kernel
theorem d_j42_m155_2 : decode jdk_42_method_155_code 2 = .ok (.getstatic 1053, 3) := by decide +kernel
theorem d_j41_m11_0 : decode jdk_41_method_11_code 0 = .ok (.iload_n 0, 1) := by decide +kernel
theorem d_j41_m11_1 : decode jdk_41_method_11_code 1 = .ok (.ifCond .lt 8, 3) := by decide +kernel
theorem d_j41_m11_4 : decode jdk_41_method_11_code 4 = .ok (.iload_n 0, 1) := by decide +kernel
theorem d_j41_m11_5 : decode jdk_41_method_11_code 5 = .ok (.iload_n 1, 1) := by decide +kernel
theorem d_j41_m11_6 : decode jdk_41_method_11_code 6 = .ok (.if_icmp .lt 10, 3) := by decide +kernel
theorem d_j41_m11_16 : decode jdk_41_method_11_code 16 = .ok (.iload_n 0, 1) := by decide +kernel
theorem d_j41_m11_17 : decode jdk_41_method_11_code 17 = .ok (.ireturn, 1) := by decide +kernel
theorem pn_Preconditions_68 : plainName "jdk/internal/util/Preconditions" = true := by first | (simp [plainName, overriddenIn]; done) | decide +kernel
theorem pd__IILjava_util_function_BiFunction__I_3570 : parseMethodDescriptor "(IILjava/util/function/BiFunction;)I" = some ⟨[.int, .int, (.object "java/util/function/BiFunction")], some .int⟩ := by decide +kernel
theorem d_j42_m155_5 : decode jdk_42_method_155_code 5 = .ok (.invokestatic 1059, 3) := by decide +kernel
theorem d_j42_m155_8 : decode jdk_42_method_155_code 8 = .ok (.pop, 1) := by decide +kernel
theorem d_j42_m155_9 : decode jdk_42_method_155_code 9 = .ok (.return_, 1) := by decide +kernel
theorem pd__II_V_433 : parseMethodDescriptor "(II)V" = some ⟨[.int, .int], none⟩ := by decide +kernel
theorem d_j52_m91_5 : decode jdk_52_method_91_code 5 = .ok (.invokestatic 414, 3) := by decide +kernel
theorem d_j52_m91_8 : decode jdk_52_method_91_code 8 = .ok (.return_, 1) := by decide +kernel
theorem pd__I_B_V_2323 : parseMethodDescriptor "(I[B)V" = some ⟨[.int, (.array .byte)], none⟩ := by decide +kernel
theorem d_j52_m83_2 : decode jdk_52_method_83_code 2 = .ok (.invokestatic 67, 3) := by decide +kernel
theorem d_j52_m83_5 : decode jdk_52_method_83_code 5 = .ok (.aload_n 0, 1) := by decide +kernel
theorem d_j52_m83_6 : decode jdk_52_method_83_code 6 = .ok (.iload_n 1, 1) := by decide +kernel
theorem d_j52_m83_7 : decode jdk_52_method_83_code 7 = .ok (.invokestatic 71, 3) := by decide +kernel
theorem d_j52_m83_10 : decode jdk_52_method_83_code 10 = .ok (.ireturn, 1) := by decide +kernel
theorem d_j42_m56_21 : decode jdk_42_method_56_code 21 = .ok (.invokestatic 498, 3) := by decide +kernel
theorem d_j42_m56_24 : decode jdk_42_method_56_code 24 = .ok (.ireturn, 1) := by decide +kernel
theorem d_p6_m2_10 : decode prog_6_method_2_code 10 = .ok (.aload_n 0, 1) := by decide +kernel
theorem d_p6_m2_11 : decode prog_6_method_2_code 11 = .ok (.iload_n 1, 1) := by decide +kernel
theorem d_p6_m2_12 : decode prog_6_method_2_code 12 = .ok (.invokevirtual 13, 3) := by decide +kernel
theorem d_p6_m2_15 : decode prog_6_method_2_code 15 = .ok (.istore_n 2, 1) := by decide +kernel
theorem d_p6_m2_16 : decode prog_6_method_2_code 16 = .ok (.iload_n 2, 1) := by decide +kernel
theorem d_p6_m2_17 : decode prog_6_method_2_code 17 = .ok (.ifCond .ne 5, 3) := by decide +kernel
theorem d_p6_m2_20 : decode prog_6_method_2_code 20 = .ok (.iconst 0, 1) := by decide +kernel
theorem d_p6_m2_21 : decode prog_6_method_2_code 21 = .ok (.ireturn, 1) := by decide +kernel
theorem d_p6_m2_22 : decode prog_6_method_2_code 22 = .ok (.iload_n 2, 1) := by decide +kernel
theorem d_p6_m2_23 : decode prog_6_method_2_code 23 = .ok (.invokestatic 17, 3) := by decide +kernel
theorem d_p6_m2_26 : decode prog_6_method_2_code 26 = .ok (.ifCond .eq 32, 3) := by decide +kernel
theorem d_p6_m2_29 : decode prog_6_method_2_code 29 = .ok (.iload_n 1, 1) := by decide +kernel
theorem d_p6_m2_30 : decode prog_6_method_2_code 30 = .ok (.iconst 1, 1) := by decide +kernel
theorem d_p6_m2_31 : decode prog_6_method_2_code 31 = .ok (.iadd, 1) := by decide +kernel
theorem d_p6_m2_32 : decode prog_6_method_2_code 32 = .ok (.aload_n 0, 1) := by decide +kernel
theorem d_p6_m2_33 : decode prog_6_method_2_code 33 = .ok (.invokevirtual 7, 3) := by decide +kernel
theorem d_p6_m2_36 : decode prog_6_method_2_code 36 = .ok (.if_icmp .ge 22, 3) := by decide +kernel
theorem d_p6_m2_58 : decode prog_6_method_2_code 58 = .ok (.iload_n 2, 1) := by decide +kernel
theorem d_p6_m2_59 : decode prog_6_method_2_code 59 = .ok (.invokestatic 26, 3) := by decide +kernel
theorem d_p6_m2_62 : decode prog_6_method_2_code 62 = .ok (.ifCond .eq 5, 3) := by decide +kernel
theorem d_p6_m2_65 : decode prog_6_method_2_code 65 = .ok (.iconst 0, 1) := by decide +kernel
theorem d_p6_m2_66 : decode prog_6_method_2_code 66 = .ok (.ireturn, 1) := by decide +kernel
theorem d_p6_m2_67 : decode prog_6_method_2_code 67 = .ok (.iinc 1 1, 3) := by decide +kernel
theorem d_p6_m2_70 : decode prog_6_method_2_code 70 = .ok (.goto (-68), 3) := by decide +kernel
theorem d_j52_m21_26 : decode jdk_52_method_21_code 26 = .ok (.aload_n 2, 1) := by decide +kernel
theorem d_j52_m21_27 : decode jdk_52_method_21_code 27 = .ok (.iload_n 3, 1) := by decide +kernel
theorem d_j52_m21_28 : decode jdk_52_method_21_code 28 = .ok (.iload 6, 2) := by decide +kernel
theorem d_j52_m21_30 : decode jdk_52_method_21_code 30 = .ok (.i2b, 1) := by decide +kernel
theorem d_j52_m21_31 : decode jdk_52_method_21_code 31 = .ok (.bastore, 1) := by decide +kernel
theorem d_j52_m21_32 : decode jdk_52_method_21_code 32 = .ok (.iinc 1 1, 3) := by decide +kernel
theorem d_j52_m21_35 : decode jdk_52_method_21_code 35 = .ok (.iinc 3 1, 3) := by decide +kernel
theorem d_j52_m21_38 : decode jdk_52_method_21_code 38 = .ok (.iinc 5 1, 3) := by decide +kernel
theorem d_j52_m21_41 : decode jdk_52_method_21_code 41 = .ok (.goto (-38), 3) := by decide +kernel
theorem d_j52_m21_44 : decode jdk_52_method_21_code 44 = .ok (.iload 4, 2) := by decide +kernel
theorem d_j52_m21_46 : decode jdk_52_method_21_code 46 = .ok (.ireturn, 1) := by decide +kernel
theorem d_j52_m16_57 : decode jdk_52_method_16_code 57 = .ok (.aload_n 3, 1) := by decide +kernel
theorem d_j52_m16_58 : decode jdk_52_method_16_code 58 = .ok (.areturn, 1) := by decide +kernel
theorem d_j42_m154_13 : decode jdk_42_method_154_code 13 = .ok (.iconst 1, 1) := by decide +kernel
theorem d_j42_m154_14 : decode jdk_42_method_154_code 14 = .ok (.goto 4, 3) := by decide +kernel
theorem d_j42_m56_7 : decode jdk_42_method_56_code 7 = .ok (.aload_n 0, 1) := by decide +kernel
theorem d_j42_m56_8 : decode jdk_42_method_56_code 8 = .ok (.getfield 9, 3) := by decide +kernel
theorem d_j42_m56_11 : decode jdk_42_method_56_code 11 = .ok (.iload_n 1, 1) := by decide +kernel
theorem d_j43_m2_0 : decode jdk_43_method_2_code 0 = .ok (.iload_n 1, 1) := by decide +kernel
theorem d_j43_m2_1 : decode jdk_43_method_2_code 1 = .ok (.aload_n 0, 1) := by decide +kernel
theorem d_j43_m2_2 : decode jdk_43_method_2_code 2 = .ok (.arraylength, 1) := by decide +kernel
theorem d_j43_m2_3 : decode jdk_43_method_2_code 3 = .ok (.invokestatic 9, 3) := by decide +kernel
theorem d_j43_m2_6 : decode jdk_43_method_2_code 6 = .ok (.aload_n 0, 1) := by decide +kernel
theorem d_j43_m2_7 : decode jdk_43_method_2_code 7 = .ok (.iload_n 1, 1) := by decide +kernel
theorem d_j43_m2_8 : decode jdk_43_method_2_code 8 = .ok (.baload, 1) := by decide +kernel
theorem d_j43_m2_9 : decode jdk_43_method_2_code 9 = .ok (.sipush 255, 3) := by decide +kernel
theorem d_j43_m2_12 : decode jdk_43_method_2_code 12 = .ok (.iand, 1) := by decide +kernel
theorem d_j43_m2_13 : decode jdk_43_method_2_code 13 = .ok (.i2c, 1) := by decide +kernel
theorem d_j43_m2_14 : decode jdk_43_method_2_code 14 = .ok (.ireturn, 1) := by decide +kernel
theorem pn_StringLatin1_654 : plainName "java/lang/StringLatin1" = true := by first | (simp [plainName, overriddenIn]; done) | decide +kernel
theorem d_j42_m56_12 : decode jdk_42_method_56_code 12 = .ok (.invokestatic 495, 3) := by decide +kernel
theorem d_j42_m56_15 : decode jdk_42_method_56_code 15 = .ok (.ireturn, 1) := by decide +kernel
theorem d_m5_17 : decode method_5_code 17 = .ok (.iload 4, 2) := by decide +kernel
theorem d_m5_19 : decode method_5_code 19 = .ok (.invokestatic 18, 3) := by decide +kernel
theorem d_m5_22 : decode method_5_code 22 = .ok (.ifCond .eq 7, 3) := by decide +kernel
theorem d_m5_25 : decode method_5_code 25 = .ok (.iconst 1, 1) := by decide +kernel
theorem d_m5_26 : decode method_5_code 26 = .ok (.goto 4, 3) := by decide +kernel
theorem d_p6_m2_39 : decode prog_6_method_2_code 39 = .ok (.aload_n 0, 1) := by decide +kernel
theorem d_p6_m2_40 : decode prog_6_method_2_code 40 = .ok (.iload_n 1, 1) := by decide +kernel
theorem d_p6_m2_41 : decode prog_6_method_2_code 41 = .ok (.iconst 1, 1) := by decide +kernel
theorem d_p6_m2_42 : decode prog_6_method_2_code 42 = .ok (.iadd, 1) := by decide +kernel
theorem d_p6_m2_43 : decode prog_6_method_2_code 43 = .ok (.invokevirtual 13, 3) := by decide +kernel
theorem d_p6_m2_46 : decode prog_6_method_2_code 46 = .ok (.invokestatic 23, 3) := by decide +kernel
theorem d_p6_m2_49 : decode prog_6_method_2_code 49 = .ok (.ifCond .eq 9, 3) := by decide +kernel
theorem d_p6_m2_52 : decode prog_6_method_2_code 52 = .ok (.iinc 1 1, 3) := by decide +kernel
theorem d_p6_m2_55 : decode prog_6_method_2_code 55 = .ok (.goto 12, 3) := by decide +kernel
theorem d_m5_42 : decode method_5_code 42 = .ok (.iload_n 2, 1) := by decide +kernel
theorem d_m5_43 : decode method_5_code 43 = .ok (.invokestatic 12, 3) := by decide +kernel
theorem d_m5_46 : decode method_5_code 46 = .ok (.ifCond .eq 7, 3) := by decide +kernel
theorem d_m5_49 : decode method_5_code 49 = .ok (.iconst 1, 1) := by decide +kernel
theorem d_m5_50 : decode method_5_code 50 = .ok (.goto 4, 3) := by decide +kernel
theorem ct_si4_0 (l : Launch) (Z : State) (a0 : Array Value) (hw : ∀ d ∈ tables_1, d.before a0 Z = true) (zc : Int32) (fm : Value) (G : Gl Z zc fm) (a1 : Addr) (ac : Addr) (h0 : Heap) (n0 : Nat) (O : Old Z n0 h0) (E_a1 : Exa Z h0 a1 "java/lang/String") (F_a1_value : Fld Z h0 a1 "java/lang/String" "value" "[B" .null) (F_a1_coder : Fld Z h0 a1 "java/lang/String" "coder" "B" (.int 0)) (g_a1 : n0 ≤ a1) (hh0 : Jvm.Lit.constHeld Z "java/lang/String" 7) (hcw : Jvm.Lit.compactW.before a0 Z = true) :
    CtV l (⟨"java/lang/String", "<init>", "([CIILjava/lang/Void;)V"⟩ : MethodName) jdk_42_method_149_code 6 none ({ frames := 1, cells := 2, slots := 4, locals := 12 } : Room) Z #[(.ref a1), (.ref ac), (.int 0), (.int 0), .null] h0 (fun v h L => ∃ b kb, v = none ∧ Fr n0 L ∧ Keep h0 h [a1] ∧ Fld Z h a1 "java/lang/String" "value" "[B" (.ref b) ∧ Fld Z h a1 "java/lang/String" "coder" "B" (.int 0) ∧ Arv Z h b kb .byte (0 : Int32) [] (.int 0)) := by
  refine CtV.of (plainFor_of_name pn_String_837) ?_
  intro p e s vm0 m below meth c T0 X0 hx hby hml hown hnm hret hlk hZ e0 hS hk hh hI
  have N0 := Fr.nil n0
  have G' := G
  obtain ⟨S_CS, hzc, S_FM, hfm, S_AD, S_HI, S_LO⟩ := G'
  refine Go.cast (g' := mkF m 0 #[.val (.ref a1), .val (.ref ac), .val (.int 0), .val (.int 0), .val .null, .unset] []) (by first | (simp [entryFrame, mkF, argsToLocals, Value.category]; done) | rfl) ?_
  have K : Keep h0 h0 [a1] := Keep.refl _ _
  refine Go.st (g' := (mkF m 1 #[.val (.ref a1), .val (.ref ac), .val (.int 0), .val (.int 0), .val .null, .unset] [(.ref a1)])) (fun t k => ?_) ?_
  · refine XS.aloadN X0.here hx rfl (hb hby d_j42_m149_0) rfl rfl ?_
    exact k
  refine Go.initO X0 hx hZ hown (wd hw 17 rfl) (wd hw 18 rfl) (wd hw 19 rfl) e0 (by rw [hml]; rfl) (hb hby d_j42_m149_1) (by decide) (W := 0) rfl (by decide) ?_
  intro T1 X1 e1
  refine Go.st (g' := (mkF m 9 #[.val (.ref a1), .val (.ref ac), .val (.int 0), .val (.int 0), .val .null, .unset] [(.ref a1)])) (fun t k => ?_) ?_
  · refine XS.iloadN X1.here hx rfl (hb hby d_j42_m149_4) rfl ?_
    refine XS.ifNo X1.here hx rfl (hb hby d_j42_m149_5) rfl ((if0 _ _).trans (teq (by decide : (0 : Int32) = (0 : Int32))).2) ?_
    refine XS.aloadN X1.here hx rfl (hb hby d_j42_m149_8) rfl rfl ?_
    exact k
  refine Go.ldcE X1 hx hZ hown (wd hw 90 rfl) (own_wS hw) e1 hS hk (fun b cl q => hh ▸ O.2.2 b cl q) hI hh0 hcw (hb hby d_j42_m149_9) (by decide) (by decide) ?_
  intro a2 T2 h2 vm2 k2 bb kbb X2 e2 E2 hS hk hZ hown E_l F_l_coder F_l_value V_bb hL
  replace E_a1 := E_a1.ext E2
  replace F_a1_value := F_a1_value.ext E2
  replace F_a1_coder := F_a1_coder.ext E2
  replace O := O.ext E2
  replace K := K.ext E2
  have ne_l : a2 ≠ a1 := fun q => (Fld.ne F_a1_value F_l_value (by simp)) q.symm
  have ne_b : bb ≠ a1 := fun q => ne_arv_exa V_bb (q ▸ E_a1) (wd hw 7 rfl)
  show Go p e below _ T2 (mkF m 11 #[.val (.ref a1), .val (.ref ac), .val (.int 0), .val (.int 0), .val .null, .unset] [(.ref a2), (.ref a1)])
  refine Go.getF X2 hx hZ hown (wd hw 34 rfl) Via.refl e2 F_l_value (hb hby d_j42_m149_11) ?_
  intro T3 X3 e3
  show Go p e below _ T3 (mkF m 14 #[.val (.ref a1), .val (.ref ac), .val (.int 0), .val (.int 0), .val .null, .unset] [(.ref bb), (.ref a1)])
  refine Go.putF X3 hx hZ hown (wd hw 34 rfl) Via.refl e3 F_a1_value E_a1 (Or.inr ⟨(wd hw 35 rfl), rfl, hnm⟩) (wd hw 7 rfl) (ty := (.array .byte)) (by decide) rfl rfl (hb hby d_j42_m149_14) ?_
  intro T4 h4 X4 e4 W4
  replace E_a1 := E_a1.wr W4
  replace F_a1_value := F_a1_value.same W4
  replace F_a1_coder := F_a1_coder.other W4 (Or.inr (slot_ne (a0 := a0) (Or.inr (wd hw 33 rfl)) (Or.inr (wd hw 35 rfl)) (by decide) (t := .byte) (t' := (.array .byte)) (by decide) (by decide)))
  replace F_l_value := F_l_value.other W4 (Or.inl ne_l)
  replace F_l_coder := F_l_coder.other W4 (Or.inl ne_l)
  replace V_bb := V_bb.other W4 ne_b
  replace O := O.wr W4 g_a1
  have N4 := Fr.snoc X4 N0 g_a1
  replace K := K.wr W4 (Or.inl (List.mem_of_getElem? (i := 0) rfl))
  replace hk := Nat.le_trans hk (Nat.le_of_eq W4.size.symm)
  refine Go.st (g' := (mkF m 18 #[.val (.ref a1), .val (.ref ac), .val (.int 0), .val (.int 0), .val .null, .unset] [(.ref a1)])) (fun t k => ?_) ?_
  · refine XS.aloadN X4.here hx rfl (hb hby d_j42_m149_17) rfl rfl ?_
    exact k
  refine Go.ldcAg X4 hx hZ hown (wd hw 90 rfl) hL (hb hby d_j42_m149_18) ?_
  show Go p e below _ T4 (mkF m 20 #[.val (.ref a1), .val (.ref ac), .val (.int 0), .val (.int 0), .val .null, .unset] [(.ref a2), (.ref a1)])
  refine Go.getF X4 hx hZ hown (wd hw 32 rfl) Via.refl e4 F_l_coder (hb hby d_j42_m149_20) ?_
  intro T6 X6 e6
  show Go p e below _ T6 (mkF m 23 #[.val (.ref a1), .val (.ref ac), .val (.int 0), .val (.int 0), .val .null, .unset] [(.int 0), (.ref a1)])
  refine Go.putF X6 hx hZ hown (wd hw 32 rfl) Via.refl e6 F_a1_coder E_a1 (Or.inr ⟨(wd hw 33 rfl), rfl, hnm⟩) (wd hw 7 rfl) (ty := .byte) (by decide) rfl rfl (hb hby d_j42_m149_23) ?_
  intro T7 h7 X7 e7 W7
  replace E_a1 := E_a1.wr W7
  replace F_a1_value := F_a1_value.other W7 (Or.inr (slot_ne (a0 := a0) (Or.inr (wd hw 35 rfl)) (Or.inr (wd hw 33 rfl)) (by decide) (t := (.array .byte)) (t' := .byte) (by decide) (by decide)))
  replace F_a1_coder := F_a1_coder.same W7
  replace F_l_value := F_l_value.other W7 (Or.inl ne_l)
  replace F_l_coder := F_l_coder.other W7 (Or.inl ne_l)
  replace V_bb := V_bb.other W7 ne_b
  replace O := O.wr W7 g_a1
  have N7 := Fr.snoc X7 N4 g_a1
  replace K := K.wr W7 (Or.inl (List.mem_of_getElem? (i := 0) rfl))
  replace hk := Nat.le_trans hk (Nat.le_of_eq W7.size.symm)
  show Go p e below _ T7 (mkF m 26 #[.val (.ref a1), .val (.ref ac), .val (.int 0), .val (.int 0), .val .null, .unset] [])
  refine Go.retVW X7 hx hlk hret (hb hby d_j42_m149_26) (by decide) (by decide) e7 hS hk ?_
  exact ⟨bb, kbb, rfl, N7, K, F_a1_value, F_a1_coder, V_bb⟩
theorem ct_si1_0 (l : Launch) (Z : State) (a0 : Array Value) (hw : ∀ d ∈ tables_1, d.before a0 Z = true) (zc : Int32) (fm : Value) (G : Gl Z zc fm) (a1 : Addr) (ac : Addr) (kc : ClassId) (h0 : Heap) (n0 : Nat) (O : Old Z n0 h0) (E_a1 : Exa Z h0 a1 "java/lang/String") (F_a1_value : Fld Z h0 a1 "java/lang/String" "value" "[B" .null) (F_a1_coder : Fld Z h0 a1 "java/lang/String" "coder" "B" (.int 0)) (g_a1 : n0 ≤ a1) (V_c : Arv Z h0 ac kc .char (0 : Int32) [] (.int 0)) (ne_a1_ac : a1 ≠ ac) (hh0 : Jvm.Lit.constHeld Z "java/lang/String" 7) (hcw : Jvm.Lit.compactW.before a0 Z = true) :
    CtV l (⟨"java/lang/String", "<init>", "([C)V"⟩ : MethodName) jdk_42_method_3_code 2 none ({ frames := 2, cells := 2, slots := 4, locals := 29 } : Room) Z #[(.ref a1), (.ref ac)] h0 (fun v h L => ∃ b kb, v = none ∧ Fr n0 L ∧ Keep h0 h [a1] ∧ Fld Z h a1 "java/lang/String" "value" "[B" (.ref b) ∧ Fld Z h a1 "java/lang/String" "coder" "B" (.int 0) ∧ Arv Z h b kb .byte (0 : Int32) [] (.int 0)) := by
  refine CtV.of (plainFor_of_name pn_String_837) ?_
  intro p e s vm0 m below meth c T0 X0 hx hby hml hown hnm hret hlk hZ e0 hS hk hh hI
  have N0 := Fr.nil n0
  have G' := G
  obtain ⟨S_CS, hzc, S_FM, hfm, S_AD, S_HI, S_LO⟩ := G'
  refine Go.cast (g' := mkF m 0 #[.val (.ref a1), .val (.ref ac)] []) (by first | (simp [entryFrame, mkF, argsToLocals, Value.category]; done) | rfl) ?_
  have K : Keep h0 h0 [a1] := Keep.refl _ _
  refine Go.st (g' := (mkF m 4 #[.val (.ref a1), .val (.ref ac)] [(.ref ac), (.int 0), (.ref ac), (.ref a1)])) (fun t k => ?_) ?_
  · refine XS.aloadN X0.here hx rfl (hb hby d_j42_m3_0) rfl rfl ?_
    refine XS.aloadN X0.here hx rfl (hb hby d_j42_m3_1) rfl rfl ?_
    refine XS.iconst X0.here hx rfl (hb hby d_j42_m3_2) ?_
    refine XS.aloadN X0.here hx rfl (hb hby d_j42_m3_3) rfl rfl ?_
    exact k
  refine Go.alenV X0 hx hZ e0 V_c (hb hby d_j42_m3_4) ?_
  refine Go.st (g' := (mkF m 6 #[.val (.ref a1), .val (.ref ac)] [.null, (.int 0), (.int 0), (.ref ac), (.ref a1)])) (fun t k => ?_) ?_
  · refine XS.aconstNull X0.here hx rfl (hb hby d_j42_m3_5) ?_
    exact k
  refine Go.callCV X0 hx hZ (W := 0) (argsL := [(.ref ac), (.int 0), (.int 0), .null]) (rest := []) hown rfl (wd hw 13 rfl) (wd hw 14 rfl) (wd hw 8 rfl) (wd hw 16 rfl) (by decide) (ct_si4_0 l Z a0 hw zc fm G a1 ac h0 n0 O E_a1 F_a1_value F_a1_coder g_a1 hh0 hcw) e0 hS hk hI (by rw [hml]; rfl) (lenOf pd___CIILjava_lang_Void__V_1319 rfl) rfl rfl (hb hby d_j42_m3_6) ?_
  intro v1 T1 h1 L1 vm1 k1 X1 e1 q1 hS hk hZ hown
  obtain ⟨bb, kbb, rfl, N1, K1, Fv1, Fc1, V_bb⟩ := q1
  replace N1 := Fr.app N0 N1
  replace E_a1 := E_a1.keep K1
  clear F_a1_value
  clear F_a1_coder
  replace V_c := V_c.keep K1 (ninS (Ne.symm ne_a1_ac) nin0)
  replace O := O.keep K1 (allS g_a1 all0)
  replace K := K.trans K1 (allS (Or.inl (List.mem_of_getElem? (i := 0) rfl)) all0)
  show Go p e below _ T1 (mkF m 9 #[.val (.ref a1), .val (.ref ac)] [])
  refine Go.retVW X1 hx hlk hret (hb hby d_j42_m3_9) (by decide) (by decide) e1 hS hk ?_
  exact ⟨bb, kbb, rfl, N1, K, Fv1, Fc1, V_bb⟩
theorem ct_ihs (l : Launch) (Z : State) (a0 : Array Value) (hw : ∀ d ∈ tables_1, d.before a0 Z = true) (y0 : Int32) (r : Int32) (h0 : Heap) (n0 : Nat) (O : Old Z n0 h0) (hr : r = if hiB y0 = true then 1 else 0) :
    Ct l (⟨"java/lang/Character", "isHighSurrogate", "(C)Z"⟩ : MethodName) jdk_89_method_14_code 1 (some .boolean) ({ frames := 0, cells := 0, slots := 0, locals := 0 } : Room) Z #[(.int y0)] h0 (fun v h L => v = some (.int r) ∧ Fr n0 L ∧ h0 = h) := by
  refine Ct.of (plainFor_of_name pn_Character_130) ?_
  intro p e s m below meth c T0 X0 hx hby hml hown hnm hret hlk hZ e0
  have N0 := Fr.nil n0
  refine Go.cast (g' := mkF m 0 #[.val (.int y0)] []) (by first | (simp [entryFrame, mkF, argsToLocals, Value.category]; done) | rfl) ?_
  refine Go.st (g' := (mkF m 3 #[.val (.int y0)] [(.int 55296), (.int y0)])) (fun t k => ?_) ?_
  · refine XS.iloadN X0.here hx rfl (hb hby d_j89_m14_0) rfl ?_
    refine X0.ldcInt hx hown (mvT hZ (wd hw 86 rfl)) (g := (mkF m 1 #[.val (.int y0)] [(.int y0)])) rfl (hb hby d_j89_m14_1) _ ?_
    exact k
  by_cases hy1 : y0 < (55296 : Int32)
  · skip
    refine Go.st (g' := (mkF m 17 #[.val (.int y0)] [(.int 0)])) (fun t k => ?_) ?_
    · refine XS.icmpYes X0.here hx rfl (pc0 := 3) (pc' := 16) rfl (hb hby d_j89_m14_3) rfl (tlt hy1).1 (by decide) (by decide) ?_
      refine XS.iconst X0.here hx rfl (hb hby d_j89_m14_16) ?_
      exact k
    refine Go.retZ X0 hx hlk hret (Or.inl rfl) (hb hby d_j89_m14_17) (by decide) (by decide) e0 ?_
    exact ⟨by rw [hr, own_ihs_lt hy1], N0, rfl⟩
  · skip
    refine Go.st (g' := (mkF m 9 #[.val (.int y0)] [(.int 56320), (.int y0)])) (fun t k => ?_) ?_
    · refine XS.icmpNo X0.here hx rfl (hb hby d_j89_m14_3) rfl (flt hy1).1 ?_
      refine XS.iloadN X0.here hx rfl (hb hby d_j89_m14_6) rfl ?_
      refine X0.ldcInt hx hown (mvT hZ (wd hw 124 rfl)) (g := (mkF m 7 #[.val (.int y0)] [(.int y0)])) rfl (hb hby d_j89_m14_7) _ ?_
      exact k
    by_cases hy2 : y0 < (56320 : Int32)
    · skip
      refine Go.st (g' := (mkF m 17 #[.val (.int y0)] [(.int 1)])) (fun t k => ?_) ?_
      · refine XS.icmpNo X0.here hx rfl (hb hby d_j89_m14_9) rfl (tlt hy2).2.1 ?_
        refine XS.iconst X0.here hx rfl (hb hby d_j89_m14_12) ?_
        refine XS.goto X0.here hx rfl (pc0 := 13) (pc' := 17) rfl (hb hby d_j89_m14_13) (by decide) (by decide) ?_
        exact k
      refine Go.retZ X0 hx hlk hret (Or.inr rfl) (hb hby d_j89_m14_17) (by decide) (by decide) e0 ?_
      exact ⟨by rw [hr, own_ihs_y hy1 hy2], N0, rfl⟩
    · skip
      refine Go.st (g' := (mkF m 17 #[.val (.int y0)] [(.int 0)])) (fun t k => ?_) ?_
      · refine XS.icmpYes X0.here hx rfl (pc0 := 9) (pc' := 16) rfl (hb hby d_j89_m14_9) rfl (flt hy2).2.1 (by decide) (by decide) ?_
        refine XS.iconst X0.here hx rfl (hb hby d_j89_m14_16) ?_
        exact k
      refine Go.retZ X0 hx hlk hret (Or.inl rfl) (hb hby d_j89_m14_17) (by decide) (by decide) e0 ?_
      exact ⟨by rw [hr, own_ihs_n hy1 hy2], N0, rfl⟩
theorem ct_ils (l : Launch) (Z : State) (a0 : Array Value) (hw : ∀ d ∈ tables_1, d.before a0 Z = true) (y0 : Int32) (r : Int32) (h0 : Heap) (n0 : Nat) (O : Old Z n0 h0) (hr : r = if loB y0 = true then 1 else 0) :
    Ct l (⟨"java/lang/Character", "isLowSurrogate", "(C)Z"⟩ : MethodName) jdk_89_method_15_code 1 (some .boolean) ({ frames := 0, cells := 0, slots := 0, locals := 0 } : Room) Z #[(.int y0)] h0 (fun v h L => v = some (.int r) ∧ Fr n0 L ∧ h0 = h) := by
  refine Ct.of (plainFor_of_name pn_Character_130) ?_
  intro p e s m below meth c T0 X0 hx hby hml hown hnm hret hlk hZ e0
  have N0 := Fr.nil n0
  refine Go.cast (g' := mkF m 0 #[.val (.int y0)] []) (by first | (simp [entryFrame, mkF, argsToLocals, Value.category]; done) | rfl) ?_
  refine Go.st (g' := (mkF m 3 #[.val (.int y0)] [(.int 56320), (.int y0)])) (fun t k => ?_) ?_
  · refine XS.iloadN X0.here hx rfl (hb hby d_j89_m15_0) rfl ?_
    refine X0.ldcInt hx hown (mvT hZ (wd hw 124 rfl)) (g := (mkF m 1 #[.val (.int y0)] [(.int y0)])) rfl (hb hby d_j89_m15_1) _ ?_
    exact k
  by_cases hy1 : y0 < (56320 : Int32)
  · skip
    refine Go.st (g' := (mkF m 17 #[.val (.int y0)] [(.int 0)])) (fun t k => ?_) ?_
    · refine XS.icmpYes X0.here hx rfl (pc0 := 3) (pc' := 16) rfl (hb hby d_j89_m15_3) rfl (tlt hy1).1 (by decide) (by decide) ?_
      refine XS.iconst X0.here hx rfl (hb hby d_j89_m15_16) ?_
      exact k
    refine Go.retZ X0 hx hlk hret (Or.inl rfl) (hb hby d_j89_m15_17) (by decide) (by decide) e0 ?_
    exact ⟨by rw [hr, own_ils_lt hy1], N0, rfl⟩
  · skip
    refine Go.st (g' := (mkF m 9 #[.val (.int y0)] [(.int 57344), (.int y0)])) (fun t k => ?_) ?_
    · refine XS.icmpNo X0.here hx rfl (hb hby d_j89_m15_3) rfl (flt hy1).1 ?_
      refine XS.iloadN X0.here hx rfl (hb hby d_j89_m15_6) rfl ?_
      refine X0.ldcInt hx hown (mvT hZ (wd hw 125 rfl)) (g := (mkF m 7 #[.val (.int y0)] [(.int y0)])) rfl (hb hby d_j89_m15_7) _ ?_
      exact k
    by_cases hy2 : y0 < (57344 : Int32)
    · skip
      refine Go.st (g' := (mkF m 17 #[.val (.int y0)] [(.int 1)])) (fun t k => ?_) ?_
      · refine XS.icmpNo X0.here hx rfl (hb hby d_j89_m15_9) rfl (tlt hy2).2.1 ?_
        refine XS.iconst X0.here hx rfl (hb hby d_j89_m15_12) ?_
        refine XS.goto X0.here hx rfl (pc0 := 13) (pc' := 17) rfl (hb hby d_j89_m15_13) (by decide) (by decide) ?_
        exact k
      refine Go.retZ X0 hx hlk hret (Or.inr rfl) (hb hby d_j89_m15_17) (by decide) (by decide) e0 ?_
      exact ⟨by rw [hr, own_ils_y hy1 hy2], N0, rfl⟩
    · skip
      refine Go.st (g' := (mkF m 17 #[.val (.int y0)] [(.int 0)])) (fun t k => ?_) ?_
      · refine XS.icmpYes X0.here hx rfl (pc0 := 9) (pc' := 16) rfl (hb hby d_j89_m15_9) rfl (flt hy2).2.1 (by decide) (by decide) ?_
        refine XS.iconst X0.here hx rfl (hb hby d_j89_m15_16) ?_
        exact k
      refine Go.retZ X0 hx hlk hret (Or.inl rfl) (hb hby d_j89_m15_17) (by decide) (by decide) e0 ?_
      exact ⟨by rw [hr, own_ils_n hy1 hy2], N0, rfl⟩
theorem ct_isr (l : Launch) (Z : State) (a0 : Array Value) (hw : ∀ d ∈ tables_1, d.before a0 Z = true) (y0 : Int32) (r : Int32) (h0 : Heap) (n0 : Nat) (O : Old Z n0 h0) (hr : r = if (hiB y0 || loB y0) = true then 1 else 0) :
    Ct l (⟨"java/lang/Character", "isSurrogate", "(C)Z"⟩ : MethodName) jdk_89_method_16_code 1 (some .boolean) ({ frames := 0, cells := 0, slots := 0, locals := 0 } : Room) Z #[(.int y0)] h0 (fun v h L => v = some (.int r) ∧ Fr n0 L ∧ h0 = h) := by
  refine Ct.of (plainFor_of_name pn_Character_130) ?_
  intro p e s m below meth c T0 X0 hx hby hml hown hnm hret hlk hZ e0
  have N0 := Fr.nil n0
  refine Go.cast (g' := mkF m 0 #[.val (.int y0)] []) (by first | (simp [entryFrame, mkF, argsToLocals, Value.category]; done) | rfl) ?_
  refine Go.st (g' := (mkF m 3 #[.val (.int y0)] [(.int 55296), (.int y0)])) (fun t k => ?_) ?_
  · refine XS.iloadN X0.here hx rfl (hb hby d_j89_m16_0) rfl ?_
    refine X0.ldcInt hx hown (mvT hZ (wd hw 86 rfl)) (g := (mkF m 1 #[.val (.int y0)] [(.int y0)])) rfl (hb hby d_j89_m16_1) _ ?_
    exact k
  by_cases hy1 : y0 < (55296 : Int32)
  · skip
    refine Go.st (g' := (mkF m 17 #[.val (.int y0)] [(.int 0)])) (fun t k => ?_) ?_
    · refine XS.icmpYes X0.here hx rfl (pc0 := 3) (pc' := 16) rfl (hb hby d_j89_m16_3) rfl (tlt hy1).1 (by decide) (by decide) ?_
      refine XS.iconst X0.here hx rfl (hb hby d_j89_m16_16) ?_
      exact k
    refine Go.retZ X0 hx hlk hret (Or.inl rfl) (hb hby d_j89_m16_17) (by decide) (by decide) e0 ?_
    exact ⟨by rw [hr, own_isr_lt hy1], N0, rfl⟩
  · skip
    refine Go.st (g' := (mkF m 9 #[.val (.int y0)] [(.int 57344), (.int y0)])) (fun t k => ?_) ?_
    · refine XS.icmpNo X0.here hx rfl (hb hby d_j89_m16_3) rfl (flt hy1).1 ?_
      refine XS.iloadN X0.here hx rfl (hb hby d_j89_m16_6) rfl ?_
      refine X0.ldcInt hx hown (mvT hZ (wd hw 125 rfl)) (g := (mkF m 7 #[.val (.int y0)] [(.int y0)])) rfl (hb hby d_j89_m16_7) _ ?_
      exact k
    by_cases hy2 : y0 < (57344 : Int32)
    · skip
      refine Go.st (g' := (mkF m 17 #[.val (.int y0)] [(.int 1)])) (fun t k => ?_) ?_
      · refine XS.icmpNo X0.here hx rfl (hb hby d_j89_m16_9) rfl (tlt hy2).2.1 ?_
        refine XS.iconst X0.here hx rfl (hb hby d_j89_m16_12) ?_
        refine XS.goto X0.here hx rfl (pc0 := 13) (pc' := 17) rfl (hb hby d_j89_m16_13) (by decide) (by decide) ?_
        exact k
      refine Go.retZ X0 hx hlk hret (Or.inr rfl) (hb hby d_j89_m16_17) (by decide) (by decide) e0 ?_
      exact ⟨by rw [hr, own_isr_y hy1 hy2], N0, rfl⟩
    · skip
      refine Go.st (g' := (mkF m 17 #[.val (.int y0)] [(.int 0)])) (fun t k => ?_) ?_
      · refine XS.icmpYes X0.here hx rfl (pc0 := 9) (pc' := 16) rfl (hb hby d_j89_m16_9) rfl (flt hy2).2.1 (by decide) (by decide) ?_
        refine XS.iconst X0.here hx rfl (hb hby d_j89_m16_16) ?_
        exact k
      refine Go.retZ X0 hx hlk hret (Or.inl rfl) (hb hby d_j89_m16_17) (by decide) (by decide) e0 ?_
      exact ⟨by rw [hr, own_isr_n hy1 hy2], N0, rfl⟩
theorem ct_iHi (l : Launch) (Z : State) (a0 : Array Value) (hw : ∀ d ∈ tables_1, d.before a0 Z = true) (y0 : Int32) (r : Int32) (h0 : Heap) (n0 : Nat) (O : Old Z n0 h0) (hr : r = if hiB y0 = true then 1 else 0) :
    Ct l (⟨"com/example/provenara/provenara/model/CatalogTextIsStorablePinLaw", "isHi", "(C)Z"⟩ : MethodName) method_3_code 1 (some .boolean) ({ frames := 0, cells := 0, slots := 0, locals := 0 } : Room) Z #[(.int y0)] h0 (fun v h L => v = some (.int r) ∧ Fr n0 L ∧ h0 = h) := by
  refine Ct.of (plainFor_of_name pn_CatalogTextIsStorablePinLaw_167) ?_
  intro p e s m below meth c T0 X0 hx hby hml hown hnm hret hlk hZ e0
  have N0 := Fr.nil n0
  refine Go.cast (g' := mkF m 0 #[.val (.int y0)] []) (by first | (simp [entryFrame, mkF, argsToLocals, Value.category]; done) | rfl) ?_
  refine Go.st (g' := (mkF m 3 #[.val (.int y0)] [(.int 55296), (.int y0)])) (fun t k => ?_) ?_
  · refine XS.iloadN X0.here hx rfl (hb hby d_m3_0) rfl ?_
    refine X0.ldcInt hx hown (mvT hZ (wd hw 78 rfl)) (g := (mkF m 1 #[.val (.int y0)] [(.int y0)])) rfl (hb hby d_m3_1) _ ?_
    exact k
  by_cases hy1 : y0 < (55296 : Int32)
  · skip
    refine Go.st (g' := (mkF m 17 #[.val (.int y0)] [(.int 0)])) (fun t k => ?_) ?_
    · refine XS.icmpYes X0.here hx rfl (pc0 := 3) (pc' := 16) rfl (hb hby d_m3_3) rfl (tlt hy1).1 (by decide) (by decide) ?_
      refine XS.iconst X0.here hx rfl (hb hby d_m3_16) ?_
      exact k
    refine Go.retZ X0 hx hlk hret (Or.inl rfl) (hb hby d_m3_17) (by decide) (by decide) e0 ?_
    exact ⟨by rw [hr, own_iHi_lt hy1], N0, rfl⟩
  · skip
    refine Go.st (g' := (mkF m 9 #[.val (.int y0)] [(.int 56319), (.int y0)])) (fun t k => ?_) ?_
    · refine XS.icmpNo X0.here hx rfl (hb hby d_m3_3) rfl (flt hy1).1 ?_
      refine XS.iloadN X0.here hx rfl (hb hby d_m3_6) rfl ?_
      refine X0.ldcInt hx hown (mvT hZ (wd hw 122 rfl)) (g := (mkF m 7 #[.val (.int y0)] [(.int y0)])) rfl (hb hby d_m3_7) _ ?_
      exact k
    by_cases hy2 : (56319 : Int32) < y0
    · skip
      refine Go.st (g' := (mkF m 17 #[.val (.int y0)] [(.int 0)])) (fun t k => ?_) ?_
      · refine XS.icmpYes X0.here hx rfl (pc0 := 9) (pc' := 16) rfl (hb hby d_m3_9) rfl (tlt hy2).2.2.1 (by decide) (by decide) ?_
        refine XS.iconst X0.here hx rfl (hb hby d_m3_16) ?_
        exact k
      refine Go.retZ X0 hx hlk hret (Or.inl rfl) (hb hby d_m3_17) (by decide) (by decide) e0 ?_
      exact ⟨by rw [hr, own_iHi_n hy1 hy2], N0, rfl⟩
    · skip
      refine Go.st (g' := (mkF m 17 #[.val (.int y0)] [(.int 1)])) (fun t k => ?_) ?_
      · refine XS.icmpNo X0.here hx rfl (hb hby d_m3_9) rfl (flt hy2).2.2.1 ?_
        refine XS.iconst X0.here hx rfl (hb hby d_m3_12) ?_
        refine XS.goto X0.here hx rfl (pc0 := 13) (pc' := 17) rfl (hb hby d_m3_13) (by decide) (by decide) ?_
        exact k
      refine Go.retZ X0 hx hlk hret (Or.inr rfl) (hb hby d_m3_17) (by decide) (by decide) e0 ?_
      exact ⟨by rw [hr, own_iHi_y hy1 hy2], N0, rfl⟩
theorem ct_iLo (l : Launch) (Z : State) (a0 : Array Value) (hw : ∀ d ∈ tables_1, d.before a0 Z = true) (y0 : Int32) (r : Int32) (h0 : Heap) (n0 : Nat) (O : Old Z n0 h0) (hr : r = if loB y0 = true then 1 else 0) :
    Ct l (⟨"com/example/provenara/provenara/model/CatalogTextIsStorablePinLaw", "isLo", "(C)Z"⟩ : MethodName) method_4_code 1 (some .boolean) ({ frames := 0, cells := 0, slots := 0, locals := 0 } : Room) Z #[(.int y0)] h0 (fun v h L => v = some (.int r) ∧ Fr n0 L ∧ h0 = h) := by
  refine Ct.of (plainFor_of_name pn_CatalogTextIsStorablePinLaw_167) ?_
  intro p e s m below meth c T0 X0 hx hby hml hown hnm hret hlk hZ e0
  have N0 := Fr.nil n0
  refine Go.cast (g' := mkF m 0 #[.val (.int y0)] []) (by first | (simp [entryFrame, mkF, argsToLocals, Value.category]; done) | rfl) ?_
  refine Go.st (g' := (mkF m 3 #[.val (.int y0)] [(.int 56320), (.int y0)])) (fun t k => ?_) ?_
  · refine XS.iloadN X0.here hx rfl (hb hby d_m4_0) rfl ?_
    refine X0.ldcInt hx hown (mvT hZ (wd hw 5 rfl)) (g := (mkF m 1 #[.val (.int y0)] [(.int y0)])) rfl (hb hby d_m4_1) _ ?_
    exact k
  by_cases hy1 : y0 < (56320 : Int32)
  · skip
    refine Go.st (g' := (mkF m 17 #[.val (.int y0)] [(.int 0)])) (fun t k => ?_) ?_
    · refine XS.icmpYes X0.here hx rfl (pc0 := 3) (pc' := 16) rfl (hb hby d_m4_3) rfl (tlt hy1).1 (by decide) (by decide) ?_
      refine XS.iconst X0.here hx rfl (hb hby d_m4_16) ?_
      exact k
    refine Go.retZ X0 hx hlk hret (Or.inl rfl) (hb hby d_m4_17) (by decide) (by decide) e0 ?_
    exact ⟨by rw [hr, own_iLo_lt hy1], N0, rfl⟩
  · skip
    refine Go.st (g' := (mkF m 9 #[.val (.int y0)] [(.int 57343), (.int y0)])) (fun t k => ?_) ?_
    · refine XS.icmpNo X0.here hx rfl (hb hby d_m4_3) rfl (flt hy1).1 ?_
      refine XS.iloadN X0.here hx rfl (hb hby d_m4_6) rfl ?_
      refine X0.ldcInt hx hown (mvT hZ (wd hw 123 rfl)) (g := (mkF m 7 #[.val (.int y0)] [(.int y0)])) rfl (hb hby d_m4_7) _ ?_
      exact k
    by_cases hy2 : (57343 : Int32) < y0
    · skip
      refine Go.st (g' := (mkF m 17 #[.val (.int y0)] [(.int 0)])) (fun t k => ?_) ?_
      · refine XS.icmpYes X0.here hx rfl (pc0 := 9) (pc' := 16) rfl (hb hby d_m4_9) rfl (tlt hy2).2.2.1 (by decide) (by decide) ?_
        refine XS.iconst X0.here hx rfl (hb hby d_m4_16) ?_
        exact k
      refine Go.retZ X0 hx hlk hret (Or.inl rfl) (hb hby d_m4_17) (by decide) (by decide) e0 ?_
      exact ⟨by rw [hr, own_iLo_n hy1 hy2], N0, rfl⟩
    · skip
      refine Go.st (g' := (mkF m 17 #[.val (.int y0)] [(.int 1)])) (fun t k => ?_) ?_
      · refine XS.icmpNo X0.here hx rfl (hb hby d_m4_9) rfl (flt hy2).2.2.1 ?_
        refine XS.iconst X0.here hx rfl (hb hby d_m4_12) ?_
        refine XS.goto X0.here hx rfl (pc0 := 13) (pc' := 17) rfl (hb hby d_m4_13) (by decide) (by decide) ?_
        exact k
      refine Go.retZ X0 hx hlk hret (Or.inr rfl) (hb hby d_m4_17) (by decide) (by decide) e0 ?_
      exact ⟨by rw [hr, own_iLo_y hy1 hy2], N0, rfl⟩
theorem ct_draw (l : Launch) (Z : State) (a0 : Array Value) (hw : ∀ d ∈ tables_1, d.before a0 Z = true) (x : Int32) (h0 : Heap) (n0 : Nat) (O : Old Z n0 h0)  :
    Ct l (⟨"com/example/provenara/provenara/model/CatalogTextIsStorablePinLaw", "draw", "(I)C"⟩ : MethodName) method_2_code 3 (some .char) ({ frames := 0, cells := 0, slots := 0, locals := 0 } : Room) Z #[(.int x)] h0 (fun v h L => ∃ c, v = some (.int c) ∧ Fr n0 L ∧ h0 = h ∧ 0 ≤ c.toInt ∧ c.toInt < 65536) := by
  refine Ct.of (plainFor_of_name pn_CatalogTextIsStorablePinLaw_167) ?_
  intro p e s m below meth c T0 X0 hx hby hml hown hnm hret hlk hZ e0
  have N0 := Fr.nil n0
  refine Go.cast (g' := mkF m 0 #[.val (.int x), .unset, .unset] []) (by first | (simp [entryFrame, mkF, argsToLocals, Value.category]; done) | rfl) ?_
  refine Go.st (g' := (mkF m 9 #[.val (.int x), .val (.int (x &&& (3 : Int32))), .val (.int ((x.toUInt32 >>> ((2 : Int32) &&& 31).toUInt32).toInt32))] [(.int (x &&& (3 : Int32)))])) (fun t k => ?_) ?_
  · refine XS.iloadN X0.here hx rfl (hb hby d_m2_0) rfl ?_
    refine XS.iconst X0.here hx rfl (hb hby d_m2_1) ?_
    refine XS.iand X0.here hx rfl (hb hby d_m2_2) rfl ?_
    refine XS.istoreN X0.here hx rfl (hb hby d_m2_3) rfl (l' := #[.val (.int x), .val (.int (x &&& (3 : Int32))), .unset]) rfl ?_
    refine XS.iloadN X0.here hx rfl (hb hby d_m2_4) rfl ?_
    refine XS.iconst X0.here hx rfl (hb hby d_m2_5) ?_
    refine XS.iushr X0.here hx rfl (hb hby d_m2_6) rfl ?_
    refine XS.istoreN X0.here hx rfl (hb hby d_m2_7) rfl (l' := #[.val (.int x), .val (.int (x &&& (3 : Int32))), .val (.int ((x.toUInt32 >>> ((2 : Int32) &&& 31).toUInt32).toInt32))]) rfl ?_
    refine XS.iloadN X0.here hx rfl (hb hby d_m2_8) rfl ?_
    exact k
  by_cases hy1 : (x &&& (3 : Int32)) = (0 : Int32)
  · skip
    refine Go.st (g' := (mkF m 13 #[.val (.int x), .val (.int (x &&& (3 : Int32))), .val (.int ((x.toUInt32 >>> ((2 : Int32) &&& 31).toUInt32).toInt32))] [(.int 0)])) (fun t k => ?_) ?_
    · refine XS.ifNo X0.here hx rfl (hb hby d_m2_9) rfl ((if0 _ _).trans (teq hy1).2) ?_
      refine XS.iconst X0.here hx rfl (hb hby d_m2_12) ?_
      exact k
    refine Go.retS X0 hx hlk hret (by simp) rfl (hb hby d_m2_13) (by decide) (by decide) e0 ?_
    exact ⟨_, rfl, N0, rfl, by decide, by decide⟩
  · skip
    refine Go.st (g' := (mkF m 16 #[.val (.int x), .val (.int (x &&& (3 : Int32))), .val (.int ((x.toUInt32 >>> ((2 : Int32) &&& 31).toUInt32).toInt32))] [(.int 1), (.int (x &&& (3 : Int32)))])) (fun t k => ?_) ?_
    · refine XS.ifYes X0.here hx rfl (pc0 := 9) (pc' := 14) rfl (hb hby d_m2_9) rfl ((if0 _ _).trans (feq hy1).2) (by decide) (by decide) ?_
      refine XS.iloadN X0.here hx rfl (hb hby d_m2_14) rfl ?_
      refine XS.iconst X0.here hx rfl (hb hby d_m2_15) ?_
      exact k
    by_cases hy2 : (x &&& (3 : Int32)) = (1 : Int32)
    · skip
      refine Go.st (g' := (mkF m 28 #[.val (.int x), .val (.int (x &&& (3 : Int32))), .val (.int ((x.toUInt32 >>> ((2 : Int32) &&& 31).toUInt32).toInt32))] [(.int (((55296 : Int32) + (((x.toUInt32 >>> ((2 : Int32) &&& 31).toUInt32).toInt32) &&& (1023 : Int32))).toUInt32.toUInt16.toUInt32.toInt32))])) (fun t k => ?_) ?_
      · refine XS.icmpNo X0.here hx rfl (hb hby d_m2_16) rfl (teq hy2).2 ?_
        refine X0.ldcInt hx hown (mvT hZ (wd hw 78 rfl)) (g := (mkF m 19 #[.val (.int x), .val (.int (x &&& (3 : Int32))), .val (.int ((x.toUInt32 >>> ((2 : Int32) &&& 31).toUInt32).toInt32))] [])) rfl (hb hby d_m2_19) _ ?_
        refine XS.iloadN X0.here hx rfl (hb hby d_m2_21) rfl ?_
        refine XS.sipush X0.here hx rfl (hb hby d_m2_22) ?_
        refine XS.iand X0.here hx rfl (hb hby d_m2_25) rfl ?_
        refine XS.iadd X0.here hx rfl (hb hby d_m2_26) rfl ?_
        refine XS.i2c X0.here hx rfl (hb hby d_m2_27) rfl ?_
        exact k
      refine Go.retS X0 hx hlk hret (by simp) (own_nc _) (hb hby d_m2_28) (by decide) (by decide) e0 ?_
      exact ⟨_, rfl, N0, rfl, (c_i2c _).2.1, (c_i2c _).2.2⟩
    · skip
      refine Go.st (g' := (mkF m 31 #[.val (.int x), .val (.int (x &&& (3 : Int32))), .val (.int ((x.toUInt32 >>> ((2 : Int32) &&& 31).toUInt32).toInt32))] [(.int 2), (.int (x &&& (3 : Int32)))])) (fun t k => ?_) ?_
      · refine XS.icmpYes X0.here hx rfl (pc0 := 16) (pc' := 29) rfl (hb hby d_m2_16) rfl (feq hy2).2 (by decide) (by decide) ?_
        refine XS.iloadN X0.here hx rfl (hb hby d_m2_29) rfl ?_
        refine XS.iconst X0.here hx rfl (hb hby d_m2_30) ?_
        exact k
      by_cases hy3 : (x &&& (3 : Int32)) = (2 : Int32)
      · skip
        refine Go.st (g' := (mkF m 43 #[.val (.int x), .val (.int (x &&& (3 : Int32))), .val (.int ((x.toUInt32 >>> ((2 : Int32) &&& 31).toUInt32).toInt32))] [(.int (((56320 : Int32) + (((x.toUInt32 >>> ((2 : Int32) &&& 31).toUInt32).toInt32) &&& (1023 : Int32))).toUInt32.toUInt16.toUInt32.toInt32))])) (fun t k => ?_) ?_
        · refine XS.icmpNo X0.here hx rfl (hb hby d_m2_31) rfl (teq hy3).2 ?_
          refine X0.ldcInt hx hown (mvT hZ (wd hw 5 rfl)) (g := (mkF m 34 #[.val (.int x), .val (.int (x &&& (3 : Int32))), .val (.int ((x.toUInt32 >>> ((2 : Int32) &&& 31).toUInt32).toInt32))] [])) rfl (hb hby d_m2_34) _ ?_
          refine XS.iloadN X0.here hx rfl (hb hby d_m2_36) rfl ?_
          refine XS.sipush X0.here hx rfl (hb hby d_m2_37) ?_
          refine XS.iand X0.here hx rfl (hb hby d_m2_40) rfl ?_
          refine XS.iadd X0.here hx rfl (hb hby d_m2_41) rfl ?_
          refine XS.i2c X0.here hx rfl (hb hby d_m2_42) rfl ?_
          exact k
        refine Go.retS X0 hx hlk hret (by simp) (own_nc _) (hb hby d_m2_43) (by decide) (by decide) e0 ?_
        exact ⟨_, rfl, N0, rfl, (c_i2c _).2.1, (c_i2c _).2.2⟩
      · skip
        refine Go.st (g' := (mkF m 49 #[.val (.int x), .val (.int (x &&& (3 : Int32))), .val (.int ((x.toUInt32 >>> ((2 : Int32) &&& 31).toUInt32).toInt32))] [(.int ((((x.toUInt32 >>> ((2 : Int32) &&& 31).toUInt32).toInt32) &&& (65535 : Int32)).toUInt32.toUInt16.toUInt32.toInt32))])) (fun t k => ?_) ?_
        · refine XS.icmpYes X0.here hx rfl (pc0 := 31) (pc' := 44) rfl (hb hby d_m2_31) rfl (feq hy3).2 (by decide) (by decide) ?_
          refine XS.iloadN X0.here hx rfl (hb hby d_m2_44) rfl ?_
          refine X0.ldcInt hx hown (mvT hZ (wd hw 4 rfl)) (g := (mkF m 45 #[.val (.int x), .val (.int (x &&& (3 : Int32))), .val (.int ((x.toUInt32 >>> ((2 : Int32) &&& 31).toUInt32).toInt32))] [(.int ((x.toUInt32 >>> ((2 : Int32) &&& 31).toUInt32).toInt32))])) rfl (hb hby d_m2_45) _ ?_
          refine XS.iand X0.here hx rfl (hb hby d_m2_47) rfl ?_
          refine XS.i2c X0.here hx rfl (hb hby d_m2_48) rfl ?_
          exact k
        refine Go.retS X0 hx hlk hret (by simp) (own_nc _) (hb hby d_m2_49) (by decide) (by decide) e0 ?_
        exact ⟨_, rfl, N0, rfl, (c_i2c _).2.1, (c_i2c _).2.2⟩
theorem ct_coder_0 (l : Launch) (Z : State) (a0 : Array Value) (hw : ∀ d ∈ tables_1, d.before a0 Z = true) (zc : Int32) (fm : Value) (G : Gl Z zc fm) (a1 : Addr) (h0 : Heap) (n0 : Nat) (O : Old Z n0 h0) (F_c : Fld Z h0 a1 "java/lang/String" "coder" "B" (.int 0)) :
    Ct l (⟨"java/lang/String", "coder", "()B"⟩ : MethodName) jdk_42_method_152_code 1 (some .byte) ({ frames := 0, cells := 0, slots := 0, locals := 0 } : Room) Z #[(.ref a1)] h0 (fun v h L => v = some (.int 0) ∧ Fr n0 L ∧ h0 = h) := by
  refine Ct.of (plainFor_of_name pn_String_837) ?_
  intro p e s m below meth c T0 X0 hx hby hml hown hnm hret hlk hZ e0
  have N0 := Fr.nil n0
  have G' := G
  obtain ⟨S_CS, hzc, S_FM, hfm, S_AD, S_HI, S_LO⟩ := G'
  refine Go.cast (g' := mkF m 0 #[.val (.ref a1)] []) (by first | (simp [entryFrame, mkF, argsToLocals, Value.category]; done) | rfl) ?_
  refine Go.getS X0 hx hZ hown (wd hw 20 rfl) Via.refl e0 (S_CS.ext O.2) (hb hby d_j42_m152_0) ?_
  intro T1 X1 e1
  refine Go.st (g' := (mkF m 7 #[.val (.ref a1)] [(.ref a1)])) (fun t k => ?_) ?_
  · refine XS.ifNo X1.here hx rfl (hb hby d_j42_m152_3) rfl ((if0 _ _).trans (feq hzc).1) ?_
    refine XS.aloadN X1.here hx rfl (hb hby d_j42_m152_6) rfl rfl ?_
    exact k
  refine Go.getF X1 hx hZ hown (wd hw 32 rfl) Via.refl e1 F_c (hb hby d_j42_m152_7) ?_
  intro T2 X2 e2
  refine Go.st (g' := (mkF m 14 #[.val (.ref a1)] [(.int 0)])) (fun t k => ?_) ?_
  · refine XS.goto X2.here hx rfl (pc0 := 10) (pc' := 14) rfl (hb hby d_j42_m152_10) (by decide) (by decide) ?_
    exact k
  refine Go.retS X2 hx hlk hret (by simp) rfl (hb hby d_j42_m152_14) (by decide) (by decide) e2 ?_
  exact ⟨rfl, N0, rfl⟩
theorem ct_len_0_0 (l : Launch) (Z : State) (a0 : Array Value) (hw : ∀ d ∈ tables_1, d.before a0 Z = true) (zc : Int32) (fm : Value) (G : Gl Z zc fm) (a1 : Addr) (ab : Addr) (kb : ClassId) (dv : Value) (h0 : Heap) (n0 : Nat) (O : Old Z n0 h0) (E_a1 : Exa Z h0 a1 "java/lang/String") (F_v : Fld Z h0 a1 "java/lang/String" "value" "[B" (.ref ab)) (F_c : Fld Z h0 a1 "java/lang/String" "coder" "B" (.int 0)) (V_b : Arv Z h0 ab kb .byte (0 : Int32) [] dv) :
    Ct l (⟨"java/lang/String", "length", "()I"⟩ : MethodName) jdk_42_method_54_code 1 (some .int) ({ frames := 2, cells := 0, slots := 0, locals := 60 } : Room) Z #[(.ref a1)] h0 (fun v h L => v = some (.int 0) ∧ Fr n0 L ∧ h0 = h) := by
  refine Ct.of (plainFor_of_name pn_String_837) ?_
  intro p e s m below meth c T0 X0 hx hby hml hown hnm hret hlk hZ e0
  have N0 := Fr.nil n0
  have G' := G
  obtain ⟨S_CS, hzc, S_FM, hfm, S_AD, S_HI, S_LO⟩ := G'
  refine Go.cast (g' := mkF m 0 #[.val (.ref a1)] []) (by first | (simp [entryFrame, mkF, argsToLocals, Value.category]; done) | rfl) ?_
  refine Go.st (g' := (mkF m 1 #[.val (.ref a1)] [(.ref a1)])) (fun t k => ?_) ?_
  · refine XS.aloadN X0.here hx rfl (hb hby d_j42_m54_0) rfl rfl ?_
    exact k
  refine Go.getF X0 hx hZ hown (wd hw 34 rfl) Via.refl e0 F_v (hb hby d_j42_m54_1) ?_
  intro T1 X1 e1
  show Go p e below _ T1 (mkF m 4 #[.val (.ref a1)] [(.ref ab)])
  refine Go.alenV X1 hx hZ e1 V_b (hb hby d_j42_m54_4) ?_
  refine Go.st (g' := (mkF m 6 #[.val (.ref a1)] [(.ref a1), (.int 0)])) (fun t k => ?_) ?_
  · refine XS.aloadN X1.here hx rfl (hb hby d_j42_m54_5) rfl rfl ?_
    exact k
  refine Go.callV X1 hx hZ (W := 1) (argsL := []) (rest := [(.int 0)]) hown (wd hw 48 rfl) (wd hw 49 rfl) (notFace_of_selects (args := #[]) (mvT hZ (wd hw 51 rfl))) (wd hw 51 rfl) (wd hw 50 rfl) (wd hw 8 rfl) (wd hw 52 rfl) (by decide) E_a1 (ct_coder_0 l Z a0 hw zc fm G a1 h0 n0 O F_c) e1 (by rw [hml]; rfl) (lenOf pd___B_8314 rfl) rfl rfl (hb hby d_j42_m54_6) ?_
  intro v2 T2 h2 L2 X2 e2 q2
  obtain ⟨rfl, N2, rfl⟩ := q2
  replace N2 := Fr.app N0 N2
  refine Go.st (g' := (mkF m 10 #[.val (.ref a1)] [(.int 0)])) (fun t k => ?_) ?_
  · refine XS.ishr X2.here hx rfl (hb hby d_j42_m54_9) rfl ?_
    exact k
  refine Go.retI X2 hx hlk hret (hb hby d_j42_m54_10) (by decide) (by decide) e2 ?_
  exact ⟨rfl, N2, rfl⟩
theorem ct_storable_0 (l : Launch) (Z : State) (a0 : Array Value) (hw : ∀ d ∈ tables_1, d.before a0 Z = true) (a1 : Addr) (h0 : Heap) (n0 : Nat) (O : Old Z n0 h0) (E_a1 : Exa Z h0 a1 "java/lang/String") (HL : Ct l (⟨"java/lang/String", "length", "()I"⟩ : MethodName) jdk_42_method_54_code 1 (some .int) ({ frames := 2, cells := 0, slots := 0, locals := 60 } : Room) Z #[(.ref a1)] h0 (fun v h L => v = some (.int 0) ∧ Fr n0 L ∧ h0 = h)) :
    Ct l (⟨"com/example/provenara/provenara/model/CatalogText", "isStorable", "(Ljava/lang/String;)Z"⟩ : MethodName) prog_6_method_2_code 3 (some .boolean) ({ frames := 3, cells := 0, slots := 0, locals := 73 } : Room) Z #[(.ref a1)] h0 (fun v h L => v = some (.int (stor [])) ∧ Fr n0 L ∧ h0 = h) := by
  refine Ct.of (plainFor_of_name pn_CatalogText_186) ?_
  intro p e s m below meth c T0 X0 hx hby hml hown hnm hret hlk hZ e0
  have N0 := Fr.nil n0
  refine Go.cast (g' := mkF m 0 #[.val (.ref a1), .unset, .unset] []) (by first | (simp [entryFrame, mkF, argsToLocals, Value.category]; done) | rfl) ?_
  refine Go.st (g' := (mkF m 4 #[.val (.ref a1), .val (.int 0), .unset] [(.ref a1), (.int 0)])) (fun t k => ?_) ?_
  · refine XS.iconst X0.here hx rfl (hb hby d_p6_m2_0) ?_
    refine XS.istoreN X0.here hx rfl (hb hby d_p6_m2_1) rfl (l' := #[.val (.ref a1), .val (.int 0), .unset]) rfl ?_
    refine XS.iloadN X0.here hx rfl (hb hby d_p6_m2_2) rfl ?_
    refine XS.aloadN X0.here hx rfl (hb hby d_p6_m2_3) rfl rfl ?_
    exact k
  refine Go.callV X0 hx hZ (W := 1) (argsL := []) (rest := [(.int 0)]) hown (wd hw 43 rfl) (wd hw 44 rfl) (notFace_of_selects (args := #[]) (mvT hZ (wd hw 46 rfl))) (wd hw 46 rfl) (wd hw 45 rfl) (wd hw 8 rfl) (wd hw 47 rfl) (by decide) E_a1 HL e0 (by rw [hml]; rfl) (lenOf pd___I_8321 rfl) rfl rfl (hb hby d_p6_m2_4) ?_
  intro v1 T1 h1 L1 X1 e1 q1
  obtain ⟨rfl, N1, rfl⟩ := q1
  replace N1 := Fr.app N0 N1
  refine Go.st (g' := (mkF m 74 #[.val (.ref a1), .val (.int 0), .unset] [(.int 1)])) (fun t k => ?_) ?_
  · refine XS.icmpYes X1.here hx rfl (pc0 := 7) (pc' := 73) rfl (hb hby d_p6_m2_7) rfl (flt (by decide : ¬ (0 : Int32) < (0 : Int32))).2.1 (by decide) (by decide) ?_
    refine XS.iconst X1.here hx rfl (hb hby d_p6_m2_73) ?_
    exact k
  refine Go.retZ X1 hx hlk hret (Or.inr rfl) (hb hby d_p6_m2_74) (by decide) (by decide) e1 ?_
  exact ⟨by simp [stor, ], N1, rfl⟩
theorem ct_cmp5_1_0 (l : Launch) (Z : State) (a0 : Array Value) (hw : ∀ d ∈ tables_1, d.before a0 Z = true) (ac : Addr) (kc : ClassId) (ab : Addr) (kb : ClassId) (y0 : Int32) (h0 : Heap) (n0 : Nat) (O : Old Z n0 h0) (V_c : Arv Z h0 ac kc .char (1 : Int32) [(.int y0)] (.int 0)) (V_b : Arv Z h0 ab kb .byte (1 : Int32) [(.int 0)] (.int 0)) (g_ab : n0 ≤ ab) (ne_ac_ab : ac ≠ ab) (hv0 : (255 : Int32) < y0) :
    Ct l (⟨"java/lang/StringUTF16", "compress", "([CI[BII)I"⟩ : MethodName) jdk_52_method_21_code 7 (some .int) ({ frames := 0, cells := 0, slots := 0, locals := 0 } : Room) Z #[(.ref ac), (.int 0), (.ref ab), (.int 0), (.int 1)] h0 (fun v h L => v = some (.int 0) ∧ Fr n0 L ∧ Keep h0 h [ab] ∧ Arv Z h ab kb .byte (1 : Int32) [(.int 0)] (.int 0)) := by
  refine Ct.of (plainFor_of_name pn_StringUTF16_856) ?_
  intro p e s m below meth c T0 X0 hx hby hml hown hnm hret hlk hZ e0
  have N0 := Fr.nil n0
  refine Go.cast (g' := mkF m 0 #[.val (.ref ac), .val (.int 0), .val (.ref ab), .val (.int 0), .val (.int 1), .unset, .unset] []) (by first | (simp [entryFrame, mkF, argsToLocals, Value.category]; done) | rfl) ?_
  have K : Keep h0 h0 [ab] := Keep.refl _ _
  refine Go.st (g' := (mkF m 12 #[.val (.ref ac), .val (.int 0), .val (.ref ab), .val (.int 0), .val (.int 1), .val (.int 0), .unset] [(.int 0), (.ref ac)])) (fun t k => ?_) ?_
  · refine XS.iconst X0.here hx rfl (hb hby d_j52_m21_0) ?_
    refine XS.istore X0.here hx rfl (hb hby d_j52_m21_1) rfl (l' := #[.val (.ref ac), .val (.int 0), .val (.ref ab), .val (.int 0), .val (.int 1), .val (.int 0), .unset]) rfl ?_
    refine XS.iload X0.here hx rfl (hb hby d_j52_m21_3) rfl ?_
    refine XS.iload X0.here hx rfl (hb hby d_j52_m21_5) rfl ?_
    refine XS.icmpNo X0.here hx rfl (hb hby d_j52_m21_7) rfl (tlt (by decide : (0 : Int32) < (1 : Int32))).2.1 ?_
    refine XS.aloadN X0.here hx rfl (hb hby d_j52_m21_10) rfl rfl ?_
    refine XS.iloadN X0.here hx rfl (hb hby d_j52_m21_11) rfl ?_
    exact k
  refine Go.aloadV X0 hx hZ e0 V_c (j := (0 : Int32)) (v := (.int y0)) ⟨by decide, by decide⟩ rfl (Or.inr (Or.inr (Or.inr (Or.inl ⟨rfl, rfl⟩)))) (hb hby d_j52_m21_12) ?_
  refine Go.st (g' := (mkF m 25 #[.val (.ref ac), .val (.int 0), .val (.ref ab), .val (.int 0), .val (.int 1), .val (.int 0), .val (.int y0)] [(.int 0)])) (fun t k => ?_) ?_
  · refine XS.istore X0.here hx rfl (hb hby d_j52_m21_13) rfl (l' := #[.val (.ref ac), .val (.int 0), .val (.ref ab), .val (.int 0), .val (.int 1), .val (.int 0), .val (.int y0)]) rfl ?_
    refine XS.iload X0.here hx rfl (hb hby d_j52_m21_15) rfl ?_
    refine XS.sipush X0.here hx rfl (hb hby d_j52_m21_17) ?_
    refine XS.icmpNo X0.here hx rfl (hb hby d_j52_m21_20) rfl (tlt hv0).2.2.2 ?_
    refine XS.iload X0.here hx rfl (hb hby d_j52_m21_23) rfl ?_
    exact k
  refine Go.retI X0 hx hlk hret (hb hby d_j52_m21_25) (by decide) (by decide) e0 ?_
  exact ⟨rfl, N0, K, V_b⟩
theorem ct_nbl_1 (l : Launch) (Z : State) (a0 : Array Value) (hw : ∀ d ∈ tables_1, d.before a0 Z = true)  (h0 : Heap) (n0 : Nat) (O : Old Z n0 h0)  :
    Ct l (⟨"java/lang/StringUTF16", "newBytesLength", "(I)I"⟩ : MethodName) jdk_52_method_3_code 1 (some .int) ({ frames := 0, cells := 0, slots := 0, locals := 0 } : Room) Z #[(.int 1)] h0 (fun v h L => v = some (.int 2) ∧ Fr n0 L ∧ h0 = h) := by
  refine Ct.of (plainFor_of_name pn_StringUTF16_856) ?_
  intro p e s m below meth c T0 X0 hx hby hml hown hnm hret hlk hZ e0
  have N0 := Fr.nil n0
  refine Go.cast (g' := mkF m 0 #[.val (.int 1)] []) (by first | (simp [entryFrame, mkF, argsToLocals, Value.category]; done) | rfl) ?_
  refine Go.st (g' := (mkF m 58 #[.val (.int 1)] [(.int 2)])) (fun t k => ?_) ?_
  · refine XS.iloadN X0.here hx rfl (hb hby d_j52_m3_0) rfl ?_
    refine XS.ifYes X0.here hx rfl (pc0 := 1) (pc' := 12) rfl (hb hby d_j52_m3_1) rfl ((if0 _ _).trans (flt (by decide : ¬ (1 : Int32) < (0 : Int32))).2.1) (by decide) (by decide) ?_
    refine XS.iloadN X0.here hx rfl (hb hby d_j52_m3_12) rfl ?_
    refine X0.ldcInt hx hown (mvT hZ (wd hw 102 rfl)) (g := (mkF m 13 #[.val (.int 1)] [(.int 1)])) rfl (hb hby d_j52_m3_13) _ ?_
    refine XS.icmpYes X0.here hx rfl (pc0 := 15) (pc' := 55) rfl (hb hby d_j52_m3_15) rfl (tlt (by decide : (1 : Int32) < (1073741823 : Int32))).1 (by decide) (by decide) ?_
    refine XS.iloadN X0.here hx rfl (hb hby d_j52_m3_55) rfl ?_
    refine XS.iconst X0.here hx rfl (hb hby d_j52_m3_56) ?_
    refine XS.ishl X0.here hx rfl (hb hby d_j52_m3_57) rfl ?_
    exact k
  refine Go.retI X0 hx hlk hret (hb hby d_j52_m3_58) (by decide) (by decide) e0 ?_
  exact ⟨rfl, N0, rfl⟩
theorem ct_nbf_1 (l : Launch) (Z : State) (a0 : Array Value) (hw : ∀ d ∈ tables_1, d.before a0 Z = true)  (h0 : Heap) (n0 : Nat) (O : Old Z n0 h0)  :
    Ct l (⟨"java/lang/StringUTF16", "newBytesFor", "(I)[B"⟩ : MethodName) jdk_52_method_2_code 1 (some (.array .byte)) ({ frames := 1, cells := 1, slots := 2, locals := 12 } : Room) Z #[(.int 1)] h0 (fun v h L => ∃ b kb, v = some (.ref b) ∧ Fr n0 L ∧ Keep h0 h [] ∧ h0.size ≤ b ∧ Arv Z h b kb .byte (2 : Int32) [(.int 0), (.int 0)] (.int 0)) := by
  refine Ct.of (plainFor_of_name pn_StringUTF16_856) ?_
  intro p e s m below meth c T0 X0 hx hby hml hown hnm hret hlk hZ e0
  have N0 := Fr.nil n0
  refine Go.cast (g' := mkF m 0 #[.val (.int 1)] []) (by first | (simp [entryFrame, mkF, argsToLocals, Value.category]; done) | rfl) ?_
  have K : Keep h0 h0 [] := Keep.refl _ _
  refine Go.st (g' := (mkF m 1 #[.val (.int 1)] [(.int 1)])) (fun t k => ?_) ?_
  · refine XS.iloadN X0.here hx rfl (hb hby d_j52_m2_0) rfl ?_
    exact k
  refine Go.callS X0 hx hZ (W := 0) (argsL := [(.int 1)]) (rest := []) hown (wd hw 99 rfl) (wd hw 100 rfl) (wd hw 23 rfl) (wd hw 101 rfl) (by decide) (ct_nbl_1 l Z a0 hw   h0 n0 O ) e0 (by rw [hml]; rfl) (lenOf pd__I_I_7763 rfl) rfl rfl (hb hby d_j52_m2_1) ?_
  intro v1 T1 h1 L1 X1 e1 q1
  obtain ⟨rfl, N1, rfl⟩ := q1
  replace N1 := Fr.app N0 N1
  show Go p e below _ T1 (mkF m 4 #[.val (.int 1)] [(.int 2)])
  refine Go.newP X1 hx hZ (wd hw 25 rfl) e1 (hb hby d_j52_m2_4) (by decide) (cap := 2) (by decide) (by decide) (by decide) (by decide) ?_
  intro T2 h2 b2 k2 X2 e2 E2 g2 V_b2
  have lb2 := Nat.le_of_eq g2.symm
  have g_b2 : n0 ≤ b2 := Nat.le_trans (OwnKit.Old.le O) lb2
  have sz_b2 : h0.size ≤ b2 := Nat.le_trans K.1 lb2
  replace O := O.ext E2
  replace K := K.ext E2
  replace V_b2 := V_b2.pad (pad_rep [] (.int 0) 2)
  replace V_b2 : Arv Z h2 b2 k2 .byte (2 : Int32) [(.int 0), (.int 0)] (.int 0) := V_b2
  show Go p e below _ T2 (mkF m 6 #[.val (.int 1)] [(.ref b2)])
  refine Go.retA X2 hx hlk hret rfl rfl (hb hby d_j52_m2_6) (by decide) (by decide) e2 ?_
  exact ⟨b2, _, rfl, N1, K, sz_b2, V_b2⟩
theorem ct_pch_1_0 (l : Launch) (Z : State) (a0 : Array Value) (hw : ∀ d ∈ tables_1, d.before a0 Z = true) (zc : Int32) (fm : Value) (G : Gl Z zc fm) (ab : Addr) (kb : ClassId) (y0 : Int32) (u0 : Value) (u1 : Value) (h0 : Heap) (n0 : Nat) (O : Old Z n0 h0) (V_b : Arv Z h0 ab kb .byte (2 : Int32) [u0, u1] (.int 0)) (g_ab : n0 ≤ ab) :
    Ct l (⟨"java/lang/StringUTF16", "putChar", "([BII)V"⟩ : MethodName) jdk_52_method_4_code 3 none ({ frames := 0, cells := 0, slots := 0, locals := 0 } : Room) Z #[(.ref ab), (.int 0), (.int y0)] h0 (fun v h L => v = none ∧ Fr n0 L ∧ Keep h0 h [ab] ∧ Arv Z h ab kb .byte (2 : Int32) [(.int (nar .byte ((y0 >>> ((0 : Int32) &&& 31)).toInt8.toInt32))), (.int (nar .byte ((y0 >>> ((8 : Int32) &&& 31)).toInt8.toInt32)))] (.int 0)) := by
  refine Ct.of (plainFor_of_name pn_StringUTF16_856) ?_
  intro p e s m below meth c T0 X0 hx hby hml hown hnm hret hlk hZ e0
  have N0 := Fr.nil n0
  have G' := G
  obtain ⟨S_CS, hzc, S_FM, hfm, S_AD, S_HI, S_LO⟩ := G'
  refine Go.cast (g' := mkF m 0 #[.val (.ref ab), .val (.int 0), .val (.int y0)] []) (by first | (simp [entryFrame, mkF, argsToLocals, Value.category]; done) | rfl) ?_
  have K : Keep h0 h0 [ab] := Keep.refl _ _
  refine Go.getS X0 hx hZ hown (wd hw 106 rfl) Via.refl e0 (S_AD.ext O.2) (hb hby d_j52_m4_0) ?_
  intro T1 X1 e1
  refine Go.st (g' := (mkF m 38 #[.val (.ref ab), .val (.int 1), .val (.int y0)] [(.int y0), (.int 0), (.ref ab)])) (fun t k => ?_) ?_
  · refine XS.ifYes X1.here hx rfl (pc0 := 3) (pc' := 28) rfl (hb hby d_j52_m4_3) rfl ((if0 _ _).trans (feq (by decide : ¬ (1 : Int32) = (0 : Int32))).2) (by decide) (by decide) ?_
    refine XS.iloadN X1.here hx rfl (hb hby d_j52_m4_28) rfl ?_
    refine XS.iconst X1.here hx rfl (hb hby d_j52_m4_29) ?_
    refine XS.ishl X1.here hx rfl (hb hby d_j52_m4_30) rfl ?_
    refine XS.istoreN X1.here hx rfl (hb hby d_j52_m4_31) rfl (l' := #[.val (.ref ab), .val (.int 0), .val (.int y0)]) rfl ?_
    refine XS.aloadN X1.here hx rfl (hb hby d_j52_m4_32) rfl rfl ?_
    refine XS.iloadN X1.here hx rfl (hb hby d_j52_m4_33) rfl ?_
    refine XS.iinc X1.here hx rfl (hb hby d_j52_m4_34) rfl (l' := #[.val (.ref ab), .val (.int 1), .val (.int y0)]) rfl ?_
    refine XS.iloadN X1.here hx rfl (hb hby d_j52_m4_37) rfl ?_
    exact k
  refine Go.getS X1 hx hZ hown (wd hw 107 rfl) Via.refl e1 (S_HI.ext O.2) (hb hby d_j52_m4_38) ?_
  intro T2 X2 e2
  refine Go.st (g' := (mkF m 43 #[.val (.ref ab), .val (.int 1), .val (.int y0)] [(.int ((y0 >>> ((0 : Int32) &&& 31)).toInt8.toInt32)), (.int 0), (.ref ab)])) (fun t k => ?_) ?_
  · refine XS.ishr X2.here hx rfl (hb hby d_j52_m4_41) rfl ?_
    refine XS.i2b X2.here hx rfl (hb hby d_j52_m4_42) rfl ?_
    exact k
  refine Go.nstV X2 hx hZ e2 V_b (j := (0 : Int32)) ⟨by decide, by decide⟩ 0 rfl (Nat.le_of_ble_eq_true rfl) (Or.inr ⟨rfl, rfl⟩) (hb hby d_j52_m4_43) ?_
  intro T3 h3 X3 e3 W3 Vn3
  replace O := O.wr W3 g_ab
  have N3 := Fr.snoc X3 N0 g_ab
  replace K := K.wr W3 (Or.inl (List.mem_of_getElem? (i := 0) rfl))
  replace V_b : Arv Z h3 ab kb .byte (2 : Int32) [(.int (nar .byte ((y0 >>> ((0 : Int32) &&& 31)).toInt8.toInt32))), u1] (.int 0) := Vn3
  clear Vn3
  refine Go.st (g' := (mkF m 47 #[.val (.ref ab), .val (.int 1), .val (.int y0)] [(.int y0), (.int 1), (.ref ab)])) (fun t k => ?_) ?_
  · refine XS.aloadN X3.here hx rfl (hb hby d_j52_m4_44) rfl rfl ?_
    refine XS.iloadN X3.here hx rfl (hb hby d_j52_m4_45) rfl ?_
    refine XS.iloadN X3.here hx rfl (hb hby d_j52_m4_46) rfl ?_
    exact k
  refine Go.getS X3 hx hZ hown (wd hw 108 rfl) Via.refl e3 (S_LO.ext O.2) (hb hby d_j52_m4_47) ?_
  intro T4 X4 e4
  refine Go.st (g' := (mkF m 52 #[.val (.ref ab), .val (.int 1), .val (.int y0)] [(.int ((y0 >>> ((8 : Int32) &&& 31)).toInt8.toInt32)), (.int 1), (.ref ab)])) (fun t k => ?_) ?_
  · refine XS.ishr X4.here hx rfl (hb hby d_j52_m4_50) rfl ?_
    refine XS.i2b X4.here hx rfl (hb hby d_j52_m4_51) rfl ?_
    exact k
  refine Go.nstV X4 hx hZ e4 V_b (j := (1 : Int32)) ⟨by decide, by decide⟩ 1 rfl (Nat.le_of_ble_eq_true rfl) (Or.inr ⟨rfl, rfl⟩) (hb hby d_j52_m4_52) ?_
  intro T5 h5 X5 e5 W5 Vn5
  replace O := O.wr W5 g_ab
  have N5 := Fr.snoc X5 N3 g_ab
  replace K := K.wr W5 (Or.inl (List.mem_of_getElem? (i := 0) rfl))
  replace V_b : Arv Z h5 ab kb .byte (2 : Int32) [(.int (nar .byte ((y0 >>> ((0 : Int32) &&& 31)).toInt8.toInt32))), (.int (nar .byte ((y0 >>> ((8 : Int32) &&& 31)).toInt8.toInt32)))] (.int 0) := Vn5
  clear Vn5
  show Go p e below _ T5 (mkF m 53 #[.val (.ref ab), .val (.int 1), .val (.int y0)] [])
  refine Go.retV X5 hx hlk hret (hb hby d_j52_m4_53) (by decide) (by decide) e5 ?_
  exact ⟨rfl, N5, K, V_b⟩
theorem ct_tob_1 (l : Launch) (Z : State) (a0 : Array Value) (hw : ∀ d ∈ tables_1, d.before a0 Z = true) (zc : Int32) (fm : Value) (G : Gl Z zc fm) (ac : Addr) (kc : ClassId) (y0 : Int32) (h0 : Heap) (n0 : Nat) (O : Old Z n0 h0) (V_c : Arv Z h0 ac kc .char (1 : Int32) [(.int y0)] (.int 0)) :
    Ct l (⟨"java/lang/StringUTF16", "toBytes", "([CII)[B"⟩ : MethodName) jdk_52_method_14_code 5 (some (.array .byte)) ({ frames := 2, cells := 1, slots := 2, locals := 24 } : Room) Z #[(.ref ac), (.int 0), (.int 1)] h0 (fun v h L => ∃ b kb, v = some (.ref b) ∧ Fr n0 L ∧ Keep h0 h [] ∧ h0.size ≤ b ∧ Arv Z h b kb .byte (2 : Int32) [(.int (nar .byte ((y0 >>> ((0 : Int32) &&& 31)).toInt8.toInt32))), (.int (nar .byte ((y0 >>> ((8 : Int32) &&& 31)).toInt8.toInt32)))] (.int 0)) := by
  refine Ct.of (plainFor_of_name pn_StringUTF16_856) ?_
  intro p e s m below meth c T0 X0 hx hby hml hown hnm hret hlk hZ e0
  have N0 := Fr.nil n0
  have G' := G
  obtain ⟨S_CS, hzc, S_FM, hfm, S_AD, S_HI, S_LO⟩ := G'
  refine Go.cast (g' := mkF m 0 #[.val (.ref ac), .val (.int 0), .val (.int 1), .unset, .unset] []) (by first | (simp [entryFrame, mkF, argsToLocals, Value.category]; done) | rfl) ?_
  have K : Keep h0 h0 [] := Keep.refl _ _
  refine Go.st (g' := (mkF m 1 #[.val (.ref ac), .val (.int 0), .val (.int 1), .unset, .unset] [(.int 1)])) (fun t k => ?_) ?_
  · refine XS.iloadN X0.here hx rfl (hb hby d_j52_m14_0) rfl ?_
    exact k
  refine Go.callS X0 hx hZ (W := 0) (argsL := [(.int 1)]) (rest := []) hown (wd hw 96 rfl) (wd hw 97 rfl) (wd hw 23 rfl) (wd hw 98 rfl) (by decide) (ct_nbf_1 l Z a0 hw   h0 n0 O ) e0 (by rw [hml]; rfl) (lenOf pd__I__B_1211 rfl) rfl rfl (hb hby d_j52_m14_1) ?_
  intro v1 T1 h1 L1 X1 e1 q1
  obtain ⟨ob, kb, rfl, N1, K1, lb1, V_ob⟩ := q1
  replace N1 := Fr.app N0 N1
  have ne_ac_ob : ac ≠ ob := Nat.ne_of_lt (Nat.lt_of_lt_of_le V_c.lt lb1)
  have g_ob : n0 ≤ ob := Nat.le_trans (OwnKit.Old.le O) lb1
  have sz_ob : h0.size ≤ ob := Nat.le_trans K.1 lb1
  replace V_c := V_c.keep K1 nin0
  replace O := O.keep K1 all0
  replace K := K.trans K1 all0
  refine Go.st (g' := (mkF m 19 #[.val (.ref ac), .val (.int 0), .val (.int 1), .val (.ref ob), .val (.int 0)] [(.int 0), (.ref ac), (.int 0), (.ref ob)])) (fun t k => ?_) ?_
  · refine XS.astoreN X1.here hx rfl (hb hby d_j52_m14_4) rfl rfl (l' := #[.val (.ref ac), .val (.int 0), .val (.int 1), .val (.ref ob), .unset]) rfl ?_
    refine XS.iconst X1.here hx rfl (hb hby d_j52_m14_5) ?_
    refine XS.istore X1.here hx rfl (hb hby d_j52_m14_6) rfl (l' := #[.val (.ref ac), .val (.int 0), .val (.int 1), .val (.ref ob), .val (.int 0)]) rfl ?_
    refine XS.iload X1.here hx rfl (hb hby d_j52_m14_8) rfl ?_
    refine XS.iloadN X1.here hx rfl (hb hby d_j52_m14_10) rfl ?_
    refine XS.icmpNo X1.here hx rfl (hb hby d_j52_m14_11) rfl (tlt (by decide : (0 : Int32) < (1 : Int32))).2.1 ?_
    refine XS.aloadN X1.here hx rfl (hb hby d_j52_m14_14) rfl rfl ?_
    refine XS.iload X1.here hx rfl (hb hby d_j52_m14_15) rfl ?_
    refine XS.aloadN X1.here hx rfl (hb hby d_j52_m14_17) rfl rfl ?_
    refine XS.iloadN X1.here hx rfl (hb hby d_j52_m14_18) rfl ?_
    exact k
  refine Go.aloadV X1 hx hZ e1 V_c (j := (0 : Int32)) (v := (.int y0)) ⟨by decide, by decide⟩ rfl (Or.inr (Or.inr (Or.inr (Or.inl ⟨rfl, rfl⟩)))) (hb hby d_j52_m14_19) ?_
  show Go p e below _ T1 (mkF m 20 #[.val (.ref ac), .val (.int 0), .val (.int 1), .val (.ref ob), .val (.int 0)] [(.int y0), (.int 0), (.ref ob)])
  refine Go.callS X1 hx hZ (W := 0) (argsL := [(.ref ob), (.int 0), (.int y0)]) (rest := []) hown (wd hw 103 rfl) (wd hw 104 rfl) (wd hw 23 rfl) (wd hw 105 rfl) (by decide) (ct_pch_1_0 l Z a0 hw zc fm G ob kb y0 (.int 0) (.int 0) h1 n0 O V_ob g_ob) e1 (by rw [hml]; rfl) (lenOf pd___BII_V_5129 rfl) rfl rfl (hb hby d_j52_m14_20) ?_
  intro v2 T2 h2 L2 X2 e2 q2
  obtain ⟨rfl, N2, K2, V_n2⟩ := q2
  replace N2 := Fr.app N1 N2
  replace V_c := V_c.keep K2 (ninS ne_ac_ob nin0)
  clear V_ob
  replace O := O.keep K2 (allS g_ob all0)
  replace K := K.trans K2 (allS (Or.inr sz_ob) all0)
  refine Go.st (g' := (mkF m 33 #[.val (.ref ac), .val (.int 1), .val (.int 1), .val (.ref ob), .val (.int 1)] [(.ref ob)])) (fun t k => ?_) ?_
  · refine XS.iinc X2.here hx rfl (hb hby d_j52_m14_23) rfl (l' := #[.val (.ref ac), .val (.int 1), .val (.int 1), .val (.ref ob), .val (.int 0)]) rfl ?_
    refine XS.iinc X2.here hx rfl (hb hby d_j52_m14_26) rfl (l' := #[.val (.ref ac), .val (.int 1), .val (.int 1), .val (.ref ob), .val (.int 1)]) rfl ?_
    refine XS.goto X2.here hx rfl (pc0 := 29) (pc' := 8) rfl (hb hby d_j52_m14_29) (by decide) (by decide) ?_
    refine XS.iload X2.here hx rfl (hb hby d_j52_m14_8) rfl ?_
    refine XS.iloadN X2.here hx rfl (hb hby d_j52_m14_10) rfl ?_
    refine XS.icmpYes X2.here hx rfl (pc0 := 11) (pc' := 32) rfl (hb hby d_j52_m14_11) rfl (flt (by decide : ¬ (1 : Int32) < (1 : Int32))).2.1 (by decide) (by decide) ?_
    refine XS.aloadN X2.here hx rfl (hb hby d_j52_m14_32) rfl rfl ?_
    exact k
  refine Go.retA X2 hx hlk hret rfl rfl (hb hby d_j52_m14_33) (by decide) (by decide) e2 ?_
  exact ⟨ob, _, rfl, N2, K, sz_ob, V_n2⟩
theorem ct_gch_1_0 (l : Launch) (Z : State) (a0 : Array Value) (hw : ∀ d ∈ tables_1, d.before a0 Z = true) (zc : Int32) (fm : Value) (G : Gl Z zc fm) (ab : Addr) (kb : ClassId) (y0 : Int32) (h0 : Heap) (n0 : Nat) (O : Old Z n0 h0) (V_b : Arv Z h0 ab kb .byte (2 : Int32) [(.int (nar .byte ((y0 >>> ((0 : Int32) &&& 31)).toInt8.toInt32))), (.int (nar .byte ((y0 >>> ((8 : Int32) &&& 31)).toInt8.toInt32)))] (.int 0)) (hr0 : 0 ≤ y0.toInt ∧ y0.toInt < 65536) :
    Ct l (⟨"java/lang/StringUTF16", "getChar", "([BI)C"⟩ : MethodName) jdk_52_method_5_code 2 (some .char) ({ frames := 0, cells := 0, slots := 0, locals := 0 } : Room) Z #[(.ref ab), (.int 0)] h0 (fun v h L => v = some (.int y0) ∧ Fr n0 L ∧ h0 = h) := by
  refine Ct.of (plainFor_of_name pn_StringUTF16_856) ?_
  intro p e s m below meth c T0 X0 hx hby hml hown hnm hret hlk hZ e0
  have N0 := Fr.nil n0
  have G' := G
  obtain ⟨S_CS, hzc, S_FM, hfm, S_AD, S_HI, S_LO⟩ := G'
  refine Go.cast (g' := mkF m 0 #[.val (.ref ab), .val (.int 0)] []) (by first | (simp [entryFrame, mkF, argsToLocals, Value.category]; done) | rfl) ?_
  refine Go.getS X0 hx hZ hown (wd hw 106 rfl) Via.refl e0 (S_AD.ext O.2) (hb hby d_j52_m5_0) ?_
  intro T1 X1 e1
  refine Go.st (g' := (mkF m 37 #[.val (.ref ab), .val (.int 1)] [(.int 0), (.ref ab)])) (fun t k => ?_) ?_
  · refine XS.ifYes X1.here hx rfl (pc0 := 3) (pc' := 28) rfl (hb hby d_j52_m5_3) rfl ((if0 _ _).trans (feq (by decide : ¬ (1 : Int32) = (0 : Int32))).2) (by decide) (by decide) ?_
    refine XS.iloadN X1.here hx rfl (hb hby d_j52_m5_28) rfl ?_
    refine XS.iconst X1.here hx rfl (hb hby d_j52_m5_29) ?_
    refine XS.ishl X1.here hx rfl (hb hby d_j52_m5_30) rfl ?_
    refine XS.istoreN X1.here hx rfl (hb hby d_j52_m5_31) rfl (l' := #[.val (.ref ab), .val (.int 0)]) rfl ?_
    refine XS.aloadN X1.here hx rfl (hb hby d_j52_m5_32) rfl rfl ?_
    refine XS.iloadN X1.here hx rfl (hb hby d_j52_m5_33) rfl ?_
    refine XS.iinc X1.here hx rfl (hb hby d_j52_m5_34) rfl (l' := #[.val (.ref ab), .val (.int 1)]) rfl ?_
    exact k
  refine Go.aloadV X1 hx hZ e1 V_b (j := (0 : Int32)) (v := (.int (nar .byte ((y0 >>> ((0 : Int32) &&& 31)).toInt8.toInt32)))) ⟨by decide, by decide⟩ rfl (Or.inr (Or.inr (Or.inr (Or.inr (Or.inr ⟨rfl, rfl⟩))))) (hb hby d_j52_m5_37) ?_
  refine Go.st (g' := (mkF m 42 #[.val (.ref ab), .val (.int 1)] [(.int ((nar .byte ((y0 >>> ((0 : Int32) &&& 31)).toInt8.toInt32)) &&& (255 : Int32)))])) (fun t k => ?_) ?_
  · refine XS.sipush X1.here hx rfl (hb hby d_j52_m5_38) ?_
    refine XS.iand X1.here hx rfl (hb hby d_j52_m5_41) rfl ?_
    exact k
  refine Go.getS X1 hx hZ hown (wd hw 107 rfl) Via.refl e1 (S_HI.ext O.2) (hb hby d_j52_m5_42) ?_
  intro T2 X2 e2
  refine Go.st (g' := (mkF m 48 #[.val (.ref ab), .val (.int 1)] [(.int 1), (.ref ab), (.int (((nar .byte ((y0 >>> ((0 : Int32) &&& 31)).toInt8.toInt32)) &&& (255 : Int32)) <<< ((0 : Int32) &&& 31)))])) (fun t k => ?_) ?_
  · refine XS.ishl X2.here hx rfl (hb hby d_j52_m5_45) rfl ?_
    refine XS.aloadN X2.here hx rfl (hb hby d_j52_m5_46) rfl rfl ?_
    refine XS.iloadN X2.here hx rfl (hb hby d_j52_m5_47) rfl ?_
    exact k
  refine Go.aloadV X2 hx hZ e2 V_b (j := (1 : Int32)) (v := (.int (nar .byte ((y0 >>> ((8 : Int32) &&& 31)).toInt8.toInt32)))) ⟨by decide, by decide⟩ rfl (Or.inr (Or.inr (Or.inr (Or.inr (Or.inr ⟨rfl, rfl⟩))))) (hb hby d_j52_m5_48) ?_
  refine Go.st (g' := (mkF m 53 #[.val (.ref ab), .val (.int 1)] [(.int ((nar .byte ((y0 >>> ((8 : Int32) &&& 31)).toInt8.toInt32)) &&& (255 : Int32))), (.int (((nar .byte ((y0 >>> ((0 : Int32) &&& 31)).toInt8.toInt32)) &&& (255 : Int32)) <<< ((0 : Int32) &&& 31)))])) (fun t k => ?_) ?_
  · refine XS.sipush X2.here hx rfl (hb hby d_j52_m5_49) ?_
    refine XS.iand X2.here hx rfl (hb hby d_j52_m5_52) rfl ?_
    exact k
  refine Go.getS X2 hx hZ hown (wd hw 108 rfl) Via.refl e2 (S_LO.ext O.2) (hb hby d_j52_m5_53) ?_
  intro T3 X3 e3
  refine Go.st (g' := (mkF m 59 #[.val (.ref ab), .val (.int 1)] [(.int (((((nar .byte ((y0 >>> ((0 : Int32) &&& 31)).toInt8.toInt32)) &&& (255 : Int32)) <<< ((0 : Int32) &&& 31)) ||| (((nar .byte ((y0 >>> ((8 : Int32) &&& 31)).toInt8.toInt32)) &&& (255 : Int32)) <<< ((8 : Int32) &&& 31))).toUInt32.toUInt16.toUInt32.toInt32))])) (fun t k => ?_) ?_
  · refine XS.ishl X3.here hx rfl (hb hby d_j52_m5_56) rfl ?_
    refine XS.ior X3.here hx rfl (hb hby d_j52_m5_57) rfl ?_
    refine XS.i2c X3.here hx rfl (hb hby d_j52_m5_58) rfl ?_
    exact k
  refine Go.retS X3 hx hlk hret (by simp) (own_nc _) (hb hby d_j52_m5_59) (by decide) (by decide) e3 ?_
  exact ⟨by rw [own_gc hr0], N0, rfl⟩
theorem ct_cmp3_1_0 (l : Launch) (Z : State) (a0 : Array Value) (hw : ∀ d ∈ tables_1, d.before a0 Z = true) (zc : Int32) (fm : Value) (G : Gl Z zc fm) (ac : Addr) (kc : ClassId) (y0 : Int32) (h0 : Heap) (n0 : Nat) (O : Old Z n0 h0) (V_c : Arv Z h0 ac kc .char (1 : Int32) [(.int y0)] (.int 0)) (hr0 : 0 ≤ y0.toInt ∧ y0.toInt < 65536) (hv0 : (255 : Int32) < y0) :
    Ct l (⟨"java/lang/StringUTF16", "compress", "([CII)[B"⟩ : MethodName) jdk_52_method_16_code 6 (some (.array .byte)) ({ frames := 3, cells := 2, slots := 3, locals := 40 } : Room) Z #[(.ref ac), (.int 0), (.int 1)] h0 (fun v h L => ∃ b kb, v = some (.ref b) ∧ Fr n0 L ∧ Keep h0 h [] ∧ h0.size ≤ b ∧ Arv Z h b kb .byte (2 : Int32) [(.int (nar .byte ((y0 >>> ((0 : Int32) &&& 31)).toInt8.toInt32))), (.int (nar .byte ((y0 >>> ((8 : Int32) &&& 31)).toInt8.toInt32)))] (.int 0)) := by
  refine Ct.of (plainFor_of_name pn_StringUTF16_856) ?_
  intro p e s m below meth c T0 X0 hx hby hml hown hnm hret hlk hZ e0
  have N0 := Fr.nil n0
  have G' := G
  obtain ⟨S_CS, hzc, S_FM, hfm, S_AD, S_HI, S_LO⟩ := G'
  refine Go.cast (g' := mkF m 0 #[.val (.ref ac), .val (.int 0), .val (.int 1), .unset, .unset, .unset] []) (by first | (simp [entryFrame, mkF, argsToLocals, Value.category]; done) | rfl) ?_
  have K : Keep h0 h0 [] := Keep.refl _ _
  refine Go.st (g' := (mkF m 1 #[.val (.ref ac), .val (.int 0), .val (.int 1), .unset, .unset, .unset] [(.int 1)])) (fun t k => ?_) ?_
  · refine XS.iloadN X0.here hx rfl (hb hby d_j52_m16_0) rfl ?_
    exact k
  refine Go.newP X0 hx hZ (wd hw 25 rfl) e0 (hb hby d_j52_m16_1) (by decide) (cap := 1) (by decide) (by decide) (by decide) (by decide) ?_
  intro T1 h1 b1 k1 X1 e1 E1 g1 V_b1
  have lb1 := Nat.le_of_eq g1.symm
  have ne_ac_b1 : ac ≠ b1 := Nat.ne_of_lt (Nat.lt_of_lt_of_le V_c.lt lb1)
  have g_b1 : n0 ≤ b1 := Nat.le_trans (OwnKit.Old.le O) lb1
  have sz_b1 : h0.size ≤ b1 := Nat.le_trans K.1 lb1
  replace V_c := V_c.ext E1
  replace O := O.ext E1
  replace K := K.ext E1
  replace V_b1 := V_b1.pad (pad_rep [] (.int 0) 1)
  replace V_b1 : Arv Z h1 b1 k1 .byte (1 : Int32) [(.int 0)] (.int 0) := V_b1
  refine Go.st (g' := (mkF m 9 #[.val (.ref ac), .val (.int 0), .val (.int 1), .val (.ref b1), .unset, .unset] [(.int 1), (.int 0), (.ref b1), (.int 0), (.ref ac)])) (fun t k => ?_) ?_
  · refine XS.astoreN X1.here hx rfl (hb hby d_j52_m16_3) rfl rfl (l' := #[.val (.ref ac), .val (.int 0), .val (.int 1), .val (.ref b1), .unset, .unset]) rfl ?_
    refine XS.aloadN X1.here hx rfl (hb hby d_j52_m16_4) rfl rfl ?_
    refine XS.iloadN X1.here hx rfl (hb hby d_j52_m16_5) rfl ?_
    refine XS.aloadN X1.here hx rfl (hb hby d_j52_m16_6) rfl rfl ?_
    refine XS.iconst X1.here hx rfl (hb hby d_j52_m16_7) ?_
    refine XS.iloadN X1.here hx rfl (hb hby d_j52_m16_8) rfl ?_
    exact k
  refine Go.callS X1 hx hZ (W := 0) (argsL := [(.ref ac), (.int 0), (.ref b1), (.int 0), (.int 1)]) (rest := []) hown (wd hw 26 rfl) (wd hw 27 rfl) (wd hw 23 rfl) (wd hw 28 rfl) (by decide) (ct_cmp5_1_0 l Z a0 hw  ac kc b1 k1 y0 h1 n0 O V_c V_b1 g_b1 ne_ac_b1 hv0) e1 (by rw [hml]; rfl) (lenOf pd___CI_BII_I_6624 rfl) rfl rfl (hb hby d_j52_m16_9) ?_
  intro v2 T2 h2 L2 X2 e2 q2
  obtain ⟨rfl, N2, K2, V_n2⟩ := q2
  replace N2 := Fr.app N0 N2
  replace V_c := V_c.keep K2 (ninS ne_ac_b1 nin0)
  clear V_b1
  replace O := O.keep K2 (allS g_b1 all0)
  replace K := K.trans K2 (allS (Or.inr sz_b1) all0)
  refine Go.st (g' := (mkF m 23 #[.val (.ref ac), .val (.int 0), .val (.int 1), .val (.ref b1), .val (.int 0), .unset] [(.int 1), (.int 0), (.ref ac)])) (fun t k => ?_) ?_
  · refine XS.istore X2.here hx rfl (hb hby d_j52_m16_12) rfl (l' := #[.val (.ref ac), .val (.int 0), .val (.int 1), .val (.ref b1), .val (.int 0), .unset]) rfl ?_
    refine XS.iload X2.here hx rfl (hb hby d_j52_m16_14) rfl ?_
    refine XS.iloadN X2.here hx rfl (hb hby d_j52_m16_16) rfl ?_
    refine XS.icmpNo X2.here hx rfl (hb hby d_j52_m16_17) rfl (feq (by decide : ¬ (0 : Int32) = (1 : Int32))).1 ?_
    refine XS.aloadN X2.here hx rfl (hb hby d_j52_m16_20) rfl rfl ?_
    refine XS.iloadN X2.here hx rfl (hb hby d_j52_m16_21) rfl ?_
    refine XS.iloadN X2.here hx rfl (hb hby d_j52_m16_22) rfl ?_
    exact k
  refine Go.callS X2 hx hZ (W := 0) (argsL := [(.ref ac), (.int 0), (.int 1)]) (rest := []) hown (wd hw 93 rfl) (wd hw 94 rfl) (wd hw 23 rfl) (wd hw 95 rfl) (by decide) (ct_tob_1 l Z a0 hw zc fm G ac kc y0 h2 n0 O V_c) e2 (by rw [hml]; rfl) (lenOf pd___CII__B_8269 rfl) rfl rfl (hb hby d_j52_m16_23) ?_
  intro v3 T3 h3 L3 X3 e3 q3
  obtain ⟨ot, kt, rfl, N3, K3, lb3, V_ot⟩ := q3
  replace N3 := Fr.app N2 N3
  have ne_ac_ot : ac ≠ ot := Nat.ne_of_lt (Nat.lt_of_lt_of_le V_c.lt lb3)
  have ne_b1_ot : b1 ≠ ot := Nat.ne_of_lt (Nat.lt_of_lt_of_le V_n2.lt lb3)
  have g_ot : n0 ≤ ot := Nat.le_trans (OwnKit.Old.le O) lb3
  have sz_ot : h0.size ≤ ot := Nat.le_trans K.1 lb3
  replace V_c := V_c.keep K3 nin0
  replace V_n2 := V_n2.keep K3 nin0
  replace O := O.keep K3 all0
  replace K := K.trans K3 all0
  refine Go.st (g' := (mkF m 32 #[.val (.ref ac), .val (.int 0), .val (.int 1), .val (.ref b1), .val (.int 0), .val (.ref ot)] [(.int 0), (.ref ot)])) (fun t k => ?_) ?_
  · refine XS.astore X3.here hx rfl (hb hby d_j52_m16_26) rfl rfl (l' := #[.val (.ref ac), .val (.int 0), .val (.int 1), .val (.ref b1), .val (.int 0), .val (.ref ot)]) rfl ?_
    refine XS.aload X3.here hx rfl (hb hby d_j52_m16_28) rfl rfl ?_
    refine XS.iload X3.here hx rfl (hb hby d_j52_m16_30) rfl ?_
    exact k
  refine Go.callS X3 hx hZ (W := 0) (argsL := [(.ref ot), (.int 0)]) (rest := []) hown (wd hw 109 rfl) (wd hw 110 rfl) (wd hw 23 rfl) (wd hw 111 rfl) (by decide) (ct_gch_1_0 l Z a0 hw zc fm G ot kt y0 h3 n0 O V_ot hr0) e3 (by rw [hml]; rfl) (lenOf pd___BI_C_7586 rfl) rfl rfl (hb hby d_j52_m16_32) ?_
  intro v4 T4 h4 L4 X4 e4 q4
  obtain ⟨rfl, N4, rfl⟩ := q4
  replace N4 := Fr.app N3 N4
  refine Go.st (g' := (mkF m 56 #[.val (.ref ac), .val (.int 0), .val (.int 1), .val (.ref b1), .val (.int 0), .val (.ref ot)] [(.ref ot)])) (fun t k => ?_) ?_
  · refine XS.sipush X4.here hx rfl (hb hby d_j52_m16_35) ?_
    refine XS.icmpYes X4.here hx rfl (pc0 := 38) (pc' := 54) rfl (hb hby d_j52_m16_38) rfl (tlt hv0).2.2.1 (by decide) (by decide) ?_
    refine XS.aload X4.here hx rfl (hb hby d_j52_m16_54) rfl rfl ?_
    exact k
  refine Go.retA X4 hx hlk hret rfl rfl (hb hby d_j52_m16_56) (by decide) (by decide) e4 ?_
  exact ⟨ot, _, rfl, N4, K, sz_ot, V_ot⟩
theorem ct_cfa_1_2 (l : Launch) (Z : State) (a0 : Array Value) (hw : ∀ d ∈ tables_1, d.before a0 Z = true) (ab : Addr) (kb : ClassId) (u0 : Value) (u1 : Value) (h0 : Heap) (n0 : Nat) (O : Old Z n0 h0) (V_b : Arv Z h0 ab kb .byte (2 : Int32) [u0, u1] (.int 0)) :
    Ct l (⟨"java/lang/StringUTF16", "coderFromArrayLen", "([BI)B"⟩ : MethodName) jdk_52_method_15_code 2 (some .byte) ({ frames := 0, cells := 0, slots := 0, locals := 0 } : Room) Z #[(.ref ab), (.int 1)] h0 (fun v h L => v = some (.int 1) ∧ Fr n0 L ∧ h0 = h) := by
  refine Ct.of (plainFor_of_name pn_StringUTF16_856) ?_
  intro p e s m below meth c T0 X0 hx hby hml hown hnm hret hlk hZ e0
  have N0 := Fr.nil n0
  refine Go.cast (g' := mkF m 0 #[.val (.ref ab), .val (.int 1)] []) (by first | (simp [entryFrame, mkF, argsToLocals, Value.category]; done) | rfl) ?_
  refine Go.st (g' := (mkF m 2 #[.val (.ref ab), .val (.int 1)] [(.ref ab), (.int 1)])) (fun t k => ?_) ?_
  · refine XS.iloadN X0.here hx rfl (hb hby d_j52_m15_0) rfl ?_
    refine XS.aloadN X0.here hx rfl (hb hby d_j52_m15_1) rfl rfl ?_
    exact k
  refine Go.alenV X0 hx hZ e0 V_b (hb hby d_j52_m15_2) ?_
  refine Go.st (g' := (mkF m 8 #[.val (.ref ab), .val (.int 1)] [(.int 1)])) (fun t k => ?_) ?_
  · refine XS.isub X0.here hx rfl (hb hby d_j52_m15_3) rfl ?_
    refine XS.bipush X0.here hx rfl (hb hby d_j52_m15_4) ?_
    refine XS.iushr X0.here hx rfl (hb hby d_j52_m15_6) rfl ?_
    refine XS.i2b X0.here hx rfl (hb hby d_j52_m15_7) rfl ?_
    exact k
  refine Go.retS X0 hx hlk hret (by simp) rfl (hb hby d_j52_m15_8) (by decide) (by decide) e0 ?_
  exact ⟨rfl, N0, rfl⟩
theorem ct_si4_1_0 (l : Launch) (Z : State) (a0 : Array Value) (hw : ∀ d ∈ tables_1, d.before a0 Z = true) (zc : Int32) (fm : Value) (G : Gl Z zc fm) (a1 : Addr) (ac : Addr) (kc : ClassId) (y0 : Int32) (h0 : Heap) (n0 : Nat) (O : Old Z n0 h0) (E_a1 : Exa Z h0 a1 "java/lang/String") (F_a1_value : Fld Z h0 a1 "java/lang/String" "value" "[B" .null) (F_a1_coder : Fld Z h0 a1 "java/lang/String" "coder" "B" (.int 0)) (g_a1 : n0 ≤ a1) (V_c : Arv Z h0 ac kc .char (1 : Int32) [(.int y0)] (.int 0)) (ne_a1_ac : a1 ≠ ac) (hr0 : 0 ≤ y0.toInt ∧ y0.toInt < 65536) (hv0 : (255 : Int32) < y0) :
    Ct l (⟨"java/lang/String", "<init>", "([CIILjava/lang/Void;)V"⟩ : MethodName) jdk_42_method_149_code 6 none ({ frames := 4, cells := 2, slots := 3, locals := 57 } : Room) Z #[(.ref a1), (.ref ac), (.int 0), (.int 1), .null] h0 (fun v h L => ∃ b kb, v = none ∧ Fr n0 L ∧ Keep h0 h [a1] ∧ Fld Z h a1 "java/lang/String" "value" "[B" (.ref b) ∧ Fld Z h a1 "java/lang/String" "coder" "B" (.int 1) ∧ Arv Z h b kb .byte (2 : Int32) [(.int (nar .byte ((y0 >>> ((0 : Int32) &&& 31)).toInt8.toInt32))), (.int (nar .byte ((y0 >>> ((8 : Int32) &&& 31)).toInt8.toInt32)))] (.int 0)) := by
  refine Ct.of (plainFor_of_name pn_String_837) ?_
  intro p e s m below meth c T0 X0 hx hby hml hown hnm hret hlk hZ e0
  have N0 := Fr.nil n0
  have G' := G
  obtain ⟨S_CS, hzc, S_FM, hfm, S_AD, S_HI, S_LO⟩ := G'
  refine Go.cast (g' := mkF m 0 #[.val (.ref a1), .val (.ref ac), .val (.int 0), .val (.int 1), .val .null, .unset] []) (by first | (simp [entryFrame, mkF, argsToLocals, Value.category]; done) | rfl) ?_
  have K : Keep h0 h0 [a1] := Keep.refl _ _
  refine Go.st (g' := (mkF m 1 #[.val (.ref a1), .val (.ref ac), .val (.int 0), .val (.int 1), .val .null, .unset] [(.ref a1)])) (fun t k => ?_) ?_
  · refine XS.aloadN X0.here hx rfl (hb hby d_j42_m149_0) rfl rfl ?_
    exact k
  refine Go.initO X0 hx hZ hown (wd hw 17 rfl) (wd hw 18 rfl) (wd hw 19 rfl) e0 (by rw [hml]; rfl) (hb hby d_j42_m149_1) (by decide) (W := 0) rfl (by decide) ?_
  intro T1 X1 e1
  refine Go.st (g' := (mkF m 27 #[.val (.ref a1), .val (.ref ac), .val (.int 0), .val (.int 1), .val .null, .unset] [])) (fun t k => ?_) ?_
  · refine XS.iloadN X1.here hx rfl (hb hby d_j42_m149_4) rfl ?_
    refine XS.ifYes X1.here hx rfl (pc0 := 5) (pc' := 27) rfl (hb hby d_j42_m149_5) rfl ((if0 _ _).trans (feq (by decide : ¬ (1 : Int32) = (0 : Int32))).2) (by decide) (by decide) ?_
    exact k
  refine Go.getS X1 hx hZ hown (wd hw 20 rfl) Via.refl e1 (S_CS.ext O.2) (hb hby d_j42_m149_27) ?_
  intro T2 X2 e2
  refine Go.st (g' := (mkF m 36 #[.val (.ref a1), .val (.ref ac), .val (.int 0), .val (.int 1), .val .null, .unset] [(.int 1), (.int 0), (.ref ac)])) (fun t k => ?_) ?_
  · refine XS.ifNo X2.here hx rfl (hb hby d_j42_m149_30) rfl ((if0 _ _).trans (feq hzc).1) ?_
    refine XS.aloadN X2.here hx rfl (hb hby d_j42_m149_33) rfl rfl ?_
    refine XS.iloadN X2.here hx rfl (hb hby d_j42_m149_34) rfl ?_
    refine XS.iloadN X2.here hx rfl (hb hby d_j42_m149_35) rfl ?_
    exact k
  refine Go.callS X2 hx hZ (W := 0) (argsL := [(.ref ac), (.int 0), (.int 1)]) (rest := []) hown (wd hw 21 rfl) (wd hw 22 rfl) (wd hw 23 rfl) (wd hw 24 rfl) (by decide) (ct_cmp3_1_0 l Z a0 hw zc fm G ac kc y0 h0 n0 O V_c hr0 hv0) e2 (by rw [hml]; rfl) (lenOf pd___CII__B_8269 rfl) rfl rfl (hb hby d_j42_m149_36) ?_
  intro v3 T3 h3 L3 X3 e3 q3
  obtain ⟨ob, kb, rfl, N3, K3, lb3, V_ob⟩ := q3
  replace N3 := Fr.app N0 N3
  have ne_a1_ob : a1 ≠ ob := Nat.ne_of_lt (Nat.lt_of_lt_of_le E_a1.lt lb3)
  have ne_ac_ob : ac ≠ ob := Nat.ne_of_lt (Nat.lt_of_lt_of_le V_c.lt lb3)
  have g_ob : n0 ≤ ob := Nat.le_trans (OwnKit.Old.le O) lb3
  have sz_ob : h0.size ≤ ob := Nat.le_trans K.1 lb3
  replace E_a1 := E_a1.keep K3
  replace F_a1_value := F_a1_value.keep K3 nin0
  replace F_a1_coder := F_a1_coder.keep K3 nin0
  replace V_c := V_c.keep K3 nin0
  replace O := O.keep K3 all0
  replace K := K.trans K3 all0
  refine Go.st (g' := (mkF m 45 #[.val (.ref a1), .val (.ref ac), .val (.int 0), .val (.int 1), .val .null, .val (.ref ob)] [(.int 1), (.ref ob), (.ref a1)])) (fun t k => ?_) ?_
  · refine XS.astore X3.here hx rfl (hb hby d_j42_m149_39) rfl rfl (l' := #[.val (.ref a1), .val (.ref ac), .val (.int 0), .val (.int 1), .val .null, .val (.ref ob)]) rfl ?_
    refine XS.aloadN X3.here hx rfl (hb hby d_j42_m149_41) rfl rfl ?_
    refine XS.aload X3.here hx rfl (hb hby d_j42_m149_42) rfl rfl ?_
    refine XS.iloadN X3.here hx rfl (hb hby d_j42_m149_44) rfl ?_
    exact k
  refine Go.callS X3 hx hZ (W := 1) (argsL := [(.ref ob), (.int 1)]) (rest := [(.ref a1)]) hown (wd hw 29 rfl) (wd hw 30 rfl) (wd hw 23 rfl) (wd hw 31 rfl) (by decide) (ct_cfa_1_2 l Z a0 hw  ob kb (.int (nar .byte ((y0 >>> ((0 : Int32) &&& 31)).toInt8.toInt32))) (.int (nar .byte ((y0 >>> ((8 : Int32) &&& 31)).toInt8.toInt32))) h3 n0 O V_ob) e3 (by rw [hml]; rfl) (lenOf pd___BI_B_7585 rfl) rfl rfl (hb hby d_j42_m149_45) ?_
  intro v4 T4 h4 L4 X4 e4 q4
  obtain ⟨rfl, N4, rfl⟩ := q4
  replace N4 := Fr.app N3 N4
  show Go p e below _ T4 (mkF m 48 #[.val (.ref a1), .val (.ref ac), .val (.int 0), .val (.int 1), .val .null, .val (.ref ob)] [(.int 1), (.ref a1)])
  refine Go.putF X4 hx hZ hown (wd hw 32 rfl) Via.refl e4 F_a1_coder E_a1 (Or.inr ⟨(wd hw 33 rfl), rfl, hnm⟩) (wd hw 7 rfl) (ty := .byte) (by decide) rfl rfl (hb hby d_j42_m149_48) ?_
  intro T5 h5 X5 e5 W5
  replace E_a1 := E_a1.wr W5
  replace F_a1_value := F_a1_value.other W5 (Or.inr (slot_ne (a0 := a0) (Or.inr (wd hw 35 rfl)) (Or.inr (wd hw 33 rfl)) (by decide) (t := (.array .byte)) (t' := .byte) (by decide) (by decide)))
  replace F_a1_coder := F_a1_coder.same W5
  replace V_c := V_c.other W5 (Ne.symm ne_a1_ac)
  replace V_ob := V_ob.other W5 (Ne.symm ne_a1_ob)
  replace O := O.wr W5 g_a1
  have N5 := Fr.snoc X5 N4 g_a1
  replace K := K.wr W5 (Or.inl (List.mem_of_getElem? (i := 0) rfl))
  refine Go.st (g' := (mkF m 54 #[.val (.ref a1), .val (.ref ac), .val (.int 0), .val (.int 1), .val .null, .val (.ref ob)] [(.ref ob), (.ref a1)])) (fun t k => ?_) ?_
  · refine XS.aloadN X5.here hx rfl (hb hby d_j42_m149_51) rfl rfl ?_
    refine XS.aload X5.here hx rfl (hb hby d_j42_m149_52) rfl rfl ?_
    exact k
  refine Go.putF X5 hx hZ hown (wd hw 34 rfl) Via.refl e5 F_a1_value E_a1 (Or.inr ⟨(wd hw 35 rfl), rfl, hnm⟩) (wd hw 7 rfl) (ty := (.array .byte)) (by decide) rfl rfl (hb hby d_j42_m149_54) ?_
  intro T6 h6 X6 e6 W6
  replace E_a1 := E_a1.wr W6
  replace F_a1_value := F_a1_value.same W6
  replace F_a1_coder := F_a1_coder.other W6 (Or.inr (slot_ne (a0 := a0) (Or.inr (wd hw 33 rfl)) (Or.inr (wd hw 35 rfl)) (by decide) (t := .byte) (t' := (.array .byte)) (by decide) (by decide)))
  replace V_c := V_c.other W6 (Ne.symm ne_a1_ac)
  replace V_ob := V_ob.other W6 (Ne.symm ne_a1_ob)
  replace O := O.wr W6 g_a1
  have N6 := Fr.snoc X6 N5 g_a1
  replace K := K.wr W6 (Or.inl (List.mem_of_getElem? (i := 0) rfl))
  show Go p e below _ T6 (mkF m 57 #[.val (.ref a1), .val (.ref ac), .val (.int 0), .val (.int 1), .val .null, .val (.ref ob)] [])
  refine Go.retV X6 hx hlk hret (hb hby d_j42_m149_57) (by decide) (by decide) e6 ?_
  exact ⟨ob, kb, rfl, N6, K, F_a1_value, F_a1_coder, V_ob⟩
theorem ct_si1_1_0 (l : Launch) (Z : State) (a0 : Array Value) (hw : ∀ d ∈ tables_1, d.before a0 Z = true) (zc : Int32) (fm : Value) (G : Gl Z zc fm) (a1 : Addr) (ac : Addr) (kc : ClassId) (y0 : Int32) (h0 : Heap) (n0 : Nat) (O : Old Z n0 h0) (E_a1 : Exa Z h0 a1 "java/lang/String") (F_a1_value : Fld Z h0 a1 "java/lang/String" "value" "[B" .null) (F_a1_coder : Fld Z h0 a1 "java/lang/String" "coder" "B" (.int 0)) (g_a1 : n0 ≤ a1) (V_c : Arv Z h0 ac kc .char (1 : Int32) [(.int y0)] (.int 0)) (ne_a1_ac : a1 ≠ ac) (hr0 : 0 ≤ y0.toInt ∧ y0.toInt < 65536) (hv0 : (255 : Int32) < y0) :
    Ct l (⟨"java/lang/String", "<init>", "([C)V"⟩ : MethodName) jdk_42_method_3_code 2 none ({ frames := 5, cells := 2, slots := 3, locals := 74 } : Room) Z #[(.ref a1), (.ref ac)] h0 (fun v h L => ∃ b kb, v = none ∧ Fr n0 L ∧ Keep h0 h [a1] ∧ Fld Z h a1 "java/lang/String" "value" "[B" (.ref b) ∧ Fld Z h a1 "java/lang/String" "coder" "B" (.int 1) ∧ Arv Z h b kb .byte (2 : Int32) [(.int (nar .byte ((y0 >>> ((0 : Int32) &&& 31)).toInt8.toInt32))), (.int (nar .byte ((y0 >>> ((8 : Int32) &&& 31)).toInt8.toInt32)))] (.int 0)) := by
  refine Ct.of (plainFor_of_name pn_String_837) ?_
  intro p e s m below meth c T0 X0 hx hby hml hown hnm hret hlk hZ e0
  have N0 := Fr.nil n0
  have G' := G
  obtain ⟨S_CS, hzc, S_FM, hfm, S_AD, S_HI, S_LO⟩ := G'
  refine Go.cast (g' := mkF m 0 #[.val (.ref a1), .val (.ref ac)] []) (by first | (simp [entryFrame, mkF, argsToLocals, Value.category]; done) | rfl) ?_
  have K : Keep h0 h0 [a1] := Keep.refl _ _
  refine Go.st (g' := (mkF m 4 #[.val (.ref a1), .val (.ref ac)] [(.ref ac), (.int 0), (.ref ac), (.ref a1)])) (fun t k => ?_) ?_
  · refine XS.aloadN X0.here hx rfl (hb hby d_j42_m3_0) rfl rfl ?_
    refine XS.aloadN X0.here hx rfl (hb hby d_j42_m3_1) rfl rfl ?_
    refine XS.iconst X0.here hx rfl (hb hby d_j42_m3_2) ?_
    refine XS.aloadN X0.here hx rfl (hb hby d_j42_m3_3) rfl rfl ?_
    exact k
  refine Go.alenV X0 hx hZ e0 V_c (hb hby d_j42_m3_4) ?_
  refine Go.st (g' := (mkF m 6 #[.val (.ref a1), .val (.ref ac)] [.null, (.int 1), (.int 0), (.ref ac), (.ref a1)])) (fun t k => ?_) ?_
  · refine XS.aconstNull X0.here hx rfl (hb hby d_j42_m3_5) ?_
    exact k
  refine Go.callC X0 hx hZ (W := 0) (argsL := [(.ref ac), (.int 0), (.int 1), .null]) (rest := []) hown rfl (wd hw 13 rfl) (wd hw 14 rfl) (wd hw 8 rfl) (wd hw 16 rfl) (by decide) (ct_si4_1_0 l Z a0 hw zc fm G a1 ac kc y0 h0 n0 O E_a1 F_a1_value F_a1_coder g_a1 V_c ne_a1_ac hr0 hv0) e0 (by rw [hml]; rfl) (lenOf pd___CIILjava_lang_Void__V_1319 rfl) rfl rfl (hb hby d_j42_m3_6) ?_
  intro v1 T1 h1 L1 X1 e1 q1
  obtain ⟨ob1, kb1, rfl, N1, K1, Fv1, Fc1, V_ob1⟩ := q1
  replace N1 := Fr.app N0 N1
  replace E_a1 := E_a1.keep K1
  clear F_a1_value
  clear F_a1_coder
  replace V_c := V_c.keep K1 (ninS (Ne.symm ne_a1_ac) nin0)
  replace O := O.keep K1 (allS g_a1 all0)
  replace K := K.trans K1 (allS (Or.inl (List.mem_of_getElem? (i := 0) rfl)) all0)
  show Go p e below _ T1 (mkF m 9 #[.val (.ref a1), .val (.ref ac)] [])
  refine Go.retV X1 hx hlk hret (hb hby d_j42_m3_9) (by decide) (by decide) e1 ?_
  exact ⟨ob1, kb1, rfl, N1, K, Fv1, Fc1, V_ob1⟩
theorem ct_good_0_0 (l : Launch) (Z : State) (a0 : Array Value) (hw : ∀ d ∈ tables_1, d.before a0 Z = true) (y0 : Int32) (y1 : Int32) (y2 : Int32) (h0 : Heap) (n0 : Nat) (O : Old Z n0 h0)  :
    Ct l (⟨"com/example/provenara/provenara/model/CatalogTextIsStorablePinLaw", "good", "(CZCZC)Z"⟩ : MethodName) method_5_code 5 (some .boolean) ({ frames := 1, cells := 0, slots := 0, locals := 12 } : Room) Z #[(.int y0), (.int 0), (.int y1), (.int 0), (.int y2)] h0 (fun v h L => v = some (.int (goodF y0 false y1 false y2)) ∧ Fr n0 L ∧ h0 = h) := by
  refine Ct.of (plainFor_of_name pn_CatalogTextIsStorablePinLaw_167) ?_
  intro p e s m below meth c T0 X0 hx hby hml hown hnm hret hlk hZ e0
  have N0 := Fr.nil n0
  refine Go.cast (g' := mkF m 0 #[.val (.int y0), .val (.int 0), .val (.int y1), .val (.int 0), .val (.int y2)] []) (by first | (simp [entryFrame, mkF, argsToLocals, Value.category]; done) | rfl) ?_
  refine Go.st (g' := (mkF m 1 #[.val (.int y0), .val (.int 0), .val (.int y1), .val (.int 0), .val (.int y2)] [(.int y0)])) (fun t k => ?_) ?_
  · refine XS.iloadN X0.here hx rfl (hb hby d_m5_0) rfl ?_
    exact k
  by_cases hy1 : y0 = (0 : Int32)
  · skip
    refine Go.st (g' := (mkF m 5 #[.val (.int y0), .val (.int 0), .val (.int y1), .val (.int 0), .val (.int y2)] [(.int 0)])) (fun t k => ?_) ?_
    · refine XS.ifNo X0.here hx rfl (hb hby d_m5_1) rfl ((if0 _ _).trans (teq hy1).2) ?_
      refine XS.iconst X0.here hx rfl (hb hby d_m5_4) ?_
      exact k
    refine Go.retZ X0 hx hlk hret (Or.inl rfl) (hb hby d_m5_5) (by decide) (by decide) e0 ?_
    exact ⟨by simp [goodF, hy1], N0, rfl⟩
  · skip
    refine Go.st (g' := (mkF m 7 #[.val (.int y0), .val (.int 0), .val (.int y1), .val (.int 0), .val (.int y2)] [(.int y0)])) (fun t k => ?_) ?_
    · refine XS.ifYes X0.here hx rfl (pc0 := 1) (pc' := 6) rfl (hb hby d_m5_1) rfl ((if0 _ _).trans (feq hy1).2) (by decide) (by decide) ?_
      refine XS.iloadN X0.here hx rfl (hb hby d_m5_6) rfl ?_
      exact k
    by_cases hy2 : hiB y0 = true
    · skip
      show Go p e below _ T0 (mkF m 7 #[.val (.int y0), .val (.int 0), .val (.int y1), .val (.int 0), .val (.int y2)] [(.int y0)])
      refine Go.callS X0 hx hZ (W := 0) (argsL := [(.int y0)]) (rest := []) hown (wd hw 75 rfl) (wd hw 76 rfl) (wd hw 2 rfl) (wd hw 77 rfl) (by decide) (ct_iHi l Z a0 hw  y0 (1 : Int32) h0 n0 O (if_pos hy2).symm) e0 (by rw [hml]; rfl) (lenOf pd__C_Z_2014 rfl) rfl rfl (hb hby d_m5_7) ?_
      intro v3 T3 h3 L3 X3 e3 q3
      obtain ⟨rfl, N3, rfl⟩ := q3
      replace N3 := Fr.app N0 N3
      refine Go.st (g' := (mkF m 30 #[.val (.int y0), .val (.int 0), .val (.int y1), .val (.int 0), .val (.int y2)] [(.int 0)])) (fun t k => ?_) ?_
      · refine XS.ifNo X3.here hx rfl (hb hby d_m5_10) rfl ((if0 _ _).trans (feq (by decide : ¬ (1 : Int32) = (0 : Int32))).1) ?_
        refine XS.iloadN X3.here hx rfl (hb hby d_m5_13) rfl ?_
        refine XS.ifYes X3.here hx rfl (pc0 := 14) (pc' := 29) rfl (hb hby d_m5_14) rfl ((if0 _ _).trans (teq (by decide : (0 : Int32) = (0 : Int32))).1) (by decide) (by decide) ?_
        refine XS.iconst X3.here hx rfl (hb hby d_m5_29) ?_
        exact k
      refine Go.retZ X3 hx hlk hret (Or.inl rfl) (hb hby d_m5_30) (by decide) (by decide) e3 ?_
      exact ⟨by simp [goodF, hy1, hy2], N3, rfl⟩
    · skip
      show Go p e below _ T0 (mkF m 7 #[.val (.int y0), .val (.int 0), .val (.int y1), .val (.int 0), .val (.int y2)] [(.int y0)])
      refine Go.callS X0 hx hZ (W := 0) (argsL := [(.int y0)]) (rest := []) hown (wd hw 75 rfl) (wd hw 76 rfl) (wd hw 2 rfl) (wd hw 77 rfl) (by decide) (ct_iHi l Z a0 hw  y0 (0 : Int32) h0 n0 O (if_neg hy2).symm) e0 (by rw [hml]; rfl) (lenOf pd__C_Z_2014 rfl) rfl rfl (hb hby d_m5_7) ?_
      intro v4 T4 h4 L4 X4 e4 q4
      obtain ⟨rfl, N4, rfl⟩ := q4
      replace N4 := Fr.app N0 N4
      refine Go.st (g' := (mkF m 32 #[.val (.int y0), .val (.int 0), .val (.int y1), .val (.int 0), .val (.int y2)] [(.int y0)])) (fun t k => ?_) ?_
      · refine XS.ifYes X4.here hx rfl (pc0 := 10) (pc' := 31) rfl (hb hby d_m5_10) rfl ((if0 _ _).trans (teq (by decide : (0 : Int32) = (0 : Int32))).1) (by decide) (by decide) ?_
        refine XS.iloadN X4.here hx rfl (hb hby d_m5_31) rfl ?_
        exact k
      by_cases hy5 : loB y0 = true
      · skip
        show Go p e below _ T4 (mkF m 32 #[.val (.int y0), .val (.int 0), .val (.int y1), .val (.int 0), .val (.int y2)] [(.int y0)])
        refine Go.callS X4 hx hZ (W := 0) (argsL := [(.int y0)]) (rest := []) hown (wd hw 79 rfl) (wd hw 80 rfl) (wd hw 2 rfl) (wd hw 81 rfl) (by decide) (ct_iLo l Z a0 hw  y0 (1 : Int32) h0 n0 O (if_pos hy5).symm) e4 (by rw [hml]; rfl) (lenOf pd__C_Z_2014 rfl) rfl rfl (hb hby d_m5_32) ?_
        intro v6 T6 h6 L6 X6 e6 q6
        obtain ⟨rfl, N6, rfl⟩ := q6
        replace N6 := Fr.app N4 N6
        refine Go.st (g' := (mkF m 54 #[.val (.int y0), .val (.int 0), .val (.int y1), .val (.int 0), .val (.int y2)] [(.int 0)])) (fun t k => ?_) ?_
        · refine XS.ifNo X6.here hx rfl (hb hby d_m5_35) rfl ((if0 _ _).trans (feq (by decide : ¬ (1 : Int32) = (0 : Int32))).1) ?_
          refine XS.iloadN X6.here hx rfl (hb hby d_m5_38) rfl ?_
          refine XS.ifYes X6.here hx rfl (pc0 := 39) (pc' := 53) rfl (hb hby d_m5_39) rfl ((if0 _ _).trans (teq (by decide : (0 : Int32) = (0 : Int32))).1) (by decide) (by decide) ?_
          refine XS.iconst X6.here hx rfl (hb hby d_m5_53) ?_
          exact k
        refine Go.retZ X6 hx hlk hret (Or.inl rfl) (hb hby d_m5_54) (by decide) (by decide) e6 ?_
        exact ⟨by simp [goodF, hy1, hy2, hy5], N6, rfl⟩
      · skip
        show Go p e below _ T4 (mkF m 32 #[.val (.int y0), .val (.int 0), .val (.int y1), .val (.int 0), .val (.int y2)] [(.int y0)])
        refine Go.callS X4 hx hZ (W := 0) (argsL := [(.int y0)]) (rest := []) hown (wd hw 79 rfl) (wd hw 80 rfl) (wd hw 2 rfl) (wd hw 81 rfl) (by decide) (ct_iLo l Z a0 hw  y0 (0 : Int32) h0 n0 O (if_neg hy5).symm) e4 (by rw [hml]; rfl) (lenOf pd__C_Z_2014 rfl) rfl rfl (hb hby d_m5_32) ?_
        intro v7 T7 h7 L7 X7 e7 q7
        obtain ⟨rfl, N7, rfl⟩ := q7
        replace N7 := Fr.app N4 N7
        refine Go.st (g' := (mkF m 56 #[.val (.int y0), .val (.int 0), .val (.int y1), .val (.int 0), .val (.int y2)] [(.int 1)])) (fun t k => ?_) ?_
        · refine XS.ifYes X7.here hx rfl (pc0 := 35) (pc' := 55) rfl (hb hby d_m5_35) rfl ((if0 _ _).trans (teq (by decide : (0 : Int32) = (0 : Int32))).1) (by decide) (by decide) ?_
          refine XS.iconst X7.here hx rfl (hb hby d_m5_55) ?_
          exact k
        refine Go.retZ X7 hx hlk hret (Or.inr rfl) (hb hby d_m5_56) (by decide) (by decide) e7 ?_
        exact ⟨by simp [goodF, hy1, hy2, hy5], N7, rfl⟩
theorem ct_coder_1 (l : Launch) (Z : State) (a0 : Array Value) (hw : ∀ d ∈ tables_1, d.before a0 Z = true) (zc : Int32) (fm : Value) (G : Gl Z zc fm) (a1 : Addr) (h0 : Heap) (n0 : Nat) (O : Old Z n0 h0) (F_c : Fld Z h0 a1 "java/lang/String" "coder" "B" (.int 1)) :
    Ct l (⟨"java/lang/String", "coder", "()B"⟩ : MethodName) jdk_42_method_152_code 1 (some .byte) ({ frames := 0, cells := 0, slots := 0, locals := 0 } : Room) Z #[(.ref a1)] h0 (fun v h L => v = some (.int 1) ∧ Fr n0 L ∧ h0 = h) := by
  refine Ct.of (plainFor_of_name pn_String_837) ?_
  intro p e s m below meth c T0 X0 hx hby hml hown hnm hret hlk hZ e0
  have N0 := Fr.nil n0
  have G' := G
  obtain ⟨S_CS, hzc, S_FM, hfm, S_AD, S_HI, S_LO⟩ := G'
  refine Go.cast (g' := mkF m 0 #[.val (.ref a1)] []) (by first | (simp [entryFrame, mkF, argsToLocals, Value.category]; done) | rfl) ?_
  refine Go.getS X0 hx hZ hown (wd hw 20 rfl) Via.refl e0 (S_CS.ext O.2) (hb hby d_j42_m152_0) ?_
  intro T1 X1 e1
  refine Go.st (g' := (mkF m 7 #[.val (.ref a1)] [(.ref a1)])) (fun t k => ?_) ?_
  · refine XS.ifNo X1.here hx rfl (hb hby d_j42_m152_3) rfl ((if0 _ _).trans (feq hzc).1) ?_
    refine XS.aloadN X1.here hx rfl (hb hby d_j42_m152_6) rfl rfl ?_
    exact k
  refine Go.getF X1 hx hZ hown (wd hw 32 rfl) Via.refl e1 F_c (hb hby d_j42_m152_7) ?_
  intro T2 X2 e2
  refine Go.st (g' := (mkF m 14 #[.val (.ref a1)] [(.int 1)])) (fun t k => ?_) ?_
  · refine XS.goto X2.here hx rfl (pc0 := 10) (pc' := 14) rfl (hb hby d_j42_m152_10) (by decide) (by decide) ?_
    exact k
  refine Go.retS X2 hx hlk hret (by simp) rfl (hb hby d_j42_m152_14) (by decide) (by decide) e2 ?_
  exact ⟨rfl, N0, rfl⟩
theorem ct_len_1_1 (l : Launch) (Z : State) (a0 : Array Value) (hw : ∀ d ∈ tables_1, d.before a0 Z = true) (zc : Int32) (fm : Value) (G : Gl Z zc fm) (a1 : Addr) (ab : Addr) (kb : ClassId) (dv : Value) (u0 : Value) (u1 : Value) (h0 : Heap) (n0 : Nat) (O : Old Z n0 h0) (E_a1 : Exa Z h0 a1 "java/lang/String") (F_v : Fld Z h0 a1 "java/lang/String" "value" "[B" (.ref ab)) (F_c : Fld Z h0 a1 "java/lang/String" "coder" "B" (.int 1)) (V_b : Arv Z h0 ab kb .byte (2 : Int32) [u0, u1] dv) :
    Ct l (⟨"java/lang/String", "length", "()I"⟩ : MethodName) jdk_42_method_54_code 1 (some .int) ({ frames := 2, cells := 0, slots := 0, locals := 60 } : Room) Z #[(.ref a1)] h0 (fun v h L => v = some (.int 1) ∧ Fr n0 L ∧ h0 = h) := by
  refine Ct.of (plainFor_of_name pn_String_837) ?_
  intro p e s m below meth c T0 X0 hx hby hml hown hnm hret hlk hZ e0
  have N0 := Fr.nil n0
  have G' := G
  obtain ⟨S_CS, hzc, S_FM, hfm, S_AD, S_HI, S_LO⟩ := G'
  refine Go.cast (g' := mkF m 0 #[.val (.ref a1)] []) (by first | (simp [entryFrame, mkF, argsToLocals, Value.category]; done) | rfl) ?_
  refine Go.st (g' := (mkF m 1 #[.val (.ref a1)] [(.ref a1)])) (fun t k => ?_) ?_
  · refine XS.aloadN X0.here hx rfl (hb hby d_j42_m54_0) rfl rfl ?_
    exact k
  refine Go.getF X0 hx hZ hown (wd hw 34 rfl) Via.refl e0 F_v (hb hby d_j42_m54_1) ?_
  intro T1 X1 e1
  show Go p e below _ T1 (mkF m 4 #[.val (.ref a1)] [(.ref ab)])
  refine Go.alenV X1 hx hZ e1 V_b (hb hby d_j42_m54_4) ?_
  refine Go.st (g' := (mkF m 6 #[.val (.ref a1)] [(.ref a1), (.int 2)])) (fun t k => ?_) ?_
  · refine XS.aloadN X1.here hx rfl (hb hby d_j42_m54_5) rfl rfl ?_
    exact k
  refine Go.callV X1 hx hZ (W := 1) (argsL := []) (rest := [(.int 2)]) hown (wd hw 48 rfl) (wd hw 49 rfl) (notFace_of_selects (args := #[]) (mvT hZ (wd hw 51 rfl))) (wd hw 51 rfl) (wd hw 50 rfl) (wd hw 8 rfl) (wd hw 52 rfl) (by decide) E_a1 (ct_coder_1 l Z a0 hw zc fm G a1 h0 n0 O F_c) e1 (by rw [hml]; rfl) (lenOf pd___B_8314 rfl) rfl rfl (hb hby d_j42_m54_6) ?_
  intro v2 T2 h2 L2 X2 e2 q2
  obtain ⟨rfl, N2, rfl⟩ := q2
  replace N2 := Fr.app N0 N2
  refine Go.st (g' := (mkF m 10 #[.val (.ref a1)] [(.int 1)])) (fun t k => ?_) ?_
  · refine XS.ishr X2.here hx rfl (hb hby d_j42_m54_9) rfl ?_
    exact k
  refine Go.retI X2 hx hlk hret (hb hby d_j42_m54_10) (by decide) (by decide) e2 ?_
  exact ⟨rfl, N2, rfl⟩
theorem ct_isL_1 (l : Launch) (Z : State) (a0 : Array Value) (hw : ∀ d ∈ tables_1, d.before a0 Z = true) (zc : Int32) (fm : Value) (G : Gl Z zc fm) (a1 : Addr) (h0 : Heap) (n0 : Nat) (O : Old Z n0 h0) (F_c : Fld Z h0 a1 "java/lang/String" "coder" "B" (.int 1)) :
    Ct l (⟨"java/lang/String", "isLatin1", "()Z"⟩ : MethodName) jdk_42_method_154_code 1 (some .boolean) ({ frames := 0, cells := 0, slots := 0, locals := 0 } : Room) Z #[(.ref a1)] h0 (fun v h L => v = some (.int 0) ∧ Fr n0 L ∧ h0 = h) := by
  refine Ct.of (plainFor_of_name pn_String_837) ?_
  intro p e s m below meth c T0 X0 hx hby hml hown hnm hret hlk hZ e0
  have N0 := Fr.nil n0
  have G' := G
  obtain ⟨S_CS, hzc, S_FM, hfm, S_AD, S_HI, S_LO⟩ := G'
  refine Go.cast (g' := mkF m 0 #[.val (.ref a1)] []) (by first | (simp [entryFrame, mkF, argsToLocals, Value.category]; done) | rfl) ?_
  refine Go.getS X0 hx hZ hown (wd hw 20 rfl) Via.refl e0 (S_CS.ext O.2) (hb hby d_j42_m154_0) ?_
  intro T1 X1 e1
  refine Go.st (g' := (mkF m 7 #[.val (.ref a1)] [(.ref a1)])) (fun t k => ?_) ?_
  · refine XS.ifNo X1.here hx rfl (hb hby d_j42_m154_3) rfl ((if0 _ _).trans (feq hzc).1) ?_
    refine XS.aloadN X1.here hx rfl (hb hby d_j42_m154_6) rfl rfl ?_
    exact k
  refine Go.getF X1 hx hZ hown (wd hw 32 rfl) Via.refl e1 F_c (hb hby d_j42_m154_7) ?_
  intro T2 X2 e2
  refine Go.st (g' := (mkF m 18 #[.val (.ref a1)] [(.int 0)])) (fun t k => ?_) ?_
  · refine XS.ifYes X2.here hx rfl (pc0 := 10) (pc' := 17) rfl (hb hby d_j42_m154_10) rfl ((if0 _ _).trans (feq (by decide : ¬ (1 : Int32) = (0 : Int32))).2) (by decide) (by decide) ?_
    refine XS.iconst X2.here hx rfl (hb hby d_j42_m154_17) ?_
    exact k
  refine Go.retZ X2 hx hlk hret (Or.inl rfl) (hb hby d_j42_m154_18) (by decide) (by decide) e2 ?_
  exact ⟨rfl, N0, rfl⟩
theorem ct_ulen_2 (l : Launch) (Z : State) (a0 : Array Value) (hw : ∀ d ∈ tables_1, d.before a0 Z = true) (ab : Addr) (kb : ClassId) (u0 : Value) (u1 : Value) (h0 : Heap) (n0 : Nat) (O : Old Z n0 h0) (V_b : Arv Z h0 ab kb .byte (2 : Int32) [u0, u1] (.int 0)) :
    Ct l (⟨"java/lang/StringUTF16", "length", "([B)I"⟩ : MethodName) jdk_52_method_6_code 1 (some .int) ({ frames := 0, cells := 0, slots := 0, locals := 0 } : Room) Z #[(.ref ab)] h0 (fun v h L => v = some (.int 1) ∧ Fr n0 L ∧ h0 = h) := by
  refine Ct.of (plainFor_of_name pn_StringUTF16_856) ?_
  intro p e s m below meth c T0 X0 hx hby hml hown hnm hret hlk hZ e0
  have N0 := Fr.nil n0
  refine Go.cast (g' := mkF m 0 #[.val (.ref ab)] []) (by first | (simp [entryFrame, mkF, argsToLocals, Value.category]; done) | rfl) ?_
  refine Go.st (g' := (mkF m 1 #[.val (.ref ab)] [(.ref ab)])) (fun t k => ?_) ?_
  · refine XS.aloadN X0.here hx rfl (hb hby d_j52_m6_0) rfl rfl ?_
    exact k
  refine Go.alenV X0 hx hZ e0 V_b (hb hby d_j52_m6_1) ?_
  refine Go.st (g' := (mkF m 4 #[.val (.ref ab)] [(.int 1)])) (fun t k => ?_) ?_
  · refine XS.iconst X0.here hx rfl (hb hby d_j52_m6_2) ?_
    refine XS.ishr X0.here hx rfl (hb hby d_j52_m6_3) rfl ?_
    exact k
  refine Go.retI X0 hx hlk hret (hb hby d_j52_m6_4) (by decide) (by decide) e0 ?_
  exact ⟨rfl, N0, rfl⟩
theorem ct_pci_1_0 (l : Launch) (Z : State) (a0 : Array Value) (hw : ∀ d ∈ tables_1, d.before a0 Z = true) (zc : Int32) (fm : Value) (G : Gl Z zc fm) (h0 : Heap) (n0 : Nat) (O : Old Z n0 h0)  :
    Ct l (⟨"jdk/internal/util/Preconditions", "checkIndex", "(IILjava/util/function/BiFunction;)I"⟩ : MethodName) jdk_41_method_11_code 3 (some .int) ({ frames := 0, cells := 0, slots := 0, locals := 0 } : Room) Z #[(.int 0), (.int 1), fm] h0 (fun v h L => v = some (.int 0) ∧ Fr n0 L ∧ h0 = h) := by
  refine Ct.of (plainFor_of_name pn_Preconditions_68) ?_
  intro p e s m below meth c T0 X0 hx hby hml hown hnm hret hlk hZ e0
  have N0 := Fr.nil n0
  have G' := G
  obtain ⟨S_CS, hzc, S_FM, hfm, S_AD, S_HI, S_LO⟩ := G'
  refine Go.cast (g' := mkF m 0 #[.val (.int 0), .val (.int 1), .val fm] []) (by rcases ref_cases hfm with rfl | ⟨_, rfl⟩ <;> first | (simp [entryFrame, mkF, argsToLocals, Value.category]; done) | rfl) ?_
  refine Go.st (g' := (mkF m 17 #[.val (.int 0), .val (.int 1), .val fm] [(.int 0)])) (fun t k => ?_) ?_
  · refine XS.iloadN X0.here hx rfl (hb hby d_j41_m11_0) rfl ?_
    refine XS.ifNo X0.here hx rfl (hb hby d_j41_m11_1) rfl ((if0 _ _).trans (flt (by decide : ¬ (0 : Int32) < (0 : Int32))).1) ?_
    refine XS.iloadN X0.here hx rfl (hb hby d_j41_m11_4) rfl ?_
    refine XS.iloadN X0.here hx rfl (hb hby d_j41_m11_5) rfl ?_
    refine XS.icmpYes X0.here hx rfl (pc0 := 6) (pc' := 16) rfl (hb hby d_j41_m11_6) rfl (tlt (by decide : (0 : Int32) < (1 : Int32))).1 (by decide) (by decide) ?_
    refine XS.iloadN X0.here hx rfl (hb hby d_j41_m11_16) rfl ?_
    exact k
  refine Go.retI X0 hx hlk hret (hb hby d_j41_m11_17) (by decide) (by decide) e0 ?_
  exact ⟨rfl, N0, rfl⟩
theorem ct_sci_1_0 (l : Launch) (Z : State) (a0 : Array Value) (hw : ∀ d ∈ tables_1, d.before a0 Z = true) (zc : Int32) (fm : Value) (G : Gl Z zc fm) (h0 : Heap) (n0 : Nat) (O : Old Z n0 h0)  :
    Ct l (⟨"java/lang/String", "checkIndex", "(II)V"⟩ : MethodName) jdk_42_method_155_code 2 none ({ frames := 1, cells := 0, slots := 0, locals := 14 } : Room) Z #[(.int 0), (.int 1)] h0 (fun v h L => v = none ∧ Fr n0 L ∧ h0 = h) := by
  refine Ct.of (plainFor_of_name pn_String_837) ?_
  intro p e s m below meth c T0 X0 hx hby hml hown hnm hret hlk hZ e0
  have N0 := Fr.nil n0
  have G' := G
  obtain ⟨S_CS, hzc, S_FM, hfm, S_AD, S_HI, S_LO⟩ := G'
  refine Go.cast (g' := mkF m 0 #[.val (.int 0), .val (.int 1)] []) (by first | (simp [entryFrame, mkF, argsToLocals, Value.category]; done) | rfl) ?_
  refine Go.st (g' := (mkF m 2 #[.val (.int 0), .val (.int 1)] [(.int 1), (.int 0)])) (fun t k => ?_) ?_
  · refine XS.iloadN X0.here hx rfl (hb hby d_j42_m155_0) rfl ?_
    refine XS.iloadN X0.here hx rfl (hb hby d_j42_m155_1) rfl ?_
    exact k
  refine Go.getS X0 hx hZ hown (wd hw 70 rfl) Via.refl e0 (S_FM.ext O.2) (hb hby d_j42_m155_2) ?_
  intro T1 X1 e1
  show Go p e below _ T1 (mkF m 5 #[.val (.int 0), .val (.int 1)] [fm, (.int 1), (.int 0)])
  refine Go.callS X1 hx hZ (W := 0) (argsL := [(.int 0), (.int 1), fm]) (rest := []) hown (wd hw 72 rfl) (wd hw 73 rfl) (wd hw 71 rfl) (wd hw 74 rfl) (by decide) (ct_pci_1_0 l Z a0 hw zc fm G  h0 n0 O ) e1 (by rw [hml]; rfl) (lenOf pd__IILjava_util_function_BiFunction__I_3570 rfl) rfl rfl (hb hby d_j42_m155_5) ?_
  intro v2 T2 h2 L2 X2 e2 q2
  obtain ⟨rfl, N2, rfl⟩ := q2
  replace N2 := Fr.app N0 N2
  refine Go.st (g' := (mkF m 9 #[.val (.int 0), .val (.int 1)] [])) (fun t k => ?_) ?_
  · refine XS.pop X2.here hx rfl (hb hby d_j42_m155_8) rfl rfl ?_
    exact k
  refine Go.retV X2 hx hlk hret (hb hby d_j42_m155_9) (by decide) (by decide) e2 ?_
  exact ⟨rfl, N2, rfl⟩
theorem ct_uci_1_0 (l : Launch) (Z : State) (a0 : Array Value) (hw : ∀ d ∈ tables_1, d.before a0 Z = true) (zc : Int32) (fm : Value) (G : Gl Z zc fm) (ab : Addr) (kb : ClassId) (u0 : Value) (u1 : Value) (h0 : Heap) (n0 : Nat) (O : Old Z n0 h0) (V_b : Arv Z h0 ab kb .byte (2 : Int32) [u0, u1] (.int 0)) :
    Ct l (⟨"java/lang/StringUTF16", "checkIndex", "(I[B)V"⟩ : MethodName) jdk_52_method_91_code 2 none ({ frames := 2, cells := 0, slots := 0, locals := 27 } : Room) Z #[(.int 0), (.ref ab)] h0 (fun v h L => v = none ∧ Fr n0 L ∧ h0 = h) := by
  refine Ct.of (plainFor_of_name pn_StringUTF16_856) ?_
  intro p e s m below meth c T0 X0 hx hby hml hown hnm hret hlk hZ e0
  have N0 := Fr.nil n0
  have G' := G
  obtain ⟨S_CS, hzc, S_FM, hfm, S_AD, S_HI, S_LO⟩ := G'
  refine Go.cast (g' := mkF m 0 #[.val (.int 0), .val (.ref ab)] []) (by first | (simp [entryFrame, mkF, argsToLocals, Value.category]; done) | rfl) ?_
  refine Go.st (g' := (mkF m 2 #[.val (.int 0), .val (.ref ab)] [(.ref ab), (.int 0)])) (fun t k => ?_) ?_
  · refine XS.iloadN X0.here hx rfl (hb hby d_j52_m91_0) rfl ?_
    refine XS.aloadN X0.here hx rfl (hb hby d_j52_m91_1) rfl rfl ?_
    exact k
  refine Go.callS X0 hx hZ (W := 1) (argsL := [(.ref ab)]) (rest := [(.int 0)]) hown (wd hw 118 rfl) (wd hw 119 rfl) (wd hw 23 rfl) (wd hw 120 rfl) (by decide) (ct_ulen_2 l Z a0 hw  ab kb u0 u1 h0 n0 O V_b) e0 (by rw [hml]; rfl) (lenOf pd___B_I_9928 rfl) rfl rfl (hb hby d_j52_m91_2) ?_
  intro v1 T1 h1 L1 X1 e1 q1
  obtain ⟨rfl, N1, rfl⟩ := q1
  replace N1 := Fr.app N0 N1
  show Go p e below _ T1 (mkF m 5 #[.val (.int 0), .val (.ref ab)] [(.int 1), (.int 0)])
  refine Go.callS X1 hx hZ (W := 0) (argsL := [(.int 0), (.int 1)]) (rest := []) hown (wd hw 121 rfl) (wd hw 68 rfl) (wd hw 8 rfl) (wd hw 69 rfl) (by decide) (ct_sci_1_0 l Z a0 hw zc fm G  h0 n0 O ) e1 (by rw [hml]; rfl) (lenOf pd__II_V_433 rfl) rfl rfl (hb hby d_j52_m91_5) ?_
  intro v2 T2 h2 L2 X2 e2 q2
  obtain ⟨rfl, N2, rfl⟩ := q2
  replace N2 := Fr.app N1 N2
  show Go p e below _ T2 (mkF m 8 #[.val (.int 0), .val (.ref ab)] [])
  refine Go.retV X2 hx hlk hret (hb hby d_j52_m91_8) (by decide) (by decide) e2 ?_
  exact ⟨rfl, N2, rfl⟩
theorem ct_uch_1_0 (l : Launch) (Z : State) (a0 : Array Value) (hw : ∀ d ∈ tables_1, d.before a0 Z = true) (zc : Int32) (fm : Value) (G : Gl Z zc fm) (ab : Addr) (kb : ClassId) (y0 : Int32) (h0 : Heap) (n0 : Nat) (O : Old Z n0 h0) (V_b : Arv Z h0 ab kb .byte (2 : Int32) [(.int (nar .byte ((y0 >>> ((0 : Int32) &&& 31)).toInt8.toInt32))), (.int (nar .byte ((y0 >>> ((8 : Int32) &&& 31)).toInt8.toInt32)))] (.int 0)) (hr0 : 0 ≤ y0.toInt ∧ y0.toInt < 65536) :
    Ct l (⟨"java/lang/StringUTF16", "charAt", "([BI)C"⟩ : MethodName) jdk_52_method_83_code 2 (some .char) ({ frames := 3, cells := 0, slots := 0, locals := 40 } : Room) Z #[(.ref ab), (.int 0)] h0 (fun v h L => v = some (.int y0) ∧ Fr n0 L ∧ h0 = h) := by
  refine Ct.of (plainFor_of_name pn_StringUTF16_856) ?_
  intro p e s m below meth c T0 X0 hx hby hml hown hnm hret hlk hZ e0
  have N0 := Fr.nil n0
  have G' := G
  obtain ⟨S_CS, hzc, S_FM, hfm, S_AD, S_HI, S_LO⟩ := G'
  refine Go.cast (g' := mkF m 0 #[.val (.ref ab), .val (.int 0)] []) (by first | (simp [entryFrame, mkF, argsToLocals, Value.category]; done) | rfl) ?_
  refine Go.st (g' := (mkF m 2 #[.val (.ref ab), .val (.int 0)] [(.ref ab), (.int 0)])) (fun t k => ?_) ?_
  · refine XS.iloadN X0.here hx rfl (hb hby d_j52_m83_0) rfl ?_
    refine XS.aloadN X0.here hx rfl (hb hby d_j52_m83_1) rfl rfl ?_
    exact k
  refine Go.callS X0 hx hZ (W := 0) (argsL := [(.int 0), (.ref ab)]) (rest := []) hown (wd hw 115 rfl) (wd hw 116 rfl) (wd hw 23 rfl) (wd hw 117 rfl) (by decide) (ct_uci_1_0 l Z a0 hw zc fm G ab kb (.int (nar .byte ((y0 >>> ((0 : Int32) &&& 31)).toInt8.toInt32))) (.int (nar .byte ((y0 >>> ((8 : Int32) &&& 31)).toInt8.toInt32))) h0 n0 O V_b) e0 (by rw [hml]; rfl) (lenOf pd__I_B_V_2323 rfl) rfl rfl (hb hby d_j52_m83_2) ?_
  intro v1 T1 h1 L1 X1 e1 q1
  obtain ⟨rfl, N1, rfl⟩ := q1
  replace N1 := Fr.app N0 N1
  refine Go.st (g' := (mkF m 7 #[.val (.ref ab), .val (.int 0)] [(.int 0), (.ref ab)])) (fun t k => ?_) ?_
  · refine XS.aloadN X1.here hx rfl (hb hby d_j52_m83_5) rfl rfl ?_
    refine XS.iloadN X1.here hx rfl (hb hby d_j52_m83_6) rfl ?_
    exact k
  refine Go.callS X1 hx hZ (W := 0) (argsL := [(.ref ab), (.int 0)]) (rest := []) hown (wd hw 109 rfl) (wd hw 110 rfl) (wd hw 23 rfl) (wd hw 111 rfl) (by decide) (ct_gch_1_0 l Z a0 hw zc fm G ab kb y0 h0 n0 O V_b hr0) e1 (by rw [hml]; rfl) (lenOf pd___BI_C_7586 rfl) rfl rfl (hb hby d_j52_m83_7) ?_
  intro v2 T2 h2 L2 X2 e2 q2
  obtain ⟨rfl, N2, rfl⟩ := q2
  replace N2 := Fr.app N1 N2
  show Go p e below _ T2 (mkF m 10 #[.val (.ref ab), .val (.int 0)] [(.int y0)])
  refine Go.retS X2 hx hlk hret (by simp) (own_nr hr0) (hb hby d_j52_m83_10) (by decide) (by decide) e2 ?_
  exact ⟨rfl, N2, rfl⟩
theorem ct_ch_1_0_1 (l : Launch) (Z : State) (a0 : Array Value) (hw : ∀ d ∈ tables_1, d.before a0 Z = true) (zc : Int32) (fm : Value) (G : Gl Z zc fm) (a1 : Addr) (ab : Addr) (kb : ClassId) (y0 : Int32) (h0 : Heap) (n0 : Nat) (O : Old Z n0 h0) (E_a1 : Exa Z h0 a1 "java/lang/String") (F_v : Fld Z h0 a1 "java/lang/String" "value" "[B" (.ref ab)) (F_c : Fld Z h0 a1 "java/lang/String" "coder" "B" (.int 1)) (V_b : Arv Z h0 ab kb .byte (2 : Int32) [(.int (nar .byte ((y0 >>> ((0 : Int32) &&& 31)).toInt8.toInt32))), (.int (nar .byte ((y0 >>> ((8 : Int32) &&& 31)).toInt8.toInt32)))] (.int 0)) (hr0 : 0 ≤ y0.toInt ∧ y0.toInt < 65536) :
    Ct l (⟨"java/lang/String", "charAt", "(I)C"⟩ : MethodName) jdk_42_method_56_code 2 (some .char) ({ frames := 4, cells := 0, slots := 0, locals := 110 } : Room) Z #[(.ref a1), (.int 0)] h0 (fun v h L => v = some (.int y0) ∧ Fr n0 L ∧ h0 = h) := by
  refine Ct.of (plainFor_of_name pn_String_837) ?_
  intro p e s m below meth c T0 X0 hx hby hml hown hnm hret hlk hZ e0
  have N0 := Fr.nil n0
  have G' := G
  obtain ⟨S_CS, hzc, S_FM, hfm, S_AD, S_HI, S_LO⟩ := G'
  refine Go.cast (g' := mkF m 0 #[.val (.ref a1), .val (.int 0)] []) (by first | (simp [entryFrame, mkF, argsToLocals, Value.category]; done) | rfl) ?_
  refine Go.st (g' := (mkF m 1 #[.val (.ref a1), .val (.int 0)] [(.ref a1)])) (fun t k => ?_) ?_
  · refine XS.aloadN X0.here hx rfl (hb hby d_j42_m56_0) rfl rfl ?_
    exact k
  refine Go.callV X0 hx hZ (W := 0) (argsL := []) (rest := []) hown (wd hw 58 rfl) (wd hw 59 rfl) (notFace_of_selects (args := #[]) (mvT hZ (wd hw 61 rfl))) (wd hw 61 rfl) (wd hw 60 rfl) (wd hw 8 rfl) (wd hw 62 rfl) (by decide) E_a1 (ct_isL_1 l Z a0 hw zc fm G a1 h0 n0 O F_c) e0 (by rw [hml]; rfl) (lenOf pd___Z_8338 rfl) rfl rfl (hb hby d_j42_m56_1) ?_
  intro v1 T1 h1 L1 X1 e1 q1
  obtain ⟨rfl, N1, rfl⟩ := q1
  replace N1 := Fr.app N0 N1
  refine Go.st (g' := (mkF m 17 #[.val (.ref a1), .val (.int 0)] [(.ref a1)])) (fun t k => ?_) ?_
  · refine XS.ifYes X1.here hx rfl (pc0 := 4) (pc' := 16) rfl (hb hby d_j42_m56_4) rfl ((if0 _ _).trans (teq (by decide : (0 : Int32) = (0 : Int32))).1) (by decide) (by decide) ?_
    refine XS.aloadN X1.here hx rfl (hb hby d_j42_m56_16) rfl rfl ?_
    exact k
  refine Go.getF X1 hx hZ hown (wd hw 34 rfl) Via.refl e1 F_v (hb hby d_j42_m56_17) ?_
  intro T2 X2 e2
  refine Go.st (g' := (mkF m 21 #[.val (.ref a1), .val (.int 0)] [(.int 0), (.ref ab)])) (fun t k => ?_) ?_
  · refine XS.iloadN X2.here hx rfl (hb hby d_j42_m56_20) rfl ?_
    exact k
  refine Go.callS X2 hx hZ (W := 0) (argsL := [(.ref ab), (.int 0)]) (rest := []) hown (wd hw 112 rfl) (wd hw 113 rfl) (wd hw 23 rfl) (wd hw 114 rfl) (by decide) (ct_uch_1_0 l Z a0 hw zc fm G ab kb y0 h0 n0 O V_b hr0) e2 (by rw [hml]; rfl) (lenOf pd___BI_C_7586 rfl) rfl rfl (hb hby d_j42_m56_21) ?_
  intro v3 T3 h3 L3 X3 e3 q3
  obtain ⟨rfl, N3, rfl⟩ := q3
  replace N3 := Fr.app N1 N3
  show Go p e below _ T3 (mkF m 24 #[.val (.ref a1), .val (.int 0)] [(.int y0)])
  refine Go.retS X3 hx hlk hret (by simp) (own_nr hr0) (hb hby d_j42_m56_24) (by decide) (by decide) e3 ?_
  exact ⟨rfl, N3, rfl⟩
theorem ct_storable_1 (l : Launch) (Z : State) (a0 : Array Value) (hw : ∀ d ∈ tables_1, d.before a0 Z = true) (a1 : Addr) (y0 : Int32) (h0 : Heap) (n0 : Nat) (O : Old Z n0 h0) (E_a1 : Exa Z h0 a1 "java/lang/String") (HL : Ct l (⟨"java/lang/String", "length", "()I"⟩ : MethodName) jdk_42_method_54_code 1 (some .int) ({ frames := 2, cells := 0, slots := 0, locals := 60 } : Room) Z #[(.ref a1)] h0 (fun v h L => v = some (.int 1) ∧ Fr n0 L ∧ h0 = h)) (HC0 : Ct l (⟨"java/lang/String", "charAt", "(I)C"⟩ : MethodName) jdk_42_method_56_code 2 (some .char) ({ frames := 4, cells := 0, slots := 0, locals := 110 } : Room) Z #[(.ref a1), (.int 0)] h0 (fun v h L => v = some (.int y0) ∧ Fr n0 L ∧ h0 = h)) :
    Ct l (⟨"com/example/provenara/provenara/model/CatalogText", "isStorable", "(Ljava/lang/String;)Z"⟩ : MethodName) prog_6_method_2_code 3 (some .boolean) ({ frames := 5, cells := 0, slots := 0, locals := 123 } : Room) Z #[(.ref a1)] h0 (fun v h L => v = some (.int (stor [y0])) ∧ Fr n0 L ∧ h0 = h) := by
  refine Ct.of (plainFor_of_name pn_CatalogText_186) ?_
  intro p e s m below meth c T0 X0 hx hby hml hown hnm hret hlk hZ e0
  have N0 := Fr.nil n0
  refine Go.cast (g' := mkF m 0 #[.val (.ref a1), .unset, .unset] []) (by first | (simp [entryFrame, mkF, argsToLocals, Value.category]; done) | rfl) ?_
  refine Go.st (g' := (mkF m 4 #[.val (.ref a1), .val (.int 0), .unset] [(.ref a1), (.int 0)])) (fun t k => ?_) ?_
  · refine XS.iconst X0.here hx rfl (hb hby d_p6_m2_0) ?_
    refine XS.istoreN X0.here hx rfl (hb hby d_p6_m2_1) rfl (l' := #[.val (.ref a1), .val (.int 0), .unset]) rfl ?_
    refine XS.iloadN X0.here hx rfl (hb hby d_p6_m2_2) rfl ?_
    refine XS.aloadN X0.here hx rfl (hb hby d_p6_m2_3) rfl rfl ?_
    exact k
  refine Go.callV X0 hx hZ (W := 1) (argsL := []) (rest := [(.int 0)]) hown (wd hw 43 rfl) (wd hw 44 rfl) (notFace_of_selects (args := #[]) (mvT hZ (wd hw 46 rfl))) (wd hw 46 rfl) (wd hw 45 rfl) (wd hw 8 rfl) (wd hw 47 rfl) (by decide) E_a1 HL e0 (by rw [hml]; rfl) (lenOf pd___I_8321 rfl) rfl rfl (hb hby d_p6_m2_4) ?_
  intro v1 T1 h1 L1 X1 e1 q1
  obtain ⟨rfl, N1, rfl⟩ := q1
  replace N1 := Fr.app N0 N1
  refine Go.st (g' := (mkF m 12 #[.val (.ref a1), .val (.int 0), .unset] [(.int 0), (.ref a1)])) (fun t k => ?_) ?_
  · refine XS.icmpNo X1.here hx rfl (hb hby d_p6_m2_7) rfl (tlt (by decide : (0 : Int32) < (1 : Int32))).2.1 ?_
    refine XS.aloadN X1.here hx rfl (hb hby d_p6_m2_10) rfl rfl ?_
    refine XS.iloadN X1.here hx rfl (hb hby d_p6_m2_11) rfl ?_
    exact k
  refine Go.callV X1 hx hZ (W := 0) (argsL := [(.int 0)]) (rest := []) hown (wd hw 53 rfl) (wd hw 54 rfl) (notFace_of_selects (args := #[]) (mvT hZ (wd hw 56 rfl))) (wd hw 56 rfl) (wd hw 55 rfl) (wd hw 8 rfl) (wd hw 57 rfl) (by decide) E_a1 HC0 e1 (by rw [hml]; rfl) (lenOf pd__I_C_7757 rfl) rfl rfl (hb hby d_p6_m2_12) ?_
  intro v2 T2 h2 L2 X2 e2 q2
  obtain ⟨rfl, N2, rfl⟩ := q2
  replace N2 := Fr.app N1 N2
  refine Go.st (g' := (mkF m 17 #[.val (.ref a1), .val (.int 0), .val (.int y0)] [(.int y0)])) (fun t k => ?_) ?_
  · refine XS.istoreN X2.here hx rfl (hb hby d_p6_m2_15) rfl (l' := #[.val (.ref a1), .val (.int 0), .val (.int y0)]) rfl ?_
    refine XS.iloadN X2.here hx rfl (hb hby d_p6_m2_16) rfl ?_
    exact k
  by_cases hy3 : y0 = (0 : Int32)
  · skip
    refine Go.st (g' := (mkF m 21 #[.val (.ref a1), .val (.int 0), .val (.int y0)] [(.int 0)])) (fun t k => ?_) ?_
    · refine XS.ifNo X2.here hx rfl (hb hby d_p6_m2_17) rfl ((if0 _ _).trans (teq hy3).2) ?_
      refine XS.iconst X2.here hx rfl (hb hby d_p6_m2_20) ?_
      exact k
    refine Go.retZ X2 hx hlk hret (Or.inl rfl) (hb hby d_p6_m2_21) (by decide) (by decide) e2 ?_
    exact ⟨by simp [stor, hy3], N2, rfl⟩
  · skip
    refine Go.st (g' := (mkF m 23 #[.val (.ref a1), .val (.int 0), .val (.int y0)] [(.int y0)])) (fun t k => ?_) ?_
    · refine XS.ifYes X2.here hx rfl (pc0 := 17) (pc' := 22) rfl (hb hby d_p6_m2_17) rfl ((if0 _ _).trans (feq hy3).2) (by decide) (by decide) ?_
      refine XS.iloadN X2.here hx rfl (hb hby d_p6_m2_22) rfl ?_
      exact k
    by_cases hy4 : hiB y0 = true
    · skip
      show Go p e below _ T2 (mkF m 23 #[.val (.ref a1), .val (.int 0), .val (.int y0)] [(.int y0)])
      refine Go.callS X2 hx hZ (W := 0) (argsL := [(.int y0)]) (rest := []) hown (wd hw 82 rfl) (wd hw 83 rfl) (wd hw 84 rfl) (wd hw 85 rfl) (by decide) (ct_ihs l Z a0 hw  y0 (1 : Int32) h0 n0 O (if_pos hy4).symm) e2 (by rw [hml]; rfl) (lenOf pd__C_Z_2014 rfl) rfl rfl (hb hby d_p6_m2_23) ?_
      intro v5 T5 h5 L5 X5 e5 q5
      obtain ⟨rfl, N5, rfl⟩ := q5
      replace N5 := Fr.app N2 N5
      refine Go.st (g' := (mkF m 33 #[.val (.ref a1), .val (.int 0), .val (.int y0)] [(.ref a1), (.int 1)])) (fun t k => ?_) ?_
      · refine XS.ifNo X5.here hx rfl (hb hby d_p6_m2_26) rfl ((if0 _ _).trans (feq (by decide : ¬ (1 : Int32) = (0 : Int32))).1) ?_
        refine XS.iloadN X5.here hx rfl (hb hby d_p6_m2_29) rfl ?_
        refine XS.iconst X5.here hx rfl (hb hby d_p6_m2_30) ?_
        refine XS.iadd X5.here hx rfl (hb hby d_p6_m2_31) rfl ?_
        refine XS.aloadN X5.here hx rfl (hb hby d_p6_m2_32) rfl rfl ?_
        exact k
      refine Go.callV X5 hx hZ (W := 1) (argsL := []) (rest := [(.int 1)]) hown (wd hw 43 rfl) (wd hw 44 rfl) (notFace_of_selects (args := #[]) (mvT hZ (wd hw 46 rfl))) (wd hw 46 rfl) (wd hw 45 rfl) (wd hw 8 rfl) (wd hw 47 rfl) (by decide) E_a1 HL e5 (by rw [hml]; rfl) (lenOf pd___I_8321 rfl) rfl rfl (hb hby d_p6_m2_33) ?_
      intro v6 T6 h6 L6 X6 e6 q6
      obtain ⟨rfl, N6, rfl⟩ := q6
      replace N6 := Fr.app N5 N6
      refine Go.st (g' := (mkF m 59 #[.val (.ref a1), .val (.int 0), .val (.int y0)] [(.int y0)])) (fun t k => ?_) ?_
      · refine XS.icmpYes X6.here hx rfl (pc0 := 36) (pc' := 58) rfl (hb hby d_p6_m2_36) rfl (flt (by decide : ¬ (1 : Int32) < (1 : Int32))).2.1 (by decide) (by decide) ?_
        refine XS.iloadN X6.here hx rfl (hb hby d_p6_m2_58) rfl ?_
        exact k
      refine Go.callS X6 hx hZ (W := 0) (argsL := [(.int y0)]) (rest := []) hown (wd hw 87 rfl) (wd hw 88 rfl) (wd hw 84 rfl) (wd hw 89 rfl) (by decide) (ct_isr l Z a0 hw  y0 (1 : Int32) h0 n0 O (if_pos (own_or1 hy4)).symm) e6 (by rw [hml]; rfl) (lenOf pd__C_Z_2014 rfl) rfl rfl (hb hby d_p6_m2_59) ?_
      intro v7 T7 h7 L7 X7 e7 q7
      obtain ⟨rfl, N7, rfl⟩ := q7
      replace N7 := Fr.app N6 N7
      refine Go.st (g' := (mkF m 66 #[.val (.ref a1), .val (.int 0), .val (.int y0)] [(.int 0)])) (fun t k => ?_) ?_
      · refine XS.ifNo X7.here hx rfl (hb hby d_p6_m2_62) rfl ((if0 _ _).trans (feq (by decide : ¬ (1 : Int32) = (0 : Int32))).1) ?_
        refine XS.iconst X7.here hx rfl (hb hby d_p6_m2_65) ?_
        exact k
      refine Go.retZ X7 hx hlk hret (Or.inl rfl) (hb hby d_p6_m2_66) (by decide) (by decide) e7 ?_
      exact ⟨by simp [stor, hy3, hy4], N7, rfl⟩
    · skip
      show Go p e below _ T2 (mkF m 23 #[.val (.ref a1), .val (.int 0), .val (.int y0)] [(.int y0)])
      refine Go.callS X2 hx hZ (W := 0) (argsL := [(.int y0)]) (rest := []) hown (wd hw 82 rfl) (wd hw 83 rfl) (wd hw 84 rfl) (wd hw 85 rfl) (by decide) (ct_ihs l Z a0 hw  y0 (0 : Int32) h0 n0 O (if_neg hy4).symm) e2 (by rw [hml]; rfl) (lenOf pd__C_Z_2014 rfl) rfl rfl (hb hby d_p6_m2_23) ?_
      intro v8 T8 h8 L8 X8 e8 q8
      obtain ⟨rfl, N8, rfl⟩ := q8
      replace N8 := Fr.app N2 N8
      refine Go.st (g' := (mkF m 59 #[.val (.ref a1), .val (.int 0), .val (.int y0)] [(.int y0)])) (fun t k => ?_) ?_
      · refine XS.ifYes X8.here hx rfl (pc0 := 26) (pc' := 58) rfl (hb hby d_p6_m2_26) rfl ((if0 _ _).trans (teq (by decide : (0 : Int32) = (0 : Int32))).1) (by decide) (by decide) ?_
        refine XS.iloadN X8.here hx rfl (hb hby d_p6_m2_58) rfl ?_
        exact k
      by_cases hy9 : loB y0 = true
      · skip
        show Go p e below _ T8 (mkF m 59 #[.val (.ref a1), .val (.int 0), .val (.int y0)] [(.int y0)])
        refine Go.callS X8 hx hZ (W := 0) (argsL := [(.int y0)]) (rest := []) hown (wd hw 87 rfl) (wd hw 88 rfl) (wd hw 84 rfl) (wd hw 89 rfl) (by decide) (ct_isr l Z a0 hw  y0 (1 : Int32) h0 n0 O (if_pos (own_or2 hy9)).symm) e8 (by rw [hml]; rfl) (lenOf pd__C_Z_2014 rfl) rfl rfl (hb hby d_p6_m2_59) ?_
        intro v10 T10 h10 L10 X10 e10 q10
        obtain ⟨rfl, N10, rfl⟩ := q10
        replace N10 := Fr.app N8 N10
        refine Go.st (g' := (mkF m 66 #[.val (.ref a1), .val (.int 0), .val (.int y0)] [(.int 0)])) (fun t k => ?_) ?_
        · refine XS.ifNo X10.here hx rfl (hb hby d_p6_m2_62) rfl ((if0 _ _).trans (feq (by decide : ¬ (1 : Int32) = (0 : Int32))).1) ?_
          refine XS.iconst X10.here hx rfl (hb hby d_p6_m2_65) ?_
          exact k
        refine Go.retZ X10 hx hlk hret (Or.inl rfl) (hb hby d_p6_m2_66) (by decide) (by decide) e10 ?_
        exact ⟨by simp [stor, hy3, hy4, hy9], N10, rfl⟩
      · skip
        show Go p e below _ T8 (mkF m 59 #[.val (.ref a1), .val (.int 0), .val (.int y0)] [(.int y0)])
        refine Go.callS X8 hx hZ (W := 0) (argsL := [(.int y0)]) (rest := []) hown (wd hw 87 rfl) (wd hw 88 rfl) (wd hw 84 rfl) (wd hw 89 rfl) (by decide) (ct_isr l Z a0 hw  y0 (0 : Int32) h0 n0 O (if_neg (own_or3 hy4 hy9)).symm) e8 (by rw [hml]; rfl) (lenOf pd__C_Z_2014 rfl) rfl rfl (hb hby d_p6_m2_59) ?_
        intro v11 T11 h11 L11 X11 e11 q11
        obtain ⟨rfl, N11, rfl⟩ := q11
        replace N11 := Fr.app N8 N11
        refine Go.st (g' := (mkF m 4 #[.val (.ref a1), .val (.int 1), .val (.int y0)] [(.ref a1), (.int 1)])) (fun t k => ?_) ?_
        · refine XS.ifYes X11.here hx rfl (pc0 := 62) (pc' := 67) rfl (hb hby d_p6_m2_62) rfl ((if0 _ _).trans (teq (by decide : (0 : Int32) = (0 : Int32))).1) (by decide) (by decide) ?_
          refine XS.iinc X11.here hx rfl (hb hby d_p6_m2_67) rfl (l' := #[.val (.ref a1), .val (.int 1), .val (.int y0)]) rfl ?_
          refine XS.goto X11.here hx rfl (pc0 := 70) (pc' := 2) rfl (hb hby d_p6_m2_70) (by decide) (by decide) ?_
          refine XS.iloadN X11.here hx rfl (hb hby d_p6_m2_2) rfl ?_
          refine XS.aloadN X11.here hx rfl (hb hby d_p6_m2_3) rfl rfl ?_
          exact k
        refine Go.callV X11 hx hZ (W := 1) (argsL := []) (rest := [(.int 1)]) hown (wd hw 43 rfl) (wd hw 44 rfl) (notFace_of_selects (args := #[]) (mvT hZ (wd hw 46 rfl))) (wd hw 46 rfl) (wd hw 45 rfl) (wd hw 8 rfl) (wd hw 47 rfl) (by decide) E_a1 HL e11 (by rw [hml]; rfl) (lenOf pd___I_8321 rfl) rfl rfl (hb hby d_p6_m2_4) ?_
        intro v12 T12 h12 L12 X12 e12 q12
        obtain ⟨rfl, N12, rfl⟩ := q12
        replace N12 := Fr.app N11 N12
        refine Go.st (g' := (mkF m 74 #[.val (.ref a1), .val (.int 1), .val (.int y0)] [(.int 1)])) (fun t k => ?_) ?_
        · refine XS.icmpYes X12.here hx rfl (pc0 := 7) (pc' := 73) rfl (hb hby d_p6_m2_7) rfl (flt (by decide : ¬ (1 : Int32) < (1 : Int32))).2.1 (by decide) (by decide) ?_
          refine XS.iconst X12.here hx rfl (hb hby d_p6_m2_73) ?_
          exact k
        refine Go.retZ X12 hx hlk hret (Or.inr rfl) (hb hby d_p6_m2_74) (by decide) (by decide) e12 ?_
        exact ⟨by simp [stor, hy3, hy4, hy9], N12, rfl⟩
theorem ct_cmp5_1_L (l : Launch) (Z : State) (a0 : Array Value) (hw : ∀ d ∈ tables_1, d.before a0 Z = true) (ac : Addr) (kc : ClassId) (ab : Addr) (kb : ClassId) (y0 : Int32) (h0 : Heap) (n0 : Nat) (O : Old Z n0 h0) (V_c : Arv Z h0 ac kc .char (1 : Int32) [(.int y0)] (.int 0)) (V_b : Arv Z h0 ab kb .byte (1 : Int32) [(.int 0)] (.int 0)) (g_ab : n0 ≤ ab) (ne_ac_ab : ac ≠ ab) (hv0 : ¬ (255 : Int32) < y0) :
    Ct l (⟨"java/lang/StringUTF16", "compress", "([CI[BII)I"⟩ : MethodName) jdk_52_method_21_code 7 (some .int) ({ frames := 0, cells := 0, slots := 0, locals := 0 } : Room) Z #[(.ref ac), (.int 0), (.ref ab), (.int 0), (.int 1)] h0 (fun v h L => v = some (.int 1) ∧ Fr n0 L ∧ Keep h0 h [ab] ∧ Arv Z h ab kb .byte (1 : Int32) [(.int (nar .byte (y0.toInt8.toInt32)))] (.int 0)) := by
  refine Ct.of (plainFor_of_name pn_StringUTF16_856) ?_
  intro p e s m below meth c T0 X0 hx hby hml hown hnm hret hlk hZ e0
  have N0 := Fr.nil n0
  refine Go.cast (g' := mkF m 0 #[.val (.ref ac), .val (.int 0), .val (.ref ab), .val (.int 0), .val (.int 1), .unset, .unset] []) (by first | (simp [entryFrame, mkF, argsToLocals, Value.category]; done) | rfl) ?_
  have K : Keep h0 h0 [ab] := Keep.refl _ _
  refine Go.st (g' := (mkF m 12 #[.val (.ref ac), .val (.int 0), .val (.ref ab), .val (.int 0), .val (.int 1), .val (.int 0), .unset] [(.int 0), (.ref ac)])) (fun t k => ?_) ?_
  · refine XS.iconst X0.here hx rfl (hb hby d_j52_m21_0) ?_
    refine XS.istore X0.here hx rfl (hb hby d_j52_m21_1) rfl (l' := #[.val (.ref ac), .val (.int 0), .val (.ref ab), .val (.int 0), .val (.int 1), .val (.int 0), .unset]) rfl ?_
    refine XS.iload X0.here hx rfl (hb hby d_j52_m21_3) rfl ?_
    refine XS.iload X0.here hx rfl (hb hby d_j52_m21_5) rfl ?_
    refine XS.icmpNo X0.here hx rfl (hb hby d_j52_m21_7) rfl (tlt (by decide : (0 : Int32) < (1 : Int32))).2.1 ?_
    refine XS.aloadN X0.here hx rfl (hb hby d_j52_m21_10) rfl rfl ?_
    refine XS.iloadN X0.here hx rfl (hb hby d_j52_m21_11) rfl ?_
    exact k
  refine Go.aloadV X0 hx hZ e0 V_c (j := (0 : Int32)) (v := (.int y0)) ⟨by decide, by decide⟩ rfl (Or.inr (Or.inr (Or.inr (Or.inl ⟨rfl, rfl⟩)))) (hb hby d_j52_m21_12) ?_
  refine Go.st (g' := (mkF m 31 #[.val (.ref ac), .val (.int 0), .val (.ref ab), .val (.int 0), .val (.int 1), .val (.int 0), .val (.int y0)] [(.int (y0.toInt8.toInt32)), (.int 0), (.ref ab)])) (fun t k => ?_) ?_
  · refine XS.istore X0.here hx rfl (hb hby d_j52_m21_13) rfl (l' := #[.val (.ref ac), .val (.int 0), .val (.ref ab), .val (.int 0), .val (.int 1), .val (.int 0), .val (.int y0)]) rfl ?_
    refine XS.iload X0.here hx rfl (hb hby d_j52_m21_15) rfl ?_
    refine XS.sipush X0.here hx rfl (hb hby d_j52_m21_17) ?_
    refine XS.icmpYes X0.here hx rfl (pc0 := 20) (pc' := 26) rfl (hb hby d_j52_m21_20) rfl (flt hv0).2.2.2 (by decide) (by decide) ?_
    refine XS.aloadN X0.here hx rfl (hb hby d_j52_m21_26) rfl rfl ?_
    refine XS.iloadN X0.here hx rfl (hb hby d_j52_m21_27) rfl ?_
    refine XS.iload X0.here hx rfl (hb hby d_j52_m21_28) rfl ?_
    refine XS.i2b X0.here hx rfl (hb hby d_j52_m21_30) rfl ?_
    exact k
  refine Go.nstV X0 hx hZ e0 V_b (j := (0 : Int32)) ⟨by decide, by decide⟩ 0 rfl (Nat.le_of_ble_eq_true rfl) (Or.inr ⟨rfl, rfl⟩) (hb hby d_j52_m21_31) ?_
  intro T1 h1 X1 e1 W1 Vn1
  replace V_c := V_c.other W1 ne_ac_ab
  replace O := O.wr W1 g_ab
  have N1 := Fr.snoc X1 N0 g_ab
  replace K := K.wr W1 (Or.inl (List.mem_of_getElem? (i := 0) rfl))
  replace V_b : Arv Z h1 ab kb .byte (1 : Int32) [(.int (nar .byte (y0.toInt8.toInt32)))] (.int 0) := Vn1
  clear Vn1
  refine Go.st (g' := (mkF m 46 #[.val (.ref ac), .val (.int 1), .val (.ref ab), .val (.int 1), .val (.int 1), .val (.int 1), .val (.int y0)] [(.int 1)])) (fun t k => ?_) ?_
  · refine XS.iinc X1.here hx rfl (hb hby d_j52_m21_32) rfl (l' := #[.val (.ref ac), .val (.int 1), .val (.ref ab), .val (.int 0), .val (.int 1), .val (.int 0), .val (.int y0)]) rfl ?_
    refine XS.iinc X1.here hx rfl (hb hby d_j52_m21_35) rfl (l' := #[.val (.ref ac), .val (.int 1), .val (.ref ab), .val (.int 1), .val (.int 1), .val (.int 0), .val (.int y0)]) rfl ?_
    refine XS.iinc X1.here hx rfl (hb hby d_j52_m21_38) rfl (l' := #[.val (.ref ac), .val (.int 1), .val (.ref ab), .val (.int 1), .val (.int 1), .val (.int 1), .val (.int y0)]) rfl ?_
    refine XS.goto X1.here hx rfl (pc0 := 41) (pc' := 3) rfl (hb hby d_j52_m21_41) (by decide) (by decide) ?_
    refine XS.iload X1.here hx rfl (hb hby d_j52_m21_3) rfl ?_
    refine XS.iload X1.here hx rfl (hb hby d_j52_m21_5) rfl ?_
    refine XS.icmpYes X1.here hx rfl (pc0 := 7) (pc' := 44) rfl (hb hby d_j52_m21_7) rfl (flt (by decide : ¬ (1 : Int32) < (1 : Int32))).2.1 (by decide) (by decide) ?_
    refine XS.iload X1.here hx rfl (hb hby d_j52_m21_44) rfl ?_
    exact k
  refine Go.retI X1 hx hlk hret (hb hby d_j52_m21_46) (by decide) (by decide) e1 ?_
  exact ⟨rfl, N1, K, V_b⟩
theorem ct_cmp3_1_L (l : Launch) (Z : State) (a0 : Array Value) (hw : ∀ d ∈ tables_1, d.before a0 Z = true) (zc : Int32) (fm : Value) (G : Gl Z zc fm) (ac : Addr) (kc : ClassId) (y0 : Int32) (h0 : Heap) (n0 : Nat) (O : Old Z n0 h0) (V_c : Arv Z h0 ac kc .char (1 : Int32) [(.int y0)] (.int 0)) (hr0 : 0 ≤ y0.toInt ∧ y0.toInt < 65536) (hv0 : ¬ (255 : Int32) < y0) :
    Ct l (⟨"java/lang/StringUTF16", "compress", "([CII)[B"⟩ : MethodName) jdk_52_method_16_code 6 (some (.array .byte)) ({ frames := 1, cells := 1, slots := 1, locals := 18 } : Room) Z #[(.ref ac), (.int 0), (.int 1)] h0 (fun v h L => ∃ b kb, v = some (.ref b) ∧ Fr n0 L ∧ Keep h0 h [] ∧ h0.size ≤ b ∧ Arv Z h b kb .byte (1 : Int32) [(.int (nar .byte (y0.toInt8.toInt32)))] (.int 0)) := by
  refine Ct.of (plainFor_of_name pn_StringUTF16_856) ?_
  intro p e s m below meth c T0 X0 hx hby hml hown hnm hret hlk hZ e0
  have N0 := Fr.nil n0
  have G' := G
  obtain ⟨S_CS, hzc, S_FM, hfm, S_AD, S_HI, S_LO⟩ := G'
  refine Go.cast (g' := mkF m 0 #[.val (.ref ac), .val (.int 0), .val (.int 1), .unset, .unset, .unset] []) (by first | (simp [entryFrame, mkF, argsToLocals, Value.category]; done) | rfl) ?_
  have K : Keep h0 h0 [] := Keep.refl _ _
  refine Go.st (g' := (mkF m 1 #[.val (.ref ac), .val (.int 0), .val (.int 1), .unset, .unset, .unset] [(.int 1)])) (fun t k => ?_) ?_
  · refine XS.iloadN X0.here hx rfl (hb hby d_j52_m16_0) rfl ?_
    exact k
  refine Go.newP X0 hx hZ (wd hw 25 rfl) e0 (hb hby d_j52_m16_1) (by decide) (cap := 1) (by decide) (by decide) (by decide) (by decide) ?_
  intro T1 h1 b1 k1 X1 e1 E1 g1 V_b1
  have lb1 := Nat.le_of_eq g1.symm
  have ne_ac_b1 : ac ≠ b1 := Nat.ne_of_lt (Nat.lt_of_lt_of_le V_c.lt lb1)
  have g_b1 : n0 ≤ b1 := Nat.le_trans (OwnKit.Old.le O) lb1
  have sz_b1 : h0.size ≤ b1 := Nat.le_trans K.1 lb1
  replace V_c := V_c.ext E1
  replace O := O.ext E1
  replace K := K.ext E1
  replace V_b1 := V_b1.pad (pad_rep [] (.int 0) 1)
  replace V_b1 : Arv Z h1 b1 k1 .byte (1 : Int32) [(.int 0)] (.int 0) := V_b1
  refine Go.st (g' := (mkF m 9 #[.val (.ref ac), .val (.int 0), .val (.int 1), .val (.ref b1), .unset, .unset] [(.int 1), (.int 0), (.ref b1), (.int 0), (.ref ac)])) (fun t k => ?_) ?_
  · refine XS.astoreN X1.here hx rfl (hb hby d_j52_m16_3) rfl rfl (l' := #[.val (.ref ac), .val (.int 0), .val (.int 1), .val (.ref b1), .unset, .unset]) rfl ?_
    refine XS.aloadN X1.here hx rfl (hb hby d_j52_m16_4) rfl rfl ?_
    refine XS.iloadN X1.here hx rfl (hb hby d_j52_m16_5) rfl ?_
    refine XS.aloadN X1.here hx rfl (hb hby d_j52_m16_6) rfl rfl ?_
    refine XS.iconst X1.here hx rfl (hb hby d_j52_m16_7) ?_
    refine XS.iloadN X1.here hx rfl (hb hby d_j52_m16_8) rfl ?_
    exact k
  refine Go.callS X1 hx hZ (W := 0) (argsL := [(.ref ac), (.int 0), (.ref b1), (.int 0), (.int 1)]) (rest := []) hown (wd hw 26 rfl) (wd hw 27 rfl) (wd hw 23 rfl) (wd hw 28 rfl) (by decide) (ct_cmp5_1_L l Z a0 hw  ac kc b1 k1 y0 h1 n0 O V_c V_b1 g_b1 ne_ac_b1 hv0) e1 (by rw [hml]; rfl) (lenOf pd___CI_BII_I_6624 rfl) rfl rfl (hb hby d_j52_m16_9) ?_
  intro v2 T2 h2 L2 X2 e2 q2
  obtain ⟨rfl, N2, K2, V_n2⟩ := q2
  replace N2 := Fr.app N0 N2
  replace V_c := V_c.keep K2 (ninS ne_ac_b1 nin0)
  clear V_b1
  replace O := O.keep K2 (allS g_b1 all0)
  replace K := K.trans K2 (allS (Or.inr sz_b1) all0)
  refine Go.st (g' := (mkF m 58 #[.val (.ref ac), .val (.int 0), .val (.int 1), .val (.ref b1), .val (.int 1), .unset] [(.ref b1)])) (fun t k => ?_) ?_
  · refine XS.istore X2.here hx rfl (hb hby d_j52_m16_12) rfl (l' := #[.val (.ref ac), .val (.int 0), .val (.int 1), .val (.ref b1), .val (.int 1), .unset]) rfl ?_
    refine XS.iload X2.here hx rfl (hb hby d_j52_m16_14) rfl ?_
    refine XS.iloadN X2.here hx rfl (hb hby d_j52_m16_16) rfl ?_
    refine XS.icmpYes X2.here hx rfl (pc0 := 17) (pc' := 57) rfl (hb hby d_j52_m16_17) rfl (teq (by decide : (1 : Int32) = (1 : Int32))).1 (by decide) (by decide) ?_
    refine XS.aloadN X2.here hx rfl (hb hby d_j52_m16_57) rfl rfl ?_
    exact k
  refine Go.retA X2 hx hlk hret rfl rfl (hb hby d_j52_m16_58) (by decide) (by decide) e2 ?_
  exact ⟨b1, _, rfl, N2, K, sz_b1, V_n2⟩
theorem ct_cfa_1_1 (l : Launch) (Z : State) (a0 : Array Value) (hw : ∀ d ∈ tables_1, d.before a0 Z = true) (ab : Addr) (kb : ClassId) (u0 : Value) (h0 : Heap) (n0 : Nat) (O : Old Z n0 h0) (V_b : Arv Z h0 ab kb .byte (1 : Int32) [u0] (.int 0)) :
    Ct l (⟨"java/lang/StringUTF16", "coderFromArrayLen", "([BI)B"⟩ : MethodName) jdk_52_method_15_code 2 (some .byte) ({ frames := 0, cells := 0, slots := 0, locals := 0 } : Room) Z #[(.ref ab), (.int 1)] h0 (fun v h L => v = some (.int 0) ∧ Fr n0 L ∧ h0 = h) := by
  refine Ct.of (plainFor_of_name pn_StringUTF16_856) ?_
  intro p e s m below meth c T0 X0 hx hby hml hown hnm hret hlk hZ e0
  have N0 := Fr.nil n0
  refine Go.cast (g' := mkF m 0 #[.val (.ref ab), .val (.int 1)] []) (by first | (simp [entryFrame, mkF, argsToLocals, Value.category]; done) | rfl) ?_
  refine Go.st (g' := (mkF m 2 #[.val (.ref ab), .val (.int 1)] [(.ref ab), (.int 1)])) (fun t k => ?_) ?_
  · refine XS.iloadN X0.here hx rfl (hb hby d_j52_m15_0) rfl ?_
    refine XS.aloadN X0.here hx rfl (hb hby d_j52_m15_1) rfl rfl ?_
    exact k
  refine Go.alenV X0 hx hZ e0 V_b (hb hby d_j52_m15_2) ?_
  refine Go.st (g' := (mkF m 8 #[.val (.ref ab), .val (.int 1)] [(.int 0)])) (fun t k => ?_) ?_
  · refine XS.isub X0.here hx rfl (hb hby d_j52_m15_3) rfl ?_
    refine XS.bipush X0.here hx rfl (hb hby d_j52_m15_4) ?_
    refine XS.iushr X0.here hx rfl (hb hby d_j52_m15_6) rfl ?_
    refine XS.i2b X0.here hx rfl (hb hby d_j52_m15_7) rfl ?_
    exact k
  refine Go.retS X0 hx hlk hret (by simp) rfl (hb hby d_j52_m15_8) (by decide) (by decide) e0 ?_
  exact ⟨rfl, N0, rfl⟩
theorem ct_si4_1_L (l : Launch) (Z : State) (a0 : Array Value) (hw : ∀ d ∈ tables_1, d.before a0 Z = true) (zc : Int32) (fm : Value) (G : Gl Z zc fm) (a1 : Addr) (ac : Addr) (kc : ClassId) (y0 : Int32) (h0 : Heap) (n0 : Nat) (O : Old Z n0 h0) (E_a1 : Exa Z h0 a1 "java/lang/String") (F_a1_value : Fld Z h0 a1 "java/lang/String" "value" "[B" .null) (F_a1_coder : Fld Z h0 a1 "java/lang/String" "coder" "B" (.int 0)) (g_a1 : n0 ≤ a1) (V_c : Arv Z h0 ac kc .char (1 : Int32) [(.int y0)] (.int 0)) (ne_a1_ac : a1 ≠ ac) (hr0 : 0 ≤ y0.toInt ∧ y0.toInt < 65536) (hv0 : ¬ (255 : Int32) < y0) :
    Ct l (⟨"java/lang/String", "<init>", "([CIILjava/lang/Void;)V"⟩ : MethodName) jdk_42_method_149_code 6 none ({ frames := 2, cells := 1, slots := 1, locals := 35 } : Room) Z #[(.ref a1), (.ref ac), (.int 0), (.int 1), .null] h0 (fun v h L => ∃ b kb, v = none ∧ Fr n0 L ∧ Keep h0 h [a1] ∧ Fld Z h a1 "java/lang/String" "value" "[B" (.ref b) ∧ Fld Z h a1 "java/lang/String" "coder" "B" (.int 0) ∧ Arv Z h b kb .byte (1 : Int32) [(.int (nar .byte (y0.toInt8.toInt32)))] (.int 0)) := by
  refine Ct.of (plainFor_of_name pn_String_837) ?_
  intro p e s m below meth c T0 X0 hx hby hml hown hnm hret hlk hZ e0
  have N0 := Fr.nil n0
  have G' := G
  obtain ⟨S_CS, hzc, S_FM, hfm, S_AD, S_HI, S_LO⟩ := G'
  refine Go.cast (g' := mkF m 0 #[.val (.ref a1), .val (.ref ac), .val (.int 0), .val (.int 1), .val .null, .unset] []) (by first | (simp [entryFrame, mkF, argsToLocals, Value.category]; done) | rfl) ?_
  have K : Keep h0 h0 [a1] := Keep.refl _ _
  refine Go.st (g' := (mkF m 1 #[.val (.ref a1), .val (.ref ac), .val (.int 0), .val (.int 1), .val .null, .unset] [(.ref a1)])) (fun t k => ?_) ?_
  · refine XS.aloadN X0.here hx rfl (hb hby d_j42_m149_0) rfl rfl ?_
    exact k
  refine Go.initO X0 hx hZ hown (wd hw 17 rfl) (wd hw 18 rfl) (wd hw 19 rfl) e0 (by rw [hml]; rfl) (hb hby d_j42_m149_1) (by decide) (W := 0) rfl (by decide) ?_
  intro T1 X1 e1
  refine Go.st (g' := (mkF m 27 #[.val (.ref a1), .val (.ref ac), .val (.int 0), .val (.int 1), .val .null, .unset] [])) (fun t k => ?_) ?_
  · refine XS.iloadN X1.here hx rfl (hb hby d_j42_m149_4) rfl ?_
    refine XS.ifYes X1.here hx rfl (pc0 := 5) (pc' := 27) rfl (hb hby d_j42_m149_5) rfl ((if0 _ _).trans (feq (by decide : ¬ (1 : Int32) = (0 : Int32))).2) (by decide) (by decide) ?_
    exact k
  refine Go.getS X1 hx hZ hown (wd hw 20 rfl) Via.refl e1 (S_CS.ext O.2) (hb hby d_j42_m149_27) ?_
  intro T2 X2 e2
  refine Go.st (g' := (mkF m 36 #[.val (.ref a1), .val (.ref ac), .val (.int 0), .val (.int 1), .val .null, .unset] [(.int 1), (.int 0), (.ref ac)])) (fun t k => ?_) ?_
  · refine XS.ifNo X2.here hx rfl (hb hby d_j42_m149_30) rfl ((if0 _ _).trans (feq hzc).1) ?_
    refine XS.aloadN X2.here hx rfl (hb hby d_j42_m149_33) rfl rfl ?_
    refine XS.iloadN X2.here hx rfl (hb hby d_j42_m149_34) rfl ?_
    refine XS.iloadN X2.here hx rfl (hb hby d_j42_m149_35) rfl ?_
    exact k
  refine Go.callS X2 hx hZ (W := 0) (argsL := [(.ref ac), (.int 0), (.int 1)]) (rest := []) hown (wd hw 21 rfl) (wd hw 22 rfl) (wd hw 23 rfl) (wd hw 24 rfl) (by decide) (ct_cmp3_1_L l Z a0 hw zc fm G ac kc y0 h0 n0 O V_c hr0 hv0) e2 (by rw [hml]; rfl) (lenOf pd___CII__B_8269 rfl) rfl rfl (hb hby d_j42_m149_36) ?_
  intro v3 T3 h3 L3 X3 e3 q3
  obtain ⟨ob, kb, rfl, N3, K3, lb3, V_ob⟩ := q3
  replace N3 := Fr.app N0 N3
  have ne_a1_ob : a1 ≠ ob := Nat.ne_of_lt (Nat.lt_of_lt_of_le E_a1.lt lb3)
  have ne_ac_ob : ac ≠ ob := Nat.ne_of_lt (Nat.lt_of_lt_of_le V_c.lt lb3)
  have g_ob : n0 ≤ ob := Nat.le_trans (OwnKit.Old.le O) lb3
  have sz_ob : h0.size ≤ ob := Nat.le_trans K.1 lb3
  replace E_a1 := E_a1.keep K3
  replace F_a1_value := F_a1_value.keep K3 nin0
  replace F_a1_coder := F_a1_coder.keep K3 nin0
  replace V_c := V_c.keep K3 nin0
  replace O := O.keep K3 all0
  replace K := K.trans K3 all0
  refine Go.st (g' := (mkF m 45 #[.val (.ref a1), .val (.ref ac), .val (.int 0), .val (.int 1), .val .null, .val (.ref ob)] [(.int 1), (.ref ob), (.ref a1)])) (fun t k => ?_) ?_
  · refine XS.astore X3.here hx rfl (hb hby d_j42_m149_39) rfl rfl (l' := #[.val (.ref a1), .val (.ref ac), .val (.int 0), .val (.int 1), .val .null, .val (.ref ob)]) rfl ?_
    refine XS.aloadN X3.here hx rfl (hb hby d_j42_m149_41) rfl rfl ?_
    refine XS.aload X3.here hx rfl (hb hby d_j42_m149_42) rfl rfl ?_
    refine XS.iloadN X3.here hx rfl (hb hby d_j42_m149_44) rfl ?_
    exact k
  refine Go.callS X3 hx hZ (W := 1) (argsL := [(.ref ob), (.int 1)]) (rest := [(.ref a1)]) hown (wd hw 29 rfl) (wd hw 30 rfl) (wd hw 23 rfl) (wd hw 31 rfl) (by decide) (ct_cfa_1_1 l Z a0 hw  ob kb (.int (nar .byte (y0.toInt8.toInt32))) h3 n0 O V_ob) e3 (by rw [hml]; rfl) (lenOf pd___BI_B_7585 rfl) rfl rfl (hb hby d_j42_m149_45) ?_
  intro v4 T4 h4 L4 X4 e4 q4
  obtain ⟨rfl, N4, rfl⟩ := q4
  replace N4 := Fr.app N3 N4
  show Go p e below _ T4 (mkF m 48 #[.val (.ref a1), .val (.ref ac), .val (.int 0), .val (.int 1), .val .null, .val (.ref ob)] [(.int 0), (.ref a1)])
  refine Go.putF X4 hx hZ hown (wd hw 32 rfl) Via.refl e4 F_a1_coder E_a1 (Or.inr ⟨(wd hw 33 rfl), rfl, hnm⟩) (wd hw 7 rfl) (ty := .byte) (by decide) rfl rfl (hb hby d_j42_m149_48) ?_
  intro T5 h5 X5 e5 W5
  replace E_a1 := E_a1.wr W5
  replace F_a1_value := F_a1_value.other W5 (Or.inr (slot_ne (a0 := a0) (Or.inr (wd hw 35 rfl)) (Or.inr (wd hw 33 rfl)) (by decide) (t := (.array .byte)) (t' := .byte) (by decide) (by decide)))
  replace F_a1_coder := F_a1_coder.same W5
  replace V_c := V_c.other W5 (Ne.symm ne_a1_ac)
  replace V_ob := V_ob.other W5 (Ne.symm ne_a1_ob)
  replace O := O.wr W5 g_a1
  have N5 := Fr.snoc X5 N4 g_a1
  replace K := K.wr W5 (Or.inl (List.mem_of_getElem? (i := 0) rfl))
  refine Go.st (g' := (mkF m 54 #[.val (.ref a1), .val (.ref ac), .val (.int 0), .val (.int 1), .val .null, .val (.ref ob)] [(.ref ob), (.ref a1)])) (fun t k => ?_) ?_
  · refine XS.aloadN X5.here hx rfl (hb hby d_j42_m149_51) rfl rfl ?_
    refine XS.aload X5.here hx rfl (hb hby d_j42_m149_52) rfl rfl ?_
    exact k
  refine Go.putF X5 hx hZ hown (wd hw 34 rfl) Via.refl e5 F_a1_value E_a1 (Or.inr ⟨(wd hw 35 rfl), rfl, hnm⟩) (wd hw 7 rfl) (ty := (.array .byte)) (by decide) rfl rfl (hb hby d_j42_m149_54) ?_
  intro T6 h6 X6 e6 W6
  replace E_a1 := E_a1.wr W6
  replace F_a1_value := F_a1_value.same W6
  replace F_a1_coder := F_a1_coder.other W6 (Or.inr (slot_ne (a0 := a0) (Or.inr (wd hw 33 rfl)) (Or.inr (wd hw 35 rfl)) (by decide) (t := .byte) (t' := (.array .byte)) (by decide) (by decide)))
  replace V_c := V_c.other W6 (Ne.symm ne_a1_ac)
  replace V_ob := V_ob.other W6 (Ne.symm ne_a1_ob)
  replace O := O.wr W6 g_a1
  have N6 := Fr.snoc X6 N5 g_a1
  replace K := K.wr W6 (Or.inl (List.mem_of_getElem? (i := 0) rfl))
  show Go p e below _ T6 (mkF m 57 #[.val (.ref a1), .val (.ref ac), .val (.int 0), .val (.int 1), .val .null, .val (.ref ob)] [])
  refine Go.retV X6 hx hlk hret (hb hby d_j42_m149_57) (by decide) (by decide) e6 ?_
  exact ⟨ob, kb, rfl, N6, K, F_a1_value, F_a1_coder, V_ob⟩
theorem ct_si1_1_L (l : Launch) (Z : State) (a0 : Array Value) (hw : ∀ d ∈ tables_1, d.before a0 Z = true) (zc : Int32) (fm : Value) (G : Gl Z zc fm) (a1 : Addr) (ac : Addr) (kc : ClassId) (y0 : Int32) (h0 : Heap) (n0 : Nat) (O : Old Z n0 h0) (E_a1 : Exa Z h0 a1 "java/lang/String") (F_a1_value : Fld Z h0 a1 "java/lang/String" "value" "[B" .null) (F_a1_coder : Fld Z h0 a1 "java/lang/String" "coder" "B" (.int 0)) (g_a1 : n0 ≤ a1) (V_c : Arv Z h0 ac kc .char (1 : Int32) [(.int y0)] (.int 0)) (ne_a1_ac : a1 ≠ ac) (hr0 : 0 ≤ y0.toInt ∧ y0.toInt < 65536) (hv0 : ¬ (255 : Int32) < y0) :
    Ct l (⟨"java/lang/String", "<init>", "([C)V"⟩ : MethodName) jdk_42_method_3_code 2 none ({ frames := 3, cells := 1, slots := 1, locals := 52 } : Room) Z #[(.ref a1), (.ref ac)] h0 (fun v h L => ∃ b kb, v = none ∧ Fr n0 L ∧ Keep h0 h [a1] ∧ Fld Z h a1 "java/lang/String" "value" "[B" (.ref b) ∧ Fld Z h a1 "java/lang/String" "coder" "B" (.int 0) ∧ Arv Z h b kb .byte (1 : Int32) [(.int (nar .byte (y0.toInt8.toInt32)))] (.int 0)) := by
  refine Ct.of (plainFor_of_name pn_String_837) ?_
  intro p e s m below meth c T0 X0 hx hby hml hown hnm hret hlk hZ e0
  have N0 := Fr.nil n0
  have G' := G
  obtain ⟨S_CS, hzc, S_FM, hfm, S_AD, S_HI, S_LO⟩ := G'
  refine Go.cast (g' := mkF m 0 #[.val (.ref a1), .val (.ref ac)] []) (by first | (simp [entryFrame, mkF, argsToLocals, Value.category]; done) | rfl) ?_
  have K : Keep h0 h0 [a1] := Keep.refl _ _
  refine Go.st (g' := (mkF m 4 #[.val (.ref a1), .val (.ref ac)] [(.ref ac), (.int 0), (.ref ac), (.ref a1)])) (fun t k => ?_) ?_
  · refine XS.aloadN X0.here hx rfl (hb hby d_j42_m3_0) rfl rfl ?_
    refine XS.aloadN X0.here hx rfl (hb hby d_j42_m3_1) rfl rfl ?_
    refine XS.iconst X0.here hx rfl (hb hby d_j42_m3_2) ?_
    refine XS.aloadN X0.here hx rfl (hb hby d_j42_m3_3) rfl rfl ?_
    exact k
  refine Go.alenV X0 hx hZ e0 V_c (hb hby d_j42_m3_4) ?_
  refine Go.st (g' := (mkF m 6 #[.val (.ref a1), .val (.ref ac)] [.null, (.int 1), (.int 0), (.ref ac), (.ref a1)])) (fun t k => ?_) ?_
  · refine XS.aconstNull X0.here hx rfl (hb hby d_j42_m3_5) ?_
    exact k
  refine Go.callC X0 hx hZ (W := 0) (argsL := [(.ref ac), (.int 0), (.int 1), .null]) (rest := []) hown rfl (wd hw 13 rfl) (wd hw 14 rfl) (wd hw 8 rfl) (wd hw 16 rfl) (by decide) (ct_si4_1_L l Z a0 hw zc fm G a1 ac kc y0 h0 n0 O E_a1 F_a1_value F_a1_coder g_a1 V_c ne_a1_ac hr0 hv0) e0 (by rw [hml]; rfl) (lenOf pd___CIILjava_lang_Void__V_1319 rfl) rfl rfl (hb hby d_j42_m3_6) ?_
  intro v1 T1 h1 L1 X1 e1 q1
  obtain ⟨ob1, kb1, rfl, N1, K1, Fv1, Fc1, V_ob1⟩ := q1
  replace N1 := Fr.app N0 N1
  replace E_a1 := E_a1.keep K1
  clear F_a1_value
  clear F_a1_coder
  replace V_c := V_c.keep K1 (ninS (Ne.symm ne_a1_ac) nin0)
  replace O := O.keep K1 (allS g_a1 all0)
  replace K := K.trans K1 (allS (Or.inl (List.mem_of_getElem? (i := 0) rfl)) all0)
  show Go p e below _ T1 (mkF m 9 #[.val (.ref a1), .val (.ref ac)] [])
  refine Go.retV X1 hx hlk hret (hb hby d_j42_m3_9) (by decide) (by decide) e1 ?_
  exact ⟨ob1, kb1, rfl, N1, K, Fv1, Fc1, V_ob1⟩
theorem ct_len_1_0 (l : Launch) (Z : State) (a0 : Array Value) (hw : ∀ d ∈ tables_1, d.before a0 Z = true) (zc : Int32) (fm : Value) (G : Gl Z zc fm) (a1 : Addr) (ab : Addr) (kb : ClassId) (dv : Value) (u0 : Value) (h0 : Heap) (n0 : Nat) (O : Old Z n0 h0) (E_a1 : Exa Z h0 a1 "java/lang/String") (F_v : Fld Z h0 a1 "java/lang/String" "value" "[B" (.ref ab)) (F_c : Fld Z h0 a1 "java/lang/String" "coder" "B" (.int 0)) (V_b : Arv Z h0 ab kb .byte (1 : Int32) [u0] dv) :
    Ct l (⟨"java/lang/String", "length", "()I"⟩ : MethodName) jdk_42_method_54_code 1 (some .int) ({ frames := 2, cells := 0, slots := 0, locals := 60 } : Room) Z #[(.ref a1)] h0 (fun v h L => v = some (.int 1) ∧ Fr n0 L ∧ h0 = h) := by
  refine Ct.of (plainFor_of_name pn_String_837) ?_
  intro p e s m below meth c T0 X0 hx hby hml hown hnm hret hlk hZ e0
  have N0 := Fr.nil n0
  have G' := G
  obtain ⟨S_CS, hzc, S_FM, hfm, S_AD, S_HI, S_LO⟩ := G'
  refine Go.cast (g' := mkF m 0 #[.val (.ref a1)] []) (by first | (simp [entryFrame, mkF, argsToLocals, Value.category]; done) | rfl) ?_
  refine Go.st (g' := (mkF m 1 #[.val (.ref a1)] [(.ref a1)])) (fun t k => ?_) ?_
  · refine XS.aloadN X0.here hx rfl (hb hby d_j42_m54_0) rfl rfl ?_
    exact k
  refine Go.getF X0 hx hZ hown (wd hw 34 rfl) Via.refl e0 F_v (hb hby d_j42_m54_1) ?_
  intro T1 X1 e1
  show Go p e below _ T1 (mkF m 4 #[.val (.ref a1)] [(.ref ab)])
  refine Go.alenV X1 hx hZ e1 V_b (hb hby d_j42_m54_4) ?_
  refine Go.st (g' := (mkF m 6 #[.val (.ref a1)] [(.ref a1), (.int 1)])) (fun t k => ?_) ?_
  · refine XS.aloadN X1.here hx rfl (hb hby d_j42_m54_5) rfl rfl ?_
    exact k
  refine Go.callV X1 hx hZ (W := 1) (argsL := []) (rest := [(.int 1)]) hown (wd hw 48 rfl) (wd hw 49 rfl) (notFace_of_selects (args := #[]) (mvT hZ (wd hw 51 rfl))) (wd hw 51 rfl) (wd hw 50 rfl) (wd hw 8 rfl) (wd hw 52 rfl) (by decide) E_a1 (ct_coder_0 l Z a0 hw zc fm G a1 h0 n0 O F_c) e1 (by rw [hml]; rfl) (lenOf pd___B_8314 rfl) rfl rfl (hb hby d_j42_m54_6) ?_
  intro v2 T2 h2 L2 X2 e2 q2
  obtain ⟨rfl, N2, rfl⟩ := q2
  replace N2 := Fr.app N0 N2
  refine Go.st (g' := (mkF m 10 #[.val (.ref a1)] [(.int 1)])) (fun t k => ?_) ?_
  · refine XS.ishr X2.here hx rfl (hb hby d_j42_m54_9) rfl ?_
    exact k
  refine Go.retI X2 hx hlk hret (hb hby d_j42_m54_10) (by decide) (by decide) e2 ?_
  exact ⟨rfl, N2, rfl⟩
theorem ct_isL_0 (l : Launch) (Z : State) (a0 : Array Value) (hw : ∀ d ∈ tables_1, d.before a0 Z = true) (zc : Int32) (fm : Value) (G : Gl Z zc fm) (a1 : Addr) (h0 : Heap) (n0 : Nat) (O : Old Z n0 h0) (F_c : Fld Z h0 a1 "java/lang/String" "coder" "B" (.int 0)) :
    Ct l (⟨"java/lang/String", "isLatin1", "()Z"⟩ : MethodName) jdk_42_method_154_code 1 (some .boolean) ({ frames := 0, cells := 0, slots := 0, locals := 0 } : Room) Z #[(.ref a1)] h0 (fun v h L => v = some (.int 1) ∧ Fr n0 L ∧ h0 = h) := by
  refine Ct.of (plainFor_of_name pn_String_837) ?_
  intro p e s m below meth c T0 X0 hx hby hml hown hnm hret hlk hZ e0
  have N0 := Fr.nil n0
  have G' := G
  obtain ⟨S_CS, hzc, S_FM, hfm, S_AD, S_HI, S_LO⟩ := G'
  refine Go.cast (g' := mkF m 0 #[.val (.ref a1)] []) (by first | (simp [entryFrame, mkF, argsToLocals, Value.category]; done) | rfl) ?_
  refine Go.getS X0 hx hZ hown (wd hw 20 rfl) Via.refl e0 (S_CS.ext O.2) (hb hby d_j42_m154_0) ?_
  intro T1 X1 e1
  refine Go.st (g' := (mkF m 7 #[.val (.ref a1)] [(.ref a1)])) (fun t k => ?_) ?_
  · refine XS.ifNo X1.here hx rfl (hb hby d_j42_m154_3) rfl ((if0 _ _).trans (feq hzc).1) ?_
    refine XS.aloadN X1.here hx rfl (hb hby d_j42_m154_6) rfl rfl ?_
    exact k
  refine Go.getF X1 hx hZ hown (wd hw 32 rfl) Via.refl e1 F_c (hb hby d_j42_m154_7) ?_
  intro T2 X2 e2
  refine Go.st (g' := (mkF m 18 #[.val (.ref a1)] [(.int 1)])) (fun t k => ?_) ?_
  · refine XS.ifNo X2.here hx rfl (hb hby d_j42_m154_10) rfl ((if0 _ _).trans (teq (by decide : (0 : Int32) = (0 : Int32))).2) ?_
    refine XS.iconst X2.here hx rfl (hb hby d_j42_m154_13) ?_
    refine XS.goto X2.here hx rfl (pc0 := 14) (pc' := 18) rfl (hb hby d_j42_m154_14) (by decide) (by decide) ?_
    exact k
  refine Go.retZ X2 hx hlk hret (Or.inr rfl) (hb hby d_j42_m154_18) (by decide) (by decide) e2 ?_
  exact ⟨rfl, N0, rfl⟩
theorem ct_lch_1_0 (l : Launch) (Z : State) (a0 : Array Value) (hw : ∀ d ∈ tables_1, d.before a0 Z = true) (zc : Int32) (fm : Value) (G : Gl Z zc fm) (ab : Addr) (kb : ClassId) (y0 : Int32) (h0 : Heap) (n0 : Nat) (O : Old Z n0 h0) (V_b : Arv Z h0 ab kb .byte (1 : Int32) [(.int (nar .byte (y0.toInt8.toInt32)))] (.int 0)) (hr0 : 0 ≤ y0.toInt ∧ y0.toInt < 65536) (hv0 : ¬ (255 : Int32) < y0) :
    Ct l (⟨"java/lang/StringLatin1", "charAt", "([BI)C"⟩ : MethodName) jdk_43_method_2_code 2 (some .char) ({ frames := 2, cells := 0, slots := 0, locals := 27 } : Room) Z #[(.ref ab), (.int 0)] h0 (fun v h L => v = some (.int y0) ∧ Fr n0 L ∧ h0 = h) := by
  refine Ct.of (plainFor_of_name pn_StringLatin1_654) ?_
  intro p e s m below meth c T0 X0 hx hby hml hown hnm hret hlk hZ e0
  have N0 := Fr.nil n0
  have G' := G
  obtain ⟨S_CS, hzc, S_FM, hfm, S_AD, S_HI, S_LO⟩ := G'
  refine Go.cast (g' := mkF m 0 #[.val (.ref ab), .val (.int 0)] []) (by first | (simp [entryFrame, mkF, argsToLocals, Value.category]; done) | rfl) ?_
  refine Go.st (g' := (mkF m 2 #[.val (.ref ab), .val (.int 0)] [(.ref ab), (.int 0)])) (fun t k => ?_) ?_
  · refine XS.iloadN X0.here hx rfl (hb hby d_j43_m2_0) rfl ?_
    refine XS.aloadN X0.here hx rfl (hb hby d_j43_m2_1) rfl rfl ?_
    exact k
  refine Go.alenV X0 hx hZ e0 V_b (hb hby d_j43_m2_2) ?_
  show Go p e below _ T0 (mkF m 3 #[.val (.ref ab), .val (.int 0)] [(.int 1), (.int 0)])
  refine Go.callS X0 hx hZ (W := 0) (argsL := [(.int 0), (.int 1)]) (rest := []) hown (wd hw 67 rfl) (wd hw 68 rfl) (wd hw 8 rfl) (wd hw 69 rfl) (by decide) (ct_sci_1_0 l Z a0 hw zc fm G  h0 n0 O ) e0 (by rw [hml]; rfl) (lenOf pd__II_V_433 rfl) rfl rfl (hb hby d_j43_m2_3) ?_
  intro v1 T1 h1 L1 X1 e1 q1
  obtain ⟨rfl, N1, rfl⟩ := q1
  replace N1 := Fr.app N0 N1
  refine Go.st (g' := (mkF m 8 #[.val (.ref ab), .val (.int 0)] [(.int 0), (.ref ab)])) (fun t k => ?_) ?_
  · refine XS.aloadN X1.here hx rfl (hb hby d_j43_m2_6) rfl rfl ?_
    refine XS.iloadN X1.here hx rfl (hb hby d_j43_m2_7) rfl ?_
    exact k
  refine Go.aloadV X1 hx hZ e1 V_b (j := (0 : Int32)) (v := (.int (nar .byte (y0.toInt8.toInt32)))) ⟨by decide, by decide⟩ rfl (Or.inr (Or.inr (Or.inr (Or.inr (Or.inr ⟨rfl, rfl⟩))))) (hb hby d_j43_m2_8) ?_
  refine Go.st (g' := (mkF m 14 #[.val (.ref ab), .val (.int 0)] [(.int (((nar .byte (y0.toInt8.toInt32)) &&& (255 : Int32)).toUInt32.toUInt16.toUInt32.toInt32))])) (fun t k => ?_) ?_
  · refine XS.sipush X1.here hx rfl (hb hby d_j43_m2_9) ?_
    refine XS.iand X1.here hx rfl (hb hby d_j43_m2_12) rfl ?_
    refine XS.i2c X1.here hx rfl (hb hby d_j43_m2_13) rfl ?_
    exact k
  refine Go.retS X1 hx hlk hret (by simp) (own_nc _) (hb hby d_j43_m2_14) (by decide) (by decide) e1 ?_
  exact ⟨by rw [own_lc hr0 hv0], N1, rfl⟩
theorem ct_ch_1_0_0 (l : Launch) (Z : State) (a0 : Array Value) (hw : ∀ d ∈ tables_1, d.before a0 Z = true) (zc : Int32) (fm : Value) (G : Gl Z zc fm) (a1 : Addr) (ab : Addr) (kb : ClassId) (y0 : Int32) (h0 : Heap) (n0 : Nat) (O : Old Z n0 h0) (E_a1 : Exa Z h0 a1 "java/lang/String") (F_v : Fld Z h0 a1 "java/lang/String" "value" "[B" (.ref ab)) (F_c : Fld Z h0 a1 "java/lang/String" "coder" "B" (.int 0)) (V_b : Arv Z h0 ab kb .byte (1 : Int32) [(.int (nar .byte (y0.toInt8.toInt32)))] (.int 0)) (hr0 : 0 ≤ y0.toInt ∧ y0.toInt < 65536) (hv0 : ¬ (255 : Int32) < y0) :
    Ct l (⟨"java/lang/String", "charAt", "(I)C"⟩ : MethodName) jdk_42_method_56_code 2 (some .char) ({ frames := 4, cells := 0, slots := 0, locals := 110 } : Room) Z #[(.ref a1), (.int 0)] h0 (fun v h L => v = some (.int y0) ∧ Fr n0 L ∧ h0 = h) := by
  refine Ct.of (plainFor_of_name pn_String_837) ?_
  intro p e s m below meth c T0 X0 hx hby hml hown hnm hret hlk hZ e0
  have N0 := Fr.nil n0
  have G' := G
  obtain ⟨S_CS, hzc, S_FM, hfm, S_AD, S_HI, S_LO⟩ := G'
  refine Go.cast (g' := mkF m 0 #[.val (.ref a1), .val (.int 0)] []) (by first | (simp [entryFrame, mkF, argsToLocals, Value.category]; done) | rfl) ?_
  refine Go.st (g' := (mkF m 1 #[.val (.ref a1), .val (.int 0)] [(.ref a1)])) (fun t k => ?_) ?_
  · refine XS.aloadN X0.here hx rfl (hb hby d_j42_m56_0) rfl rfl ?_
    exact k
  refine Go.callV X0 hx hZ (W := 0) (argsL := []) (rest := []) hown (wd hw 58 rfl) (wd hw 59 rfl) (notFace_of_selects (args := #[]) (mvT hZ (wd hw 61 rfl))) (wd hw 61 rfl) (wd hw 60 rfl) (wd hw 8 rfl) (wd hw 62 rfl) (by decide) E_a1 (ct_isL_0 l Z a0 hw zc fm G a1 h0 n0 O F_c) e0 (by rw [hml]; rfl) (lenOf pd___Z_8338 rfl) rfl rfl (hb hby d_j42_m56_1) ?_
  intro v1 T1 h1 L1 X1 e1 q1
  obtain ⟨rfl, N1, rfl⟩ := q1
  replace N1 := Fr.app N0 N1
  refine Go.st (g' := (mkF m 8 #[.val (.ref a1), .val (.int 0)] [(.ref a1)])) (fun t k => ?_) ?_
  · refine XS.ifNo X1.here hx rfl (hb hby d_j42_m56_4) rfl ((if0 _ _).trans (feq (by decide : ¬ (1 : Int32) = (0 : Int32))).1) ?_
    refine XS.aloadN X1.here hx rfl (hb hby d_j42_m56_7) rfl rfl ?_
    exact k
  refine Go.getF X1 hx hZ hown (wd hw 34 rfl) Via.refl e1 F_v (hb hby d_j42_m56_8) ?_
  intro T2 X2 e2
  refine Go.st (g' := (mkF m 12 #[.val (.ref a1), .val (.int 0)] [(.int 0), (.ref ab)])) (fun t k => ?_) ?_
  · refine XS.iloadN X2.here hx rfl (hb hby d_j42_m56_11) rfl ?_
    exact k
  refine Go.callS X2 hx hZ (W := 0) (argsL := [(.ref ab), (.int 0)]) (rest := []) hown (wd hw 63 rfl) (wd hw 64 rfl) (wd hw 65 rfl) (wd hw 66 rfl) (by decide) (ct_lch_1_0 l Z a0 hw zc fm G ab kb y0 h0 n0 O V_b hr0 hv0) e2 (by rw [hml]; rfl) (lenOf pd___BI_C_7586 rfl) rfl rfl (hb hby d_j42_m56_12) ?_
  intro v3 T3 h3 L3 X3 e3 q3
  obtain ⟨rfl, N3, rfl⟩ := q3
  replace N3 := Fr.app N1 N3
  show Go p e below _ T3 (mkF m 15 #[.val (.ref a1), .val (.int 0)] [(.int y0)])
  refine Go.retS X3 hx hlk hret (by simp) (own_nr hr0) (hb hby d_j42_m56_15) (by decide) (by decide) e3 ?_
  exact ⟨rfl, N3, rfl⟩
theorem ct_cmp5_2_0 (l : Launch) (Z : State) (a0 : Array Value) (hw : ∀ d ∈ tables_1, d.before a0 Z = true) (ac : Addr) (kc : ClassId) (ab : Addr) (kb : ClassId) (y0 : Int32) (y1 : Int32) (h0 : Heap) (n0 : Nat) (O : Old Z n0 h0) (V_c : Arv Z h0 ac kc .char (2 : Int32) [(.int y0), (.int y1)] (.int 0)) (V_b : Arv Z h0 ab kb .byte (2 : Int32) [(.int 0), (.int 0)] (.int 0)) (g_ab : n0 ≤ ab) (ne_ac_ab : ac ≠ ab) (hv0 : (255 : Int32) < y0) :
    Ct l (⟨"java/lang/StringUTF16", "compress", "([CI[BII)I"⟩ : MethodName) jdk_52_method_21_code 7 (some .int) ({ frames := 0, cells := 0, slots := 0, locals := 0 } : Room) Z #[(.ref ac), (.int 0), (.ref ab), (.int 0), (.int 2)] h0 (fun v h L => v = some (.int 0) ∧ Fr n0 L ∧ Keep h0 h [ab] ∧ Arv Z h ab kb .byte (2 : Int32) [(.int 0), (.int 0)] (.int 0)) := by
  refine Ct.of (plainFor_of_name pn_StringUTF16_856) ?_
  intro p e s m below meth c T0 X0 hx hby hml hown hnm hret hlk hZ e0
  have N0 := Fr.nil n0
  refine Go.cast (g' := mkF m 0 #[.val (.ref ac), .val (.int 0), .val (.ref ab), .val (.int 0), .val (.int 2), .unset, .unset] []) (by first | (simp [entryFrame, mkF, argsToLocals, Value.category]; done) | rfl) ?_
  have K : Keep h0 h0 [ab] := Keep.refl _ _
  refine Go.st (g' := (mkF m 12 #[.val (.ref ac), .val (.int 0), .val (.ref ab), .val (.int 0), .val (.int 2), .val (.int 0), .unset] [(.int 0), (.ref ac)])) (fun t k => ?_) ?_
  · refine XS.iconst X0.here hx rfl (hb hby d_j52_m21_0) ?_
    refine XS.istore X0.here hx rfl (hb hby d_j52_m21_1) rfl (l' := #[.val (.ref ac), .val (.int 0), .val (.ref ab), .val (.int 0), .val (.int 2), .val (.int 0), .unset]) rfl ?_
    refine XS.iload X0.here hx rfl (hb hby d_j52_m21_3) rfl ?_
    refine XS.iload X0.here hx rfl (hb hby d_j52_m21_5) rfl ?_
    refine XS.icmpNo X0.here hx rfl (hb hby d_j52_m21_7) rfl (tlt (by decide : (0 : Int32) < (2 : Int32))).2.1 ?_
    refine XS.aloadN X0.here hx rfl (hb hby d_j52_m21_10) rfl rfl ?_
    refine XS.iloadN X0.here hx rfl (hb hby d_j52_m21_11) rfl ?_
    exact k
  refine Go.aloadV X0 hx hZ e0 V_c (j := (0 : Int32)) (v := (.int y0)) ⟨by decide, by decide⟩ rfl (Or.inr (Or.inr (Or.inr (Or.inl ⟨rfl, rfl⟩)))) (hb hby d_j52_m21_12) ?_
  refine Go.st (g' := (mkF m 25 #[.val (.ref ac), .val (.int 0), .val (.ref ab), .val (.int 0), .val (.int 2), .val (.int 0), .val (.int y0)] [(.int 0)])) (fun t k => ?_) ?_
  · refine XS.istore X0.here hx rfl (hb hby d_j52_m21_13) rfl (l' := #[.val (.ref ac), .val (.int 0), .val (.ref ab), .val (.int 0), .val (.int 2), .val (.int 0), .val (.int y0)]) rfl ?_
    refine XS.iload X0.here hx rfl (hb hby d_j52_m21_15) rfl ?_
    refine XS.sipush X0.here hx rfl (hb hby d_j52_m21_17) ?_
    refine XS.icmpNo X0.here hx rfl (hb hby d_j52_m21_20) rfl (tlt hv0).2.2.2 ?_
    refine XS.iload X0.here hx rfl (hb hby d_j52_m21_23) rfl ?_
    exact k
  refine Go.retI X0 hx hlk hret (hb hby d_j52_m21_25) (by decide) (by decide) e0 ?_
  exact ⟨rfl, N0, K, V_b⟩
theorem ct_nbl_2 (l : Launch) (Z : State) (a0 : Array Value) (hw : ∀ d ∈ tables_1, d.before a0 Z = true)  (h0 : Heap) (n0 : Nat) (O : Old Z n0 h0)  :
    Ct l (⟨"java/lang/StringUTF16", "newBytesLength", "(I)I"⟩ : MethodName) jdk_52_method_3_code 1 (some .int) ({ frames := 0, cells := 0, slots := 0, locals := 0 } : Room) Z #[(.int 2)] h0 (fun v h L => v = some (.int 4) ∧ Fr n0 L ∧ h0 = h) := by
  refine Ct.of (plainFor_of_name pn_StringUTF16_856) ?_
  intro p e s m below meth c T0 X0 hx hby hml hown hnm hret hlk hZ e0
  have N0 := Fr.nil n0
  refine Go.cast (g' := mkF m 0 #[.val (.int 2)] []) (by first | (simp [entryFrame, mkF, argsToLocals, Value.category]; done) | rfl) ?_
  refine Go.st (g' := (mkF m 58 #[.val (.int 2)] [(.int 4)])) (fun t k => ?_) ?_
  · refine XS.iloadN X0.here hx rfl (hb hby d_j52_m3_0) rfl ?_
    refine XS.ifYes X0.here hx rfl (pc0 := 1) (pc' := 12) rfl (hb hby d_j52_m3_1) rfl ((if0 _ _).trans (flt (by decide : ¬ (2 : Int32) < (0 : Int32))).2.1) (by decide) (by decide) ?_
    refine XS.iloadN X0.here hx rfl (hb hby d_j52_m3_12) rfl ?_
    refine X0.ldcInt hx hown (mvT hZ (wd hw 102 rfl)) (g := (mkF m 13 #[.val (.int 2)] [(.int 2)])) rfl (hb hby d_j52_m3_13) _ ?_
    refine XS.icmpYes X0.here hx rfl (pc0 := 15) (pc' := 55) rfl (hb hby d_j52_m3_15) rfl (tlt (by decide : (2 : Int32) < (1073741823 : Int32))).1 (by decide) (by decide) ?_
    refine XS.iloadN X0.here hx rfl (hb hby d_j52_m3_55) rfl ?_
    refine XS.iconst X0.here hx rfl (hb hby d_j52_m3_56) ?_
    refine XS.ishl X0.here hx rfl (hb hby d_j52_m3_57) rfl ?_
    exact k
  refine Go.retI X0 hx hlk hret (hb hby d_j52_m3_58) (by decide) (by decide) e0 ?_
  exact ⟨rfl, N0, rfl⟩
theorem ct_nbf_2 (l : Launch) (Z : State) (a0 : Array Value) (hw : ∀ d ∈ tables_1, d.before a0 Z = true)  (h0 : Heap) (n0 : Nat) (O : Old Z n0 h0)  :
    Ct l (⟨"java/lang/StringUTF16", "newBytesFor", "(I)[B"⟩ : MethodName) jdk_52_method_2_code 1 (some (.array .byte)) ({ frames := 1, cells := 1, slots := 4, locals := 12 } : Room) Z #[(.int 2)] h0 (fun v h L => ∃ b kb, v = some (.ref b) ∧ Fr n0 L ∧ Keep h0 h [] ∧ h0.size ≤ b ∧ Arv Z h b kb .byte (4 : Int32) [(.int 0), (.int 0), (.int 0), (.int 0)] (.int 0)) := by
  refine Ct.of (plainFor_of_name pn_StringUTF16_856) ?_
  intro p e s m below meth c T0 X0 hx hby hml hown hnm hret hlk hZ e0
  have N0 := Fr.nil n0
  refine Go.cast (g' := mkF m 0 #[.val (.int 2)] []) (by first | (simp [entryFrame, mkF, argsToLocals, Value.category]; done) | rfl) ?_
  have K : Keep h0 h0 [] := Keep.refl _ _
  refine Go.st (g' := (mkF m 1 #[.val (.int 2)] [(.int 2)])) (fun t k => ?_) ?_
  · refine XS.iloadN X0.here hx rfl (hb hby d_j52_m2_0) rfl ?_
    exact k
  refine Go.callS X0 hx hZ (W := 0) (argsL := [(.int 2)]) (rest := []) hown (wd hw 99 rfl) (wd hw 100 rfl) (wd hw 23 rfl) (wd hw 101 rfl) (by decide) (ct_nbl_2 l Z a0 hw   h0 n0 O ) e0 (by rw [hml]; rfl) (lenOf pd__I_I_7763 rfl) rfl rfl (hb hby d_j52_m2_1) ?_
  intro v1 T1 h1 L1 X1 e1 q1
  obtain ⟨rfl, N1, rfl⟩ := q1
  replace N1 := Fr.app N0 N1
  show Go p e below _ T1 (mkF m 4 #[.val (.int 2)] [(.int 4)])
  refine Go.newP X1 hx hZ (wd hw 25 rfl) e1 (hb hby d_j52_m2_4) (by decide) (cap := 4) (by decide) (by decide) (by decide) (by decide) ?_
  intro T2 h2 b2 k2 X2 e2 E2 g2 V_b2
  have lb2 := Nat.le_of_eq g2.symm
  have g_b2 : n0 ≤ b2 := Nat.le_trans (OwnKit.Old.le O) lb2
  have sz_b2 : h0.size ≤ b2 := Nat.le_trans K.1 lb2
  replace O := O.ext E2
  replace K := K.ext E2
  replace V_b2 := V_b2.pad (pad_rep [] (.int 0) 4)
  replace V_b2 : Arv Z h2 b2 k2 .byte (4 : Int32) [(.int 0), (.int 0), (.int 0), (.int 0)] (.int 0) := V_b2
  show Go p e below _ T2 (mkF m 6 #[.val (.int 2)] [(.ref b2)])
  refine Go.retA X2 hx hlk hret rfl rfl (hb hby d_j52_m2_6) (by decide) (by decide) e2 ?_
  exact ⟨b2, _, rfl, N1, K, sz_b2, V_b2⟩
theorem ct_pch_2_0 (l : Launch) (Z : State) (a0 : Array Value) (hw : ∀ d ∈ tables_1, d.before a0 Z = true) (zc : Int32) (fm : Value) (G : Gl Z zc fm) (ab : Addr) (kb : ClassId) (y0 : Int32) (u0 : Value) (u1 : Value) (u2 : Value) (u3 : Value) (h0 : Heap) (n0 : Nat) (O : Old Z n0 h0) (V_b : Arv Z h0 ab kb .byte (4 : Int32) [u0, u1, u2, u3] (.int 0)) (g_ab : n0 ≤ ab) :
    Ct l (⟨"java/lang/StringUTF16", "putChar", "([BII)V"⟩ : MethodName) jdk_52_method_4_code 3 none ({ frames := 0, cells := 0, slots := 0, locals := 0 } : Room) Z #[(.ref ab), (.int 0), (.int y0)] h0 (fun v h L => v = none ∧ Fr n0 L ∧ Keep h0 h [ab] ∧ Arv Z h ab kb .byte (4 : Int32) [(.int (nar .byte ((y0 >>> ((0 : Int32) &&& 31)).toInt8.toInt32))), (.int (nar .byte ((y0 >>> ((8 : Int32) &&& 31)).toInt8.toInt32))), u2, u3] (.int 0)) := by
  refine Ct.of (plainFor_of_name pn_StringUTF16_856) ?_
  intro p e s m below meth c T0 X0 hx hby hml hown hnm hret hlk hZ e0
  have N0 := Fr.nil n0
  have G' := G
  obtain ⟨S_CS, hzc, S_FM, hfm, S_AD, S_HI, S_LO⟩ := G'
  refine Go.cast (g' := mkF m 0 #[.val (.ref ab), .val (.int 0), .val (.int y0)] []) (by first | (simp [entryFrame, mkF, argsToLocals, Value.category]; done) | rfl) ?_
  have K : Keep h0 h0 [ab] := Keep.refl _ _
  refine Go.getS X0 hx hZ hown (wd hw 106 rfl) Via.refl e0 (S_AD.ext O.2) (hb hby d_j52_m4_0) ?_
  intro T1 X1 e1
  refine Go.st (g' := (mkF m 38 #[.val (.ref ab), .val (.int 1), .val (.int y0)] [(.int y0), (.int 0), (.ref ab)])) (fun t k => ?_) ?_
  · refine XS.ifYes X1.here hx rfl (pc0 := 3) (pc' := 28) rfl (hb hby d_j52_m4_3) rfl ((if0 _ _).trans (feq (by decide : ¬ (1 : Int32) = (0 : Int32))).2) (by decide) (by decide) ?_
    refine XS.iloadN X1.here hx rfl (hb hby d_j52_m4_28) rfl ?_
    refine XS.iconst X1.here hx rfl (hb hby d_j52_m4_29) ?_
    refine XS.ishl X1.here hx rfl (hb hby d_j52_m4_30) rfl ?_
    refine XS.istoreN X1.here hx rfl (hb hby d_j52_m4_31) rfl (l' := #[.val (.ref ab), .val (.int 0), .val (.int y0)]) rfl ?_
    refine XS.aloadN X1.here hx rfl (hb hby d_j52_m4_32) rfl rfl ?_
    refine XS.iloadN X1.here hx rfl (hb hby d_j52_m4_33) rfl ?_
    refine XS.iinc X1.here hx rfl (hb hby d_j52_m4_34) rfl (l' := #[.val (.ref ab), .val (.int 1), .val (.int y0)]) rfl ?_
    refine XS.iloadN X1.here hx rfl (hb hby d_j52_m4_37) rfl ?_
    exact k
  refine Go.getS X1 hx hZ hown (wd hw 107 rfl) Via.refl e1 (S_HI.ext O.2) (hb hby d_j52_m4_38) ?_
  intro T2 X2 e2
  refine Go.st (g' := (mkF m 43 #[.val (.ref ab), .val (.int 1), .val (.int y0)] [(.int ((y0 >>> ((0 : Int32) &&& 31)).toInt8.toInt32)), (.int 0), (.ref ab)])) (fun t k => ?_) ?_
  · refine XS.ishr X2.here hx rfl (hb hby d_j52_m4_41) rfl ?_
    refine XS.i2b X2.here hx rfl (hb hby d_j52_m4_42) rfl ?_
    exact k
  refine Go.nstV X2 hx hZ e2 V_b (j := (0 : Int32)) ⟨by decide, by decide⟩ 0 rfl (Nat.le_of_ble_eq_true rfl) (Or.inr ⟨rfl, rfl⟩) (hb hby d_j52_m4_43) ?_
  intro T3 h3 X3 e3 W3 Vn3
  replace O := O.wr W3 g_ab
  have N3 := Fr.snoc X3 N0 g_ab
  replace K := K.wr W3 (Or.inl (List.mem_of_getElem? (i := 0) rfl))
  replace V_b : Arv Z h3 ab kb .byte (4 : Int32) [(.int (nar .byte ((y0 >>> ((0 : Int32) &&& 31)).toInt8.toInt32))), u1, u2, u3] (.int 0) := Vn3
  clear Vn3
  refine Go.st (g' := (mkF m 47 #[.val (.ref ab), .val (.int 1), .val (.int y0)] [(.int y0), (.int 1), (.ref ab)])) (fun t k => ?_) ?_
  · refine XS.aloadN X3.here hx rfl (hb hby d_j52_m4_44) rfl rfl ?_
    refine XS.iloadN X3.here hx rfl (hb hby d_j52_m4_45) rfl ?_
    refine XS.iloadN X3.here hx rfl (hb hby d_j52_m4_46) rfl ?_
    exact k
  refine Go.getS X3 hx hZ hown (wd hw 108 rfl) Via.refl e3 (S_LO.ext O.2) (hb hby d_j52_m4_47) ?_
  intro T4 X4 e4
  refine Go.st (g' := (mkF m 52 #[.val (.ref ab), .val (.int 1), .val (.int y0)] [(.int ((y0 >>> ((8 : Int32) &&& 31)).toInt8.toInt32)), (.int 1), (.ref ab)])) (fun t k => ?_) ?_
  · refine XS.ishr X4.here hx rfl (hb hby d_j52_m4_50) rfl ?_
    refine XS.i2b X4.here hx rfl (hb hby d_j52_m4_51) rfl ?_
    exact k
  refine Go.nstV X4 hx hZ e4 V_b (j := (1 : Int32)) ⟨by decide, by decide⟩ 1 rfl (Nat.le_of_ble_eq_true rfl) (Or.inr ⟨rfl, rfl⟩) (hb hby d_j52_m4_52) ?_
  intro T5 h5 X5 e5 W5 Vn5
  replace O := O.wr W5 g_ab
  have N5 := Fr.snoc X5 N3 g_ab
  replace K := K.wr W5 (Or.inl (List.mem_of_getElem? (i := 0) rfl))
  replace V_b : Arv Z h5 ab kb .byte (4 : Int32) [(.int (nar .byte ((y0 >>> ((0 : Int32) &&& 31)).toInt8.toInt32))), (.int (nar .byte ((y0 >>> ((8 : Int32) &&& 31)).toInt8.toInt32))), u2, u3] (.int 0) := Vn5
  clear Vn5
  show Go p e below _ T5 (mkF m 53 #[.val (.ref ab), .val (.int 1), .val (.int y0)] [])
  refine Go.retV X5 hx hlk hret (hb hby d_j52_m4_53) (by decide) (by decide) e5 ?_
  exact ⟨rfl, N5, K, V_b⟩
theorem ct_pch_2_1 (l : Launch) (Z : State) (a0 : Array Value) (hw : ∀ d ∈ tables_1, d.before a0 Z = true) (zc : Int32) (fm : Value) (G : Gl Z zc fm) (ab : Addr) (kb : ClassId) (y0 : Int32) (u0 : Value) (u1 : Value) (u2 : Value) (u3 : Value) (h0 : Heap) (n0 : Nat) (O : Old Z n0 h0) (V_b : Arv Z h0 ab kb .byte (4 : Int32) [u0, u1, u2, u3] (.int 0)) (g_ab : n0 ≤ ab) :
    Ct l (⟨"java/lang/StringUTF16", "putChar", "([BII)V"⟩ : MethodName) jdk_52_method_4_code 3 none ({ frames := 0, cells := 0, slots := 0, locals := 0 } : Room) Z #[(.ref ab), (.int 1), (.int y0)] h0 (fun v h L => v = none ∧ Fr n0 L ∧ Keep h0 h [ab] ∧ Arv Z h ab kb .byte (4 : Int32) [u0, u1, (.int (nar .byte ((y0 >>> ((0 : Int32) &&& 31)).toInt8.toInt32))), (.int (nar .byte ((y0 >>> ((8 : Int32) &&& 31)).toInt8.toInt32)))] (.int 0)) := by
  refine Ct.of (plainFor_of_name pn_StringUTF16_856) ?_
  intro p e s m below meth c T0 X0 hx hby hml hown hnm hret hlk hZ e0
  have N0 := Fr.nil n0
  have G' := G
  obtain ⟨S_CS, hzc, S_FM, hfm, S_AD, S_HI, S_LO⟩ := G'
  refine Go.cast (g' := mkF m 0 #[.val (.ref ab), .val (.int 1), .val (.int y0)] []) (by first | (simp [entryFrame, mkF, argsToLocals, Value.category]; done) | rfl) ?_
  have K : Keep h0 h0 [ab] := Keep.refl _ _
  refine Go.getS X0 hx hZ hown (wd hw 106 rfl) Via.refl e0 (S_AD.ext O.2) (hb hby d_j52_m4_0) ?_
  intro T1 X1 e1
  refine Go.st (g' := (mkF m 38 #[.val (.ref ab), .val (.int 3), .val (.int y0)] [(.int y0), (.int 2), (.ref ab)])) (fun t k => ?_) ?_
  · refine XS.ifYes X1.here hx rfl (pc0 := 3) (pc' := 28) rfl (hb hby d_j52_m4_3) rfl ((if0 _ _).trans (feq (by decide : ¬ (1 : Int32) = (0 : Int32))).2) (by decide) (by decide) ?_
    refine XS.iloadN X1.here hx rfl (hb hby d_j52_m4_28) rfl ?_
    refine XS.iconst X1.here hx rfl (hb hby d_j52_m4_29) ?_
    refine XS.ishl X1.here hx rfl (hb hby d_j52_m4_30) rfl ?_
    refine XS.istoreN X1.here hx rfl (hb hby d_j52_m4_31) rfl (l' := #[.val (.ref ab), .val (.int 2), .val (.int y0)]) rfl ?_
    refine XS.aloadN X1.here hx rfl (hb hby d_j52_m4_32) rfl rfl ?_
    refine XS.iloadN X1.here hx rfl (hb hby d_j52_m4_33) rfl ?_
    refine XS.iinc X1.here hx rfl (hb hby d_j52_m4_34) rfl (l' := #[.val (.ref ab), .val (.int 3), .val (.int y0)]) rfl ?_
    refine XS.iloadN X1.here hx rfl (hb hby d_j52_m4_37) rfl ?_
    exact k
  refine Go.getS X1 hx hZ hown (wd hw 107 rfl) Via.refl e1 (S_HI.ext O.2) (hb hby d_j52_m4_38) ?_
  intro T2 X2 e2
  refine Go.st (g' := (mkF m 43 #[.val (.ref ab), .val (.int 3), .val (.int y0)] [(.int ((y0 >>> ((0 : Int32) &&& 31)).toInt8.toInt32)), (.int 2), (.ref ab)])) (fun t k => ?_) ?_
  · refine XS.ishr X2.here hx rfl (hb hby d_j52_m4_41) rfl ?_
    refine XS.i2b X2.here hx rfl (hb hby d_j52_m4_42) rfl ?_
    exact k
  refine Go.nstV X2 hx hZ e2 V_b (j := (2 : Int32)) ⟨by decide, by decide⟩ 2 rfl (Nat.le_of_ble_eq_true rfl) (Or.inr ⟨rfl, rfl⟩) (hb hby d_j52_m4_43) ?_
  intro T3 h3 X3 e3 W3 Vn3
  replace O := O.wr W3 g_ab
  have N3 := Fr.snoc X3 N0 g_ab
  replace K := K.wr W3 (Or.inl (List.mem_of_getElem? (i := 0) rfl))
  replace V_b : Arv Z h3 ab kb .byte (4 : Int32) [u0, u1, (.int (nar .byte ((y0 >>> ((0 : Int32) &&& 31)).toInt8.toInt32))), u3] (.int 0) := Vn3
  clear Vn3
  refine Go.st (g' := (mkF m 47 #[.val (.ref ab), .val (.int 3), .val (.int y0)] [(.int y0), (.int 3), (.ref ab)])) (fun t k => ?_) ?_
  · refine XS.aloadN X3.here hx rfl (hb hby d_j52_m4_44) rfl rfl ?_
    refine XS.iloadN X3.here hx rfl (hb hby d_j52_m4_45) rfl ?_
    refine XS.iloadN X3.here hx rfl (hb hby d_j52_m4_46) rfl ?_
    exact k
  refine Go.getS X3 hx hZ hown (wd hw 108 rfl) Via.refl e3 (S_LO.ext O.2) (hb hby d_j52_m4_47) ?_
  intro T4 X4 e4
  refine Go.st (g' := (mkF m 52 #[.val (.ref ab), .val (.int 3), .val (.int y0)] [(.int ((y0 >>> ((8 : Int32) &&& 31)).toInt8.toInt32)), (.int 3), (.ref ab)])) (fun t k => ?_) ?_
  · refine XS.ishr X4.here hx rfl (hb hby d_j52_m4_50) rfl ?_
    refine XS.i2b X4.here hx rfl (hb hby d_j52_m4_51) rfl ?_
    exact k
  refine Go.nstV X4 hx hZ e4 V_b (j := (3 : Int32)) ⟨by decide, by decide⟩ 3 rfl (Nat.le_of_ble_eq_true rfl) (Or.inr ⟨rfl, rfl⟩) (hb hby d_j52_m4_52) ?_
  intro T5 h5 X5 e5 W5 Vn5
  replace O := O.wr W5 g_ab
  have N5 := Fr.snoc X5 N3 g_ab
  replace K := K.wr W5 (Or.inl (List.mem_of_getElem? (i := 0) rfl))
  replace V_b : Arv Z h5 ab kb .byte (4 : Int32) [u0, u1, (.int (nar .byte ((y0 >>> ((0 : Int32) &&& 31)).toInt8.toInt32))), (.int (nar .byte ((y0 >>> ((8 : Int32) &&& 31)).toInt8.toInt32)))] (.int 0) := Vn5
  clear Vn5
  show Go p e below _ T5 (mkF m 53 #[.val (.ref ab), .val (.int 3), .val (.int y0)] [])
  refine Go.retV X5 hx hlk hret (hb hby d_j52_m4_53) (by decide) (by decide) e5 ?_
  exact ⟨rfl, N5, K, V_b⟩
theorem ct_tob_2 (l : Launch) (Z : State) (a0 : Array Value) (hw : ∀ d ∈ tables_1, d.before a0 Z = true) (zc : Int32) (fm : Value) (G : Gl Z zc fm) (ac : Addr) (kc : ClassId) (y0 : Int32) (y1 : Int32) (h0 : Heap) (n0 : Nat) (O : Old Z n0 h0) (V_c : Arv Z h0 ac kc .char (2 : Int32) [(.int y0), (.int y1)] (.int 0)) :
    Ct l (⟨"java/lang/StringUTF16", "toBytes", "([CII)[B"⟩ : MethodName) jdk_52_method_14_code 5 (some (.array .byte)) ({ frames := 2, cells := 1, slots := 4, locals := 24 } : Room) Z #[(.ref ac), (.int 0), (.int 2)] h0 (fun v h L => ∃ b kb, v = some (.ref b) ∧ Fr n0 L ∧ Keep h0 h [] ∧ h0.size ≤ b ∧ Arv Z h b kb .byte (4 : Int32) [(.int (nar .byte ((y0 >>> ((0 : Int32) &&& 31)).toInt8.toInt32))), (.int (nar .byte ((y0 >>> ((8 : Int32) &&& 31)).toInt8.toInt32))), (.int (nar .byte ((y1 >>> ((0 : Int32) &&& 31)).toInt8.toInt32))), (.int (nar .byte ((y1 >>> ((8 : Int32) &&& 31)).toInt8.toInt32)))] (.int 0)) := by
  refine Ct.of (plainFor_of_name pn_StringUTF16_856) ?_
  intro p e s m below meth c T0 X0 hx hby hml hown hnm hret hlk hZ e0
  have N0 := Fr.nil n0
  have G' := G
  obtain ⟨S_CS, hzc, S_FM, hfm, S_AD, S_HI, S_LO⟩ := G'
  refine Go.cast (g' := mkF m 0 #[.val (.ref ac), .val (.int 0), .val (.int 2), .unset, .unset] []) (by first | (simp [entryFrame, mkF, argsToLocals, Value.category]; done) | rfl) ?_
  have K : Keep h0 h0 [] := Keep.refl _ _
  refine Go.st (g' := (mkF m 1 #[.val (.ref ac), .val (.int 0), .val (.int 2), .unset, .unset] [(.int 2)])) (fun t k => ?_) ?_
  · refine XS.iloadN X0.here hx rfl (hb hby d_j52_m14_0) rfl ?_
    exact k
  refine Go.callS X0 hx hZ (W := 0) (argsL := [(.int 2)]) (rest := []) hown (wd hw 96 rfl) (wd hw 97 rfl) (wd hw 23 rfl) (wd hw 98 rfl) (by decide) (ct_nbf_2 l Z a0 hw   h0 n0 O ) e0 (by rw [hml]; rfl) (lenOf pd__I__B_1211 rfl) rfl rfl (hb hby d_j52_m14_1) ?_
  intro v1 T1 h1 L1 X1 e1 q1
  obtain ⟨ob, kb, rfl, N1, K1, lb1, V_ob⟩ := q1
  replace N1 := Fr.app N0 N1
  have ne_ac_ob : ac ≠ ob := Nat.ne_of_lt (Nat.lt_of_lt_of_le V_c.lt lb1)
  have g_ob : n0 ≤ ob := Nat.le_trans (OwnKit.Old.le O) lb1
  have sz_ob : h0.size ≤ ob := Nat.le_trans K.1 lb1
  replace V_c := V_c.keep K1 nin0
  replace O := O.keep K1 all0
  replace K := K.trans K1 all0
  refine Go.st (g' := (mkF m 19 #[.val (.ref ac), .val (.int 0), .val (.int 2), .val (.ref ob), .val (.int 0)] [(.int 0), (.ref ac), (.int 0), (.ref ob)])) (fun t k => ?_) ?_
  · refine XS.astoreN X1.here hx rfl (hb hby d_j52_m14_4) rfl rfl (l' := #[.val (.ref ac), .val (.int 0), .val (.int 2), .val (.ref ob), .unset]) rfl ?_
    refine XS.iconst X1.here hx rfl (hb hby d_j52_m14_5) ?_
    refine XS.istore X1.here hx rfl (hb hby d_j52_m14_6) rfl (l' := #[.val (.ref ac), .val (.int 0), .val (.int 2), .val (.ref ob), .val (.int 0)]) rfl ?_
    refine XS.iload X1.here hx rfl (hb hby d_j52_m14_8) rfl ?_
    refine XS.iloadN X1.here hx rfl (hb hby d_j52_m14_10) rfl ?_
    refine XS.icmpNo X1.here hx rfl (hb hby d_j52_m14_11) rfl (tlt (by decide : (0 : Int32) < (2 : Int32))).2.1 ?_
    refine XS.aloadN X1.here hx rfl (hb hby d_j52_m14_14) rfl rfl ?_
    refine XS.iload X1.here hx rfl (hb hby d_j52_m14_15) rfl ?_
    refine XS.aloadN X1.here hx rfl (hb hby d_j52_m14_17) rfl rfl ?_
    refine XS.iloadN X1.here hx rfl (hb hby d_j52_m14_18) rfl ?_
    exact k
  refine Go.aloadV X1 hx hZ e1 V_c (j := (0 : Int32)) (v := (.int y0)) ⟨by decide, by decide⟩ rfl (Or.inr (Or.inr (Or.inr (Or.inl ⟨rfl, rfl⟩)))) (hb hby d_j52_m14_19) ?_
  show Go p e below _ T1 (mkF m 20 #[.val (.ref ac), .val (.int 0), .val (.int 2), .val (.ref ob), .val (.int 0)] [(.int y0), (.int 0), (.ref ob)])
  refine Go.callS X1 hx hZ (W := 0) (argsL := [(.ref ob), (.int 0), (.int y0)]) (rest := []) hown (wd hw 103 rfl) (wd hw 104 rfl) (wd hw 23 rfl) (wd hw 105 rfl) (by decide) (ct_pch_2_0 l Z a0 hw zc fm G ob kb y0 (.int 0) (.int 0) (.int 0) (.int 0) h1 n0 O V_ob g_ob) e1 (by rw [hml]; rfl) (lenOf pd___BII_V_5129 rfl) rfl rfl (hb hby d_j52_m14_20) ?_
  intro v2 T2 h2 L2 X2 e2 q2
  obtain ⟨rfl, N2, K2, V_n2⟩ := q2
  replace N2 := Fr.app N1 N2
  replace V_c := V_c.keep K2 (ninS ne_ac_ob nin0)
  clear V_ob
  replace O := O.keep K2 (allS g_ob all0)
  replace K := K.trans K2 (allS (Or.inr sz_ob) all0)
  refine Go.st (g' := (mkF m 19 #[.val (.ref ac), .val (.int 1), .val (.int 2), .val (.ref ob), .val (.int 1)] [(.int 1), (.ref ac), (.int 1), (.ref ob)])) (fun t k => ?_) ?_
  · refine XS.iinc X2.here hx rfl (hb hby d_j52_m14_23) rfl (l' := #[.val (.ref ac), .val (.int 1), .val (.int 2), .val (.ref ob), .val (.int 0)]) rfl ?_
    refine XS.iinc X2.here hx rfl (hb hby d_j52_m14_26) rfl (l' := #[.val (.ref ac), .val (.int 1), .val (.int 2), .val (.ref ob), .val (.int 1)]) rfl ?_
    refine XS.goto X2.here hx rfl (pc0 := 29) (pc' := 8) rfl (hb hby d_j52_m14_29) (by decide) (by decide) ?_
    refine XS.iload X2.here hx rfl (hb hby d_j52_m14_8) rfl ?_
    refine XS.iloadN X2.here hx rfl (hb hby d_j52_m14_10) rfl ?_
    refine XS.icmpNo X2.here hx rfl (hb hby d_j52_m14_11) rfl (tlt (by decide : (1 : Int32) < (2 : Int32))).2.1 ?_
    refine XS.aloadN X2.here hx rfl (hb hby d_j52_m14_14) rfl rfl ?_
    refine XS.iload X2.here hx rfl (hb hby d_j52_m14_15) rfl ?_
    refine XS.aloadN X2.here hx rfl (hb hby d_j52_m14_17) rfl rfl ?_
    refine XS.iloadN X2.here hx rfl (hb hby d_j52_m14_18) rfl ?_
    exact k
  refine Go.aloadV X2 hx hZ e2 V_c (j := (1 : Int32)) (v := (.int y1)) ⟨by decide, by decide⟩ rfl (Or.inr (Or.inr (Or.inr (Or.inl ⟨rfl, rfl⟩)))) (hb hby d_j52_m14_19) ?_
  show Go p e below _ T2 (mkF m 20 #[.val (.ref ac), .val (.int 1), .val (.int 2), .val (.ref ob), .val (.int 1)] [(.int y1), (.int 1), (.ref ob)])
  refine Go.callS X2 hx hZ (W := 0) (argsL := [(.ref ob), (.int 1), (.int y1)]) (rest := []) hown (wd hw 103 rfl) (wd hw 104 rfl) (wd hw 23 rfl) (wd hw 105 rfl) (by decide) (ct_pch_2_1 l Z a0 hw zc fm G ob kb y1 (.int (nar .byte ((y0 >>> ((0 : Int32) &&& 31)).toInt8.toInt32))) (.int (nar .byte ((y0 >>> ((8 : Int32) &&& 31)).toInt8.toInt32))) (.int 0) (.int 0) h2 n0 O V_n2 g_ob) e2 (by rw [hml]; rfl) (lenOf pd___BII_V_5129 rfl) rfl rfl (hb hby d_j52_m14_20) ?_
  intro v3 T3 h3 L3 X3 e3 q3
  obtain ⟨rfl, N3, K3, V_n3⟩ := q3
  replace N3 := Fr.app N2 N3
  replace V_c := V_c.keep K3 (ninS ne_ac_ob nin0)
  clear V_n2
  replace O := O.keep K3 (allS g_ob all0)
  replace K := K.trans K3 (allS (Or.inr sz_ob) all0)
  refine Go.st (g' := (mkF m 33 #[.val (.ref ac), .val (.int 2), .val (.int 2), .val (.ref ob), .val (.int 2)] [(.ref ob)])) (fun t k => ?_) ?_
  · refine XS.iinc X3.here hx rfl (hb hby d_j52_m14_23) rfl (l' := #[.val (.ref ac), .val (.int 2), .val (.int 2), .val (.ref ob), .val (.int 1)]) rfl ?_
    refine XS.iinc X3.here hx rfl (hb hby d_j52_m14_26) rfl (l' := #[.val (.ref ac), .val (.int 2), .val (.int 2), .val (.ref ob), .val (.int 2)]) rfl ?_
    refine XS.goto X3.here hx rfl (pc0 := 29) (pc' := 8) rfl (hb hby d_j52_m14_29) (by decide) (by decide) ?_
    refine XS.iload X3.here hx rfl (hb hby d_j52_m14_8) rfl ?_
    refine XS.iloadN X3.here hx rfl (hb hby d_j52_m14_10) rfl ?_
    refine XS.icmpYes X3.here hx rfl (pc0 := 11) (pc' := 32) rfl (hb hby d_j52_m14_11) rfl (flt (by decide : ¬ (2 : Int32) < (2 : Int32))).2.1 (by decide) (by decide) ?_
    refine XS.aloadN X3.here hx rfl (hb hby d_j52_m14_32) rfl rfl ?_
    exact k
  refine Go.retA X3 hx hlk hret rfl rfl (hb hby d_j52_m14_33) (by decide) (by decide) e3 ?_
  exact ⟨ob, _, rfl, N3, K, sz_ob, V_n3⟩
theorem ct_gch_2_0 (l : Launch) (Z : State) (a0 : Array Value) (hw : ∀ d ∈ tables_1, d.before a0 Z = true) (zc : Int32) (fm : Value) (G : Gl Z zc fm) (ab : Addr) (kb : ClassId) (y0 : Int32) (u2 : Value) (u3 : Value) (h0 : Heap) (n0 : Nat) (O : Old Z n0 h0) (V_b : Arv Z h0 ab kb .byte (4 : Int32) [(.int (nar .byte ((y0 >>> ((0 : Int32) &&& 31)).toInt8.toInt32))), (.int (nar .byte ((y0 >>> ((8 : Int32) &&& 31)).toInt8.toInt32))), u2, u3] (.int 0)) (hr0 : 0 ≤ y0.toInt ∧ y0.toInt < 65536) :
    Ct l (⟨"java/lang/StringUTF16", "getChar", "([BI)C"⟩ : MethodName) jdk_52_method_5_code 2 (some .char) ({ frames := 0, cells := 0, slots := 0, locals := 0 } : Room) Z #[(.ref ab), (.int 0)] h0 (fun v h L => v = some (.int y0) ∧ Fr n0 L ∧ h0 = h) := by
  refine Ct.of (plainFor_of_name pn_StringUTF16_856) ?_
  intro p e s m below meth c T0 X0 hx hby hml hown hnm hret hlk hZ e0
  have N0 := Fr.nil n0
  have G' := G
  obtain ⟨S_CS, hzc, S_FM, hfm, S_AD, S_HI, S_LO⟩ := G'
  refine Go.cast (g' := mkF m 0 #[.val (.ref ab), .val (.int 0)] []) (by first | (simp [entryFrame, mkF, argsToLocals, Value.category]; done) | rfl) ?_
  refine Go.getS X0 hx hZ hown (wd hw 106 rfl) Via.refl e0 (S_AD.ext O.2) (hb hby d_j52_m5_0) ?_
  intro T1 X1 e1
  refine Go.st (g' := (mkF m 37 #[.val (.ref ab), .val (.int 1)] [(.int 0), (.ref ab)])) (fun t k => ?_) ?_
  · refine XS.ifYes X1.here hx rfl (pc0 := 3) (pc' := 28) rfl (hb hby d_j52_m5_3) rfl ((if0 _ _).trans (feq (by decide : ¬ (1 : Int32) = (0 : Int32))).2) (by decide) (by decide) ?_
    refine XS.iloadN X1.here hx rfl (hb hby d_j52_m5_28) rfl ?_
    refine XS.iconst X1.here hx rfl (hb hby d_j52_m5_29) ?_
    refine XS.ishl X1.here hx rfl (hb hby d_j52_m5_30) rfl ?_
    refine XS.istoreN X1.here hx rfl (hb hby d_j52_m5_31) rfl (l' := #[.val (.ref ab), .val (.int 0)]) rfl ?_
    refine XS.aloadN X1.here hx rfl (hb hby d_j52_m5_32) rfl rfl ?_
    refine XS.iloadN X1.here hx rfl (hb hby d_j52_m5_33) rfl ?_
    refine XS.iinc X1.here hx rfl (hb hby d_j52_m5_34) rfl (l' := #[.val (.ref ab), .val (.int 1)]) rfl ?_
    exact k
  refine Go.aloadV X1 hx hZ e1 V_b (j := (0 : Int32)) (v := (.int (nar .byte ((y0 >>> ((0 : Int32) &&& 31)).toInt8.toInt32)))) ⟨by decide, by decide⟩ rfl (Or.inr (Or.inr (Or.inr (Or.inr (Or.inr ⟨rfl, rfl⟩))))) (hb hby d_j52_m5_37) ?_
  refine Go.st (g' := (mkF m 42 #[.val (.ref ab), .val (.int 1)] [(.int ((nar .byte ((y0 >>> ((0 : Int32) &&& 31)).toInt8.toInt32)) &&& (255 : Int32)))])) (fun t k => ?_) ?_
  · refine XS.sipush X1.here hx rfl (hb hby d_j52_m5_38) ?_
    refine XS.iand X1.here hx rfl (hb hby d_j52_m5_41) rfl ?_
    exact k
  refine Go.getS X1 hx hZ hown (wd hw 107 rfl) Via.refl e1 (S_HI.ext O.2) (hb hby d_j52_m5_42) ?_
  intro T2 X2 e2
  refine Go.st (g' := (mkF m 48 #[.val (.ref ab), .val (.int 1)] [(.int 1), (.ref ab), (.int (((nar .byte ((y0 >>> ((0 : Int32) &&& 31)).toInt8.toInt32)) &&& (255 : Int32)) <<< ((0 : Int32) &&& 31)))])) (fun t k => ?_) ?_
  · refine XS.ishl X2.here hx rfl (hb hby d_j52_m5_45) rfl ?_
    refine XS.aloadN X2.here hx rfl (hb hby d_j52_m5_46) rfl rfl ?_
    refine XS.iloadN X2.here hx rfl (hb hby d_j52_m5_47) rfl ?_
    exact k
  refine Go.aloadV X2 hx hZ e2 V_b (j := (1 : Int32)) (v := (.int (nar .byte ((y0 >>> ((8 : Int32) &&& 31)).toInt8.toInt32)))) ⟨by decide, by decide⟩ rfl (Or.inr (Or.inr (Or.inr (Or.inr (Or.inr ⟨rfl, rfl⟩))))) (hb hby d_j52_m5_48) ?_
  refine Go.st (g' := (mkF m 53 #[.val (.ref ab), .val (.int 1)] [(.int ((nar .byte ((y0 >>> ((8 : Int32) &&& 31)).toInt8.toInt32)) &&& (255 : Int32))), (.int (((nar .byte ((y0 >>> ((0 : Int32) &&& 31)).toInt8.toInt32)) &&& (255 : Int32)) <<< ((0 : Int32) &&& 31)))])) (fun t k => ?_) ?_
  · refine XS.sipush X2.here hx rfl (hb hby d_j52_m5_49) ?_
    refine XS.iand X2.here hx rfl (hb hby d_j52_m5_52) rfl ?_
    exact k
  refine Go.getS X2 hx hZ hown (wd hw 108 rfl) Via.refl e2 (S_LO.ext O.2) (hb hby d_j52_m5_53) ?_
  intro T3 X3 e3
  refine Go.st (g' := (mkF m 59 #[.val (.ref ab), .val (.int 1)] [(.int (((((nar .byte ((y0 >>> ((0 : Int32) &&& 31)).toInt8.toInt32)) &&& (255 : Int32)) <<< ((0 : Int32) &&& 31)) ||| (((nar .byte ((y0 >>> ((8 : Int32) &&& 31)).toInt8.toInt32)) &&& (255 : Int32)) <<< ((8 : Int32) &&& 31))).toUInt32.toUInt16.toUInt32.toInt32))])) (fun t k => ?_) ?_
  · refine XS.ishl X3.here hx rfl (hb hby d_j52_m5_56) rfl ?_
    refine XS.ior X3.here hx rfl (hb hby d_j52_m5_57) rfl ?_
    refine XS.i2c X3.here hx rfl (hb hby d_j52_m5_58) rfl ?_
    exact k
  refine Go.retS X3 hx hlk hret (by simp) (own_nc _) (hb hby d_j52_m5_59) (by decide) (by decide) e3 ?_
  exact ⟨by rw [own_gc hr0], N0, rfl⟩
theorem ct_cmp3_2_0 (l : Launch) (Z : State) (a0 : Array Value) (hw : ∀ d ∈ tables_1, d.before a0 Z = true) (zc : Int32) (fm : Value) (G : Gl Z zc fm) (ac : Addr) (kc : ClassId) (y0 : Int32) (y1 : Int32) (h0 : Heap) (n0 : Nat) (O : Old Z n0 h0) (V_c : Arv Z h0 ac kc .char (2 : Int32) [(.int y0), (.int y1)] (.int 0)) (hr0 : 0 ≤ y0.toInt ∧ y0.toInt < 65536) (hr1 : 0 ≤ y1.toInt ∧ y1.toInt < 65536) (hv0 : (255 : Int32) < y0) :
    Ct l (⟨"java/lang/StringUTF16", "compress", "([CII)[B"⟩ : MethodName) jdk_52_method_16_code 6 (some (.array .byte)) ({ frames := 3, cells := 2, slots := 6, locals := 40 } : Room) Z #[(.ref ac), (.int 0), (.int 2)] h0 (fun v h L => ∃ b kb, v = some (.ref b) ∧ Fr n0 L ∧ Keep h0 h [] ∧ h0.size ≤ b ∧ Arv Z h b kb .byte (4 : Int32) [(.int (nar .byte ((y0 >>> ((0 : Int32) &&& 31)).toInt8.toInt32))), (.int (nar .byte ((y0 >>> ((8 : Int32) &&& 31)).toInt8.toInt32))), (.int (nar .byte ((y1 >>> ((0 : Int32) &&& 31)).toInt8.toInt32))), (.int (nar .byte ((y1 >>> ((8 : Int32) &&& 31)).toInt8.toInt32)))] (.int 0)) := by
  refine Ct.of (plainFor_of_name pn_StringUTF16_856) ?_
  intro p e s m below meth c T0 X0 hx hby hml hown hnm hret hlk hZ e0
  have N0 := Fr.nil n0
  have G' := G
  obtain ⟨S_CS, hzc, S_FM, hfm, S_AD, S_HI, S_LO⟩ := G'
  refine Go.cast (g' := mkF m 0 #[.val (.ref ac), .val (.int 0), .val (.int 2), .unset, .unset, .unset] []) (by first | (simp [entryFrame, mkF, argsToLocals, Value.category]; done) | rfl) ?_
  have K : Keep h0 h0 [] := Keep.refl _ _
  refine Go.st (g' := (mkF m 1 #[.val (.ref ac), .val (.int 0), .val (.int 2), .unset, .unset, .unset] [(.int 2)])) (fun t k => ?_) ?_
  · refine XS.iloadN X0.here hx rfl (hb hby d_j52_m16_0) rfl ?_
    exact k
  refine Go.newP X0 hx hZ (wd hw 25 rfl) e0 (hb hby d_j52_m16_1) (by decide) (cap := 2) (by decide) (by decide) (by decide) (by decide) ?_
  intro T1 h1 b1 k1 X1 e1 E1 g1 V_b1
  have lb1 := Nat.le_of_eq g1.symm
  have ne_ac_b1 : ac ≠ b1 := Nat.ne_of_lt (Nat.lt_of_lt_of_le V_c.lt lb1)
  have g_b1 : n0 ≤ b1 := Nat.le_trans (OwnKit.Old.le O) lb1
  have sz_b1 : h0.size ≤ b1 := Nat.le_trans K.1 lb1
  replace V_c := V_c.ext E1
  replace O := O.ext E1
  replace K := K.ext E1
  replace V_b1 := V_b1.pad (pad_rep [] (.int 0) 2)
  replace V_b1 : Arv Z h1 b1 k1 .byte (2 : Int32) [(.int 0), (.int 0)] (.int 0) := V_b1
  refine Go.st (g' := (mkF m 9 #[.val (.ref ac), .val (.int 0), .val (.int 2), .val (.ref b1), .unset, .unset] [(.int 2), (.int 0), (.ref b1), (.int 0), (.ref ac)])) (fun t k => ?_) ?_
  · refine XS.astoreN X1.here hx rfl (hb hby d_j52_m16_3) rfl rfl (l' := #[.val (.ref ac), .val (.int 0), .val (.int 2), .val (.ref b1), .unset, .unset]) rfl ?_
    refine XS.aloadN X1.here hx rfl (hb hby d_j52_m16_4) rfl rfl ?_
    refine XS.iloadN X1.here hx rfl (hb hby d_j52_m16_5) rfl ?_
    refine XS.aloadN X1.here hx rfl (hb hby d_j52_m16_6) rfl rfl ?_
    refine XS.iconst X1.here hx rfl (hb hby d_j52_m16_7) ?_
    refine XS.iloadN X1.here hx rfl (hb hby d_j52_m16_8) rfl ?_
    exact k
  refine Go.callS X1 hx hZ (W := 0) (argsL := [(.ref ac), (.int 0), (.ref b1), (.int 0), (.int 2)]) (rest := []) hown (wd hw 26 rfl) (wd hw 27 rfl) (wd hw 23 rfl) (wd hw 28 rfl) (by decide) (ct_cmp5_2_0 l Z a0 hw  ac kc b1 k1 y0 y1 h1 n0 O V_c V_b1 g_b1 ne_ac_b1 hv0) e1 (by rw [hml]; rfl) (lenOf pd___CI_BII_I_6624 rfl) rfl rfl (hb hby d_j52_m16_9) ?_
  intro v2 T2 h2 L2 X2 e2 q2
  obtain ⟨rfl, N2, K2, V_n2⟩ := q2
  replace N2 := Fr.app N0 N2
  replace V_c := V_c.keep K2 (ninS ne_ac_b1 nin0)
  clear V_b1
  replace O := O.keep K2 (allS g_b1 all0)
  replace K := K.trans K2 (allS (Or.inr sz_b1) all0)
  refine Go.st (g' := (mkF m 23 #[.val (.ref ac), .val (.int 0), .val (.int 2), .val (.ref b1), .val (.int 0), .unset] [(.int 2), (.int 0), (.ref ac)])) (fun t k => ?_) ?_
  · refine XS.istore X2.here hx rfl (hb hby d_j52_m16_12) rfl (l' := #[.val (.ref ac), .val (.int 0), .val (.int 2), .val (.ref b1), .val (.int 0), .unset]) rfl ?_
    refine XS.iload X2.here hx rfl (hb hby d_j52_m16_14) rfl ?_
    refine XS.iloadN X2.here hx rfl (hb hby d_j52_m16_16) rfl ?_
    refine XS.icmpNo X2.here hx rfl (hb hby d_j52_m16_17) rfl (feq (by decide : ¬ (0 : Int32) = (2 : Int32))).1 ?_
    refine XS.aloadN X2.here hx rfl (hb hby d_j52_m16_20) rfl rfl ?_
    refine XS.iloadN X2.here hx rfl (hb hby d_j52_m16_21) rfl ?_
    refine XS.iloadN X2.here hx rfl (hb hby d_j52_m16_22) rfl ?_
    exact k
  refine Go.callS X2 hx hZ (W := 0) (argsL := [(.ref ac), (.int 0), (.int 2)]) (rest := []) hown (wd hw 93 rfl) (wd hw 94 rfl) (wd hw 23 rfl) (wd hw 95 rfl) (by decide) (ct_tob_2 l Z a0 hw zc fm G ac kc y0 y1 h2 n0 O V_c) e2 (by rw [hml]; rfl) (lenOf pd___CII__B_8269 rfl) rfl rfl (hb hby d_j52_m16_23) ?_
  intro v3 T3 h3 L3 X3 e3 q3
  obtain ⟨ot, kt, rfl, N3, K3, lb3, V_ot⟩ := q3
  replace N3 := Fr.app N2 N3
  have ne_ac_ot : ac ≠ ot := Nat.ne_of_lt (Nat.lt_of_lt_of_le V_c.lt lb3)
  have ne_b1_ot : b1 ≠ ot := Nat.ne_of_lt (Nat.lt_of_lt_of_le V_n2.lt lb3)
  have g_ot : n0 ≤ ot := Nat.le_trans (OwnKit.Old.le O) lb3
  have sz_ot : h0.size ≤ ot := Nat.le_trans K.1 lb3
  replace V_c := V_c.keep K3 nin0
  replace V_n2 := V_n2.keep K3 nin0
  replace O := O.keep K3 all0
  replace K := K.trans K3 all0
  refine Go.st (g' := (mkF m 32 #[.val (.ref ac), .val (.int 0), .val (.int 2), .val (.ref b1), .val (.int 0), .val (.ref ot)] [(.int 0), (.ref ot)])) (fun t k => ?_) ?_
  · refine XS.astore X3.here hx rfl (hb hby d_j52_m16_26) rfl rfl (l' := #[.val (.ref ac), .val (.int 0), .val (.int 2), .val (.ref b1), .val (.int 0), .val (.ref ot)]) rfl ?_
    refine XS.aload X3.here hx rfl (hb hby d_j52_m16_28) rfl rfl ?_
    refine XS.iload X3.here hx rfl (hb hby d_j52_m16_30) rfl ?_
    exact k
  refine Go.callS X3 hx hZ (W := 0) (argsL := [(.ref ot), (.int 0)]) (rest := []) hown (wd hw 109 rfl) (wd hw 110 rfl) (wd hw 23 rfl) (wd hw 111 rfl) (by decide) (ct_gch_2_0 l Z a0 hw zc fm G ot kt y0 (.int (nar .byte ((y1 >>> ((0 : Int32) &&& 31)).toInt8.toInt32))) (.int (nar .byte ((y1 >>> ((8 : Int32) &&& 31)).toInt8.toInt32))) h3 n0 O V_ot hr0) e3 (by rw [hml]; rfl) (lenOf pd___BI_C_7586 rfl) rfl rfl (hb hby d_j52_m16_32) ?_
  intro v4 T4 h4 L4 X4 e4 q4
  obtain ⟨rfl, N4, rfl⟩ := q4
  replace N4 := Fr.app N3 N4
  refine Go.st (g' := (mkF m 56 #[.val (.ref ac), .val (.int 0), .val (.int 2), .val (.ref b1), .val (.int 0), .val (.ref ot)] [(.ref ot)])) (fun t k => ?_) ?_
  · refine XS.sipush X4.here hx rfl (hb hby d_j52_m16_35) ?_
    refine XS.icmpYes X4.here hx rfl (pc0 := 38) (pc' := 54) rfl (hb hby d_j52_m16_38) rfl (tlt hv0).2.2.1 (by decide) (by decide) ?_
    refine XS.aload X4.here hx rfl (hb hby d_j52_m16_54) rfl rfl ?_
    exact k
  refine Go.retA X4 hx hlk hret rfl rfl (hb hby d_j52_m16_56) (by decide) (by decide) e4 ?_
  exact ⟨ot, _, rfl, N4, K, sz_ot, V_ot⟩
theorem ct_cfa_2_4 (l : Launch) (Z : State) (a0 : Array Value) (hw : ∀ d ∈ tables_1, d.before a0 Z = true) (ab : Addr) (kb : ClassId) (u0 : Value) (u1 : Value) (u2 : Value) (u3 : Value) (h0 : Heap) (n0 : Nat) (O : Old Z n0 h0) (V_b : Arv Z h0 ab kb .byte (4 : Int32) [u0, u1, u2, u3] (.int 0)) :
    Ct l (⟨"java/lang/StringUTF16", "coderFromArrayLen", "([BI)B"⟩ : MethodName) jdk_52_method_15_code 2 (some .byte) ({ frames := 0, cells := 0, slots := 0, locals := 0 } : Room) Z #[(.ref ab), (.int 2)] h0 (fun v h L => v = some (.int 1) ∧ Fr n0 L ∧ h0 = h) := by
  refine Ct.of (plainFor_of_name pn_StringUTF16_856) ?_
  intro p e s m below meth c T0 X0 hx hby hml hown hnm hret hlk hZ e0
  have N0 := Fr.nil n0
  refine Go.cast (g' := mkF m 0 #[.val (.ref ab), .val (.int 2)] []) (by first | (simp [entryFrame, mkF, argsToLocals, Value.category]; done) | rfl) ?_
  refine Go.st (g' := (mkF m 2 #[.val (.ref ab), .val (.int 2)] [(.ref ab), (.int 2)])) (fun t k => ?_) ?_
  · refine XS.iloadN X0.here hx rfl (hb hby d_j52_m15_0) rfl ?_
    refine XS.aloadN X0.here hx rfl (hb hby d_j52_m15_1) rfl rfl ?_
    exact k
  refine Go.alenV X0 hx hZ e0 V_b (hb hby d_j52_m15_2) ?_
  refine Go.st (g' := (mkF m 8 #[.val (.ref ab), .val (.int 2)] [(.int 1)])) (fun t k => ?_) ?_
  · refine XS.isub X0.here hx rfl (hb hby d_j52_m15_3) rfl ?_
    refine XS.bipush X0.here hx rfl (hb hby d_j52_m15_4) ?_
    refine XS.iushr X0.here hx rfl (hb hby d_j52_m15_6) rfl ?_
    refine XS.i2b X0.here hx rfl (hb hby d_j52_m15_7) rfl ?_
    exact k
  refine Go.retS X0 hx hlk hret (by simp) rfl (hb hby d_j52_m15_8) (by decide) (by decide) e0 ?_
  exact ⟨rfl, N0, rfl⟩
theorem ct_si4_2_0 (l : Launch) (Z : State) (a0 : Array Value) (hw : ∀ d ∈ tables_1, d.before a0 Z = true) (zc : Int32) (fm : Value) (G : Gl Z zc fm) (a1 : Addr) (ac : Addr) (kc : ClassId) (y0 : Int32) (y1 : Int32) (h0 : Heap) (n0 : Nat) (O : Old Z n0 h0) (E_a1 : Exa Z h0 a1 "java/lang/String") (F_a1_value : Fld Z h0 a1 "java/lang/String" "value" "[B" .null) (F_a1_coder : Fld Z h0 a1 "java/lang/String" "coder" "B" (.int 0)) (g_a1 : n0 ≤ a1) (V_c : Arv Z h0 ac kc .char (2 : Int32) [(.int y0), (.int y1)] (.int 0)) (ne_a1_ac : a1 ≠ ac) (hr0 : 0 ≤ y0.toInt ∧ y0.toInt < 65536) (hr1 : 0 ≤ y1.toInt ∧ y1.toInt < 65536) (hv0 : (255 : Int32) < y0) :
    Ct l (⟨"java/lang/String", "<init>", "([CIILjava/lang/Void;)V"⟩ : MethodName) jdk_42_method_149_code 6 none ({ frames := 4, cells := 2, slots := 6, locals := 57 } : Room) Z #[(.ref a1), (.ref ac), (.int 0), (.int 2), .null] h0 (fun v h L => ∃ b kb, v = none ∧ Fr n0 L ∧ Keep h0 h [a1] ∧ Fld Z h a1 "java/lang/String" "value" "[B" (.ref b) ∧ Fld Z h a1 "java/lang/String" "coder" "B" (.int 1) ∧ Arv Z h b kb .byte (4 : Int32) [(.int (nar .byte ((y0 >>> ((0 : Int32) &&& 31)).toInt8.toInt32))), (.int (nar .byte ((y0 >>> ((8 : Int32) &&& 31)).toInt8.toInt32))), (.int (nar .byte ((y1 >>> ((0 : Int32) &&& 31)).toInt8.toInt32))), (.int (nar .byte ((y1 >>> ((8 : Int32) &&& 31)).toInt8.toInt32)))] (.int 0)) := by
  refine Ct.of (plainFor_of_name pn_String_837) ?_
  intro p e s m below meth c T0 X0 hx hby hml hown hnm hret hlk hZ e0
  have N0 := Fr.nil n0
  have G' := G
  obtain ⟨S_CS, hzc, S_FM, hfm, S_AD, S_HI, S_LO⟩ := G'
  refine Go.cast (g' := mkF m 0 #[.val (.ref a1), .val (.ref ac), .val (.int 0), .val (.int 2), .val .null, .unset] []) (by first | (simp [entryFrame, mkF, argsToLocals, Value.category]; done) | rfl) ?_
  have K : Keep h0 h0 [a1] := Keep.refl _ _
  refine Go.st (g' := (mkF m 1 #[.val (.ref a1), .val (.ref ac), .val (.int 0), .val (.int 2), .val .null, .unset] [(.ref a1)])) (fun t k => ?_) ?_
  · refine XS.aloadN X0.here hx rfl (hb hby d_j42_m149_0) rfl rfl ?_
    exact k
  refine Go.initO X0 hx hZ hown (wd hw 17 rfl) (wd hw 18 rfl) (wd hw 19 rfl) e0 (by rw [hml]; rfl) (hb hby d_j42_m149_1) (by decide) (W := 0) rfl (by decide) ?_
  intro T1 X1 e1
  refine Go.st (g' := (mkF m 27 #[.val (.ref a1), .val (.ref ac), .val (.int 0), .val (.int 2), .val .null, .unset] [])) (fun t k => ?_) ?_
  · refine XS.iloadN X1.here hx rfl (hb hby d_j42_m149_4) rfl ?_
    refine XS.ifYes X1.here hx rfl (pc0 := 5) (pc' := 27) rfl (hb hby d_j42_m149_5) rfl ((if0 _ _).trans (feq (by decide : ¬ (2 : Int32) = (0 : Int32))).2) (by decide) (by decide) ?_
    exact k
  refine Go.getS X1 hx hZ hown (wd hw 20 rfl) Via.refl e1 (S_CS.ext O.2) (hb hby d_j42_m149_27) ?_
  intro T2 X2 e2
  refine Go.st (g' := (mkF m 36 #[.val (.ref a1), .val (.ref ac), .val (.int 0), .val (.int 2), .val .null, .unset] [(.int 2), (.int 0), (.ref ac)])) (fun t k => ?_) ?_
  · refine XS.ifNo X2.here hx rfl (hb hby d_j42_m149_30) rfl ((if0 _ _).trans (feq hzc).1) ?_
    refine XS.aloadN X2.here hx rfl (hb hby d_j42_m149_33) rfl rfl ?_
    refine XS.iloadN X2.here hx rfl (hb hby d_j42_m149_34) rfl ?_
    refine XS.iloadN X2.here hx rfl (hb hby d_j42_m149_35) rfl ?_
    exact k
  refine Go.callS X2 hx hZ (W := 0) (argsL := [(.ref ac), (.int 0), (.int 2)]) (rest := []) hown (wd hw 21 rfl) (wd hw 22 rfl) (wd hw 23 rfl) (wd hw 24 rfl) (by decide) (ct_cmp3_2_0 l Z a0 hw zc fm G ac kc y0 y1 h0 n0 O V_c hr0 hr1 hv0) e2 (by rw [hml]; rfl) (lenOf pd___CII__B_8269 rfl) rfl rfl (hb hby d_j42_m149_36) ?_
  intro v3 T3 h3 L3 X3 e3 q3
  obtain ⟨ob, kb, rfl, N3, K3, lb3, V_ob⟩ := q3
  replace N3 := Fr.app N0 N3
  have ne_a1_ob : a1 ≠ ob := Nat.ne_of_lt (Nat.lt_of_lt_of_le E_a1.lt lb3)
  have ne_ac_ob : ac ≠ ob := Nat.ne_of_lt (Nat.lt_of_lt_of_le V_c.lt lb3)
  have g_ob : n0 ≤ ob := Nat.le_trans (OwnKit.Old.le O) lb3
  have sz_ob : h0.size ≤ ob := Nat.le_trans K.1 lb3
  replace E_a1 := E_a1.keep K3
  replace F_a1_value := F_a1_value.keep K3 nin0
  replace F_a1_coder := F_a1_coder.keep K3 nin0
  replace V_c := V_c.keep K3 nin0
  replace O := O.keep K3 all0
  replace K := K.trans K3 all0
  refine Go.st (g' := (mkF m 45 #[.val (.ref a1), .val (.ref ac), .val (.int 0), .val (.int 2), .val .null, .val (.ref ob)] [(.int 2), (.ref ob), (.ref a1)])) (fun t k => ?_) ?_
  · refine XS.astore X3.here hx rfl (hb hby d_j42_m149_39) rfl rfl (l' := #[.val (.ref a1), .val (.ref ac), .val (.int 0), .val (.int 2), .val .null, .val (.ref ob)]) rfl ?_
    refine XS.aloadN X3.here hx rfl (hb hby d_j42_m149_41) rfl rfl ?_
    refine XS.aload X3.here hx rfl (hb hby d_j42_m149_42) rfl rfl ?_
    refine XS.iloadN X3.here hx rfl (hb hby d_j42_m149_44) rfl ?_
    exact k
  refine Go.callS X3 hx hZ (W := 1) (argsL := [(.ref ob), (.int 2)]) (rest := [(.ref a1)]) hown (wd hw 29 rfl) (wd hw 30 rfl) (wd hw 23 rfl) (wd hw 31 rfl) (by decide) (ct_cfa_2_4 l Z a0 hw  ob kb (.int (nar .byte ((y0 >>> ((0 : Int32) &&& 31)).toInt8.toInt32))) (.int (nar .byte ((y0 >>> ((8 : Int32) &&& 31)).toInt8.toInt32))) (.int (nar .byte ((y1 >>> ((0 : Int32) &&& 31)).toInt8.toInt32))) (.int (nar .byte ((y1 >>> ((8 : Int32) &&& 31)).toInt8.toInt32))) h3 n0 O V_ob) e3 (by rw [hml]; rfl) (lenOf pd___BI_B_7585 rfl) rfl rfl (hb hby d_j42_m149_45) ?_
  intro v4 T4 h4 L4 X4 e4 q4
  obtain ⟨rfl, N4, rfl⟩ := q4
  replace N4 := Fr.app N3 N4
  show Go p e below _ T4 (mkF m 48 #[.val (.ref a1), .val (.ref ac), .val (.int 0), .val (.int 2), .val .null, .val (.ref ob)] [(.int 1), (.ref a1)])
  refine Go.putF X4 hx hZ hown (wd hw 32 rfl) Via.refl e4 F_a1_coder E_a1 (Or.inr ⟨(wd hw 33 rfl), rfl, hnm⟩) (wd hw 7 rfl) (ty := .byte) (by decide) rfl rfl (hb hby d_j42_m149_48) ?_
  intro T5 h5 X5 e5 W5
  replace E_a1 := E_a1.wr W5
  replace F_a1_value := F_a1_value.other W5 (Or.inr (slot_ne (a0 := a0) (Or.inr (wd hw 35 rfl)) (Or.inr (wd hw 33 rfl)) (by decide) (t := (.array .byte)) (t' := .byte) (by decide) (by decide)))
  replace F_a1_coder := F_a1_coder.same W5
  replace V_c := V_c.other W5 (Ne.symm ne_a1_ac)
  replace V_ob := V_ob.other W5 (Ne.symm ne_a1_ob)
  replace O := O.wr W5 g_a1
  have N5 := Fr.snoc X5 N4 g_a1
  replace K := K.wr W5 (Or.inl (List.mem_of_getElem? (i := 0) rfl))
  refine Go.st (g' := (mkF m 54 #[.val (.ref a1), .val (.ref ac), .val (.int 0), .val (.int 2), .val .null, .val (.ref ob)] [(.ref ob), (.ref a1)])) (fun t k => ?_) ?_
  · refine XS.aloadN X5.here hx rfl (hb hby d_j42_m149_51) rfl rfl ?_
    refine XS.aload X5.here hx rfl (hb hby d_j42_m149_52) rfl rfl ?_
    exact k
  refine Go.putF X5 hx hZ hown (wd hw 34 rfl) Via.refl e5 F_a1_value E_a1 (Or.inr ⟨(wd hw 35 rfl), rfl, hnm⟩) (wd hw 7 rfl) (ty := (.array .byte)) (by decide) rfl rfl (hb hby d_j42_m149_54) ?_
  intro T6 h6 X6 e6 W6
  replace E_a1 := E_a1.wr W6
  replace F_a1_value := F_a1_value.same W6
  replace F_a1_coder := F_a1_coder.other W6 (Or.inr (slot_ne (a0 := a0) (Or.inr (wd hw 33 rfl)) (Or.inr (wd hw 35 rfl)) (by decide) (t := .byte) (t' := (.array .byte)) (by decide) (by decide)))
  replace V_c := V_c.other W6 (Ne.symm ne_a1_ac)
  replace V_ob := V_ob.other W6 (Ne.symm ne_a1_ob)
  replace O := O.wr W6 g_a1
  have N6 := Fr.snoc X6 N5 g_a1
  replace K := K.wr W6 (Or.inl (List.mem_of_getElem? (i := 0) rfl))
  show Go p e below _ T6 (mkF m 57 #[.val (.ref a1), .val (.ref ac), .val (.int 0), .val (.int 2), .val .null, .val (.ref ob)] [])
  refine Go.retV X6 hx hlk hret (hb hby d_j42_m149_57) (by decide) (by decide) e6 ?_
  exact ⟨ob, kb, rfl, N6, K, F_a1_value, F_a1_coder, V_ob⟩
theorem ct_si1_2_0 (l : Launch) (Z : State) (a0 : Array Value) (hw : ∀ d ∈ tables_1, d.before a0 Z = true) (zc : Int32) (fm : Value) (G : Gl Z zc fm) (a1 : Addr) (ac : Addr) (kc : ClassId) (y0 : Int32) (y1 : Int32) (h0 : Heap) (n0 : Nat) (O : Old Z n0 h0) (E_a1 : Exa Z h0 a1 "java/lang/String") (F_a1_value : Fld Z h0 a1 "java/lang/String" "value" "[B" .null) (F_a1_coder : Fld Z h0 a1 "java/lang/String" "coder" "B" (.int 0)) (g_a1 : n0 ≤ a1) (V_c : Arv Z h0 ac kc .char (2 : Int32) [(.int y0), (.int y1)] (.int 0)) (ne_a1_ac : a1 ≠ ac) (hr0 : 0 ≤ y0.toInt ∧ y0.toInt < 65536) (hr1 : 0 ≤ y1.toInt ∧ y1.toInt < 65536) (hv0 : (255 : Int32) < y0) :
    Ct l (⟨"java/lang/String", "<init>", "([C)V"⟩ : MethodName) jdk_42_method_3_code 2 none ({ frames := 5, cells := 2, slots := 6, locals := 74 } : Room) Z #[(.ref a1), (.ref ac)] h0 (fun v h L => ∃ b kb, v = none ∧ Fr n0 L ∧ Keep h0 h [a1] ∧ Fld Z h a1 "java/lang/String" "value" "[B" (.ref b) ∧ Fld Z h a1 "java/lang/String" "coder" "B" (.int 1) ∧ Arv Z h b kb .byte (4 : Int32) [(.int (nar .byte ((y0 >>> ((0 : Int32) &&& 31)).toInt8.toInt32))), (.int (nar .byte ((y0 >>> ((8 : Int32) &&& 31)).toInt8.toInt32))), (.int (nar .byte ((y1 >>> ((0 : Int32) &&& 31)).toInt8.toInt32))), (.int (nar .byte ((y1 >>> ((8 : Int32) &&& 31)).toInt8.toInt32)))] (.int 0)) := by
  refine Ct.of (plainFor_of_name pn_String_837) ?_
  intro p e s m below meth c T0 X0 hx hby hml hown hnm hret hlk hZ e0
  have N0 := Fr.nil n0
  have G' := G
  obtain ⟨S_CS, hzc, S_FM, hfm, S_AD, S_HI, S_LO⟩ := G'
  refine Go.cast (g' := mkF m 0 #[.val (.ref a1), .val (.ref ac)] []) (by first | (simp [entryFrame, mkF, argsToLocals, Value.category]; done) | rfl) ?_
  have K : Keep h0 h0 [a1] := Keep.refl _ _
  refine Go.st (g' := (mkF m 4 #[.val (.ref a1), .val (.ref ac)] [(.ref ac), (.int 0), (.ref ac), (.ref a1)])) (fun t k => ?_) ?_
  · refine XS.aloadN X0.here hx rfl (hb hby d_j42_m3_0) rfl rfl ?_
    refine XS.aloadN X0.here hx rfl (hb hby d_j42_m3_1) rfl rfl ?_
    refine XS.iconst X0.here hx rfl (hb hby d_j42_m3_2) ?_
    refine XS.aloadN X0.here hx rfl (hb hby d_j42_m3_3) rfl rfl ?_
    exact k
  refine Go.alenV X0 hx hZ e0 V_c (hb hby d_j42_m3_4) ?_
  refine Go.st (g' := (mkF m 6 #[.val (.ref a1), .val (.ref ac)] [.null, (.int 2), (.int 0), (.ref ac), (.ref a1)])) (fun t k => ?_) ?_
  · refine XS.aconstNull X0.here hx rfl (hb hby d_j42_m3_5) ?_
    exact k
  refine Go.callC X0 hx hZ (W := 0) (argsL := [(.ref ac), (.int 0), (.int 2), .null]) (rest := []) hown rfl (wd hw 13 rfl) (wd hw 14 rfl) (wd hw 8 rfl) (wd hw 16 rfl) (by decide) (ct_si4_2_0 l Z a0 hw zc fm G a1 ac kc y0 y1 h0 n0 O E_a1 F_a1_value F_a1_coder g_a1 V_c ne_a1_ac hr0 hr1 hv0) e0 (by rw [hml]; rfl) (lenOf pd___CIILjava_lang_Void__V_1319 rfl) rfl rfl (hb hby d_j42_m3_6) ?_
  intro v1 T1 h1 L1 X1 e1 q1
  obtain ⟨ob1, kb1, rfl, N1, K1, Fv1, Fc1, V_ob1⟩ := q1
  replace N1 := Fr.app N0 N1
  replace E_a1 := E_a1.keep K1
  clear F_a1_value
  clear F_a1_coder
  replace V_c := V_c.keep K1 (ninS (Ne.symm ne_a1_ac) nin0)
  replace O := O.keep K1 (allS g_a1 all0)
  replace K := K.trans K1 (allS (Or.inl (List.mem_of_getElem? (i := 0) rfl)) all0)
  show Go p e below _ T1 (mkF m 9 #[.val (.ref a1), .val (.ref ac)] [])
  refine Go.retV X1 hx hlk hret (hb hby d_j42_m3_9) (by decide) (by decide) e1 ?_
  exact ⟨ob1, kb1, rfl, N1, K, Fv1, Fc1, V_ob1⟩
theorem ct_good_0_1 (l : Launch) (Z : State) (a0 : Array Value) (hw : ∀ d ∈ tables_1, d.before a0 Z = true) (y0 : Int32) (y1 : Int32) (y2 : Int32) (h0 : Heap) (n0 : Nat) (O : Old Z n0 h0)  :
    Ct l (⟨"com/example/provenara/provenara/model/CatalogTextIsStorablePinLaw", "good", "(CZCZC)Z"⟩ : MethodName) method_5_code 5 (some .boolean) ({ frames := 1, cells := 0, slots := 0, locals := 12 } : Room) Z #[(.int y0), (.int 0), (.int y1), (.int 1), (.int y2)] h0 (fun v h L => v = some (.int (goodF y0 false y1 true y2)) ∧ Fr n0 L ∧ h0 = h) := by
  refine Ct.of (plainFor_of_name pn_CatalogTextIsStorablePinLaw_167) ?_
  intro p e s m below meth c T0 X0 hx hby hml hown hnm hret hlk hZ e0
  have N0 := Fr.nil n0
  refine Go.cast (g' := mkF m 0 #[.val (.int y0), .val (.int 0), .val (.int y1), .val (.int 1), .val (.int y2)] []) (by first | (simp [entryFrame, mkF, argsToLocals, Value.category]; done) | rfl) ?_
  refine Go.st (g' := (mkF m 1 #[.val (.int y0), .val (.int 0), .val (.int y1), .val (.int 1), .val (.int y2)] [(.int y0)])) (fun t k => ?_) ?_
  · refine XS.iloadN X0.here hx rfl (hb hby d_m5_0) rfl ?_
    exact k
  by_cases hy1 : y0 = (0 : Int32)
  · skip
    refine Go.st (g' := (mkF m 5 #[.val (.int y0), .val (.int 0), .val (.int y1), .val (.int 1), .val (.int y2)] [(.int 0)])) (fun t k => ?_) ?_
    · refine XS.ifNo X0.here hx rfl (hb hby d_m5_1) rfl ((if0 _ _).trans (teq hy1).2) ?_
      refine XS.iconst X0.here hx rfl (hb hby d_m5_4) ?_
      exact k
    refine Go.retZ X0 hx hlk hret (Or.inl rfl) (hb hby d_m5_5) (by decide) (by decide) e0 ?_
    exact ⟨by simp [goodF, hy1], N0, rfl⟩
  · skip
    refine Go.st (g' := (mkF m 7 #[.val (.int y0), .val (.int 0), .val (.int y1), .val (.int 1), .val (.int y2)] [(.int y0)])) (fun t k => ?_) ?_
    · refine XS.ifYes X0.here hx rfl (pc0 := 1) (pc' := 6) rfl (hb hby d_m5_1) rfl ((if0 _ _).trans (feq hy1).2) (by decide) (by decide) ?_
      refine XS.iloadN X0.here hx rfl (hb hby d_m5_6) rfl ?_
      exact k
    by_cases hy2 : hiB y0 = true
    · skip
      show Go p e below _ T0 (mkF m 7 #[.val (.int y0), .val (.int 0), .val (.int y1), .val (.int 1), .val (.int y2)] [(.int y0)])
      refine Go.callS X0 hx hZ (W := 0) (argsL := [(.int y0)]) (rest := []) hown (wd hw 75 rfl) (wd hw 76 rfl) (wd hw 2 rfl) (wd hw 77 rfl) (by decide) (ct_iHi l Z a0 hw  y0 (1 : Int32) h0 n0 O (if_pos hy2).symm) e0 (by rw [hml]; rfl) (lenOf pd__C_Z_2014 rfl) rfl rfl (hb hby d_m5_7) ?_
      intro v3 T3 h3 L3 X3 e3 q3
      obtain ⟨rfl, N3, rfl⟩ := q3
      replace N3 := Fr.app N0 N3
      refine Go.st (g' := (mkF m 19 #[.val (.int y0), .val (.int 0), .val (.int y1), .val (.int 1), .val (.int y2)] [(.int y2)])) (fun t k => ?_) ?_
      · refine XS.ifNo X3.here hx rfl (hb hby d_m5_10) rfl ((if0 _ _).trans (feq (by decide : ¬ (1 : Int32) = (0 : Int32))).1) ?_
        refine XS.iloadN X3.here hx rfl (hb hby d_m5_13) rfl ?_
        refine XS.ifNo X3.here hx rfl (hb hby d_m5_14) rfl ((if0 _ _).trans (feq (by decide : ¬ (1 : Int32) = (0 : Int32))).1) ?_
        refine XS.iload X3.here hx rfl (hb hby d_m5_17) rfl ?_
        exact k
      by_cases hy4 : loB y2 = true
      · skip
        show Go p e below _ T3 (mkF m 19 #[.val (.int y0), .val (.int 0), .val (.int y1), .val (.int 1), .val (.int y2)] [(.int y2)])
        refine Go.callS X3 hx hZ (W := 0) (argsL := [(.int y2)]) (rest := []) hown (wd hw 79 rfl) (wd hw 80 rfl) (wd hw 2 rfl) (wd hw 81 rfl) (by decide) (ct_iLo l Z a0 hw  y2 (1 : Int32) h0 n0 O (if_pos hy4).symm) e3 (by rw [hml]; rfl) (lenOf pd__C_Z_2014 rfl) rfl rfl (hb hby d_m5_19) ?_
        intro v5 T5 h5 L5 X5 e5 q5
        obtain ⟨rfl, N5, rfl⟩ := q5
        replace N5 := Fr.app N3 N5
        refine Go.st (g' := (mkF m 30 #[.val (.int y0), .val (.int 0), .val (.int y1), .val (.int 1), .val (.int y2)] [(.int 1)])) (fun t k => ?_) ?_
        · refine XS.ifNo X5.here hx rfl (hb hby d_m5_22) rfl ((if0 _ _).trans (feq (by decide : ¬ (1 : Int32) = (0 : Int32))).1) ?_
          refine XS.iconst X5.here hx rfl (hb hby d_m5_25) ?_
          refine XS.goto X5.here hx rfl (pc0 := 26) (pc' := 30) rfl (hb hby d_m5_26) (by decide) (by decide) ?_
          exact k
        refine Go.retZ X5 hx hlk hret (Or.inr rfl) (hb hby d_m5_30) (by decide) (by decide) e5 ?_
        exact ⟨by simp [goodF, hy1, hy2, hy4], N5, rfl⟩
      · skip
        show Go p e below _ T3 (mkF m 19 #[.val (.int y0), .val (.int 0), .val (.int y1), .val (.int 1), .val (.int y2)] [(.int y2)])
        refine Go.callS X3 hx hZ (W := 0) (argsL := [(.int y2)]) (rest := []) hown (wd hw 79 rfl) (wd hw 80 rfl) (wd hw 2 rfl) (wd hw 81 rfl) (by decide) (ct_iLo l Z a0 hw  y2 (0 : Int32) h0 n0 O (if_neg hy4).symm) e3 (by rw [hml]; rfl) (lenOf pd__C_Z_2014 rfl) rfl rfl (hb hby d_m5_19) ?_
        intro v6 T6 h6 L6 X6 e6 q6
        obtain ⟨rfl, N6, rfl⟩ := q6
        replace N6 := Fr.app N3 N6
        refine Go.st (g' := (mkF m 30 #[.val (.int y0), .val (.int 0), .val (.int y1), .val (.int 1), .val (.int y2)] [(.int 0)])) (fun t k => ?_) ?_
        · refine XS.ifYes X6.here hx rfl (pc0 := 22) (pc' := 29) rfl (hb hby d_m5_22) rfl ((if0 _ _).trans (teq (by decide : (0 : Int32) = (0 : Int32))).1) (by decide) (by decide) ?_
          refine XS.iconst X6.here hx rfl (hb hby d_m5_29) ?_
          exact k
        refine Go.retZ X6 hx hlk hret (Or.inl rfl) (hb hby d_m5_30) (by decide) (by decide) e6 ?_
        exact ⟨by simp [goodF, hy1, hy2, hy4], N6, rfl⟩
    · skip
      show Go p e below _ T0 (mkF m 7 #[.val (.int y0), .val (.int 0), .val (.int y1), .val (.int 1), .val (.int y2)] [(.int y0)])
      refine Go.callS X0 hx hZ (W := 0) (argsL := [(.int y0)]) (rest := []) hown (wd hw 75 rfl) (wd hw 76 rfl) (wd hw 2 rfl) (wd hw 77 rfl) (by decide) (ct_iHi l Z a0 hw  y0 (0 : Int32) h0 n0 O (if_neg hy2).symm) e0 (by rw [hml]; rfl) (lenOf pd__C_Z_2014 rfl) rfl rfl (hb hby d_m5_7) ?_
      intro v7 T7 h7 L7 X7 e7 q7
      obtain ⟨rfl, N7, rfl⟩ := q7
      replace N7 := Fr.app N0 N7
      refine Go.st (g' := (mkF m 32 #[.val (.int y0), .val (.int 0), .val (.int y1), .val (.int 1), .val (.int y2)] [(.int y0)])) (fun t k => ?_) ?_
      · refine XS.ifYes X7.here hx rfl (pc0 := 10) (pc' := 31) rfl (hb hby d_m5_10) rfl ((if0 _ _).trans (teq (by decide : (0 : Int32) = (0 : Int32))).1) (by decide) (by decide) ?_
        refine XS.iloadN X7.here hx rfl (hb hby d_m5_31) rfl ?_
        exact k
      by_cases hy8 : loB y0 = true
      · skip
        show Go p e below _ T7 (mkF m 32 #[.val (.int y0), .val (.int 0), .val (.int y1), .val (.int 1), .val (.int y2)] [(.int y0)])
        refine Go.callS X7 hx hZ (W := 0) (argsL := [(.int y0)]) (rest := []) hown (wd hw 79 rfl) (wd hw 80 rfl) (wd hw 2 rfl) (wd hw 81 rfl) (by decide) (ct_iLo l Z a0 hw  y0 (1 : Int32) h0 n0 O (if_pos hy8).symm) e7 (by rw [hml]; rfl) (lenOf pd__C_Z_2014 rfl) rfl rfl (hb hby d_m5_32) ?_
        intro v9 T9 h9 L9 X9 e9 q9
        obtain ⟨rfl, N9, rfl⟩ := q9
        replace N9 := Fr.app N7 N9
        refine Go.st (g' := (mkF m 54 #[.val (.int y0), .val (.int 0), .val (.int y1), .val (.int 1), .val (.int y2)] [(.int 0)])) (fun t k => ?_) ?_
        · refine XS.ifNo X9.here hx rfl (hb hby d_m5_35) rfl ((if0 _ _).trans (feq (by decide : ¬ (1 : Int32) = (0 : Int32))).1) ?_
          refine XS.iloadN X9.here hx rfl (hb hby d_m5_38) rfl ?_
          refine XS.ifYes X9.here hx rfl (pc0 := 39) (pc' := 53) rfl (hb hby d_m5_39) rfl ((if0 _ _).trans (teq (by decide : (0 : Int32) = (0 : Int32))).1) (by decide) (by decide) ?_
          refine XS.iconst X9.here hx rfl (hb hby d_m5_53) ?_
          exact k
        refine Go.retZ X9 hx hlk hret (Or.inl rfl) (hb hby d_m5_54) (by decide) (by decide) e9 ?_
        exact ⟨by simp [goodF, hy1, hy2, hy8], N9, rfl⟩
      · skip
        show Go p e below _ T7 (mkF m 32 #[.val (.int y0), .val (.int 0), .val (.int y1), .val (.int 1), .val (.int y2)] [(.int y0)])
        refine Go.callS X7 hx hZ (W := 0) (argsL := [(.int y0)]) (rest := []) hown (wd hw 79 rfl) (wd hw 80 rfl) (wd hw 2 rfl) (wd hw 81 rfl) (by decide) (ct_iLo l Z a0 hw  y0 (0 : Int32) h0 n0 O (if_neg hy8).symm) e7 (by rw [hml]; rfl) (lenOf pd__C_Z_2014 rfl) rfl rfl (hb hby d_m5_32) ?_
        intro v10 T10 h10 L10 X10 e10 q10
        obtain ⟨rfl, N10, rfl⟩ := q10
        replace N10 := Fr.app N7 N10
        refine Go.st (g' := (mkF m 56 #[.val (.int y0), .val (.int 0), .val (.int y1), .val (.int 1), .val (.int y2)] [(.int 1)])) (fun t k => ?_) ?_
        · refine XS.ifYes X10.here hx rfl (pc0 := 35) (pc' := 55) rfl (hb hby d_m5_35) rfl ((if0 _ _).trans (teq (by decide : (0 : Int32) = (0 : Int32))).1) (by decide) (by decide) ?_
          refine XS.iconst X10.here hx rfl (hb hby d_m5_55) ?_
          exact k
        refine Go.retZ X10 hx hlk hret (Or.inr rfl) (hb hby d_m5_56) (by decide) (by decide) e10 ?_
        exact ⟨by simp [goodF, hy1, hy2, hy8], N10, rfl⟩
theorem ct_len_2_1 (l : Launch) (Z : State) (a0 : Array Value) (hw : ∀ d ∈ tables_1, d.before a0 Z = true) (zc : Int32) (fm : Value) (G : Gl Z zc fm) (a1 : Addr) (ab : Addr) (kb : ClassId) (dv : Value) (u0 : Value) (u1 : Value) (u2 : Value) (u3 : Value) (h0 : Heap) (n0 : Nat) (O : Old Z n0 h0) (E_a1 : Exa Z h0 a1 "java/lang/String") (F_v : Fld Z h0 a1 "java/lang/String" "value" "[B" (.ref ab)) (F_c : Fld Z h0 a1 "java/lang/String" "coder" "B" (.int 1)) (V_b : Arv Z h0 ab kb .byte (4 : Int32) [u0, u1, u2, u3] dv) :
    Ct l (⟨"java/lang/String", "length", "()I"⟩ : MethodName) jdk_42_method_54_code 1 (some .int) ({ frames := 2, cells := 0, slots := 0, locals := 60 } : Room) Z #[(.ref a1)] h0 (fun v h L => v = some (.int 2) ∧ Fr n0 L ∧ h0 = h) := by
  refine Ct.of (plainFor_of_name pn_String_837) ?_
  intro p e s m below meth c T0 X0 hx hby hml hown hnm hret hlk hZ e0
  have N0 := Fr.nil n0
  have G' := G
  obtain ⟨S_CS, hzc, S_FM, hfm, S_AD, S_HI, S_LO⟩ := G'
  refine Go.cast (g' := mkF m 0 #[.val (.ref a1)] []) (by first | (simp [entryFrame, mkF, argsToLocals, Value.category]; done) | rfl) ?_
  refine Go.st (g' := (mkF m 1 #[.val (.ref a1)] [(.ref a1)])) (fun t k => ?_) ?_
  · refine XS.aloadN X0.here hx rfl (hb hby d_j42_m54_0) rfl rfl ?_
    exact k
  refine Go.getF X0 hx hZ hown (wd hw 34 rfl) Via.refl e0 F_v (hb hby d_j42_m54_1) ?_
  intro T1 X1 e1
  show Go p e below _ T1 (mkF m 4 #[.val (.ref a1)] [(.ref ab)])
  refine Go.alenV X1 hx hZ e1 V_b (hb hby d_j42_m54_4) ?_
  refine Go.st (g' := (mkF m 6 #[.val (.ref a1)] [(.ref a1), (.int 4)])) (fun t k => ?_) ?_
  · refine XS.aloadN X1.here hx rfl (hb hby d_j42_m54_5) rfl rfl ?_
    exact k
  refine Go.callV X1 hx hZ (W := 1) (argsL := []) (rest := [(.int 4)]) hown (wd hw 48 rfl) (wd hw 49 rfl) (notFace_of_selects (args := #[]) (mvT hZ (wd hw 51 rfl))) (wd hw 51 rfl) (wd hw 50 rfl) (wd hw 8 rfl) (wd hw 52 rfl) (by decide) E_a1 (ct_coder_1 l Z a0 hw zc fm G a1 h0 n0 O F_c) e1 (by rw [hml]; rfl) (lenOf pd___B_8314 rfl) rfl rfl (hb hby d_j42_m54_6) ?_
  intro v2 T2 h2 L2 X2 e2 q2
  obtain ⟨rfl, N2, rfl⟩ := q2
  replace N2 := Fr.app N0 N2
  refine Go.st (g' := (mkF m 10 #[.val (.ref a1)] [(.int 2)])) (fun t k => ?_) ?_
  · refine XS.ishr X2.here hx rfl (hb hby d_j42_m54_9) rfl ?_
    exact k
  refine Go.retI X2 hx hlk hret (hb hby d_j42_m54_10) (by decide) (by decide) e2 ?_
  exact ⟨rfl, N2, rfl⟩
theorem ct_ulen_4 (l : Launch) (Z : State) (a0 : Array Value) (hw : ∀ d ∈ tables_1, d.before a0 Z = true) (ab : Addr) (kb : ClassId) (u0 : Value) (u1 : Value) (u2 : Value) (u3 : Value) (h0 : Heap) (n0 : Nat) (O : Old Z n0 h0) (V_b : Arv Z h0 ab kb .byte (4 : Int32) [u0, u1, u2, u3] (.int 0)) :
    Ct l (⟨"java/lang/StringUTF16", "length", "([B)I"⟩ : MethodName) jdk_52_method_6_code 1 (some .int) ({ frames := 0, cells := 0, slots := 0, locals := 0 } : Room) Z #[(.ref ab)] h0 (fun v h L => v = some (.int 2) ∧ Fr n0 L ∧ h0 = h) := by
  refine Ct.of (plainFor_of_name pn_StringUTF16_856) ?_
  intro p e s m below meth c T0 X0 hx hby hml hown hnm hret hlk hZ e0
  have N0 := Fr.nil n0
  refine Go.cast (g' := mkF m 0 #[.val (.ref ab)] []) (by first | (simp [entryFrame, mkF, argsToLocals, Value.category]; done) | rfl) ?_
  refine Go.st (g' := (mkF m 1 #[.val (.ref ab)] [(.ref ab)])) (fun t k => ?_) ?_
  · refine XS.aloadN X0.here hx rfl (hb hby d_j52_m6_0) rfl rfl ?_
    exact k
  refine Go.alenV X0 hx hZ e0 V_b (hb hby d_j52_m6_1) ?_
  refine Go.st (g' := (mkF m 4 #[.val (.ref ab)] [(.int 2)])) (fun t k => ?_) ?_
  · refine XS.iconst X0.here hx rfl (hb hby d_j52_m6_2) ?_
    refine XS.ishr X0.here hx rfl (hb hby d_j52_m6_3) rfl ?_
    exact k
  refine Go.retI X0 hx hlk hret (hb hby d_j52_m6_4) (by decide) (by decide) e0 ?_
  exact ⟨rfl, N0, rfl⟩
theorem ct_pci_2_0 (l : Launch) (Z : State) (a0 : Array Value) (hw : ∀ d ∈ tables_1, d.before a0 Z = true) (zc : Int32) (fm : Value) (G : Gl Z zc fm) (h0 : Heap) (n0 : Nat) (O : Old Z n0 h0)  :
    Ct l (⟨"jdk/internal/util/Preconditions", "checkIndex", "(IILjava/util/function/BiFunction;)I"⟩ : MethodName) jdk_41_method_11_code 3 (some .int) ({ frames := 0, cells := 0, slots := 0, locals := 0 } : Room) Z #[(.int 0), (.int 2), fm] h0 (fun v h L => v = some (.int 0) ∧ Fr n0 L ∧ h0 = h) := by
  refine Ct.of (plainFor_of_name pn_Preconditions_68) ?_
  intro p e s m below meth c T0 X0 hx hby hml hown hnm hret hlk hZ e0
  have N0 := Fr.nil n0
  have G' := G
  obtain ⟨S_CS, hzc, S_FM, hfm, S_AD, S_HI, S_LO⟩ := G'
  refine Go.cast (g' := mkF m 0 #[.val (.int 0), .val (.int 2), .val fm] []) (by rcases ref_cases hfm with rfl | ⟨_, rfl⟩ <;> first | (simp [entryFrame, mkF, argsToLocals, Value.category]; done) | rfl) ?_
  refine Go.st (g' := (mkF m 17 #[.val (.int 0), .val (.int 2), .val fm] [(.int 0)])) (fun t k => ?_) ?_
  · refine XS.iloadN X0.here hx rfl (hb hby d_j41_m11_0) rfl ?_
    refine XS.ifNo X0.here hx rfl (hb hby d_j41_m11_1) rfl ((if0 _ _).trans (flt (by decide : ¬ (0 : Int32) < (0 : Int32))).1) ?_
    refine XS.iloadN X0.here hx rfl (hb hby d_j41_m11_4) rfl ?_
    refine XS.iloadN X0.here hx rfl (hb hby d_j41_m11_5) rfl ?_
    refine XS.icmpYes X0.here hx rfl (pc0 := 6) (pc' := 16) rfl (hb hby d_j41_m11_6) rfl (tlt (by decide : (0 : Int32) < (2 : Int32))).1 (by decide) (by decide) ?_
    refine XS.iloadN X0.here hx rfl (hb hby d_j41_m11_16) rfl ?_
    exact k
  refine Go.retI X0 hx hlk hret (hb hby d_j41_m11_17) (by decide) (by decide) e0 ?_
  exact ⟨rfl, N0, rfl⟩
theorem ct_sci_2_0 (l : Launch) (Z : State) (a0 : Array Value) (hw : ∀ d ∈ tables_1, d.before a0 Z = true) (zc : Int32) (fm : Value) (G : Gl Z zc fm) (h0 : Heap) (n0 : Nat) (O : Old Z n0 h0)  :
    Ct l (⟨"java/lang/String", "checkIndex", "(II)V"⟩ : MethodName) jdk_42_method_155_code 2 none ({ frames := 1, cells := 0, slots := 0, locals := 14 } : Room) Z #[(.int 0), (.int 2)] h0 (fun v h L => v = none ∧ Fr n0 L ∧ h0 = h) := by
  refine Ct.of (plainFor_of_name pn_String_837) ?_
  intro p e s m below meth c T0 X0 hx hby hml hown hnm hret hlk hZ e0
  have N0 := Fr.nil n0
  have G' := G
  obtain ⟨S_CS, hzc, S_FM, hfm, S_AD, S_HI, S_LO⟩ := G'
  refine Go.cast (g' := mkF m 0 #[.val (.int 0), .val (.int 2)] []) (by first | (simp [entryFrame, mkF, argsToLocals, Value.category]; done) | rfl) ?_
  refine Go.st (g' := (mkF m 2 #[.val (.int 0), .val (.int 2)] [(.int 2), (.int 0)])) (fun t k => ?_) ?_
  · refine XS.iloadN X0.here hx rfl (hb hby d_j42_m155_0) rfl ?_
    refine XS.iloadN X0.here hx rfl (hb hby d_j42_m155_1) rfl ?_
    exact k
  refine Go.getS X0 hx hZ hown (wd hw 70 rfl) Via.refl e0 (S_FM.ext O.2) (hb hby d_j42_m155_2) ?_
  intro T1 X1 e1
  show Go p e below _ T1 (mkF m 5 #[.val (.int 0), .val (.int 2)] [fm, (.int 2), (.int 0)])
  refine Go.callS X1 hx hZ (W := 0) (argsL := [(.int 0), (.int 2), fm]) (rest := []) hown (wd hw 72 rfl) (wd hw 73 rfl) (wd hw 71 rfl) (wd hw 74 rfl) (by decide) (ct_pci_2_0 l Z a0 hw zc fm G  h0 n0 O ) e1 (by rw [hml]; rfl) (lenOf pd__IILjava_util_function_BiFunction__I_3570 rfl) rfl rfl (hb hby d_j42_m155_5) ?_
  intro v2 T2 h2 L2 X2 e2 q2
  obtain ⟨rfl, N2, rfl⟩ := q2
  replace N2 := Fr.app N0 N2
  refine Go.st (g' := (mkF m 9 #[.val (.int 0), .val (.int 2)] [])) (fun t k => ?_) ?_
  · refine XS.pop X2.here hx rfl (hb hby d_j42_m155_8) rfl rfl ?_
    exact k
  refine Go.retV X2 hx hlk hret (hb hby d_j42_m155_9) (by decide) (by decide) e2 ?_
  exact ⟨rfl, N2, rfl⟩
theorem ct_uci_2_0 (l : Launch) (Z : State) (a0 : Array Value) (hw : ∀ d ∈ tables_1, d.before a0 Z = true) (zc : Int32) (fm : Value) (G : Gl Z zc fm) (ab : Addr) (kb : ClassId) (u0 : Value) (u1 : Value) (u2 : Value) (u3 : Value) (h0 : Heap) (n0 : Nat) (O : Old Z n0 h0) (V_b : Arv Z h0 ab kb .byte (4 : Int32) [u0, u1, u2, u3] (.int 0)) :
    Ct l (⟨"java/lang/StringUTF16", "checkIndex", "(I[B)V"⟩ : MethodName) jdk_52_method_91_code 2 none ({ frames := 2, cells := 0, slots := 0, locals := 27 } : Room) Z #[(.int 0), (.ref ab)] h0 (fun v h L => v = none ∧ Fr n0 L ∧ h0 = h) := by
  refine Ct.of (plainFor_of_name pn_StringUTF16_856) ?_
  intro p e s m below meth c T0 X0 hx hby hml hown hnm hret hlk hZ e0
  have N0 := Fr.nil n0
  have G' := G
  obtain ⟨S_CS, hzc, S_FM, hfm, S_AD, S_HI, S_LO⟩ := G'
  refine Go.cast (g' := mkF m 0 #[.val (.int 0), .val (.ref ab)] []) (by first | (simp [entryFrame, mkF, argsToLocals, Value.category]; done) | rfl) ?_
  refine Go.st (g' := (mkF m 2 #[.val (.int 0), .val (.ref ab)] [(.ref ab), (.int 0)])) (fun t k => ?_) ?_
  · refine XS.iloadN X0.here hx rfl (hb hby d_j52_m91_0) rfl ?_
    refine XS.aloadN X0.here hx rfl (hb hby d_j52_m91_1) rfl rfl ?_
    exact k
  refine Go.callS X0 hx hZ (W := 1) (argsL := [(.ref ab)]) (rest := [(.int 0)]) hown (wd hw 118 rfl) (wd hw 119 rfl) (wd hw 23 rfl) (wd hw 120 rfl) (by decide) (ct_ulen_4 l Z a0 hw  ab kb u0 u1 u2 u3 h0 n0 O V_b) e0 (by rw [hml]; rfl) (lenOf pd___B_I_9928 rfl) rfl rfl (hb hby d_j52_m91_2) ?_
  intro v1 T1 h1 L1 X1 e1 q1
  obtain ⟨rfl, N1, rfl⟩ := q1
  replace N1 := Fr.app N0 N1
  show Go p e below _ T1 (mkF m 5 #[.val (.int 0), .val (.ref ab)] [(.int 2), (.int 0)])
  refine Go.callS X1 hx hZ (W := 0) (argsL := [(.int 0), (.int 2)]) (rest := []) hown (wd hw 121 rfl) (wd hw 68 rfl) (wd hw 8 rfl) (wd hw 69 rfl) (by decide) (ct_sci_2_0 l Z a0 hw zc fm G  h0 n0 O ) e1 (by rw [hml]; rfl) (lenOf pd__II_V_433 rfl) rfl rfl (hb hby d_j52_m91_5) ?_
  intro v2 T2 h2 L2 X2 e2 q2
  obtain ⟨rfl, N2, rfl⟩ := q2
  replace N2 := Fr.app N1 N2
  show Go p e below _ T2 (mkF m 8 #[.val (.int 0), .val (.ref ab)] [])
  refine Go.retV X2 hx hlk hret (hb hby d_j52_m91_8) (by decide) (by decide) e2 ?_
  exact ⟨rfl, N2, rfl⟩
theorem ct_uch_2_0 (l : Launch) (Z : State) (a0 : Array Value) (hw : ∀ d ∈ tables_1, d.before a0 Z = true) (zc : Int32) (fm : Value) (G : Gl Z zc fm) (ab : Addr) (kb : ClassId) (y0 : Int32) (u2 : Value) (u3 : Value) (h0 : Heap) (n0 : Nat) (O : Old Z n0 h0) (V_b : Arv Z h0 ab kb .byte (4 : Int32) [(.int (nar .byte ((y0 >>> ((0 : Int32) &&& 31)).toInt8.toInt32))), (.int (nar .byte ((y0 >>> ((8 : Int32) &&& 31)).toInt8.toInt32))), u2, u3] (.int 0)) (hr0 : 0 ≤ y0.toInt ∧ y0.toInt < 65536) :
    Ct l (⟨"java/lang/StringUTF16", "charAt", "([BI)C"⟩ : MethodName) jdk_52_method_83_code 2 (some .char) ({ frames := 3, cells := 0, slots := 0, locals := 40 } : Room) Z #[(.ref ab), (.int 0)] h0 (fun v h L => v = some (.int y0) ∧ Fr n0 L ∧ h0 = h) := by
  refine Ct.of (plainFor_of_name pn_StringUTF16_856) ?_
  intro p e s m below meth c T0 X0 hx hby hml hown hnm hret hlk hZ e0
  have N0 := Fr.nil n0
  have G' := G
  obtain ⟨S_CS, hzc, S_FM, hfm, S_AD, S_HI, S_LO⟩ := G'
  refine Go.cast (g' := mkF m 0 #[.val (.ref ab), .val (.int 0)] []) (by first | (simp [entryFrame, mkF, argsToLocals, Value.category]; done) | rfl) ?_
  refine Go.st (g' := (mkF m 2 #[.val (.ref ab), .val (.int 0)] [(.ref ab), (.int 0)])) (fun t k => ?_) ?_
  · refine XS.iloadN X0.here hx rfl (hb hby d_j52_m83_0) rfl ?_
    refine XS.aloadN X0.here hx rfl (hb hby d_j52_m83_1) rfl rfl ?_
    exact k
  refine Go.callS X0 hx hZ (W := 0) (argsL := [(.int 0), (.ref ab)]) (rest := []) hown (wd hw 115 rfl) (wd hw 116 rfl) (wd hw 23 rfl) (wd hw 117 rfl) (by decide) (ct_uci_2_0 l Z a0 hw zc fm G ab kb (.int (nar .byte ((y0 >>> ((0 : Int32) &&& 31)).toInt8.toInt32))) (.int (nar .byte ((y0 >>> ((8 : Int32) &&& 31)).toInt8.toInt32))) u2 u3 h0 n0 O V_b) e0 (by rw [hml]; rfl) (lenOf pd__I_B_V_2323 rfl) rfl rfl (hb hby d_j52_m83_2) ?_
  intro v1 T1 h1 L1 X1 e1 q1
  obtain ⟨rfl, N1, rfl⟩ := q1
  replace N1 := Fr.app N0 N1
  refine Go.st (g' := (mkF m 7 #[.val (.ref ab), .val (.int 0)] [(.int 0), (.ref ab)])) (fun t k => ?_) ?_
  · refine XS.aloadN X1.here hx rfl (hb hby d_j52_m83_5) rfl rfl ?_
    refine XS.iloadN X1.here hx rfl (hb hby d_j52_m83_6) rfl ?_
    exact k
  refine Go.callS X1 hx hZ (W := 0) (argsL := [(.ref ab), (.int 0)]) (rest := []) hown (wd hw 109 rfl) (wd hw 110 rfl) (wd hw 23 rfl) (wd hw 111 rfl) (by decide) (ct_gch_2_0 l Z a0 hw zc fm G ab kb y0 u2 u3 h0 n0 O V_b hr0) e1 (by rw [hml]; rfl) (lenOf pd___BI_C_7586 rfl) rfl rfl (hb hby d_j52_m83_7) ?_
  intro v2 T2 h2 L2 X2 e2 q2
  obtain ⟨rfl, N2, rfl⟩ := q2
  replace N2 := Fr.app N1 N2
  show Go p e below _ T2 (mkF m 10 #[.val (.ref ab), .val (.int 0)] [(.int y0)])
  refine Go.retS X2 hx hlk hret (by simp) (own_nr hr0) (hb hby d_j52_m83_10) (by decide) (by decide) e2 ?_
  exact ⟨rfl, N2, rfl⟩
theorem ct_ch_2_0_1 (l : Launch) (Z : State) (a0 : Array Value) (hw : ∀ d ∈ tables_1, d.before a0 Z = true) (zc : Int32) (fm : Value) (G : Gl Z zc fm) (a1 : Addr) (ab : Addr) (kb : ClassId) (y0 : Int32) (u2 : Value) (u3 : Value) (h0 : Heap) (n0 : Nat) (O : Old Z n0 h0) (E_a1 : Exa Z h0 a1 "java/lang/String") (F_v : Fld Z h0 a1 "java/lang/String" "value" "[B" (.ref ab)) (F_c : Fld Z h0 a1 "java/lang/String" "coder" "B" (.int 1)) (V_b : Arv Z h0 ab kb .byte (4 : Int32) [(.int (nar .byte ((y0 >>> ((0 : Int32) &&& 31)).toInt8.toInt32))), (.int (nar .byte ((y0 >>> ((8 : Int32) &&& 31)).toInt8.toInt32))), u2, u3] (.int 0)) (hr0 : 0 ≤ y0.toInt ∧ y0.toInt < 65536) :
    Ct l (⟨"java/lang/String", "charAt", "(I)C"⟩ : MethodName) jdk_42_method_56_code 2 (some .char) ({ frames := 4, cells := 0, slots := 0, locals := 110 } : Room) Z #[(.ref a1), (.int 0)] h0 (fun v h L => v = some (.int y0) ∧ Fr n0 L ∧ h0 = h) := by
  refine Ct.of (plainFor_of_name pn_String_837) ?_
  intro p e s m below meth c T0 X0 hx hby hml hown hnm hret hlk hZ e0
  have N0 := Fr.nil n0
  have G' := G
  obtain ⟨S_CS, hzc, S_FM, hfm, S_AD, S_HI, S_LO⟩ := G'
  refine Go.cast (g' := mkF m 0 #[.val (.ref a1), .val (.int 0)] []) (by first | (simp [entryFrame, mkF, argsToLocals, Value.category]; done) | rfl) ?_
  refine Go.st (g' := (mkF m 1 #[.val (.ref a1), .val (.int 0)] [(.ref a1)])) (fun t k => ?_) ?_
  · refine XS.aloadN X0.here hx rfl (hb hby d_j42_m56_0) rfl rfl ?_
    exact k
  refine Go.callV X0 hx hZ (W := 0) (argsL := []) (rest := []) hown (wd hw 58 rfl) (wd hw 59 rfl) (notFace_of_selects (args := #[]) (mvT hZ (wd hw 61 rfl))) (wd hw 61 rfl) (wd hw 60 rfl) (wd hw 8 rfl) (wd hw 62 rfl) (by decide) E_a1 (ct_isL_1 l Z a0 hw zc fm G a1 h0 n0 O F_c) e0 (by rw [hml]; rfl) (lenOf pd___Z_8338 rfl) rfl rfl (hb hby d_j42_m56_1) ?_
  intro v1 T1 h1 L1 X1 e1 q1
  obtain ⟨rfl, N1, rfl⟩ := q1
  replace N1 := Fr.app N0 N1
  refine Go.st (g' := (mkF m 17 #[.val (.ref a1), .val (.int 0)] [(.ref a1)])) (fun t k => ?_) ?_
  · refine XS.ifYes X1.here hx rfl (pc0 := 4) (pc' := 16) rfl (hb hby d_j42_m56_4) rfl ((if0 _ _).trans (teq (by decide : (0 : Int32) = (0 : Int32))).1) (by decide) (by decide) ?_
    refine XS.aloadN X1.here hx rfl (hb hby d_j42_m56_16) rfl rfl ?_
    exact k
  refine Go.getF X1 hx hZ hown (wd hw 34 rfl) Via.refl e1 F_v (hb hby d_j42_m56_17) ?_
  intro T2 X2 e2
  refine Go.st (g' := (mkF m 21 #[.val (.ref a1), .val (.int 0)] [(.int 0), (.ref ab)])) (fun t k => ?_) ?_
  · refine XS.iloadN X2.here hx rfl (hb hby d_j42_m56_20) rfl ?_
    exact k
  refine Go.callS X2 hx hZ (W := 0) (argsL := [(.ref ab), (.int 0)]) (rest := []) hown (wd hw 112 rfl) (wd hw 113 rfl) (wd hw 23 rfl) (wd hw 114 rfl) (by decide) (ct_uch_2_0 l Z a0 hw zc fm G ab kb y0 u2 u3 h0 n0 O V_b hr0) e2 (by rw [hml]; rfl) (lenOf pd___BI_C_7586 rfl) rfl rfl (hb hby d_j42_m56_21) ?_
  intro v3 T3 h3 L3 X3 e3 q3
  obtain ⟨rfl, N3, rfl⟩ := q3
  replace N3 := Fr.app N1 N3
  show Go p e below _ T3 (mkF m 24 #[.val (.ref a1), .val (.int 0)] [(.int y0)])
  refine Go.retS X3 hx hlk hret (by simp) (own_nr hr0) (hb hby d_j42_m56_24) (by decide) (by decide) e3 ?_
  exact ⟨rfl, N3, rfl⟩
theorem ct_pci_2_1 (l : Launch) (Z : State) (a0 : Array Value) (hw : ∀ d ∈ tables_1, d.before a0 Z = true) (zc : Int32) (fm : Value) (G : Gl Z zc fm) (h0 : Heap) (n0 : Nat) (O : Old Z n0 h0)  :
    Ct l (⟨"jdk/internal/util/Preconditions", "checkIndex", "(IILjava/util/function/BiFunction;)I"⟩ : MethodName) jdk_41_method_11_code 3 (some .int) ({ frames := 0, cells := 0, slots := 0, locals := 0 } : Room) Z #[(.int 1), (.int 2), fm] h0 (fun v h L => v = some (.int 1) ∧ Fr n0 L ∧ h0 = h) := by
  refine Ct.of (plainFor_of_name pn_Preconditions_68) ?_
  intro p e s m below meth c T0 X0 hx hby hml hown hnm hret hlk hZ e0
  have N0 := Fr.nil n0
  have G' := G
  obtain ⟨S_CS, hzc, S_FM, hfm, S_AD, S_HI, S_LO⟩ := G'
  refine Go.cast (g' := mkF m 0 #[.val (.int 1), .val (.int 2), .val fm] []) (by rcases ref_cases hfm with rfl | ⟨_, rfl⟩ <;> first | (simp [entryFrame, mkF, argsToLocals, Value.category]; done) | rfl) ?_
  refine Go.st (g' := (mkF m 17 #[.val (.int 1), .val (.int 2), .val fm] [(.int 1)])) (fun t k => ?_) ?_
  · refine XS.iloadN X0.here hx rfl (hb hby d_j41_m11_0) rfl ?_
    refine XS.ifNo X0.here hx rfl (hb hby d_j41_m11_1) rfl ((if0 _ _).trans (flt (by decide : ¬ (1 : Int32) < (0 : Int32))).1) ?_
    refine XS.iloadN X0.here hx rfl (hb hby d_j41_m11_4) rfl ?_
    refine XS.iloadN X0.here hx rfl (hb hby d_j41_m11_5) rfl ?_
    refine XS.icmpYes X0.here hx rfl (pc0 := 6) (pc' := 16) rfl (hb hby d_j41_m11_6) rfl (tlt (by decide : (1 : Int32) < (2 : Int32))).1 (by decide) (by decide) ?_
    refine XS.iloadN X0.here hx rfl (hb hby d_j41_m11_16) rfl ?_
    exact k
  refine Go.retI X0 hx hlk hret (hb hby d_j41_m11_17) (by decide) (by decide) e0 ?_
  exact ⟨rfl, N0, rfl⟩
theorem ct_sci_2_1 (l : Launch) (Z : State) (a0 : Array Value) (hw : ∀ d ∈ tables_1, d.before a0 Z = true) (zc : Int32) (fm : Value) (G : Gl Z zc fm) (h0 : Heap) (n0 : Nat) (O : Old Z n0 h0)  :
    Ct l (⟨"java/lang/String", "checkIndex", "(II)V"⟩ : MethodName) jdk_42_method_155_code 2 none ({ frames := 1, cells := 0, slots := 0, locals := 14 } : Room) Z #[(.int 1), (.int 2)] h0 (fun v h L => v = none ∧ Fr n0 L ∧ h0 = h) := by
  refine Ct.of (plainFor_of_name pn_String_837) ?_
  intro p e s m below meth c T0 X0 hx hby hml hown hnm hret hlk hZ e0
  have N0 := Fr.nil n0
  have G' := G
  obtain ⟨S_CS, hzc, S_FM, hfm, S_AD, S_HI, S_LO⟩ := G'
  refine Go.cast (g' := mkF m 0 #[.val (.int 1), .val (.int 2)] []) (by first | (simp [entryFrame, mkF, argsToLocals, Value.category]; done) | rfl) ?_
  refine Go.st (g' := (mkF m 2 #[.val (.int 1), .val (.int 2)] [(.int 2), (.int 1)])) (fun t k => ?_) ?_
  · refine XS.iloadN X0.here hx rfl (hb hby d_j42_m155_0) rfl ?_
    refine XS.iloadN X0.here hx rfl (hb hby d_j42_m155_1) rfl ?_
    exact k
  refine Go.getS X0 hx hZ hown (wd hw 70 rfl) Via.refl e0 (S_FM.ext O.2) (hb hby d_j42_m155_2) ?_
  intro T1 X1 e1
  show Go p e below _ T1 (mkF m 5 #[.val (.int 1), .val (.int 2)] [fm, (.int 2), (.int 1)])
  refine Go.callS X1 hx hZ (W := 0) (argsL := [(.int 1), (.int 2), fm]) (rest := []) hown (wd hw 72 rfl) (wd hw 73 rfl) (wd hw 71 rfl) (wd hw 74 rfl) (by decide) (ct_pci_2_1 l Z a0 hw zc fm G  h0 n0 O ) e1 (by rw [hml]; rfl) (lenOf pd__IILjava_util_function_BiFunction__I_3570 rfl) rfl rfl (hb hby d_j42_m155_5) ?_
  intro v2 T2 h2 L2 X2 e2 q2
  obtain ⟨rfl, N2, rfl⟩ := q2
  replace N2 := Fr.app N0 N2
  refine Go.st (g' := (mkF m 9 #[.val (.int 1), .val (.int 2)] [])) (fun t k => ?_) ?_
  · refine XS.pop X2.here hx rfl (hb hby d_j42_m155_8) rfl rfl ?_
    exact k
  refine Go.retV X2 hx hlk hret (hb hby d_j42_m155_9) (by decide) (by decide) e2 ?_
  exact ⟨rfl, N2, rfl⟩
theorem ct_uci_2_1 (l : Launch) (Z : State) (a0 : Array Value) (hw : ∀ d ∈ tables_1, d.before a0 Z = true) (zc : Int32) (fm : Value) (G : Gl Z zc fm) (ab : Addr) (kb : ClassId) (u0 : Value) (u1 : Value) (u2 : Value) (u3 : Value) (h0 : Heap) (n0 : Nat) (O : Old Z n0 h0) (V_b : Arv Z h0 ab kb .byte (4 : Int32) [u0, u1, u2, u3] (.int 0)) :
    Ct l (⟨"java/lang/StringUTF16", "checkIndex", "(I[B)V"⟩ : MethodName) jdk_52_method_91_code 2 none ({ frames := 2, cells := 0, slots := 0, locals := 27 } : Room) Z #[(.int 1), (.ref ab)] h0 (fun v h L => v = none ∧ Fr n0 L ∧ h0 = h) := by
  refine Ct.of (plainFor_of_name pn_StringUTF16_856) ?_
  intro p e s m below meth c T0 X0 hx hby hml hown hnm hret hlk hZ e0
  have N0 := Fr.nil n0
  have G' := G
  obtain ⟨S_CS, hzc, S_FM, hfm, S_AD, S_HI, S_LO⟩ := G'
  refine Go.cast (g' := mkF m 0 #[.val (.int 1), .val (.ref ab)] []) (by first | (simp [entryFrame, mkF, argsToLocals, Value.category]; done) | rfl) ?_
  refine Go.st (g' := (mkF m 2 #[.val (.int 1), .val (.ref ab)] [(.ref ab), (.int 1)])) (fun t k => ?_) ?_
  · refine XS.iloadN X0.here hx rfl (hb hby d_j52_m91_0) rfl ?_
    refine XS.aloadN X0.here hx rfl (hb hby d_j52_m91_1) rfl rfl ?_
    exact k
  refine Go.callS X0 hx hZ (W := 1) (argsL := [(.ref ab)]) (rest := [(.int 1)]) hown (wd hw 118 rfl) (wd hw 119 rfl) (wd hw 23 rfl) (wd hw 120 rfl) (by decide) (ct_ulen_4 l Z a0 hw  ab kb u0 u1 u2 u3 h0 n0 O V_b) e0 (by rw [hml]; rfl) (lenOf pd___B_I_9928 rfl) rfl rfl (hb hby d_j52_m91_2) ?_
  intro v1 T1 h1 L1 X1 e1 q1
  obtain ⟨rfl, N1, rfl⟩ := q1
  replace N1 := Fr.app N0 N1
  show Go p e below _ T1 (mkF m 5 #[.val (.int 1), .val (.ref ab)] [(.int 2), (.int 1)])
  refine Go.callS X1 hx hZ (W := 0) (argsL := [(.int 1), (.int 2)]) (rest := []) hown (wd hw 121 rfl) (wd hw 68 rfl) (wd hw 8 rfl) (wd hw 69 rfl) (by decide) (ct_sci_2_1 l Z a0 hw zc fm G  h0 n0 O ) e1 (by rw [hml]; rfl) (lenOf pd__II_V_433 rfl) rfl rfl (hb hby d_j52_m91_5) ?_
  intro v2 T2 h2 L2 X2 e2 q2
  obtain ⟨rfl, N2, rfl⟩ := q2
  replace N2 := Fr.app N1 N2
  show Go p e below _ T2 (mkF m 8 #[.val (.int 1), .val (.ref ab)] [])
  refine Go.retV X2 hx hlk hret (hb hby d_j52_m91_8) (by decide) (by decide) e2 ?_
  exact ⟨rfl, N2, rfl⟩
theorem ct_gch_2_1 (l : Launch) (Z : State) (a0 : Array Value) (hw : ∀ d ∈ tables_1, d.before a0 Z = true) (zc : Int32) (fm : Value) (G : Gl Z zc fm) (ab : Addr) (kb : ClassId) (y0 : Int32) (u0 : Value) (u1 : Value) (h0 : Heap) (n0 : Nat) (O : Old Z n0 h0) (V_b : Arv Z h0 ab kb .byte (4 : Int32) [u0, u1, (.int (nar .byte ((y0 >>> ((0 : Int32) &&& 31)).toInt8.toInt32))), (.int (nar .byte ((y0 >>> ((8 : Int32) &&& 31)).toInt8.toInt32)))] (.int 0)) (hr0 : 0 ≤ y0.toInt ∧ y0.toInt < 65536) :
    Ct l (⟨"java/lang/StringUTF16", "getChar", "([BI)C"⟩ : MethodName) jdk_52_method_5_code 2 (some .char) ({ frames := 0, cells := 0, slots := 0, locals := 0 } : Room) Z #[(.ref ab), (.int 1)] h0 (fun v h L => v = some (.int y0) ∧ Fr n0 L ∧ h0 = h) := by
  refine Ct.of (plainFor_of_name pn_StringUTF16_856) ?_
  intro p e s m below meth c T0 X0 hx hby hml hown hnm hret hlk hZ e0
  have N0 := Fr.nil n0
  have G' := G
  obtain ⟨S_CS, hzc, S_FM, hfm, S_AD, S_HI, S_LO⟩ := G'
  refine Go.cast (g' := mkF m 0 #[.val (.ref ab), .val (.int 1)] []) (by first | (simp [entryFrame, mkF, argsToLocals, Value.category]; done) | rfl) ?_
  refine Go.getS X0 hx hZ hown (wd hw 106 rfl) Via.refl e0 (S_AD.ext O.2) (hb hby d_j52_m5_0) ?_
  intro T1 X1 e1
  refine Go.st (g' := (mkF m 37 #[.val (.ref ab), .val (.int 3)] [(.int 2), (.ref ab)])) (fun t k => ?_) ?_
  · refine XS.ifYes X1.here hx rfl (pc0 := 3) (pc' := 28) rfl (hb hby d_j52_m5_3) rfl ((if0 _ _).trans (feq (by decide : ¬ (1 : Int32) = (0 : Int32))).2) (by decide) (by decide) ?_
    refine XS.iloadN X1.here hx rfl (hb hby d_j52_m5_28) rfl ?_
    refine XS.iconst X1.here hx rfl (hb hby d_j52_m5_29) ?_
    refine XS.ishl X1.here hx rfl (hb hby d_j52_m5_30) rfl ?_
    refine XS.istoreN X1.here hx rfl (hb hby d_j52_m5_31) rfl (l' := #[.val (.ref ab), .val (.int 2)]) rfl ?_
    refine XS.aloadN X1.here hx rfl (hb hby d_j52_m5_32) rfl rfl ?_
    refine XS.iloadN X1.here hx rfl (hb hby d_j52_m5_33) rfl ?_
    refine XS.iinc X1.here hx rfl (hb hby d_j52_m5_34) rfl (l' := #[.val (.ref ab), .val (.int 3)]) rfl ?_
    exact k
  refine Go.aloadV X1 hx hZ e1 V_b (j := (2 : Int32)) (v := (.int (nar .byte ((y0 >>> ((0 : Int32) &&& 31)).toInt8.toInt32)))) ⟨by decide, by decide⟩ rfl (Or.inr (Or.inr (Or.inr (Or.inr (Or.inr ⟨rfl, rfl⟩))))) (hb hby d_j52_m5_37) ?_
  refine Go.st (g' := (mkF m 42 #[.val (.ref ab), .val (.int 3)] [(.int ((nar .byte ((y0 >>> ((0 : Int32) &&& 31)).toInt8.toInt32)) &&& (255 : Int32)))])) (fun t k => ?_) ?_
  · refine XS.sipush X1.here hx rfl (hb hby d_j52_m5_38) ?_
    refine XS.iand X1.here hx rfl (hb hby d_j52_m5_41) rfl ?_
    exact k
  refine Go.getS X1 hx hZ hown (wd hw 107 rfl) Via.refl e1 (S_HI.ext O.2) (hb hby d_j52_m5_42) ?_
  intro T2 X2 e2
  refine Go.st (g' := (mkF m 48 #[.val (.ref ab), .val (.int 3)] [(.int 3), (.ref ab), (.int (((nar .byte ((y0 >>> ((0 : Int32) &&& 31)).toInt8.toInt32)) &&& (255 : Int32)) <<< ((0 : Int32) &&& 31)))])) (fun t k => ?_) ?_
  · refine XS.ishl X2.here hx rfl (hb hby d_j52_m5_45) rfl ?_
    refine XS.aloadN X2.here hx rfl (hb hby d_j52_m5_46) rfl rfl ?_
    refine XS.iloadN X2.here hx rfl (hb hby d_j52_m5_47) rfl ?_
    exact k
  refine Go.aloadV X2 hx hZ e2 V_b (j := (3 : Int32)) (v := (.int (nar .byte ((y0 >>> ((8 : Int32) &&& 31)).toInt8.toInt32)))) ⟨by decide, by decide⟩ rfl (Or.inr (Or.inr (Or.inr (Or.inr (Or.inr ⟨rfl, rfl⟩))))) (hb hby d_j52_m5_48) ?_
  refine Go.st (g' := (mkF m 53 #[.val (.ref ab), .val (.int 3)] [(.int ((nar .byte ((y0 >>> ((8 : Int32) &&& 31)).toInt8.toInt32)) &&& (255 : Int32))), (.int (((nar .byte ((y0 >>> ((0 : Int32) &&& 31)).toInt8.toInt32)) &&& (255 : Int32)) <<< ((0 : Int32) &&& 31)))])) (fun t k => ?_) ?_
  · refine XS.sipush X2.here hx rfl (hb hby d_j52_m5_49) ?_
    refine XS.iand X2.here hx rfl (hb hby d_j52_m5_52) rfl ?_
    exact k
  refine Go.getS X2 hx hZ hown (wd hw 108 rfl) Via.refl e2 (S_LO.ext O.2) (hb hby d_j52_m5_53) ?_
  intro T3 X3 e3
  refine Go.st (g' := (mkF m 59 #[.val (.ref ab), .val (.int 3)] [(.int (((((nar .byte ((y0 >>> ((0 : Int32) &&& 31)).toInt8.toInt32)) &&& (255 : Int32)) <<< ((0 : Int32) &&& 31)) ||| (((nar .byte ((y0 >>> ((8 : Int32) &&& 31)).toInt8.toInt32)) &&& (255 : Int32)) <<< ((8 : Int32) &&& 31))).toUInt32.toUInt16.toUInt32.toInt32))])) (fun t k => ?_) ?_
  · refine XS.ishl X3.here hx rfl (hb hby d_j52_m5_56) rfl ?_
    refine XS.ior X3.here hx rfl (hb hby d_j52_m5_57) rfl ?_
    refine XS.i2c X3.here hx rfl (hb hby d_j52_m5_58) rfl ?_
    exact k
  refine Go.retS X3 hx hlk hret (by simp) (own_nc _) (hb hby d_j52_m5_59) (by decide) (by decide) e3 ?_
  exact ⟨by rw [own_gc hr0], N0, rfl⟩
theorem ct_uch_2_1 (l : Launch) (Z : State) (a0 : Array Value) (hw : ∀ d ∈ tables_1, d.before a0 Z = true) (zc : Int32) (fm : Value) (G : Gl Z zc fm) (ab : Addr) (kb : ClassId) (y0 : Int32) (u0 : Value) (u1 : Value) (h0 : Heap) (n0 : Nat) (O : Old Z n0 h0) (V_b : Arv Z h0 ab kb .byte (4 : Int32) [u0, u1, (.int (nar .byte ((y0 >>> ((0 : Int32) &&& 31)).toInt8.toInt32))), (.int (nar .byte ((y0 >>> ((8 : Int32) &&& 31)).toInt8.toInt32)))] (.int 0)) (hr0 : 0 ≤ y0.toInt ∧ y0.toInt < 65536) :
    Ct l (⟨"java/lang/StringUTF16", "charAt", "([BI)C"⟩ : MethodName) jdk_52_method_83_code 2 (some .char) ({ frames := 3, cells := 0, slots := 0, locals := 40 } : Room) Z #[(.ref ab), (.int 1)] h0 (fun v h L => v = some (.int y0) ∧ Fr n0 L ∧ h0 = h) := by
  refine Ct.of (plainFor_of_name pn_StringUTF16_856) ?_
  intro p e s m below meth c T0 X0 hx hby hml hown hnm hret hlk hZ e0
  have N0 := Fr.nil n0
  have G' := G
  obtain ⟨S_CS, hzc, S_FM, hfm, S_AD, S_HI, S_LO⟩ := G'
  refine Go.cast (g' := mkF m 0 #[.val (.ref ab), .val (.int 1)] []) (by first | (simp [entryFrame, mkF, argsToLocals, Value.category]; done) | rfl) ?_
  refine Go.st (g' := (mkF m 2 #[.val (.ref ab), .val (.int 1)] [(.ref ab), (.int 1)])) (fun t k => ?_) ?_
  · refine XS.iloadN X0.here hx rfl (hb hby d_j52_m83_0) rfl ?_
    refine XS.aloadN X0.here hx rfl (hb hby d_j52_m83_1) rfl rfl ?_
    exact k
  refine Go.callS X0 hx hZ (W := 0) (argsL := [(.int 1), (.ref ab)]) (rest := []) hown (wd hw 115 rfl) (wd hw 116 rfl) (wd hw 23 rfl) (wd hw 117 rfl) (by decide) (ct_uci_2_1 l Z a0 hw zc fm G ab kb u0 u1 (.int (nar .byte ((y0 >>> ((0 : Int32) &&& 31)).toInt8.toInt32))) (.int (nar .byte ((y0 >>> ((8 : Int32) &&& 31)).toInt8.toInt32))) h0 n0 O V_b) e0 (by rw [hml]; rfl) (lenOf pd__I_B_V_2323 rfl) rfl rfl (hb hby d_j52_m83_2) ?_
  intro v1 T1 h1 L1 X1 e1 q1
  obtain ⟨rfl, N1, rfl⟩ := q1
  replace N1 := Fr.app N0 N1
  refine Go.st (g' := (mkF m 7 #[.val (.ref ab), .val (.int 1)] [(.int 1), (.ref ab)])) (fun t k => ?_) ?_
  · refine XS.aloadN X1.here hx rfl (hb hby d_j52_m83_5) rfl rfl ?_
    refine XS.iloadN X1.here hx rfl (hb hby d_j52_m83_6) rfl ?_
    exact k
  refine Go.callS X1 hx hZ (W := 0) (argsL := [(.ref ab), (.int 1)]) (rest := []) hown (wd hw 109 rfl) (wd hw 110 rfl) (wd hw 23 rfl) (wd hw 111 rfl) (by decide) (ct_gch_2_1 l Z a0 hw zc fm G ab kb y0 u0 u1 h0 n0 O V_b hr0) e1 (by rw [hml]; rfl) (lenOf pd___BI_C_7586 rfl) rfl rfl (hb hby d_j52_m83_7) ?_
  intro v2 T2 h2 L2 X2 e2 q2
  obtain ⟨rfl, N2, rfl⟩ := q2
  replace N2 := Fr.app N1 N2
  show Go p e below _ T2 (mkF m 10 #[.val (.ref ab), .val (.int 1)] [(.int y0)])
  refine Go.retS X2 hx hlk hret (by simp) (own_nr hr0) (hb hby d_j52_m83_10) (by decide) (by decide) e2 ?_
  exact ⟨rfl, N2, rfl⟩
theorem ct_ch_2_1_1 (l : Launch) (Z : State) (a0 : Array Value) (hw : ∀ d ∈ tables_1, d.before a0 Z = true) (zc : Int32) (fm : Value) (G : Gl Z zc fm) (a1 : Addr) (ab : Addr) (kb : ClassId) (y0 : Int32) (u0 : Value) (u1 : Value) (h0 : Heap) (n0 : Nat) (O : Old Z n0 h0) (E_a1 : Exa Z h0 a1 "java/lang/String") (F_v : Fld Z h0 a1 "java/lang/String" "value" "[B" (.ref ab)) (F_c : Fld Z h0 a1 "java/lang/String" "coder" "B" (.int 1)) (V_b : Arv Z h0 ab kb .byte (4 : Int32) [u0, u1, (.int (nar .byte ((y0 >>> ((0 : Int32) &&& 31)).toInt8.toInt32))), (.int (nar .byte ((y0 >>> ((8 : Int32) &&& 31)).toInt8.toInt32)))] (.int 0)) (hr0 : 0 ≤ y0.toInt ∧ y0.toInt < 65536) :
    Ct l (⟨"java/lang/String", "charAt", "(I)C"⟩ : MethodName) jdk_42_method_56_code 2 (some .char) ({ frames := 4, cells := 0, slots := 0, locals := 110 } : Room) Z #[(.ref a1), (.int 1)] h0 (fun v h L => v = some (.int y0) ∧ Fr n0 L ∧ h0 = h) := by
  refine Ct.of (plainFor_of_name pn_String_837) ?_
  intro p e s m below meth c T0 X0 hx hby hml hown hnm hret hlk hZ e0
  have N0 := Fr.nil n0
  have G' := G
  obtain ⟨S_CS, hzc, S_FM, hfm, S_AD, S_HI, S_LO⟩ := G'
  refine Go.cast (g' := mkF m 0 #[.val (.ref a1), .val (.int 1)] []) (by first | (simp [entryFrame, mkF, argsToLocals, Value.category]; done) | rfl) ?_
  refine Go.st (g' := (mkF m 1 #[.val (.ref a1), .val (.int 1)] [(.ref a1)])) (fun t k => ?_) ?_
  · refine XS.aloadN X0.here hx rfl (hb hby d_j42_m56_0) rfl rfl ?_
    exact k
  refine Go.callV X0 hx hZ (W := 0) (argsL := []) (rest := []) hown (wd hw 58 rfl) (wd hw 59 rfl) (notFace_of_selects (args := #[]) (mvT hZ (wd hw 61 rfl))) (wd hw 61 rfl) (wd hw 60 rfl) (wd hw 8 rfl) (wd hw 62 rfl) (by decide) E_a1 (ct_isL_1 l Z a0 hw zc fm G a1 h0 n0 O F_c) e0 (by rw [hml]; rfl) (lenOf pd___Z_8338 rfl) rfl rfl (hb hby d_j42_m56_1) ?_
  intro v1 T1 h1 L1 X1 e1 q1
  obtain ⟨rfl, N1, rfl⟩ := q1
  replace N1 := Fr.app N0 N1
  refine Go.st (g' := (mkF m 17 #[.val (.ref a1), .val (.int 1)] [(.ref a1)])) (fun t k => ?_) ?_
  · refine XS.ifYes X1.here hx rfl (pc0 := 4) (pc' := 16) rfl (hb hby d_j42_m56_4) rfl ((if0 _ _).trans (teq (by decide : (0 : Int32) = (0 : Int32))).1) (by decide) (by decide) ?_
    refine XS.aloadN X1.here hx rfl (hb hby d_j42_m56_16) rfl rfl ?_
    exact k
  refine Go.getF X1 hx hZ hown (wd hw 34 rfl) Via.refl e1 F_v (hb hby d_j42_m56_17) ?_
  intro T2 X2 e2
  refine Go.st (g' := (mkF m 21 #[.val (.ref a1), .val (.int 1)] [(.int 1), (.ref ab)])) (fun t k => ?_) ?_
  · refine XS.iloadN X2.here hx rfl (hb hby d_j42_m56_20) rfl ?_
    exact k
  refine Go.callS X2 hx hZ (W := 0) (argsL := [(.ref ab), (.int 1)]) (rest := []) hown (wd hw 112 rfl) (wd hw 113 rfl) (wd hw 23 rfl) (wd hw 114 rfl) (by decide) (ct_uch_2_1 l Z a0 hw zc fm G ab kb y0 u0 u1 h0 n0 O V_b hr0) e2 (by rw [hml]; rfl) (lenOf pd___BI_C_7586 rfl) rfl rfl (hb hby d_j42_m56_21) ?_
  intro v3 T3 h3 L3 X3 e3 q3
  obtain ⟨rfl, N3, rfl⟩ := q3
  replace N3 := Fr.app N1 N3
  show Go p e below _ T3 (mkF m 24 #[.val (.ref a1), .val (.int 1)] [(.int y0)])
  refine Go.retS X3 hx hlk hret (by simp) (own_nr hr0) (hb hby d_j42_m56_24) (by decide) (by decide) e3 ?_
  exact ⟨rfl, N3, rfl⟩
theorem ct_storable_2 (l : Launch) (Z : State) (a0 : Array Value) (hw : ∀ d ∈ tables_1, d.before a0 Z = true) (a1 : Addr) (y0 : Int32) (y1 : Int32) (h0 : Heap) (n0 : Nat) (O : Old Z n0 h0) (E_a1 : Exa Z h0 a1 "java/lang/String") (HL : Ct l (⟨"java/lang/String", "length", "()I"⟩ : MethodName) jdk_42_method_54_code 1 (some .int) ({ frames := 2, cells := 0, slots := 0, locals := 60 } : Room) Z #[(.ref a1)] h0 (fun v h L => v = some (.int 2) ∧ Fr n0 L ∧ h0 = h)) (HC0 : Ct l (⟨"java/lang/String", "charAt", "(I)C"⟩ : MethodName) jdk_42_method_56_code 2 (some .char) ({ frames := 4, cells := 0, slots := 0, locals := 110 } : Room) Z #[(.ref a1), (.int 0)] h0 (fun v h L => v = some (.int y0) ∧ Fr n0 L ∧ h0 = h)) (HC1 : Ct l (⟨"java/lang/String", "charAt", "(I)C"⟩ : MethodName) jdk_42_method_56_code 2 (some .char) ({ frames := 4, cells := 0, slots := 0, locals := 110 } : Room) Z #[(.ref a1), (.int 1)] h0 (fun v h L => v = some (.int y1) ∧ Fr n0 L ∧ h0 = h)) :
    Ct l (⟨"com/example/provenara/provenara/model/CatalogText", "isStorable", "(Ljava/lang/String;)Z"⟩ : MethodName) prog_6_method_2_code 3 (some .boolean) ({ frames := 5, cells := 0, slots := 0, locals := 123 } : Room) Z #[(.ref a1)] h0 (fun v h L => v = some (.int (stor [y0, y1])) ∧ Fr n0 L ∧ h0 = h) := by
  refine Ct.of (plainFor_of_name pn_CatalogText_186) ?_
  intro p e s m below meth c T0 X0 hx hby hml hown hnm hret hlk hZ e0
  have N0 := Fr.nil n0
  refine Go.cast (g' := mkF m 0 #[.val (.ref a1), .unset, .unset] []) (by first | (simp [entryFrame, mkF, argsToLocals, Value.category]; done) | rfl) ?_
  refine Go.st (g' := (mkF m 4 #[.val (.ref a1), .val (.int 0), .unset] [(.ref a1), (.int 0)])) (fun t k => ?_) ?_
  · refine XS.iconst X0.here hx rfl (hb hby d_p6_m2_0) ?_
    refine XS.istoreN X0.here hx rfl (hb hby d_p6_m2_1) rfl (l' := #[.val (.ref a1), .val (.int 0), .unset]) rfl ?_
    refine XS.iloadN X0.here hx rfl (hb hby d_p6_m2_2) rfl ?_
    refine XS.aloadN X0.here hx rfl (hb hby d_p6_m2_3) rfl rfl ?_
    exact k
  refine Go.callV X0 hx hZ (W := 1) (argsL := []) (rest := [(.int 0)]) hown (wd hw 43 rfl) (wd hw 44 rfl) (notFace_of_selects (args := #[]) (mvT hZ (wd hw 46 rfl))) (wd hw 46 rfl) (wd hw 45 rfl) (wd hw 8 rfl) (wd hw 47 rfl) (by decide) E_a1 HL e0 (by rw [hml]; rfl) (lenOf pd___I_8321 rfl) rfl rfl (hb hby d_p6_m2_4) ?_
  intro v1 T1 h1 L1 X1 e1 q1
  obtain ⟨rfl, N1, rfl⟩ := q1
  replace N1 := Fr.app N0 N1
  refine Go.st (g' := (mkF m 12 #[.val (.ref a1), .val (.int 0), .unset] [(.int 0), (.ref a1)])) (fun t k => ?_) ?_
  · refine XS.icmpNo X1.here hx rfl (hb hby d_p6_m2_7) rfl (tlt (by decide : (0 : Int32) < (2 : Int32))).2.1 ?_
    refine XS.aloadN X1.here hx rfl (hb hby d_p6_m2_10) rfl rfl ?_
    refine XS.iloadN X1.here hx rfl (hb hby d_p6_m2_11) rfl ?_
    exact k
  refine Go.callV X1 hx hZ (W := 0) (argsL := [(.int 0)]) (rest := []) hown (wd hw 53 rfl) (wd hw 54 rfl) (notFace_of_selects (args := #[]) (mvT hZ (wd hw 56 rfl))) (wd hw 56 rfl) (wd hw 55 rfl) (wd hw 8 rfl) (wd hw 57 rfl) (by decide) E_a1 HC0 e1 (by rw [hml]; rfl) (lenOf pd__I_C_7757 rfl) rfl rfl (hb hby d_p6_m2_12) ?_
  intro v2 T2 h2 L2 X2 e2 q2
  obtain ⟨rfl, N2, rfl⟩ := q2
  replace N2 := Fr.app N1 N2
  refine Go.st (g' := (mkF m 17 #[.val (.ref a1), .val (.int 0), .val (.int y0)] [(.int y0)])) (fun t k => ?_) ?_
  · refine XS.istoreN X2.here hx rfl (hb hby d_p6_m2_15) rfl (l' := #[.val (.ref a1), .val (.int 0), .val (.int y0)]) rfl ?_
    refine XS.iloadN X2.here hx rfl (hb hby d_p6_m2_16) rfl ?_
    exact k
  by_cases hy3 : y0 = (0 : Int32)
  · skip
    refine Go.st (g' := (mkF m 21 #[.val (.ref a1), .val (.int 0), .val (.int y0)] [(.int 0)])) (fun t k => ?_) ?_
    · refine XS.ifNo X2.here hx rfl (hb hby d_p6_m2_17) rfl ((if0 _ _).trans (teq hy3).2) ?_
      refine XS.iconst X2.here hx rfl (hb hby d_p6_m2_20) ?_
      exact k
    refine Go.retZ X2 hx hlk hret (Or.inl rfl) (hb hby d_p6_m2_21) (by decide) (by decide) e2 ?_
    exact ⟨by simp [stor, hy3], N2, rfl⟩
  · skip
    refine Go.st (g' := (mkF m 23 #[.val (.ref a1), .val (.int 0), .val (.int y0)] [(.int y0)])) (fun t k => ?_) ?_
    · refine XS.ifYes X2.here hx rfl (pc0 := 17) (pc' := 22) rfl (hb hby d_p6_m2_17) rfl ((if0 _ _).trans (feq hy3).2) (by decide) (by decide) ?_
      refine XS.iloadN X2.here hx rfl (hb hby d_p6_m2_22) rfl ?_
      exact k
    by_cases hy4 : hiB y0 = true
    · skip
      show Go p e below _ T2 (mkF m 23 #[.val (.ref a1), .val (.int 0), .val (.int y0)] [(.int y0)])
      refine Go.callS X2 hx hZ (W := 0) (argsL := [(.int y0)]) (rest := []) hown (wd hw 82 rfl) (wd hw 83 rfl) (wd hw 84 rfl) (wd hw 85 rfl) (by decide) (ct_ihs l Z a0 hw  y0 (1 : Int32) h0 n0 O (if_pos hy4).symm) e2 (by rw [hml]; rfl) (lenOf pd__C_Z_2014 rfl) rfl rfl (hb hby d_p6_m2_23) ?_
      intro v5 T5 h5 L5 X5 e5 q5
      obtain ⟨rfl, N5, rfl⟩ := q5
      replace N5 := Fr.app N2 N5
      refine Go.st (g' := (mkF m 33 #[.val (.ref a1), .val (.int 0), .val (.int y0)] [(.ref a1), (.int 1)])) (fun t k => ?_) ?_
      · refine XS.ifNo X5.here hx rfl (hb hby d_p6_m2_26) rfl ((if0 _ _).trans (feq (by decide : ¬ (1 : Int32) = (0 : Int32))).1) ?_
        refine XS.iloadN X5.here hx rfl (hb hby d_p6_m2_29) rfl ?_
        refine XS.iconst X5.here hx rfl (hb hby d_p6_m2_30) ?_
        refine XS.iadd X5.here hx rfl (hb hby d_p6_m2_31) rfl ?_
        refine XS.aloadN X5.here hx rfl (hb hby d_p6_m2_32) rfl rfl ?_
        exact k
      refine Go.callV X5 hx hZ (W := 1) (argsL := []) (rest := [(.int 1)]) hown (wd hw 43 rfl) (wd hw 44 rfl) (notFace_of_selects (args := #[]) (mvT hZ (wd hw 46 rfl))) (wd hw 46 rfl) (wd hw 45 rfl) (wd hw 8 rfl) (wd hw 47 rfl) (by decide) E_a1 HL e5 (by rw [hml]; rfl) (lenOf pd___I_8321 rfl) rfl rfl (hb hby d_p6_m2_33) ?_
      intro v6 T6 h6 L6 X6 e6 q6
      obtain ⟨rfl, N6, rfl⟩ := q6
      replace N6 := Fr.app N5 N6
      refine Go.st (g' := (mkF m 43 #[.val (.ref a1), .val (.int 0), .val (.int y0)] [(.int 1), (.ref a1)])) (fun t k => ?_) ?_
      · refine XS.icmpNo X6.here hx rfl (hb hby d_p6_m2_36) rfl (tlt (by decide : (1 : Int32) < (2 : Int32))).2.1 ?_
        refine XS.aloadN X6.here hx rfl (hb hby d_p6_m2_39) rfl rfl ?_
        refine XS.iloadN X6.here hx rfl (hb hby d_p6_m2_40) rfl ?_
        refine XS.iconst X6.here hx rfl (hb hby d_p6_m2_41) ?_
        refine XS.iadd X6.here hx rfl (hb hby d_p6_m2_42) rfl ?_
        exact k
      refine Go.callV X6 hx hZ (W := 0) (argsL := [(.int 1)]) (rest := []) hown (wd hw 53 rfl) (wd hw 54 rfl) (notFace_of_selects (args := #[]) (mvT hZ (wd hw 56 rfl))) (wd hw 56 rfl) (wd hw 55 rfl) (wd hw 8 rfl) (wd hw 57 rfl) (by decide) E_a1 HC1 e6 (by rw [hml]; rfl) (lenOf pd__I_C_7757 rfl) rfl rfl (hb hby d_p6_m2_43) ?_
      intro v7 T7 h7 L7 X7 e7 q7
      obtain ⟨rfl, N7, rfl⟩ := q7
      replace N7 := Fr.app N6 N7
      show Go p e below _ T7 (mkF m 46 #[.val (.ref a1), .val (.int 0), .val (.int y0)] [(.int y1)])
      by_cases hy8 : loB y1 = true
      · skip
        show Go p e below _ T7 (mkF m 46 #[.val (.ref a1), .val (.int 0), .val (.int y0)] [(.int y1)])
        refine Go.callS X7 hx hZ (W := 0) (argsL := [(.int y1)]) (rest := []) hown (wd hw 126 rfl) (wd hw 127 rfl) (wd hw 84 rfl) (wd hw 128 rfl) (by decide) (ct_ils l Z a0 hw  y1 (1 : Int32) h0 n0 O (if_pos hy8).symm) e7 (by rw [hml]; rfl) (lenOf pd__C_Z_2014 rfl) rfl rfl (hb hby d_p6_m2_46) ?_
        intro v9 T9 h9 L9 X9 e9 q9
        obtain ⟨rfl, N9, rfl⟩ := q9
        replace N9 := Fr.app N7 N9
        refine Go.st (g' := (mkF m 4 #[.val (.ref a1), .val (.int 2), .val (.int y0)] [(.ref a1), (.int 2)])) (fun t k => ?_) ?_
        · refine XS.ifNo X9.here hx rfl (hb hby d_p6_m2_49) rfl ((if0 _ _).trans (feq (by decide : ¬ (1 : Int32) = (0 : Int32))).1) ?_
          refine XS.iinc X9.here hx rfl (hb hby d_p6_m2_52) rfl (l' := #[.val (.ref a1), .val (.int 1), .val (.int y0)]) rfl ?_
          refine XS.goto X9.here hx rfl (pc0 := 55) (pc' := 67) rfl (hb hby d_p6_m2_55) (by decide) (by decide) ?_
          refine XS.iinc X9.here hx rfl (hb hby d_p6_m2_67) rfl (l' := #[.val (.ref a1), .val (.int 2), .val (.int y0)]) rfl ?_
          refine XS.goto X9.here hx rfl (pc0 := 70) (pc' := 2) rfl (hb hby d_p6_m2_70) (by decide) (by decide) ?_
          refine XS.iloadN X9.here hx rfl (hb hby d_p6_m2_2) rfl ?_
          refine XS.aloadN X9.here hx rfl (hb hby d_p6_m2_3) rfl rfl ?_
          exact k
        refine Go.callV X9 hx hZ (W := 1) (argsL := []) (rest := [(.int 2)]) hown (wd hw 43 rfl) (wd hw 44 rfl) (notFace_of_selects (args := #[]) (mvT hZ (wd hw 46 rfl))) (wd hw 46 rfl) (wd hw 45 rfl) (wd hw 8 rfl) (wd hw 47 rfl) (by decide) E_a1 HL e9 (by rw [hml]; rfl) (lenOf pd___I_8321 rfl) rfl rfl (hb hby d_p6_m2_4) ?_
        intro v10 T10 h10 L10 X10 e10 q10
        obtain ⟨rfl, N10, rfl⟩ := q10
        replace N10 := Fr.app N9 N10
        refine Go.st (g' := (mkF m 74 #[.val (.ref a1), .val (.int 2), .val (.int y0)] [(.int 1)])) (fun t k => ?_) ?_
        · refine XS.icmpYes X10.here hx rfl (pc0 := 7) (pc' := 73) rfl (hb hby d_p6_m2_7) rfl (flt (by decide : ¬ (2 : Int32) < (2 : Int32))).2.1 (by decide) (by decide) ?_
          refine XS.iconst X10.here hx rfl (hb hby d_p6_m2_73) ?_
          exact k
        refine Go.retZ X10 hx hlk hret (Or.inr rfl) (hb hby d_p6_m2_74) (by decide) (by decide) e10 ?_
        exact ⟨by simp [stor, hy3, hy4, hy8], N10, rfl⟩
      · skip
        show Go p e below _ T7 (mkF m 46 #[.val (.ref a1), .val (.int 0), .val (.int y0)] [(.int y1)])
        refine Go.callS X7 hx hZ (W := 0) (argsL := [(.int y1)]) (rest := []) hown (wd hw 126 rfl) (wd hw 127 rfl) (wd hw 84 rfl) (wd hw 128 rfl) (by decide) (ct_ils l Z a0 hw  y1 (0 : Int32) h0 n0 O (if_neg hy8).symm) e7 (by rw [hml]; rfl) (lenOf pd__C_Z_2014 rfl) rfl rfl (hb hby d_p6_m2_46) ?_
        intro v11 T11 h11 L11 X11 e11 q11
        obtain ⟨rfl, N11, rfl⟩ := q11
        replace N11 := Fr.app N7 N11
        refine Go.st (g' := (mkF m 59 #[.val (.ref a1), .val (.int 0), .val (.int y0)] [(.int y0)])) (fun t k => ?_) ?_
        · refine XS.ifYes X11.here hx rfl (pc0 := 49) (pc' := 58) rfl (hb hby d_p6_m2_49) rfl ((if0 _ _).trans (teq (by decide : (0 : Int32) = (0 : Int32))).1) (by decide) (by decide) ?_
          refine XS.iloadN X11.here hx rfl (hb hby d_p6_m2_58) rfl ?_
          exact k
        refine Go.callS X11 hx hZ (W := 0) (argsL := [(.int y0)]) (rest := []) hown (wd hw 87 rfl) (wd hw 88 rfl) (wd hw 84 rfl) (wd hw 89 rfl) (by decide) (ct_isr l Z a0 hw  y0 (1 : Int32) h0 n0 O (if_pos (own_or1 hy4)).symm) e11 (by rw [hml]; rfl) (lenOf pd__C_Z_2014 rfl) rfl rfl (hb hby d_p6_m2_59) ?_
        intro v12 T12 h12 L12 X12 e12 q12
        obtain ⟨rfl, N12, rfl⟩ := q12
        replace N12 := Fr.app N11 N12
        refine Go.st (g' := (mkF m 66 #[.val (.ref a1), .val (.int 0), .val (.int y0)] [(.int 0)])) (fun t k => ?_) ?_
        · refine XS.ifNo X12.here hx rfl (hb hby d_p6_m2_62) rfl ((if0 _ _).trans (feq (by decide : ¬ (1 : Int32) = (0 : Int32))).1) ?_
          refine XS.iconst X12.here hx rfl (hb hby d_p6_m2_65) ?_
          exact k
        refine Go.retZ X12 hx hlk hret (Or.inl rfl) (hb hby d_p6_m2_66) (by decide) (by decide) e12 ?_
        exact ⟨by simp [stor, hy3, hy4, hy8], N12, rfl⟩
    · skip
      show Go p e below _ T2 (mkF m 23 #[.val (.ref a1), .val (.int 0), .val (.int y0)] [(.int y0)])
      refine Go.callS X2 hx hZ (W := 0) (argsL := [(.int y0)]) (rest := []) hown (wd hw 82 rfl) (wd hw 83 rfl) (wd hw 84 rfl) (wd hw 85 rfl) (by decide) (ct_ihs l Z a0 hw  y0 (0 : Int32) h0 n0 O (if_neg hy4).symm) e2 (by rw [hml]; rfl) (lenOf pd__C_Z_2014 rfl) rfl rfl (hb hby d_p6_m2_23) ?_
      intro v13 T13 h13 L13 X13 e13 q13
      obtain ⟨rfl, N13, rfl⟩ := q13
      replace N13 := Fr.app N2 N13
      refine Go.st (g' := (mkF m 59 #[.val (.ref a1), .val (.int 0), .val (.int y0)] [(.int y0)])) (fun t k => ?_) ?_
      · refine XS.ifYes X13.here hx rfl (pc0 := 26) (pc' := 58) rfl (hb hby d_p6_m2_26) rfl ((if0 _ _).trans (teq (by decide : (0 : Int32) = (0 : Int32))).1) (by decide) (by decide) ?_
        refine XS.iloadN X13.here hx rfl (hb hby d_p6_m2_58) rfl ?_
        exact k
      by_cases hy14 : loB y0 = true
      · skip
        show Go p e below _ T13 (mkF m 59 #[.val (.ref a1), .val (.int 0), .val (.int y0)] [(.int y0)])
        refine Go.callS X13 hx hZ (W := 0) (argsL := [(.int y0)]) (rest := []) hown (wd hw 87 rfl) (wd hw 88 rfl) (wd hw 84 rfl) (wd hw 89 rfl) (by decide) (ct_isr l Z a0 hw  y0 (1 : Int32) h0 n0 O (if_pos (own_or2 hy14)).symm) e13 (by rw [hml]; rfl) (lenOf pd__C_Z_2014 rfl) rfl rfl (hb hby d_p6_m2_59) ?_
        intro v15 T15 h15 L15 X15 e15 q15
        obtain ⟨rfl, N15, rfl⟩ := q15
        replace N15 := Fr.app N13 N15
        refine Go.st (g' := (mkF m 66 #[.val (.ref a1), .val (.int 0), .val (.int y0)] [(.int 0)])) (fun t k => ?_) ?_
        · refine XS.ifNo X15.here hx rfl (hb hby d_p6_m2_62) rfl ((if0 _ _).trans (feq (by decide : ¬ (1 : Int32) = (0 : Int32))).1) ?_
          refine XS.iconst X15.here hx rfl (hb hby d_p6_m2_65) ?_
          exact k
        refine Go.retZ X15 hx hlk hret (Or.inl rfl) (hb hby d_p6_m2_66) (by decide) (by decide) e15 ?_
        exact ⟨by simp [stor, hy3, hy4, hy14], N15, rfl⟩
      · skip
        show Go p e below _ T13 (mkF m 59 #[.val (.ref a1), .val (.int 0), .val (.int y0)] [(.int y0)])
        refine Go.callS X13 hx hZ (W := 0) (argsL := [(.int y0)]) (rest := []) hown (wd hw 87 rfl) (wd hw 88 rfl) (wd hw 84 rfl) (wd hw 89 rfl) (by decide) (ct_isr l Z a0 hw  y0 (0 : Int32) h0 n0 O (if_neg (own_or3 hy4 hy14)).symm) e13 (by rw [hml]; rfl) (lenOf pd__C_Z_2014 rfl) rfl rfl (hb hby d_p6_m2_59) ?_
        intro v16 T16 h16 L16 X16 e16 q16
        obtain ⟨rfl, N16, rfl⟩ := q16
        replace N16 := Fr.app N13 N16
        refine Go.st (g' := (mkF m 4 #[.val (.ref a1), .val (.int 1), .val (.int y0)] [(.ref a1), (.int 1)])) (fun t k => ?_) ?_
        · refine XS.ifYes X16.here hx rfl (pc0 := 62) (pc' := 67) rfl (hb hby d_p6_m2_62) rfl ((if0 _ _).trans (teq (by decide : (0 : Int32) = (0 : Int32))).1) (by decide) (by decide) ?_
          refine XS.iinc X16.here hx rfl (hb hby d_p6_m2_67) rfl (l' := #[.val (.ref a1), .val (.int 1), .val (.int y0)]) rfl ?_
          refine XS.goto X16.here hx rfl (pc0 := 70) (pc' := 2) rfl (hb hby d_p6_m2_70) (by decide) (by decide) ?_
          refine XS.iloadN X16.here hx rfl (hb hby d_p6_m2_2) rfl ?_
          refine XS.aloadN X16.here hx rfl (hb hby d_p6_m2_3) rfl rfl ?_
          exact k
        refine Go.callV X16 hx hZ (W := 1) (argsL := []) (rest := [(.int 1)]) hown (wd hw 43 rfl) (wd hw 44 rfl) (notFace_of_selects (args := #[]) (mvT hZ (wd hw 46 rfl))) (wd hw 46 rfl) (wd hw 45 rfl) (wd hw 8 rfl) (wd hw 47 rfl) (by decide) E_a1 HL e16 (by rw [hml]; rfl) (lenOf pd___I_8321 rfl) rfl rfl (hb hby d_p6_m2_4) ?_
        intro v17 T17 h17 L17 X17 e17 q17
        obtain ⟨rfl, N17, rfl⟩ := q17
        replace N17 := Fr.app N16 N17
        refine Go.st (g' := (mkF m 12 #[.val (.ref a1), .val (.int 1), .val (.int y0)] [(.int 1), (.ref a1)])) (fun t k => ?_) ?_
        · refine XS.icmpNo X17.here hx rfl (hb hby d_p6_m2_7) rfl (tlt (by decide : (1 : Int32) < (2 : Int32))).2.1 ?_
          refine XS.aloadN X17.here hx rfl (hb hby d_p6_m2_10) rfl rfl ?_
          refine XS.iloadN X17.here hx rfl (hb hby d_p6_m2_11) rfl ?_
          exact k
        refine Go.callV X17 hx hZ (W := 0) (argsL := [(.int 1)]) (rest := []) hown (wd hw 53 rfl) (wd hw 54 rfl) (notFace_of_selects (args := #[]) (mvT hZ (wd hw 56 rfl))) (wd hw 56 rfl) (wd hw 55 rfl) (wd hw 8 rfl) (wd hw 57 rfl) (by decide) E_a1 HC1 e17 (by rw [hml]; rfl) (lenOf pd__I_C_7757 rfl) rfl rfl (hb hby d_p6_m2_12) ?_
        intro v18 T18 h18 L18 X18 e18 q18
        obtain ⟨rfl, N18, rfl⟩ := q18
        replace N18 := Fr.app N17 N18
        refine Go.st (g' := (mkF m 17 #[.val (.ref a1), .val (.int 1), .val (.int y1)] [(.int y1)])) (fun t k => ?_) ?_
        · refine XS.istoreN X18.here hx rfl (hb hby d_p6_m2_15) rfl (l' := #[.val (.ref a1), .val (.int 1), .val (.int y1)]) rfl ?_
          refine XS.iloadN X18.here hx rfl (hb hby d_p6_m2_16) rfl ?_
          exact k
        by_cases hy19 : y1 = (0 : Int32)
        · skip
          refine Go.st (g' := (mkF m 21 #[.val (.ref a1), .val (.int 1), .val (.int y1)] [(.int 0)])) (fun t k => ?_) ?_
          · refine XS.ifNo X18.here hx rfl (hb hby d_p6_m2_17) rfl ((if0 _ _).trans (teq hy19).2) ?_
            refine XS.iconst X18.here hx rfl (hb hby d_p6_m2_20) ?_
            exact k
          refine Go.retZ X18 hx hlk hret (Or.inl rfl) (hb hby d_p6_m2_21) (by decide) (by decide) e18 ?_
          exact ⟨by simp [stor, hy3, hy4, hy14, hy19], N18, rfl⟩
        · skip
          refine Go.st (g' := (mkF m 23 #[.val (.ref a1), .val (.int 1), .val (.int y1)] [(.int y1)])) (fun t k => ?_) ?_
          · refine XS.ifYes X18.here hx rfl (pc0 := 17) (pc' := 22) rfl (hb hby d_p6_m2_17) rfl ((if0 _ _).trans (feq hy19).2) (by decide) (by decide) ?_
            refine XS.iloadN X18.here hx rfl (hb hby d_p6_m2_22) rfl ?_
            exact k
          by_cases hy20 : hiB y1 = true
          · skip
            show Go p e below _ T18 (mkF m 23 #[.val (.ref a1), .val (.int 1), .val (.int y1)] [(.int y1)])
            refine Go.callS X18 hx hZ (W := 0) (argsL := [(.int y1)]) (rest := []) hown (wd hw 82 rfl) (wd hw 83 rfl) (wd hw 84 rfl) (wd hw 85 rfl) (by decide) (ct_ihs l Z a0 hw  y1 (1 : Int32) h0 n0 O (if_pos hy20).symm) e18 (by rw [hml]; rfl) (lenOf pd__C_Z_2014 rfl) rfl rfl (hb hby d_p6_m2_23) ?_
            intro v21 T21 h21 L21 X21 e21 q21
            obtain ⟨rfl, N21, rfl⟩ := q21
            replace N21 := Fr.app N18 N21
            refine Go.st (g' := (mkF m 33 #[.val (.ref a1), .val (.int 1), .val (.int y1)] [(.ref a1), (.int 2)])) (fun t k => ?_) ?_
            · refine XS.ifNo X21.here hx rfl (hb hby d_p6_m2_26) rfl ((if0 _ _).trans (feq (by decide : ¬ (1 : Int32) = (0 : Int32))).1) ?_
              refine XS.iloadN X21.here hx rfl (hb hby d_p6_m2_29) rfl ?_
              refine XS.iconst X21.here hx rfl (hb hby d_p6_m2_30) ?_
              refine XS.iadd X21.here hx rfl (hb hby d_p6_m2_31) rfl ?_
              refine XS.aloadN X21.here hx rfl (hb hby d_p6_m2_32) rfl rfl ?_
              exact k
            refine Go.callV X21 hx hZ (W := 1) (argsL := []) (rest := [(.int 2)]) hown (wd hw 43 rfl) (wd hw 44 rfl) (notFace_of_selects (args := #[]) (mvT hZ (wd hw 46 rfl))) (wd hw 46 rfl) (wd hw 45 rfl) (wd hw 8 rfl) (wd hw 47 rfl) (by decide) E_a1 HL e21 (by rw [hml]; rfl) (lenOf pd___I_8321 rfl) rfl rfl (hb hby d_p6_m2_33) ?_
            intro v22 T22 h22 L22 X22 e22 q22
            obtain ⟨rfl, N22, rfl⟩ := q22
            replace N22 := Fr.app N21 N22
            refine Go.st (g' := (mkF m 59 #[.val (.ref a1), .val (.int 1), .val (.int y1)] [(.int y1)])) (fun t k => ?_) ?_
            · refine XS.icmpYes X22.here hx rfl (pc0 := 36) (pc' := 58) rfl (hb hby d_p6_m2_36) rfl (flt (by decide : ¬ (2 : Int32) < (2 : Int32))).2.1 (by decide) (by decide) ?_
              refine XS.iloadN X22.here hx rfl (hb hby d_p6_m2_58) rfl ?_
              exact k
            refine Go.callS X22 hx hZ (W := 0) (argsL := [(.int y1)]) (rest := []) hown (wd hw 87 rfl) (wd hw 88 rfl) (wd hw 84 rfl) (wd hw 89 rfl) (by decide) (ct_isr l Z a0 hw  y1 (1 : Int32) h0 n0 O (if_pos (own_or1 hy20)).symm) e22 (by rw [hml]; rfl) (lenOf pd__C_Z_2014 rfl) rfl rfl (hb hby d_p6_m2_59) ?_
            intro v23 T23 h23 L23 X23 e23 q23
            obtain ⟨rfl, N23, rfl⟩ := q23
            replace N23 := Fr.app N22 N23
            refine Go.st (g' := (mkF m 66 #[.val (.ref a1), .val (.int 1), .val (.int y1)] [(.int 0)])) (fun t k => ?_) ?_
            · refine XS.ifNo X23.here hx rfl (hb hby d_p6_m2_62) rfl ((if0 _ _).trans (feq (by decide : ¬ (1 : Int32) = (0 : Int32))).1) ?_
              refine XS.iconst X23.here hx rfl (hb hby d_p6_m2_65) ?_
              exact k
            refine Go.retZ X23 hx hlk hret (Or.inl rfl) (hb hby d_p6_m2_66) (by decide) (by decide) e23 ?_
            exact ⟨by simp [stor, hy3, hy4, hy14, hy19, hy20], N23, rfl⟩
          · skip
            show Go p e below _ T18 (mkF m 23 #[.val (.ref a1), .val (.int 1), .val (.int y1)] [(.int y1)])
            refine Go.callS X18 hx hZ (W := 0) (argsL := [(.int y1)]) (rest := []) hown (wd hw 82 rfl) (wd hw 83 rfl) (wd hw 84 rfl) (wd hw 85 rfl) (by decide) (ct_ihs l Z a0 hw  y1 (0 : Int32) h0 n0 O (if_neg hy20).symm) e18 (by rw [hml]; rfl) (lenOf pd__C_Z_2014 rfl) rfl rfl (hb hby d_p6_m2_23) ?_
            intro v24 T24 h24 L24 X24 e24 q24
            obtain ⟨rfl, N24, rfl⟩ := q24
            replace N24 := Fr.app N18 N24
            refine Go.st (g' := (mkF m 59 #[.val (.ref a1), .val (.int 1), .val (.int y1)] [(.int y1)])) (fun t k => ?_) ?_
            · refine XS.ifYes X24.here hx rfl (pc0 := 26) (pc' := 58) rfl (hb hby d_p6_m2_26) rfl ((if0 _ _).trans (teq (by decide : (0 : Int32) = (0 : Int32))).1) (by decide) (by decide) ?_
              refine XS.iloadN X24.here hx rfl (hb hby d_p6_m2_58) rfl ?_
              exact k
            by_cases hy25 : loB y1 = true
            · skip
              show Go p e below _ T24 (mkF m 59 #[.val (.ref a1), .val (.int 1), .val (.int y1)] [(.int y1)])
              refine Go.callS X24 hx hZ (W := 0) (argsL := [(.int y1)]) (rest := []) hown (wd hw 87 rfl) (wd hw 88 rfl) (wd hw 84 rfl) (wd hw 89 rfl) (by decide) (ct_isr l Z a0 hw  y1 (1 : Int32) h0 n0 O (if_pos (own_or2 hy25)).symm) e24 (by rw [hml]; rfl) (lenOf pd__C_Z_2014 rfl) rfl rfl (hb hby d_p6_m2_59) ?_
              intro v26 T26 h26 L26 X26 e26 q26
              obtain ⟨rfl, N26, rfl⟩ := q26
              replace N26 := Fr.app N24 N26
              refine Go.st (g' := (mkF m 66 #[.val (.ref a1), .val (.int 1), .val (.int y1)] [(.int 0)])) (fun t k => ?_) ?_
              · refine XS.ifNo X26.here hx rfl (hb hby d_p6_m2_62) rfl ((if0 _ _).trans (feq (by decide : ¬ (1 : Int32) = (0 : Int32))).1) ?_
                refine XS.iconst X26.here hx rfl (hb hby d_p6_m2_65) ?_
                exact k
              refine Go.retZ X26 hx hlk hret (Or.inl rfl) (hb hby d_p6_m2_66) (by decide) (by decide) e26 ?_
              exact ⟨by simp [stor, hy3, hy4, hy14, hy19, hy20, hy25], N26, rfl⟩
            · skip
              show Go p e below _ T24 (mkF m 59 #[.val (.ref a1), .val (.int 1), .val (.int y1)] [(.int y1)])
              refine Go.callS X24 hx hZ (W := 0) (argsL := [(.int y1)]) (rest := []) hown (wd hw 87 rfl) (wd hw 88 rfl) (wd hw 84 rfl) (wd hw 89 rfl) (by decide) (ct_isr l Z a0 hw  y1 (0 : Int32) h0 n0 O (if_neg (own_or3 hy20 hy25)).symm) e24 (by rw [hml]; rfl) (lenOf pd__C_Z_2014 rfl) rfl rfl (hb hby d_p6_m2_59) ?_
              intro v27 T27 h27 L27 X27 e27 q27
              obtain ⟨rfl, N27, rfl⟩ := q27
              replace N27 := Fr.app N24 N27
              refine Go.st (g' := (mkF m 4 #[.val (.ref a1), .val (.int 2), .val (.int y1)] [(.ref a1), (.int 2)])) (fun t k => ?_) ?_
              · refine XS.ifYes X27.here hx rfl (pc0 := 62) (pc' := 67) rfl (hb hby d_p6_m2_62) rfl ((if0 _ _).trans (teq (by decide : (0 : Int32) = (0 : Int32))).1) (by decide) (by decide) ?_
                refine XS.iinc X27.here hx rfl (hb hby d_p6_m2_67) rfl (l' := #[.val (.ref a1), .val (.int 2), .val (.int y1)]) rfl ?_
                refine XS.goto X27.here hx rfl (pc0 := 70) (pc' := 2) rfl (hb hby d_p6_m2_70) (by decide) (by decide) ?_
                refine XS.iloadN X27.here hx rfl (hb hby d_p6_m2_2) rfl ?_
                refine XS.aloadN X27.here hx rfl (hb hby d_p6_m2_3) rfl rfl ?_
                exact k
              refine Go.callV X27 hx hZ (W := 1) (argsL := []) (rest := [(.int 2)]) hown (wd hw 43 rfl) (wd hw 44 rfl) (notFace_of_selects (args := #[]) (mvT hZ (wd hw 46 rfl))) (wd hw 46 rfl) (wd hw 45 rfl) (wd hw 8 rfl) (wd hw 47 rfl) (by decide) E_a1 HL e27 (by rw [hml]; rfl) (lenOf pd___I_8321 rfl) rfl rfl (hb hby d_p6_m2_4) ?_
              intro v28 T28 h28 L28 X28 e28 q28
              obtain ⟨rfl, N28, rfl⟩ := q28
              replace N28 := Fr.app N27 N28
              refine Go.st (g' := (mkF m 74 #[.val (.ref a1), .val (.int 2), .val (.int y1)] [(.int 1)])) (fun t k => ?_) ?_
              · refine XS.icmpYes X28.here hx rfl (pc0 := 7) (pc' := 73) rfl (hb hby d_p6_m2_7) rfl (flt (by decide : ¬ (2 : Int32) < (2 : Int32))).2.1 (by decide) (by decide) ?_
                refine XS.iconst X28.here hx rfl (hb hby d_p6_m2_73) ?_
                exact k
              refine Go.retZ X28 hx hlk hret (Or.inr rfl) (hb hby d_p6_m2_74) (by decide) (by decide) e28 ?_
              exact ⟨by simp [stor, hy3, hy4, hy14, hy19, hy20, hy25], N28, rfl⟩
theorem ct_good_1_0 (l : Launch) (Z : State) (a0 : Array Value) (hw : ∀ d ∈ tables_1, d.before a0 Z = true) (y0 : Int32) (y1 : Int32) (y2 : Int32) (h0 : Heap) (n0 : Nat) (O : Old Z n0 h0)  :
    Ct l (⟨"com/example/provenara/provenara/model/CatalogTextIsStorablePinLaw", "good", "(CZCZC)Z"⟩ : MethodName) method_5_code 5 (some .boolean) ({ frames := 1, cells := 0, slots := 0, locals := 12 } : Room) Z #[(.int y0), (.int 1), (.int y1), (.int 0), (.int y2)] h0 (fun v h L => v = some (.int (goodF y0 true y1 false y2)) ∧ Fr n0 L ∧ h0 = h) := by
  refine Ct.of (plainFor_of_name pn_CatalogTextIsStorablePinLaw_167) ?_
  intro p e s m below meth c T0 X0 hx hby hml hown hnm hret hlk hZ e0
  have N0 := Fr.nil n0
  refine Go.cast (g' := mkF m 0 #[.val (.int y0), .val (.int 1), .val (.int y1), .val (.int 0), .val (.int y2)] []) (by first | (simp [entryFrame, mkF, argsToLocals, Value.category]; done) | rfl) ?_
  refine Go.st (g' := (mkF m 1 #[.val (.int y0), .val (.int 1), .val (.int y1), .val (.int 0), .val (.int y2)] [(.int y0)])) (fun t k => ?_) ?_
  · refine XS.iloadN X0.here hx rfl (hb hby d_m5_0) rfl ?_
    exact k
  by_cases hy1 : y0 = (0 : Int32)
  · skip
    refine Go.st (g' := (mkF m 5 #[.val (.int y0), .val (.int 1), .val (.int y1), .val (.int 0), .val (.int y2)] [(.int 0)])) (fun t k => ?_) ?_
    · refine XS.ifNo X0.here hx rfl (hb hby d_m5_1) rfl ((if0 _ _).trans (teq hy1).2) ?_
      refine XS.iconst X0.here hx rfl (hb hby d_m5_4) ?_
      exact k
    refine Go.retZ X0 hx hlk hret (Or.inl rfl) (hb hby d_m5_5) (by decide) (by decide) e0 ?_
    exact ⟨by simp [goodF, hy1], N0, rfl⟩
  · skip
    refine Go.st (g' := (mkF m 7 #[.val (.int y0), .val (.int 1), .val (.int y1), .val (.int 0), .val (.int y2)] [(.int y0)])) (fun t k => ?_) ?_
    · refine XS.ifYes X0.here hx rfl (pc0 := 1) (pc' := 6) rfl (hb hby d_m5_1) rfl ((if0 _ _).trans (feq hy1).2) (by decide) (by decide) ?_
      refine XS.iloadN X0.here hx rfl (hb hby d_m5_6) rfl ?_
      exact k
    by_cases hy2 : hiB y0 = true
    · skip
      show Go p e below _ T0 (mkF m 7 #[.val (.int y0), .val (.int 1), .val (.int y1), .val (.int 0), .val (.int y2)] [(.int y0)])
      refine Go.callS X0 hx hZ (W := 0) (argsL := [(.int y0)]) (rest := []) hown (wd hw 75 rfl) (wd hw 76 rfl) (wd hw 2 rfl) (wd hw 77 rfl) (by decide) (ct_iHi l Z a0 hw  y0 (1 : Int32) h0 n0 O (if_pos hy2).symm) e0 (by rw [hml]; rfl) (lenOf pd__C_Z_2014 rfl) rfl rfl (hb hby d_m5_7) ?_
      intro v3 T3 h3 L3 X3 e3 q3
      obtain ⟨rfl, N3, rfl⟩ := q3
      replace N3 := Fr.app N0 N3
      refine Go.st (g' := (mkF m 30 #[.val (.int y0), .val (.int 1), .val (.int y1), .val (.int 0), .val (.int y2)] [(.int 0)])) (fun t k => ?_) ?_
      · refine XS.ifNo X3.here hx rfl (hb hby d_m5_10) rfl ((if0 _ _).trans (feq (by decide : ¬ (1 : Int32) = (0 : Int32))).1) ?_
        refine XS.iloadN X3.here hx rfl (hb hby d_m5_13) rfl ?_
        refine XS.ifYes X3.here hx rfl (pc0 := 14) (pc' := 29) rfl (hb hby d_m5_14) rfl ((if0 _ _).trans (teq (by decide : (0 : Int32) = (0 : Int32))).1) (by decide) (by decide) ?_
        refine XS.iconst X3.here hx rfl (hb hby d_m5_29) ?_
        exact k
      refine Go.retZ X3 hx hlk hret (Or.inl rfl) (hb hby d_m5_30) (by decide) (by decide) e3 ?_
      exact ⟨by simp [goodF, hy1, hy2], N3, rfl⟩
    · skip
      show Go p e below _ T0 (mkF m 7 #[.val (.int y0), .val (.int 1), .val (.int y1), .val (.int 0), .val (.int y2)] [(.int y0)])
      refine Go.callS X0 hx hZ (W := 0) (argsL := [(.int y0)]) (rest := []) hown (wd hw 75 rfl) (wd hw 76 rfl) (wd hw 2 rfl) (wd hw 77 rfl) (by decide) (ct_iHi l Z a0 hw  y0 (0 : Int32) h0 n0 O (if_neg hy2).symm) e0 (by rw [hml]; rfl) (lenOf pd__C_Z_2014 rfl) rfl rfl (hb hby d_m5_7) ?_
      intro v4 T4 h4 L4 X4 e4 q4
      obtain ⟨rfl, N4, rfl⟩ := q4
      replace N4 := Fr.app N0 N4
      refine Go.st (g' := (mkF m 32 #[.val (.int y0), .val (.int 1), .val (.int y1), .val (.int 0), .val (.int y2)] [(.int y0)])) (fun t k => ?_) ?_
      · refine XS.ifYes X4.here hx rfl (pc0 := 10) (pc' := 31) rfl (hb hby d_m5_10) rfl ((if0 _ _).trans (teq (by decide : (0 : Int32) = (0 : Int32))).1) (by decide) (by decide) ?_
        refine XS.iloadN X4.here hx rfl (hb hby d_m5_31) rfl ?_
        exact k
      by_cases hy5 : loB y0 = true
      · skip
        show Go p e below _ T4 (mkF m 32 #[.val (.int y0), .val (.int 1), .val (.int y1), .val (.int 0), .val (.int y2)] [(.int y0)])
        refine Go.callS X4 hx hZ (W := 0) (argsL := [(.int y0)]) (rest := []) hown (wd hw 79 rfl) (wd hw 80 rfl) (wd hw 2 rfl) (wd hw 81 rfl) (by decide) (ct_iLo l Z a0 hw  y0 (1 : Int32) h0 n0 O (if_pos hy5).symm) e4 (by rw [hml]; rfl) (lenOf pd__C_Z_2014 rfl) rfl rfl (hb hby d_m5_32) ?_
        intro v6 T6 h6 L6 X6 e6 q6
        obtain ⟨rfl, N6, rfl⟩ := q6
        replace N6 := Fr.app N4 N6
        refine Go.st (g' := (mkF m 43 #[.val (.int y0), .val (.int 1), .val (.int y1), .val (.int 0), .val (.int y2)] [(.int y1)])) (fun t k => ?_) ?_
        · refine XS.ifNo X6.here hx rfl (hb hby d_m5_35) rfl ((if0 _ _).trans (feq (by decide : ¬ (1 : Int32) = (0 : Int32))).1) ?_
          refine XS.iloadN X6.here hx rfl (hb hby d_m5_38) rfl ?_
          refine XS.ifNo X6.here hx rfl (hb hby d_m5_39) rfl ((if0 _ _).trans (feq (by decide : ¬ (1 : Int32) = (0 : Int32))).1) ?_
          refine XS.iloadN X6.here hx rfl (hb hby d_m5_42) rfl ?_
          exact k
        by_cases hy7 : hiB y1 = true
        · skip
          show Go p e below _ T6 (mkF m 43 #[.val (.int y0), .val (.int 1), .val (.int y1), .val (.int 0), .val (.int y2)] [(.int y1)])
          refine Go.callS X6 hx hZ (W := 0) (argsL := [(.int y1)]) (rest := []) hown (wd hw 75 rfl) (wd hw 76 rfl) (wd hw 2 rfl) (wd hw 77 rfl) (by decide) (ct_iHi l Z a0 hw  y1 (1 : Int32) h0 n0 O (if_pos hy7).symm) e6 (by rw [hml]; rfl) (lenOf pd__C_Z_2014 rfl) rfl rfl (hb hby d_m5_43) ?_
          intro v8 T8 h8 L8 X8 e8 q8
          obtain ⟨rfl, N8, rfl⟩ := q8
          replace N8 := Fr.app N6 N8
          refine Go.st (g' := (mkF m 54 #[.val (.int y0), .val (.int 1), .val (.int y1), .val (.int 0), .val (.int y2)] [(.int 1)])) (fun t k => ?_) ?_
          · refine XS.ifNo X8.here hx rfl (hb hby d_m5_46) rfl ((if0 _ _).trans (feq (by decide : ¬ (1 : Int32) = (0 : Int32))).1) ?_
            refine XS.iconst X8.here hx rfl (hb hby d_m5_49) ?_
            refine XS.goto X8.here hx rfl (pc0 := 50) (pc' := 54) rfl (hb hby d_m5_50) (by decide) (by decide) ?_
            exact k
          refine Go.retZ X8 hx hlk hret (Or.inr rfl) (hb hby d_m5_54) (by decide) (by decide) e8 ?_
          exact ⟨by simp [goodF, hy1, hy2, hy5, hy7], N8, rfl⟩
        · skip
          show Go p e below _ T6 (mkF m 43 #[.val (.int y0), .val (.int 1), .val (.int y1), .val (.int 0), .val (.int y2)] [(.int y1)])
          refine Go.callS X6 hx hZ (W := 0) (argsL := [(.int y1)]) (rest := []) hown (wd hw 75 rfl) (wd hw 76 rfl) (wd hw 2 rfl) (wd hw 77 rfl) (by decide) (ct_iHi l Z a0 hw  y1 (0 : Int32) h0 n0 O (if_neg hy7).symm) e6 (by rw [hml]; rfl) (lenOf pd__C_Z_2014 rfl) rfl rfl (hb hby d_m5_43) ?_
          intro v9 T9 h9 L9 X9 e9 q9
          obtain ⟨rfl, N9, rfl⟩ := q9
          replace N9 := Fr.app N6 N9
          refine Go.st (g' := (mkF m 54 #[.val (.int y0), .val (.int 1), .val (.int y1), .val (.int 0), .val (.int y2)] [(.int 0)])) (fun t k => ?_) ?_
          · refine XS.ifYes X9.here hx rfl (pc0 := 46) (pc' := 53) rfl (hb hby d_m5_46) rfl ((if0 _ _).trans (teq (by decide : (0 : Int32) = (0 : Int32))).1) (by decide) (by decide) ?_
            refine XS.iconst X9.here hx rfl (hb hby d_m5_53) ?_
            exact k
          refine Go.retZ X9 hx hlk hret (Or.inl rfl) (hb hby d_m5_54) (by decide) (by decide) e9 ?_
          exact ⟨by simp [goodF, hy1, hy2, hy5, hy7], N9, rfl⟩
      · skip
        show Go p e below _ T4 (mkF m 32 #[.val (.int y0), .val (.int 1), .val (.int y1), .val (.int 0), .val (.int y2)] [(.int y0)])
        refine Go.callS X4 hx hZ (W := 0) (argsL := [(.int y0)]) (rest := []) hown (wd hw 79 rfl) (wd hw 80 rfl) (wd hw 2 rfl) (wd hw 81 rfl) (by decide) (ct_iLo l Z a0 hw  y0 (0 : Int32) h0 n0 O (if_neg hy5).symm) e4 (by rw [hml]; rfl) (lenOf pd__C_Z_2014 rfl) rfl rfl (hb hby d_m5_32) ?_
        intro v10 T10 h10 L10 X10 e10 q10
        obtain ⟨rfl, N10, rfl⟩ := q10
        replace N10 := Fr.app N4 N10
        refine Go.st (g' := (mkF m 56 #[.val (.int y0), .val (.int 1), .val (.int y1), .val (.int 0), .val (.int y2)] [(.int 1)])) (fun t k => ?_) ?_
        · refine XS.ifYes X10.here hx rfl (pc0 := 35) (pc' := 55) rfl (hb hby d_m5_35) rfl ((if0 _ _).trans (teq (by decide : (0 : Int32) = (0 : Int32))).1) (by decide) (by decide) ?_
          refine XS.iconst X10.here hx rfl (hb hby d_m5_55) ?_
          exact k
        refine Go.retZ X10 hx hlk hret (Or.inr rfl) (hb hby d_m5_56) (by decide) (by decide) e10 ?_
        exact ⟨by simp [goodF, hy1, hy2, hy5], N10, rfl⟩
theorem ct_cmp5_2_1 (l : Launch) (Z : State) (a0 : Array Value) (hw : ∀ d ∈ tables_1, d.before a0 Z = true) (ac : Addr) (kc : ClassId) (ab : Addr) (kb : ClassId) (y0 : Int32) (y1 : Int32) (h0 : Heap) (n0 : Nat) (O : Old Z n0 h0) (V_c : Arv Z h0 ac kc .char (2 : Int32) [(.int y0), (.int y1)] (.int 0)) (V_b : Arv Z h0 ab kb .byte (2 : Int32) [(.int 0), (.int 0)] (.int 0)) (g_ab : n0 ≤ ab) (ne_ac_ab : ac ≠ ab) (hv0 : ¬ (255 : Int32) < y0) (hv1 : (255 : Int32) < y1) :
    Ct l (⟨"java/lang/StringUTF16", "compress", "([CI[BII)I"⟩ : MethodName) jdk_52_method_21_code 7 (some .int) ({ frames := 0, cells := 0, slots := 0, locals := 0 } : Room) Z #[(.ref ac), (.int 0), (.ref ab), (.int 0), (.int 2)] h0 (fun v h L => v = some (.int 1) ∧ Fr n0 L ∧ Keep h0 h [ab] ∧ Arv Z h ab kb .byte (2 : Int32) [(.int (nar .byte (y0.toInt8.toInt32))), (.int 0)] (.int 0)) := by
  refine Ct.of (plainFor_of_name pn_StringUTF16_856) ?_
  intro p e s m below meth c T0 X0 hx hby hml hown hnm hret hlk hZ e0
  have N0 := Fr.nil n0
  refine Go.cast (g' := mkF m 0 #[.val (.ref ac), .val (.int 0), .val (.ref ab), .val (.int 0), .val (.int 2), .unset, .unset] []) (by first | (simp [entryFrame, mkF, argsToLocals, Value.category]; done) | rfl) ?_
  have K : Keep h0 h0 [ab] := Keep.refl _ _
  refine Go.st (g' := (mkF m 12 #[.val (.ref ac), .val (.int 0), .val (.ref ab), .val (.int 0), .val (.int 2), .val (.int 0), .unset] [(.int 0), (.ref ac)])) (fun t k => ?_) ?_
  · refine XS.iconst X0.here hx rfl (hb hby d_j52_m21_0) ?_
    refine XS.istore X0.here hx rfl (hb hby d_j52_m21_1) rfl (l' := #[.val (.ref ac), .val (.int 0), .val (.ref ab), .val (.int 0), .val (.int 2), .val (.int 0), .unset]) rfl ?_
    refine XS.iload X0.here hx rfl (hb hby d_j52_m21_3) rfl ?_
    refine XS.iload X0.here hx rfl (hb hby d_j52_m21_5) rfl ?_
    refine XS.icmpNo X0.here hx rfl (hb hby d_j52_m21_7) rfl (tlt (by decide : (0 : Int32) < (2 : Int32))).2.1 ?_
    refine XS.aloadN X0.here hx rfl (hb hby d_j52_m21_10) rfl rfl ?_
    refine XS.iloadN X0.here hx rfl (hb hby d_j52_m21_11) rfl ?_
    exact k
  refine Go.aloadV X0 hx hZ e0 V_c (j := (0 : Int32)) (v := (.int y0)) ⟨by decide, by decide⟩ rfl (Or.inr (Or.inr (Or.inr (Or.inl ⟨rfl, rfl⟩)))) (hb hby d_j52_m21_12) ?_
  refine Go.st (g' := (mkF m 31 #[.val (.ref ac), .val (.int 0), .val (.ref ab), .val (.int 0), .val (.int 2), .val (.int 0), .val (.int y0)] [(.int (y0.toInt8.toInt32)), (.int 0), (.ref ab)])) (fun t k => ?_) ?_
  · refine XS.istore X0.here hx rfl (hb hby d_j52_m21_13) rfl (l' := #[.val (.ref ac), .val (.int 0), .val (.ref ab), .val (.int 0), .val (.int 2), .val (.int 0), .val (.int y0)]) rfl ?_
    refine XS.iload X0.here hx rfl (hb hby d_j52_m21_15) rfl ?_
    refine XS.sipush X0.here hx rfl (hb hby d_j52_m21_17) ?_
    refine XS.icmpYes X0.here hx rfl (pc0 := 20) (pc' := 26) rfl (hb hby d_j52_m21_20) rfl (flt hv0).2.2.2 (by decide) (by decide) ?_
    refine XS.aloadN X0.here hx rfl (hb hby d_j52_m21_26) rfl rfl ?_
    refine XS.iloadN X0.here hx rfl (hb hby d_j52_m21_27) rfl ?_
    refine XS.iload X0.here hx rfl (hb hby d_j52_m21_28) rfl ?_
    refine XS.i2b X0.here hx rfl (hb hby d_j52_m21_30) rfl ?_
    exact k
  refine Go.nstV X0 hx hZ e0 V_b (j := (0 : Int32)) ⟨by decide, by decide⟩ 0 rfl (Nat.le_of_ble_eq_true rfl) (Or.inr ⟨rfl, rfl⟩) (hb hby d_j52_m21_31) ?_
  intro T1 h1 X1 e1 W1 Vn1
  replace V_c := V_c.other W1 ne_ac_ab
  replace O := O.wr W1 g_ab
  have N1 := Fr.snoc X1 N0 g_ab
  replace K := K.wr W1 (Or.inl (List.mem_of_getElem? (i := 0) rfl))
  replace V_b : Arv Z h1 ab kb .byte (2 : Int32) [(.int (nar .byte (y0.toInt8.toInt32))), (.int 0)] (.int 0) := Vn1
  clear Vn1
  refine Go.st (g' := (mkF m 12 #[.val (.ref ac), .val (.int 1), .val (.ref ab), .val (.int 1), .val (.int 2), .val (.int 1), .val (.int y0)] [(.int 1), (.ref ac)])) (fun t k => ?_) ?_
  · refine XS.iinc X1.here hx rfl (hb hby d_j52_m21_32) rfl (l' := #[.val (.ref ac), .val (.int 1), .val (.ref ab), .val (.int 0), .val (.int 2), .val (.int 0), .val (.int y0)]) rfl ?_
    refine XS.iinc X1.here hx rfl (hb hby d_j52_m21_35) rfl (l' := #[.val (.ref ac), .val (.int 1), .val (.ref ab), .val (.int 1), .val (.int 2), .val (.int 0), .val (.int y0)]) rfl ?_
    refine XS.iinc X1.here hx rfl (hb hby d_j52_m21_38) rfl (l' := #[.val (.ref ac), .val (.int 1), .val (.ref ab), .val (.int 1), .val (.int 2), .val (.int 1), .val (.int y0)]) rfl ?_
    refine XS.goto X1.here hx rfl (pc0 := 41) (pc' := 3) rfl (hb hby d_j52_m21_41) (by decide) (by decide) ?_
    refine XS.iload X1.here hx rfl (hb hby d_j52_m21_3) rfl ?_
    refine XS.iload X1.here hx rfl (hb hby d_j52_m21_5) rfl ?_
    refine XS.icmpNo X1.here hx rfl (hb hby d_j52_m21_7) rfl (tlt (by decide : (1 : Int32) < (2 : Int32))).2.1 ?_
    refine XS.aloadN X1.here hx rfl (hb hby d_j52_m21_10) rfl rfl ?_
    refine XS.iloadN X1.here hx rfl (hb hby d_j52_m21_11) rfl ?_
    exact k
  refine Go.aloadV X1 hx hZ e1 V_c (j := (1 : Int32)) (v := (.int y1)) ⟨by decide, by decide⟩ rfl (Or.inr (Or.inr (Or.inr (Or.inl ⟨rfl, rfl⟩)))) (hb hby d_j52_m21_12) ?_
  refine Go.st (g' := (mkF m 25 #[.val (.ref ac), .val (.int 1), .val (.ref ab), .val (.int 1), .val (.int 2), .val (.int 1), .val (.int y1)] [(.int 1)])) (fun t k => ?_) ?_
  · refine XS.istore X1.here hx rfl (hb hby d_j52_m21_13) rfl (l' := #[.val (.ref ac), .val (.int 1), .val (.ref ab), .val (.int 1), .val (.int 2), .val (.int 1), .val (.int y1)]) rfl ?_
    refine XS.iload X1.here hx rfl (hb hby d_j52_m21_15) rfl ?_
    refine XS.sipush X1.here hx rfl (hb hby d_j52_m21_17) ?_
    refine XS.icmpNo X1.here hx rfl (hb hby d_j52_m21_20) rfl (tlt hv1).2.2.2 ?_
    refine XS.iload X1.here hx rfl (hb hby d_j52_m21_23) rfl ?_
    exact k
  refine Go.retI X1 hx hlk hret (hb hby d_j52_m21_25) (by decide) (by decide) e1 ?_
  exact ⟨rfl, N1, K, V_b⟩
theorem ct_cmp3_2_1 (l : Launch) (Z : State) (a0 : Array Value) (hw : ∀ d ∈ tables_1, d.before a0 Z = true) (zc : Int32) (fm : Value) (G : Gl Z zc fm) (ac : Addr) (kc : ClassId) (y0 : Int32) (y1 : Int32) (h0 : Heap) (n0 : Nat) (O : Old Z n0 h0) (V_c : Arv Z h0 ac kc .char (2 : Int32) [(.int y0), (.int y1)] (.int 0)) (hr0 : 0 ≤ y0.toInt ∧ y0.toInt < 65536) (hr1 : 0 ≤ y1.toInt ∧ y1.toInt < 65536) (hv0 : ¬ (255 : Int32) < y0) (hv1 : (255 : Int32) < y1) :
    Ct l (⟨"java/lang/StringUTF16", "compress", "([CII)[B"⟩ : MethodName) jdk_52_method_16_code 6 (some (.array .byte)) ({ frames := 3, cells := 2, slots := 6, locals := 40 } : Room) Z #[(.ref ac), (.int 0), (.int 2)] h0 (fun v h L => ∃ b kb, v = some (.ref b) ∧ Fr n0 L ∧ Keep h0 h [] ∧ h0.size ≤ b ∧ Arv Z h b kb .byte (4 : Int32) [(.int (nar .byte ((y0 >>> ((0 : Int32) &&& 31)).toInt8.toInt32))), (.int (nar .byte ((y0 >>> ((8 : Int32) &&& 31)).toInt8.toInt32))), (.int (nar .byte ((y1 >>> ((0 : Int32) &&& 31)).toInt8.toInt32))), (.int (nar .byte ((y1 >>> ((8 : Int32) &&& 31)).toInt8.toInt32)))] (.int 0)) := by
  refine Ct.of (plainFor_of_name pn_StringUTF16_856) ?_
  intro p e s m below meth c T0 X0 hx hby hml hown hnm hret hlk hZ e0
  have N0 := Fr.nil n0
  have G' := G
  obtain ⟨S_CS, hzc, S_FM, hfm, S_AD, S_HI, S_LO⟩ := G'
  refine Go.cast (g' := mkF m 0 #[.val (.ref ac), .val (.int 0), .val (.int 2), .unset, .unset, .unset] []) (by first | (simp [entryFrame, mkF, argsToLocals, Value.category]; done) | rfl) ?_
  have K : Keep h0 h0 [] := Keep.refl _ _
  refine Go.st (g' := (mkF m 1 #[.val (.ref ac), .val (.int 0), .val (.int 2), .unset, .unset, .unset] [(.int 2)])) (fun t k => ?_) ?_
  · refine XS.iloadN X0.here hx rfl (hb hby d_j52_m16_0) rfl ?_
    exact k
  refine Go.newP X0 hx hZ (wd hw 25 rfl) e0 (hb hby d_j52_m16_1) (by decide) (cap := 2) (by decide) (by decide) (by decide) (by decide) ?_
  intro T1 h1 b1 k1 X1 e1 E1 g1 V_b1
  have lb1 := Nat.le_of_eq g1.symm
  have ne_ac_b1 : ac ≠ b1 := Nat.ne_of_lt (Nat.lt_of_lt_of_le V_c.lt lb1)
  have g_b1 : n0 ≤ b1 := Nat.le_trans (OwnKit.Old.le O) lb1
  have sz_b1 : h0.size ≤ b1 := Nat.le_trans K.1 lb1
  replace V_c := V_c.ext E1
  replace O := O.ext E1
  replace K := K.ext E1
  replace V_b1 := V_b1.pad (pad_rep [] (.int 0) 2)
  replace V_b1 : Arv Z h1 b1 k1 .byte (2 : Int32) [(.int 0), (.int 0)] (.int 0) := V_b1
  refine Go.st (g' := (mkF m 9 #[.val (.ref ac), .val (.int 0), .val (.int 2), .val (.ref b1), .unset, .unset] [(.int 2), (.int 0), (.ref b1), (.int 0), (.ref ac)])) (fun t k => ?_) ?_
  · refine XS.astoreN X1.here hx rfl (hb hby d_j52_m16_3) rfl rfl (l' := #[.val (.ref ac), .val (.int 0), .val (.int 2), .val (.ref b1), .unset, .unset]) rfl ?_
    refine XS.aloadN X1.here hx rfl (hb hby d_j52_m16_4) rfl rfl ?_
    refine XS.iloadN X1.here hx rfl (hb hby d_j52_m16_5) rfl ?_
    refine XS.aloadN X1.here hx rfl (hb hby d_j52_m16_6) rfl rfl ?_
    refine XS.iconst X1.here hx rfl (hb hby d_j52_m16_7) ?_
    refine XS.iloadN X1.here hx rfl (hb hby d_j52_m16_8) rfl ?_
    exact k
  refine Go.callS X1 hx hZ (W := 0) (argsL := [(.ref ac), (.int 0), (.ref b1), (.int 0), (.int 2)]) (rest := []) hown (wd hw 26 rfl) (wd hw 27 rfl) (wd hw 23 rfl) (wd hw 28 rfl) (by decide) (ct_cmp5_2_1 l Z a0 hw  ac kc b1 k1 y0 y1 h1 n0 O V_c V_b1 g_b1 ne_ac_b1 hv0 hv1) e1 (by rw [hml]; rfl) (lenOf pd___CI_BII_I_6624 rfl) rfl rfl (hb hby d_j52_m16_9) ?_
  intro v2 T2 h2 L2 X2 e2 q2
  obtain ⟨rfl, N2, K2, V_n2⟩ := q2
  replace N2 := Fr.app N0 N2
  replace V_c := V_c.keep K2 (ninS ne_ac_b1 nin0)
  clear V_b1
  replace O := O.keep K2 (allS g_b1 all0)
  replace K := K.trans K2 (allS (Or.inr sz_b1) all0)
  refine Go.st (g' := (mkF m 23 #[.val (.ref ac), .val (.int 0), .val (.int 2), .val (.ref b1), .val (.int 1), .unset] [(.int 2), (.int 0), (.ref ac)])) (fun t k => ?_) ?_
  · refine XS.istore X2.here hx rfl (hb hby d_j52_m16_12) rfl (l' := #[.val (.ref ac), .val (.int 0), .val (.int 2), .val (.ref b1), .val (.int 1), .unset]) rfl ?_
    refine XS.iload X2.here hx rfl (hb hby d_j52_m16_14) rfl ?_
    refine XS.iloadN X2.here hx rfl (hb hby d_j52_m16_16) rfl ?_
    refine XS.icmpNo X2.here hx rfl (hb hby d_j52_m16_17) rfl (feq (by decide : ¬ (1 : Int32) = (2 : Int32))).1 ?_
    refine XS.aloadN X2.here hx rfl (hb hby d_j52_m16_20) rfl rfl ?_
    refine XS.iloadN X2.here hx rfl (hb hby d_j52_m16_21) rfl ?_
    refine XS.iloadN X2.here hx rfl (hb hby d_j52_m16_22) rfl ?_
    exact k
  refine Go.callS X2 hx hZ (W := 0) (argsL := [(.ref ac), (.int 0), (.int 2)]) (rest := []) hown (wd hw 93 rfl) (wd hw 94 rfl) (wd hw 23 rfl) (wd hw 95 rfl) (by decide) (ct_tob_2 l Z a0 hw zc fm G ac kc y0 y1 h2 n0 O V_c) e2 (by rw [hml]; rfl) (lenOf pd___CII__B_8269 rfl) rfl rfl (hb hby d_j52_m16_23) ?_
  intro v3 T3 h3 L3 X3 e3 q3
  obtain ⟨ot, kt, rfl, N3, K3, lb3, V_ot⟩ := q3
  replace N3 := Fr.app N2 N3
  have ne_ac_ot : ac ≠ ot := Nat.ne_of_lt (Nat.lt_of_lt_of_le V_c.lt lb3)
  have ne_b1_ot : b1 ≠ ot := Nat.ne_of_lt (Nat.lt_of_lt_of_le V_n2.lt lb3)
  have g_ot : n0 ≤ ot := Nat.le_trans (OwnKit.Old.le O) lb3
  have sz_ot : h0.size ≤ ot := Nat.le_trans K.1 lb3
  replace V_c := V_c.keep K3 nin0
  replace V_n2 := V_n2.keep K3 nin0
  replace O := O.keep K3 all0
  replace K := K.trans K3 all0
  refine Go.st (g' := (mkF m 32 #[.val (.ref ac), .val (.int 0), .val (.int 2), .val (.ref b1), .val (.int 1), .val (.ref ot)] [(.int 1), (.ref ot)])) (fun t k => ?_) ?_
  · refine XS.astore X3.here hx rfl (hb hby d_j52_m16_26) rfl rfl (l' := #[.val (.ref ac), .val (.int 0), .val (.int 2), .val (.ref b1), .val (.int 1), .val (.ref ot)]) rfl ?_
    refine XS.aload X3.here hx rfl (hb hby d_j52_m16_28) rfl rfl ?_
    refine XS.iload X3.here hx rfl (hb hby d_j52_m16_30) rfl ?_
    exact k
  refine Go.callS X3 hx hZ (W := 0) (argsL := [(.ref ot), (.int 1)]) (rest := []) hown (wd hw 109 rfl) (wd hw 110 rfl) (wd hw 23 rfl) (wd hw 111 rfl) (by decide) (ct_gch_2_1 l Z a0 hw zc fm G ot kt y1 (.int (nar .byte ((y0 >>> ((0 : Int32) &&& 31)).toInt8.toInt32))) (.int (nar .byte ((y0 >>> ((8 : Int32) &&& 31)).toInt8.toInt32))) h3 n0 O V_ot hr1) e3 (by rw [hml]; rfl) (lenOf pd___BI_C_7586 rfl) rfl rfl (hb hby d_j52_m16_32) ?_
  intro v4 T4 h4 L4 X4 e4 q4
  obtain ⟨rfl, N4, rfl⟩ := q4
  replace N4 := Fr.app N3 N4
  refine Go.st (g' := (mkF m 56 #[.val (.ref ac), .val (.int 0), .val (.int 2), .val (.ref b1), .val (.int 1), .val (.ref ot)] [(.ref ot)])) (fun t k => ?_) ?_
  · refine XS.sipush X4.here hx rfl (hb hby d_j52_m16_35) ?_
    refine XS.icmpYes X4.here hx rfl (pc0 := 38) (pc' := 54) rfl (hb hby d_j52_m16_38) rfl (tlt hv1).2.2.1 (by decide) (by decide) ?_
    refine XS.aload X4.here hx rfl (hb hby d_j52_m16_54) rfl rfl ?_
    exact k
  refine Go.retA X4 hx hlk hret rfl rfl (hb hby d_j52_m16_56) (by decide) (by decide) e4 ?_
  exact ⟨ot, _, rfl, N4, K, sz_ot, V_ot⟩
theorem ct_si4_2_1 (l : Launch) (Z : State) (a0 : Array Value) (hw : ∀ d ∈ tables_1, d.before a0 Z = true) (zc : Int32) (fm : Value) (G : Gl Z zc fm) (a1 : Addr) (ac : Addr) (kc : ClassId) (y0 : Int32) (y1 : Int32) (h0 : Heap) (n0 : Nat) (O : Old Z n0 h0) (E_a1 : Exa Z h0 a1 "java/lang/String") (F_a1_value : Fld Z h0 a1 "java/lang/String" "value" "[B" .null) (F_a1_coder : Fld Z h0 a1 "java/lang/String" "coder" "B" (.int 0)) (g_a1 : n0 ≤ a1) (V_c : Arv Z h0 ac kc .char (2 : Int32) [(.int y0), (.int y1)] (.int 0)) (ne_a1_ac : a1 ≠ ac) (hr0 : 0 ≤ y0.toInt ∧ y0.toInt < 65536) (hr1 : 0 ≤ y1.toInt ∧ y1.toInt < 65536) (hv0 : ¬ (255 : Int32) < y0) (hv1 : (255 : Int32) < y1) :
    Ct l (⟨"java/lang/String", "<init>", "([CIILjava/lang/Void;)V"⟩ : MethodName) jdk_42_method_149_code 6 none ({ frames := 4, cells := 2, slots := 6, locals := 57 } : Room) Z #[(.ref a1), (.ref ac), (.int 0), (.int 2), .null] h0 (fun v h L => ∃ b kb, v = none ∧ Fr n0 L ∧ Keep h0 h [a1] ∧ Fld Z h a1 "java/lang/String" "value" "[B" (.ref b) ∧ Fld Z h a1 "java/lang/String" "coder" "B" (.int 1) ∧ Arv Z h b kb .byte (4 : Int32) [(.int (nar .byte ((y0 >>> ((0 : Int32) &&& 31)).toInt8.toInt32))), (.int (nar .byte ((y0 >>> ((8 : Int32) &&& 31)).toInt8.toInt32))), (.int (nar .byte ((y1 >>> ((0 : Int32) &&& 31)).toInt8.toInt32))), (.int (nar .byte ((y1 >>> ((8 : Int32) &&& 31)).toInt8.toInt32)))] (.int 0)) := by
  refine Ct.of (plainFor_of_name pn_String_837) ?_
  intro p e s m below meth c T0 X0 hx hby hml hown hnm hret hlk hZ e0
  have N0 := Fr.nil n0
  have G' := G
  obtain ⟨S_CS, hzc, S_FM, hfm, S_AD, S_HI, S_LO⟩ := G'
  refine Go.cast (g' := mkF m 0 #[.val (.ref a1), .val (.ref ac), .val (.int 0), .val (.int 2), .val .null, .unset] []) (by first | (simp [entryFrame, mkF, argsToLocals, Value.category]; done) | rfl) ?_
  have K : Keep h0 h0 [a1] := Keep.refl _ _
  refine Go.st (g' := (mkF m 1 #[.val (.ref a1), .val (.ref ac), .val (.int 0), .val (.int 2), .val .null, .unset] [(.ref a1)])) (fun t k => ?_) ?_
  · refine XS.aloadN X0.here hx rfl (hb hby d_j42_m149_0) rfl rfl ?_
    exact k
  refine Go.initO X0 hx hZ hown (wd hw 17 rfl) (wd hw 18 rfl) (wd hw 19 rfl) e0 (by rw [hml]; rfl) (hb hby d_j42_m149_1) (by decide) (W := 0) rfl (by decide) ?_
  intro T1 X1 e1
  refine Go.st (g' := (mkF m 27 #[.val (.ref a1), .val (.ref ac), .val (.int 0), .val (.int 2), .val .null, .unset] [])) (fun t k => ?_) ?_
  · refine XS.iloadN X1.here hx rfl (hb hby d_j42_m149_4) rfl ?_
    refine XS.ifYes X1.here hx rfl (pc0 := 5) (pc' := 27) rfl (hb hby d_j42_m149_5) rfl ((if0 _ _).trans (feq (by decide : ¬ (2 : Int32) = (0 : Int32))).2) (by decide) (by decide) ?_
    exact k
  refine Go.getS X1 hx hZ hown (wd hw 20 rfl) Via.refl e1 (S_CS.ext O.2) (hb hby d_j42_m149_27) ?_
  intro T2 X2 e2
  refine Go.st (g' := (mkF m 36 #[.val (.ref a1), .val (.ref ac), .val (.int 0), .val (.int 2), .val .null, .unset] [(.int 2), (.int 0), (.ref ac)])) (fun t k => ?_) ?_
  · refine XS.ifNo X2.here hx rfl (hb hby d_j42_m149_30) rfl ((if0 _ _).trans (feq hzc).1) ?_
    refine XS.aloadN X2.here hx rfl (hb hby d_j42_m149_33) rfl rfl ?_
    refine XS.iloadN X2.here hx rfl (hb hby d_j42_m149_34) rfl ?_
    refine XS.iloadN X2.here hx rfl (hb hby d_j42_m149_35) rfl ?_
    exact k
  refine Go.callS X2 hx hZ (W := 0) (argsL := [(.ref ac), (.int 0), (.int 2)]) (rest := []) hown (wd hw 21 rfl) (wd hw 22 rfl) (wd hw 23 rfl) (wd hw 24 rfl) (by decide) (ct_cmp3_2_1 l Z a0 hw zc fm G ac kc y0 y1 h0 n0 O V_c hr0 hr1 hv0 hv1) e2 (by rw [hml]; rfl) (lenOf pd___CII__B_8269 rfl) rfl rfl (hb hby d_j42_m149_36) ?_
  intro v3 T3 h3 L3 X3 e3 q3
  obtain ⟨ob, kb, rfl, N3, K3, lb3, V_ob⟩ := q3
  replace N3 := Fr.app N0 N3
  have ne_a1_ob : a1 ≠ ob := Nat.ne_of_lt (Nat.lt_of_lt_of_le E_a1.lt lb3)
  have ne_ac_ob : ac ≠ ob := Nat.ne_of_lt (Nat.lt_of_lt_of_le V_c.lt lb3)
  have g_ob : n0 ≤ ob := Nat.le_trans (OwnKit.Old.le O) lb3
  have sz_ob : h0.size ≤ ob := Nat.le_trans K.1 lb3
  replace E_a1 := E_a1.keep K3
  replace F_a1_value := F_a1_value.keep K3 nin0
  replace F_a1_coder := F_a1_coder.keep K3 nin0
  replace V_c := V_c.keep K3 nin0
  replace O := O.keep K3 all0
  replace K := K.trans K3 all0
  refine Go.st (g' := (mkF m 45 #[.val (.ref a1), .val (.ref ac), .val (.int 0), .val (.int 2), .val .null, .val (.ref ob)] [(.int 2), (.ref ob), (.ref a1)])) (fun t k => ?_) ?_
  · refine XS.astore X3.here hx rfl (hb hby d_j42_m149_39) rfl rfl (l' := #[.val (.ref a1), .val (.ref ac), .val (.int 0), .val (.int 2), .val .null, .val (.ref ob)]) rfl ?_
    refine XS.aloadN X3.here hx rfl (hb hby d_j42_m149_41) rfl rfl ?_
    refine XS.aload X3.here hx rfl (hb hby d_j42_m149_42) rfl rfl ?_
    refine XS.iloadN X3.here hx rfl (hb hby d_j42_m149_44) rfl ?_
    exact k
  refine Go.callS X3 hx hZ (W := 1) (argsL := [(.ref ob), (.int 2)]) (rest := [(.ref a1)]) hown (wd hw 29 rfl) (wd hw 30 rfl) (wd hw 23 rfl) (wd hw 31 rfl) (by decide) (ct_cfa_2_4 l Z a0 hw  ob kb (.int (nar .byte ((y0 >>> ((0 : Int32) &&& 31)).toInt8.toInt32))) (.int (nar .byte ((y0 >>> ((8 : Int32) &&& 31)).toInt8.toInt32))) (.int (nar .byte ((y1 >>> ((0 : Int32) &&& 31)).toInt8.toInt32))) (.int (nar .byte ((y1 >>> ((8 : Int32) &&& 31)).toInt8.toInt32))) h3 n0 O V_ob) e3 (by rw [hml]; rfl) (lenOf pd___BI_B_7585 rfl) rfl rfl (hb hby d_j42_m149_45) ?_
  intro v4 T4 h4 L4 X4 e4 q4
  obtain ⟨rfl, N4, rfl⟩ := q4
  replace N4 := Fr.app N3 N4
  show Go p e below _ T4 (mkF m 48 #[.val (.ref a1), .val (.ref ac), .val (.int 0), .val (.int 2), .val .null, .val (.ref ob)] [(.int 1), (.ref a1)])
  refine Go.putF X4 hx hZ hown (wd hw 32 rfl) Via.refl e4 F_a1_coder E_a1 (Or.inr ⟨(wd hw 33 rfl), rfl, hnm⟩) (wd hw 7 rfl) (ty := .byte) (by decide) rfl rfl (hb hby d_j42_m149_48) ?_
  intro T5 h5 X5 e5 W5
  replace E_a1 := E_a1.wr W5
  replace F_a1_value := F_a1_value.other W5 (Or.inr (slot_ne (a0 := a0) (Or.inr (wd hw 35 rfl)) (Or.inr (wd hw 33 rfl)) (by decide) (t := (.array .byte)) (t' := .byte) (by decide) (by decide)))
  replace F_a1_coder := F_a1_coder.same W5
  replace V_c := V_c.other W5 (Ne.symm ne_a1_ac)
  replace V_ob := V_ob.other W5 (Ne.symm ne_a1_ob)
  replace O := O.wr W5 g_a1
  have N5 := Fr.snoc X5 N4 g_a1
  replace K := K.wr W5 (Or.inl (List.mem_of_getElem? (i := 0) rfl))
  refine Go.st (g' := (mkF m 54 #[.val (.ref a1), .val (.ref ac), .val (.int 0), .val (.int 2), .val .null, .val (.ref ob)] [(.ref ob), (.ref a1)])) (fun t k => ?_) ?_
  · refine XS.aloadN X5.here hx rfl (hb hby d_j42_m149_51) rfl rfl ?_
    refine XS.aload X5.here hx rfl (hb hby d_j42_m149_52) rfl rfl ?_
    exact k
  refine Go.putF X5 hx hZ hown (wd hw 34 rfl) Via.refl e5 F_a1_value E_a1 (Or.inr ⟨(wd hw 35 rfl), rfl, hnm⟩) (wd hw 7 rfl) (ty := (.array .byte)) (by decide) rfl rfl (hb hby d_j42_m149_54) ?_
  intro T6 h6 X6 e6 W6
  replace E_a1 := E_a1.wr W6
  replace F_a1_value := F_a1_value.same W6
  replace F_a1_coder := F_a1_coder.other W6 (Or.inr (slot_ne (a0 := a0) (Or.inr (wd hw 33 rfl)) (Or.inr (wd hw 35 rfl)) (by decide) (t := .byte) (t' := (.array .byte)) (by decide) (by decide)))
  replace V_c := V_c.other W6 (Ne.symm ne_a1_ac)
  replace V_ob := V_ob.other W6 (Ne.symm ne_a1_ob)
  replace O := O.wr W6 g_a1
  have N6 := Fr.snoc X6 N5 g_a1
  replace K := K.wr W6 (Or.inl (List.mem_of_getElem? (i := 0) rfl))
  show Go p e below _ T6 (mkF m 57 #[.val (.ref a1), .val (.ref ac), .val (.int 0), .val (.int 2), .val .null, .val (.ref ob)] [])
  refine Go.retV X6 hx hlk hret (hb hby d_j42_m149_57) (by decide) (by decide) e6 ?_
  exact ⟨ob, kb, rfl, N6, K, F_a1_value, F_a1_coder, V_ob⟩
theorem ct_si1_2_1 (l : Launch) (Z : State) (a0 : Array Value) (hw : ∀ d ∈ tables_1, d.before a0 Z = true) (zc : Int32) (fm : Value) (G : Gl Z zc fm) (a1 : Addr) (ac : Addr) (kc : ClassId) (y0 : Int32) (y1 : Int32) (h0 : Heap) (n0 : Nat) (O : Old Z n0 h0) (E_a1 : Exa Z h0 a1 "java/lang/String") (F_a1_value : Fld Z h0 a1 "java/lang/String" "value" "[B" .null) (F_a1_coder : Fld Z h0 a1 "java/lang/String" "coder" "B" (.int 0)) (g_a1 : n0 ≤ a1) (V_c : Arv Z h0 ac kc .char (2 : Int32) [(.int y0), (.int y1)] (.int 0)) (ne_a1_ac : a1 ≠ ac) (hr0 : 0 ≤ y0.toInt ∧ y0.toInt < 65536) (hr1 : 0 ≤ y1.toInt ∧ y1.toInt < 65536) (hv0 : ¬ (255 : Int32) < y0) (hv1 : (255 : Int32) < y1) :
    Ct l (⟨"java/lang/String", "<init>", "([C)V"⟩ : MethodName) jdk_42_method_3_code 2 none ({ frames := 5, cells := 2, slots := 6, locals := 74 } : Room) Z #[(.ref a1), (.ref ac)] h0 (fun v h L => ∃ b kb, v = none ∧ Fr n0 L ∧ Keep h0 h [a1] ∧ Fld Z h a1 "java/lang/String" "value" "[B" (.ref b) ∧ Fld Z h a1 "java/lang/String" "coder" "B" (.int 1) ∧ Arv Z h b kb .byte (4 : Int32) [(.int (nar .byte ((y0 >>> ((0 : Int32) &&& 31)).toInt8.toInt32))), (.int (nar .byte ((y0 >>> ((8 : Int32) &&& 31)).toInt8.toInt32))), (.int (nar .byte ((y1 >>> ((0 : Int32) &&& 31)).toInt8.toInt32))), (.int (nar .byte ((y1 >>> ((8 : Int32) &&& 31)).toInt8.toInt32)))] (.int 0)) := by
  refine Ct.of (plainFor_of_name pn_String_837) ?_
  intro p e s m below meth c T0 X0 hx hby hml hown hnm hret hlk hZ e0
  have N0 := Fr.nil n0
  have G' := G
  obtain ⟨S_CS, hzc, S_FM, hfm, S_AD, S_HI, S_LO⟩ := G'
  refine Go.cast (g' := mkF m 0 #[.val (.ref a1), .val (.ref ac)] []) (by first | (simp [entryFrame, mkF, argsToLocals, Value.category]; done) | rfl) ?_
  have K : Keep h0 h0 [a1] := Keep.refl _ _
  refine Go.st (g' := (mkF m 4 #[.val (.ref a1), .val (.ref ac)] [(.ref ac), (.int 0), (.ref ac), (.ref a1)])) (fun t k => ?_) ?_
  · refine XS.aloadN X0.here hx rfl (hb hby d_j42_m3_0) rfl rfl ?_
    refine XS.aloadN X0.here hx rfl (hb hby d_j42_m3_1) rfl rfl ?_
    refine XS.iconst X0.here hx rfl (hb hby d_j42_m3_2) ?_
    refine XS.aloadN X0.here hx rfl (hb hby d_j42_m3_3) rfl rfl ?_
    exact k
  refine Go.alenV X0 hx hZ e0 V_c (hb hby d_j42_m3_4) ?_
  refine Go.st (g' := (mkF m 6 #[.val (.ref a1), .val (.ref ac)] [.null, (.int 2), (.int 0), (.ref ac), (.ref a1)])) (fun t k => ?_) ?_
  · refine XS.aconstNull X0.here hx rfl (hb hby d_j42_m3_5) ?_
    exact k
  refine Go.callC X0 hx hZ (W := 0) (argsL := [(.ref ac), (.int 0), (.int 2), .null]) (rest := []) hown rfl (wd hw 13 rfl) (wd hw 14 rfl) (wd hw 8 rfl) (wd hw 16 rfl) (by decide) (ct_si4_2_1 l Z a0 hw zc fm G a1 ac kc y0 y1 h0 n0 O E_a1 F_a1_value F_a1_coder g_a1 V_c ne_a1_ac hr0 hr1 hv0 hv1) e0 (by rw [hml]; rfl) (lenOf pd___CIILjava_lang_Void__V_1319 rfl) rfl rfl (hb hby d_j42_m3_6) ?_
  intro v1 T1 h1 L1 X1 e1 q1
  obtain ⟨ob1, kb1, rfl, N1, K1, Fv1, Fc1, V_ob1⟩ := q1
  replace N1 := Fr.app N0 N1
  replace E_a1 := E_a1.keep K1
  clear F_a1_value
  clear F_a1_coder
  replace V_c := V_c.keep K1 (ninS (Ne.symm ne_a1_ac) nin0)
  replace O := O.keep K1 (allS g_a1 all0)
  replace K := K.trans K1 (allS (Or.inl (List.mem_of_getElem? (i := 0) rfl)) all0)
  show Go p e below _ T1 (mkF m 9 #[.val (.ref a1), .val (.ref ac)] [])
  refine Go.retV X1 hx hlk hret (hb hby d_j42_m3_9) (by decide) (by decide) e1 ?_
  exact ⟨ob1, kb1, rfl, N1, K, Fv1, Fc1, V_ob1⟩
theorem ct_cmp5_2_L (l : Launch) (Z : State) (a0 : Array Value) (hw : ∀ d ∈ tables_1, d.before a0 Z = true) (ac : Addr) (kc : ClassId) (ab : Addr) (kb : ClassId) (y0 : Int32) (y1 : Int32) (h0 : Heap) (n0 : Nat) (O : Old Z n0 h0) (V_c : Arv Z h0 ac kc .char (2 : Int32) [(.int y0), (.int y1)] (.int 0)) (V_b : Arv Z h0 ab kb .byte (2 : Int32) [(.int 0), (.int 0)] (.int 0)) (g_ab : n0 ≤ ab) (ne_ac_ab : ac ≠ ab) (hv0 : ¬ (255 : Int32) < y0) (hv1 : ¬ (255 : Int32) < y1) :
    Ct l (⟨"java/lang/StringUTF16", "compress", "([CI[BII)I"⟩ : MethodName) jdk_52_method_21_code 7 (some .int) ({ frames := 0, cells := 0, slots := 0, locals := 0 } : Room) Z #[(.ref ac), (.int 0), (.ref ab), (.int 0), (.int 2)] h0 (fun v h L => v = some (.int 2) ∧ Fr n0 L ∧ Keep h0 h [ab] ∧ Arv Z h ab kb .byte (2 : Int32) [(.int (nar .byte (y0.toInt8.toInt32))), (.int (nar .byte (y1.toInt8.toInt32)))] (.int 0)) := by
  refine Ct.of (plainFor_of_name pn_StringUTF16_856) ?_
  intro p e s m below meth c T0 X0 hx hby hml hown hnm hret hlk hZ e0
  have N0 := Fr.nil n0
  refine Go.cast (g' := mkF m 0 #[.val (.ref ac), .val (.int 0), .val (.ref ab), .val (.int 0), .val (.int 2), .unset, .unset] []) (by first | (simp [entryFrame, mkF, argsToLocals, Value.category]; done) | rfl) ?_
  have K : Keep h0 h0 [ab] := Keep.refl _ _
  refine Go.st (g' := (mkF m 12 #[.val (.ref ac), .val (.int 0), .val (.ref ab), .val (.int 0), .val (.int 2), .val (.int 0), .unset] [(.int 0), (.ref ac)])) (fun t k => ?_) ?_
  · refine XS.iconst X0.here hx rfl (hb hby d_j52_m21_0) ?_
    refine XS.istore X0.here hx rfl (hb hby d_j52_m21_1) rfl (l' := #[.val (.ref ac), .val (.int 0), .val (.ref ab), .val (.int 0), .val (.int 2), .val (.int 0), .unset]) rfl ?_
    refine XS.iload X0.here hx rfl (hb hby d_j52_m21_3) rfl ?_
    refine XS.iload X0.here hx rfl (hb hby d_j52_m21_5) rfl ?_
    refine XS.icmpNo X0.here hx rfl (hb hby d_j52_m21_7) rfl (tlt (by decide : (0 : Int32) < (2 : Int32))).2.1 ?_
    refine XS.aloadN X0.here hx rfl (hb hby d_j52_m21_10) rfl rfl ?_
    refine XS.iloadN X0.here hx rfl (hb hby d_j52_m21_11) rfl ?_
    exact k
  refine Go.aloadV X0 hx hZ e0 V_c (j := (0 : Int32)) (v := (.int y0)) ⟨by decide, by decide⟩ rfl (Or.inr (Or.inr (Or.inr (Or.inl ⟨rfl, rfl⟩)))) (hb hby d_j52_m21_12) ?_
  refine Go.st (g' := (mkF m 31 #[.val (.ref ac), .val (.int 0), .val (.ref ab), .val (.int 0), .val (.int 2), .val (.int 0), .val (.int y0)] [(.int (y0.toInt8.toInt32)), (.int 0), (.ref ab)])) (fun t k => ?_) ?_
  · refine XS.istore X0.here hx rfl (hb hby d_j52_m21_13) rfl (l' := #[.val (.ref ac), .val (.int 0), .val (.ref ab), .val (.int 0), .val (.int 2), .val (.int 0), .val (.int y0)]) rfl ?_
    refine XS.iload X0.here hx rfl (hb hby d_j52_m21_15) rfl ?_
    refine XS.sipush X0.here hx rfl (hb hby d_j52_m21_17) ?_
    refine XS.icmpYes X0.here hx rfl (pc0 := 20) (pc' := 26) rfl (hb hby d_j52_m21_20) rfl (flt hv0).2.2.2 (by decide) (by decide) ?_
    refine XS.aloadN X0.here hx rfl (hb hby d_j52_m21_26) rfl rfl ?_
    refine XS.iloadN X0.here hx rfl (hb hby d_j52_m21_27) rfl ?_
    refine XS.iload X0.here hx rfl (hb hby d_j52_m21_28) rfl ?_
    refine XS.i2b X0.here hx rfl (hb hby d_j52_m21_30) rfl ?_
    exact k
  refine Go.nstV X0 hx hZ e0 V_b (j := (0 : Int32)) ⟨by decide, by decide⟩ 0 rfl (Nat.le_of_ble_eq_true rfl) (Or.inr ⟨rfl, rfl⟩) (hb hby d_j52_m21_31) ?_
  intro T1 h1 X1 e1 W1 Vn1
  replace V_c := V_c.other W1 ne_ac_ab
  replace O := O.wr W1 g_ab
  have N1 := Fr.snoc X1 N0 g_ab
  replace K := K.wr W1 (Or.inl (List.mem_of_getElem? (i := 0) rfl))
  replace V_b : Arv Z h1 ab kb .byte (2 : Int32) [(.int (nar .byte (y0.toInt8.toInt32))), (.int 0)] (.int 0) := Vn1
  clear Vn1
  refine Go.st (g' := (mkF m 12 #[.val (.ref ac), .val (.int 1), .val (.ref ab), .val (.int 1), .val (.int 2), .val (.int 1), .val (.int y0)] [(.int 1), (.ref ac)])) (fun t k => ?_) ?_
  · refine XS.iinc X1.here hx rfl (hb hby d_j52_m21_32) rfl (l' := #[.val (.ref ac), .val (.int 1), .val (.ref ab), .val (.int 0), .val (.int 2), .val (.int 0), .val (.int y0)]) rfl ?_
    refine XS.iinc X1.here hx rfl (hb hby d_j52_m21_35) rfl (l' := #[.val (.ref ac), .val (.int 1), .val (.ref ab), .val (.int 1), .val (.int 2), .val (.int 0), .val (.int y0)]) rfl ?_
    refine XS.iinc X1.here hx rfl (hb hby d_j52_m21_38) rfl (l' := #[.val (.ref ac), .val (.int 1), .val (.ref ab), .val (.int 1), .val (.int 2), .val (.int 1), .val (.int y0)]) rfl ?_
    refine XS.goto X1.here hx rfl (pc0 := 41) (pc' := 3) rfl (hb hby d_j52_m21_41) (by decide) (by decide) ?_
    refine XS.iload X1.here hx rfl (hb hby d_j52_m21_3) rfl ?_
    refine XS.iload X1.here hx rfl (hb hby d_j52_m21_5) rfl ?_
    refine XS.icmpNo X1.here hx rfl (hb hby d_j52_m21_7) rfl (tlt (by decide : (1 : Int32) < (2 : Int32))).2.1 ?_
    refine XS.aloadN X1.here hx rfl (hb hby d_j52_m21_10) rfl rfl ?_
    refine XS.iloadN X1.here hx rfl (hb hby d_j52_m21_11) rfl ?_
    exact k
  refine Go.aloadV X1 hx hZ e1 V_c (j := (1 : Int32)) (v := (.int y1)) ⟨by decide, by decide⟩ rfl (Or.inr (Or.inr (Or.inr (Or.inl ⟨rfl, rfl⟩)))) (hb hby d_j52_m21_12) ?_
  refine Go.st (g' := (mkF m 31 #[.val (.ref ac), .val (.int 1), .val (.ref ab), .val (.int 1), .val (.int 2), .val (.int 1), .val (.int y1)] [(.int (y1.toInt8.toInt32)), (.int 1), (.ref ab)])) (fun t k => ?_) ?_
  · refine XS.istore X1.here hx rfl (hb hby d_j52_m21_13) rfl (l' := #[.val (.ref ac), .val (.int 1), .val (.ref ab), .val (.int 1), .val (.int 2), .val (.int 1), .val (.int y1)]) rfl ?_
    refine XS.iload X1.here hx rfl (hb hby d_j52_m21_15) rfl ?_
    refine XS.sipush X1.here hx rfl (hb hby d_j52_m21_17) ?_
    refine XS.icmpYes X1.here hx rfl (pc0 := 20) (pc' := 26) rfl (hb hby d_j52_m21_20) rfl (flt hv1).2.2.2 (by decide) (by decide) ?_
    refine XS.aloadN X1.here hx rfl (hb hby d_j52_m21_26) rfl rfl ?_
    refine XS.iloadN X1.here hx rfl (hb hby d_j52_m21_27) rfl ?_
    refine XS.iload X1.here hx rfl (hb hby d_j52_m21_28) rfl ?_
    refine XS.i2b X1.here hx rfl (hb hby d_j52_m21_30) rfl ?_
    exact k
  refine Go.nstV X1 hx hZ e1 V_b (j := (1 : Int32)) ⟨by decide, by decide⟩ 1 rfl (Nat.le_of_ble_eq_true rfl) (Or.inr ⟨rfl, rfl⟩) (hb hby d_j52_m21_31) ?_
  intro T2 h2 X2 e2 W2 Vn2
  replace V_c := V_c.other W2 ne_ac_ab
  replace O := O.wr W2 g_ab
  have N2 := Fr.snoc X2 N1 g_ab
  replace K := K.wr W2 (Or.inl (List.mem_of_getElem? (i := 0) rfl))
  replace V_b : Arv Z h2 ab kb .byte (2 : Int32) [(.int (nar .byte (y0.toInt8.toInt32))), (.int (nar .byte (y1.toInt8.toInt32)))] (.int 0) := Vn2
  clear Vn2
  refine Go.st (g' := (mkF m 46 #[.val (.ref ac), .val (.int 2), .val (.ref ab), .val (.int 2), .val (.int 2), .val (.int 2), .val (.int y1)] [(.int 2)])) (fun t k => ?_) ?_
  · refine XS.iinc X2.here hx rfl (hb hby d_j52_m21_32) rfl (l' := #[.val (.ref ac), .val (.int 2), .val (.ref ab), .val (.int 1), .val (.int 2), .val (.int 1), .val (.int y1)]) rfl ?_
    refine XS.iinc X2.here hx rfl (hb hby d_j52_m21_35) rfl (l' := #[.val (.ref ac), .val (.int 2), .val (.ref ab), .val (.int 2), .val (.int 2), .val (.int 1), .val (.int y1)]) rfl ?_
    refine XS.iinc X2.here hx rfl (hb hby d_j52_m21_38) rfl (l' := #[.val (.ref ac), .val (.int 2), .val (.ref ab), .val (.int 2), .val (.int 2), .val (.int 2), .val (.int y1)]) rfl ?_
    refine XS.goto X2.here hx rfl (pc0 := 41) (pc' := 3) rfl (hb hby d_j52_m21_41) (by decide) (by decide) ?_
    refine XS.iload X2.here hx rfl (hb hby d_j52_m21_3) rfl ?_
    refine XS.iload X2.here hx rfl (hb hby d_j52_m21_5) rfl ?_
    refine XS.icmpYes X2.here hx rfl (pc0 := 7) (pc' := 44) rfl (hb hby d_j52_m21_7) rfl (flt (by decide : ¬ (2 : Int32) < (2 : Int32))).2.1 (by decide) (by decide) ?_
    refine XS.iload X2.here hx rfl (hb hby d_j52_m21_44) rfl ?_
    exact k
  refine Go.retI X2 hx hlk hret (hb hby d_j52_m21_46) (by decide) (by decide) e2 ?_
  exact ⟨rfl, N2, K, V_b⟩
theorem ct_cmp3_2_L (l : Launch) (Z : State) (a0 : Array Value) (hw : ∀ d ∈ tables_1, d.before a0 Z = true) (zc : Int32) (fm : Value) (G : Gl Z zc fm) (ac : Addr) (kc : ClassId) (y0 : Int32) (y1 : Int32) (h0 : Heap) (n0 : Nat) (O : Old Z n0 h0) (V_c : Arv Z h0 ac kc .char (2 : Int32) [(.int y0), (.int y1)] (.int 0)) (hr0 : 0 ≤ y0.toInt ∧ y0.toInt < 65536) (hr1 : 0 ≤ y1.toInt ∧ y1.toInt < 65536) (hv0 : ¬ (255 : Int32) < y0) (hv1 : ¬ (255 : Int32) < y1) :
    Ct l (⟨"java/lang/StringUTF16", "compress", "([CII)[B"⟩ : MethodName) jdk_52_method_16_code 6 (some (.array .byte)) ({ frames := 1, cells := 1, slots := 2, locals := 18 } : Room) Z #[(.ref ac), (.int 0), (.int 2)] h0 (fun v h L => ∃ b kb, v = some (.ref b) ∧ Fr n0 L ∧ Keep h0 h [] ∧ h0.size ≤ b ∧ Arv Z h b kb .byte (2 : Int32) [(.int (nar .byte (y0.toInt8.toInt32))), (.int (nar .byte (y1.toInt8.toInt32)))] (.int 0)) := by
  refine Ct.of (plainFor_of_name pn_StringUTF16_856) ?_
  intro p e s m below meth c T0 X0 hx hby hml hown hnm hret hlk hZ e0
  have N0 := Fr.nil n0
  have G' := G
  obtain ⟨S_CS, hzc, S_FM, hfm, S_AD, S_HI, S_LO⟩ := G'
  refine Go.cast (g' := mkF m 0 #[.val (.ref ac), .val (.int 0), .val (.int 2), .unset, .unset, .unset] []) (by first | (simp [entryFrame, mkF, argsToLocals, Value.category]; done) | rfl) ?_
  have K : Keep h0 h0 [] := Keep.refl _ _
  refine Go.st (g' := (mkF m 1 #[.val (.ref ac), .val (.int 0), .val (.int 2), .unset, .unset, .unset] [(.int 2)])) (fun t k => ?_) ?_
  · refine XS.iloadN X0.here hx rfl (hb hby d_j52_m16_0) rfl ?_
    exact k
  refine Go.newP X0 hx hZ (wd hw 25 rfl) e0 (hb hby d_j52_m16_1) (by decide) (cap := 2) (by decide) (by decide) (by decide) (by decide) ?_
  intro T1 h1 b1 k1 X1 e1 E1 g1 V_b1
  have lb1 := Nat.le_of_eq g1.symm
  have ne_ac_b1 : ac ≠ b1 := Nat.ne_of_lt (Nat.lt_of_lt_of_le V_c.lt lb1)
  have g_b1 : n0 ≤ b1 := Nat.le_trans (OwnKit.Old.le O) lb1
  have sz_b1 : h0.size ≤ b1 := Nat.le_trans K.1 lb1
  replace V_c := V_c.ext E1
  replace O := O.ext E1
  replace K := K.ext E1
  replace V_b1 := V_b1.pad (pad_rep [] (.int 0) 2)
  replace V_b1 : Arv Z h1 b1 k1 .byte (2 : Int32) [(.int 0), (.int 0)] (.int 0) := V_b1
  refine Go.st (g' := (mkF m 9 #[.val (.ref ac), .val (.int 0), .val (.int 2), .val (.ref b1), .unset, .unset] [(.int 2), (.int 0), (.ref b1), (.int 0), (.ref ac)])) (fun t k => ?_) ?_
  · refine XS.astoreN X1.here hx rfl (hb hby d_j52_m16_3) rfl rfl (l' := #[.val (.ref ac), .val (.int 0), .val (.int 2), .val (.ref b1), .unset, .unset]) rfl ?_
    refine XS.aloadN X1.here hx rfl (hb hby d_j52_m16_4) rfl rfl ?_
    refine XS.iloadN X1.here hx rfl (hb hby d_j52_m16_5) rfl ?_
    refine XS.aloadN X1.here hx rfl (hb hby d_j52_m16_6) rfl rfl ?_
    refine XS.iconst X1.here hx rfl (hb hby d_j52_m16_7) ?_
    refine XS.iloadN X1.here hx rfl (hb hby d_j52_m16_8) rfl ?_
    exact k
  refine Go.callS X1 hx hZ (W := 0) (argsL := [(.ref ac), (.int 0), (.ref b1), (.int 0), (.int 2)]) (rest := []) hown (wd hw 26 rfl) (wd hw 27 rfl) (wd hw 23 rfl) (wd hw 28 rfl) (by decide) (ct_cmp5_2_L l Z a0 hw  ac kc b1 k1 y0 y1 h1 n0 O V_c V_b1 g_b1 ne_ac_b1 hv0 hv1) e1 (by rw [hml]; rfl) (lenOf pd___CI_BII_I_6624 rfl) rfl rfl (hb hby d_j52_m16_9) ?_
  intro v2 T2 h2 L2 X2 e2 q2
  obtain ⟨rfl, N2, K2, V_n2⟩ := q2
  replace N2 := Fr.app N0 N2
  replace V_c := V_c.keep K2 (ninS ne_ac_b1 nin0)
  clear V_b1
  replace O := O.keep K2 (allS g_b1 all0)
  replace K := K.trans K2 (allS (Or.inr sz_b1) all0)
  refine Go.st (g' := (mkF m 58 #[.val (.ref ac), .val (.int 0), .val (.int 2), .val (.ref b1), .val (.int 2), .unset] [(.ref b1)])) (fun t k => ?_) ?_
  · refine XS.istore X2.here hx rfl (hb hby d_j52_m16_12) rfl (l' := #[.val (.ref ac), .val (.int 0), .val (.int 2), .val (.ref b1), .val (.int 2), .unset]) rfl ?_
    refine XS.iload X2.here hx rfl (hb hby d_j52_m16_14) rfl ?_
    refine XS.iloadN X2.here hx rfl (hb hby d_j52_m16_16) rfl ?_
    refine XS.icmpYes X2.here hx rfl (pc0 := 17) (pc' := 57) rfl (hb hby d_j52_m16_17) rfl (teq (by decide : (2 : Int32) = (2 : Int32))).1 (by decide) (by decide) ?_
    refine XS.aloadN X2.here hx rfl (hb hby d_j52_m16_57) rfl rfl ?_
    exact k
  refine Go.retA X2 hx hlk hret rfl rfl (hb hby d_j52_m16_58) (by decide) (by decide) e2 ?_
  exact ⟨b1, _, rfl, N2, K, sz_b1, V_n2⟩
theorem ct_cfa_2_2 (l : Launch) (Z : State) (a0 : Array Value) (hw : ∀ d ∈ tables_1, d.before a0 Z = true) (ab : Addr) (kb : ClassId) (u0 : Value) (u1 : Value) (h0 : Heap) (n0 : Nat) (O : Old Z n0 h0) (V_b : Arv Z h0 ab kb .byte (2 : Int32) [u0, u1] (.int 0)) :
    Ct l (⟨"java/lang/StringUTF16", "coderFromArrayLen", "([BI)B"⟩ : MethodName) jdk_52_method_15_code 2 (some .byte) ({ frames := 0, cells := 0, slots := 0, locals := 0 } : Room) Z #[(.ref ab), (.int 2)] h0 (fun v h L => v = some (.int 0) ∧ Fr n0 L ∧ h0 = h) := by
  refine Ct.of (plainFor_of_name pn_StringUTF16_856) ?_
  intro p e s m below meth c T0 X0 hx hby hml hown hnm hret hlk hZ e0
  have N0 := Fr.nil n0
  refine Go.cast (g' := mkF m 0 #[.val (.ref ab), .val (.int 2)] []) (by first | (simp [entryFrame, mkF, argsToLocals, Value.category]; done) | rfl) ?_
  refine Go.st (g' := (mkF m 2 #[.val (.ref ab), .val (.int 2)] [(.ref ab), (.int 2)])) (fun t k => ?_) ?_
  · refine XS.iloadN X0.here hx rfl (hb hby d_j52_m15_0) rfl ?_
    refine XS.aloadN X0.here hx rfl (hb hby d_j52_m15_1) rfl rfl ?_
    exact k
  refine Go.alenV X0 hx hZ e0 V_b (hb hby d_j52_m15_2) ?_
  refine Go.st (g' := (mkF m 8 #[.val (.ref ab), .val (.int 2)] [(.int 0)])) (fun t k => ?_) ?_
  · refine XS.isub X0.here hx rfl (hb hby d_j52_m15_3) rfl ?_
    refine XS.bipush X0.here hx rfl (hb hby d_j52_m15_4) ?_
    refine XS.iushr X0.here hx rfl (hb hby d_j52_m15_6) rfl ?_
    refine XS.i2b X0.here hx rfl (hb hby d_j52_m15_7) rfl ?_
    exact k
  refine Go.retS X0 hx hlk hret (by simp) rfl (hb hby d_j52_m15_8) (by decide) (by decide) e0 ?_
  exact ⟨rfl, N0, rfl⟩
theorem ct_si4_2_L (l : Launch) (Z : State) (a0 : Array Value) (hw : ∀ d ∈ tables_1, d.before a0 Z = true) (zc : Int32) (fm : Value) (G : Gl Z zc fm) (a1 : Addr) (ac : Addr) (kc : ClassId) (y0 : Int32) (y1 : Int32) (h0 : Heap) (n0 : Nat) (O : Old Z n0 h0) (E_a1 : Exa Z h0 a1 "java/lang/String") (F_a1_value : Fld Z h0 a1 "java/lang/String" "value" "[B" .null) (F_a1_coder : Fld Z h0 a1 "java/lang/String" "coder" "B" (.int 0)) (g_a1 : n0 ≤ a1) (V_c : Arv Z h0 ac kc .char (2 : Int32) [(.int y0), (.int y1)] (.int 0)) (ne_a1_ac : a1 ≠ ac) (hr0 : 0 ≤ y0.toInt ∧ y0.toInt < 65536) (hr1 : 0 ≤ y1.toInt ∧ y1.toInt < 65536) (hv0 : ¬ (255 : Int32) < y0) (hv1 : ¬ (255 : Int32) < y1) :
    Ct l (⟨"java/lang/String", "<init>", "([CIILjava/lang/Void;)V"⟩ : MethodName) jdk_42_method_149_code 6 none ({ frames := 2, cells := 1, slots := 2, locals := 35 } : Room) Z #[(.ref a1), (.ref ac), (.int 0), (.int 2), .null] h0 (fun v h L => ∃ b kb, v = none ∧ Fr n0 L ∧ Keep h0 h [a1] ∧ Fld Z h a1 "java/lang/String" "value" "[B" (.ref b) ∧ Fld Z h a1 "java/lang/String" "coder" "B" (.int 0) ∧ Arv Z h b kb .byte (2 : Int32) [(.int (nar .byte (y0.toInt8.toInt32))), (.int (nar .byte (y1.toInt8.toInt32)))] (.int 0)) := by
  refine Ct.of (plainFor_of_name pn_String_837) ?_
  intro p e s m below meth c T0 X0 hx hby hml hown hnm hret hlk hZ e0
  have N0 := Fr.nil n0
  have G' := G
  obtain ⟨S_CS, hzc, S_FM, hfm, S_AD, S_HI, S_LO⟩ := G'
  refine Go.cast (g' := mkF m 0 #[.val (.ref a1), .val (.ref ac), .val (.int 0), .val (.int 2), .val .null, .unset] []) (by first | (simp [entryFrame, mkF, argsToLocals, Value.category]; done) | rfl) ?_
  have K : Keep h0 h0 [a1] := Keep.refl _ _
  refine Go.st (g' := (mkF m 1 #[.val (.ref a1), .val (.ref ac), .val (.int 0), .val (.int 2), .val .null, .unset] [(.ref a1)])) (fun t k => ?_) ?_
  · refine XS.aloadN X0.here hx rfl (hb hby d_j42_m149_0) rfl rfl ?_
    exact k
  refine Go.initO X0 hx hZ hown (wd hw 17 rfl) (wd hw 18 rfl) (wd hw 19 rfl) e0 (by rw [hml]; rfl) (hb hby d_j42_m149_1) (by decide) (W := 0) rfl (by decide) ?_
  intro T1 X1 e1
  refine Go.st (g' := (mkF m 27 #[.val (.ref a1), .val (.ref ac), .val (.int 0), .val (.int 2), .val .null, .unset] [])) (fun t k => ?_) ?_
  · refine XS.iloadN X1.here hx rfl (hb hby d_j42_m149_4) rfl ?_
    refine XS.ifYes X1.here hx rfl (pc0 := 5) (pc' := 27) rfl (hb hby d_j42_m149_5) rfl ((if0 _ _).trans (feq (by decide : ¬ (2 : Int32) = (0 : Int32))).2) (by decide) (by decide) ?_
    exact k
  refine Go.getS X1 hx hZ hown (wd hw 20 rfl) Via.refl e1 (S_CS.ext O.2) (hb hby d_j42_m149_27) ?_
  intro T2 X2 e2
  refine Go.st (g' := (mkF m 36 #[.val (.ref a1), .val (.ref ac), .val (.int 0), .val (.int 2), .val .null, .unset] [(.int 2), (.int 0), (.ref ac)])) (fun t k => ?_) ?_
  · refine XS.ifNo X2.here hx rfl (hb hby d_j42_m149_30) rfl ((if0 _ _).trans (feq hzc).1) ?_
    refine XS.aloadN X2.here hx rfl (hb hby d_j42_m149_33) rfl rfl ?_
    refine XS.iloadN X2.here hx rfl (hb hby d_j42_m149_34) rfl ?_
    refine XS.iloadN X2.here hx rfl (hb hby d_j42_m149_35) rfl ?_
    exact k
  refine Go.callS X2 hx hZ (W := 0) (argsL := [(.ref ac), (.int 0), (.int 2)]) (rest := []) hown (wd hw 21 rfl) (wd hw 22 rfl) (wd hw 23 rfl) (wd hw 24 rfl) (by decide) (ct_cmp3_2_L l Z a0 hw zc fm G ac kc y0 y1 h0 n0 O V_c hr0 hr1 hv0 hv1) e2 (by rw [hml]; rfl) (lenOf pd___CII__B_8269 rfl) rfl rfl (hb hby d_j42_m149_36) ?_
  intro v3 T3 h3 L3 X3 e3 q3
  obtain ⟨ob, kb, rfl, N3, K3, lb3, V_ob⟩ := q3
  replace N3 := Fr.app N0 N3
  have ne_a1_ob : a1 ≠ ob := Nat.ne_of_lt (Nat.lt_of_lt_of_le E_a1.lt lb3)
  have ne_ac_ob : ac ≠ ob := Nat.ne_of_lt (Nat.lt_of_lt_of_le V_c.lt lb3)
  have g_ob : n0 ≤ ob := Nat.le_trans (OwnKit.Old.le O) lb3
  have sz_ob : h0.size ≤ ob := Nat.le_trans K.1 lb3
  replace E_a1 := E_a1.keep K3
  replace F_a1_value := F_a1_value.keep K3 nin0
  replace F_a1_coder := F_a1_coder.keep K3 nin0
  replace V_c := V_c.keep K3 nin0
  replace O := O.keep K3 all0
  replace K := K.trans K3 all0
  refine Go.st (g' := (mkF m 45 #[.val (.ref a1), .val (.ref ac), .val (.int 0), .val (.int 2), .val .null, .val (.ref ob)] [(.int 2), (.ref ob), (.ref a1)])) (fun t k => ?_) ?_
  · refine XS.astore X3.here hx rfl (hb hby d_j42_m149_39) rfl rfl (l' := #[.val (.ref a1), .val (.ref ac), .val (.int 0), .val (.int 2), .val .null, .val (.ref ob)]) rfl ?_
    refine XS.aloadN X3.here hx rfl (hb hby d_j42_m149_41) rfl rfl ?_
    refine XS.aload X3.here hx rfl (hb hby d_j42_m149_42) rfl rfl ?_
    refine XS.iloadN X3.here hx rfl (hb hby d_j42_m149_44) rfl ?_
    exact k
  refine Go.callS X3 hx hZ (W := 1) (argsL := [(.ref ob), (.int 2)]) (rest := [(.ref a1)]) hown (wd hw 29 rfl) (wd hw 30 rfl) (wd hw 23 rfl) (wd hw 31 rfl) (by decide) (ct_cfa_2_2 l Z a0 hw  ob kb (.int (nar .byte (y0.toInt8.toInt32))) (.int (nar .byte (y1.toInt8.toInt32))) h3 n0 O V_ob) e3 (by rw [hml]; rfl) (lenOf pd___BI_B_7585 rfl) rfl rfl (hb hby d_j42_m149_45) ?_
  intro v4 T4 h4 L4 X4 e4 q4
  obtain ⟨rfl, N4, rfl⟩ := q4
  replace N4 := Fr.app N3 N4
  show Go p e below _ T4 (mkF m 48 #[.val (.ref a1), .val (.ref ac), .val (.int 0), .val (.int 2), .val .null, .val (.ref ob)] [(.int 0), (.ref a1)])
  refine Go.putF X4 hx hZ hown (wd hw 32 rfl) Via.refl e4 F_a1_coder E_a1 (Or.inr ⟨(wd hw 33 rfl), rfl, hnm⟩) (wd hw 7 rfl) (ty := .byte) (by decide) rfl rfl (hb hby d_j42_m149_48) ?_
  intro T5 h5 X5 e5 W5
  replace E_a1 := E_a1.wr W5
  replace F_a1_value := F_a1_value.other W5 (Or.inr (slot_ne (a0 := a0) (Or.inr (wd hw 35 rfl)) (Or.inr (wd hw 33 rfl)) (by decide) (t := (.array .byte)) (t' := .byte) (by decide) (by decide)))
  replace F_a1_coder := F_a1_coder.same W5
  replace V_c := V_c.other W5 (Ne.symm ne_a1_ac)
  replace V_ob := V_ob.other W5 (Ne.symm ne_a1_ob)
  replace O := O.wr W5 g_a1
  have N5 := Fr.snoc X5 N4 g_a1
  replace K := K.wr W5 (Or.inl (List.mem_of_getElem? (i := 0) rfl))
  refine Go.st (g' := (mkF m 54 #[.val (.ref a1), .val (.ref ac), .val (.int 0), .val (.int 2), .val .null, .val (.ref ob)] [(.ref ob), (.ref a1)])) (fun t k => ?_) ?_
  · refine XS.aloadN X5.here hx rfl (hb hby d_j42_m149_51) rfl rfl ?_
    refine XS.aload X5.here hx rfl (hb hby d_j42_m149_52) rfl rfl ?_
    exact k
  refine Go.putF X5 hx hZ hown (wd hw 34 rfl) Via.refl e5 F_a1_value E_a1 (Or.inr ⟨(wd hw 35 rfl), rfl, hnm⟩) (wd hw 7 rfl) (ty := (.array .byte)) (by decide) rfl rfl (hb hby d_j42_m149_54) ?_
  intro T6 h6 X6 e6 W6
  replace E_a1 := E_a1.wr W6
  replace F_a1_value := F_a1_value.same W6
  replace F_a1_coder := F_a1_coder.other W6 (Or.inr (slot_ne (a0 := a0) (Or.inr (wd hw 33 rfl)) (Or.inr (wd hw 35 rfl)) (by decide) (t := .byte) (t' := (.array .byte)) (by decide) (by decide)))
  replace V_c := V_c.other W6 (Ne.symm ne_a1_ac)
  replace V_ob := V_ob.other W6 (Ne.symm ne_a1_ob)
  replace O := O.wr W6 g_a1
  have N6 := Fr.snoc X6 N5 g_a1
  replace K := K.wr W6 (Or.inl (List.mem_of_getElem? (i := 0) rfl))
  show Go p e below _ T6 (mkF m 57 #[.val (.ref a1), .val (.ref ac), .val (.int 0), .val (.int 2), .val .null, .val (.ref ob)] [])
  refine Go.retV X6 hx hlk hret (hb hby d_j42_m149_57) (by decide) (by decide) e6 ?_
  exact ⟨ob, kb, rfl, N6, K, F_a1_value, F_a1_coder, V_ob⟩
theorem ct_si1_2_L (l : Launch) (Z : State) (a0 : Array Value) (hw : ∀ d ∈ tables_1, d.before a0 Z = true) (zc : Int32) (fm : Value) (G : Gl Z zc fm) (a1 : Addr) (ac : Addr) (kc : ClassId) (y0 : Int32) (y1 : Int32) (h0 : Heap) (n0 : Nat) (O : Old Z n0 h0) (E_a1 : Exa Z h0 a1 "java/lang/String") (F_a1_value : Fld Z h0 a1 "java/lang/String" "value" "[B" .null) (F_a1_coder : Fld Z h0 a1 "java/lang/String" "coder" "B" (.int 0)) (g_a1 : n0 ≤ a1) (V_c : Arv Z h0 ac kc .char (2 : Int32) [(.int y0), (.int y1)] (.int 0)) (ne_a1_ac : a1 ≠ ac) (hr0 : 0 ≤ y0.toInt ∧ y0.toInt < 65536) (hr1 : 0 ≤ y1.toInt ∧ y1.toInt < 65536) (hv0 : ¬ (255 : Int32) < y0) (hv1 : ¬ (255 : Int32) < y1) :
    Ct l (⟨"java/lang/String", "<init>", "([C)V"⟩ : MethodName) jdk_42_method_3_code 2 none ({ frames := 3, cells := 1, slots := 2, locals := 52 } : Room) Z #[(.ref a1), (.ref ac)] h0 (fun v h L => ∃ b kb, v = none ∧ Fr n0 L ∧ Keep h0 h [a1] ∧ Fld Z h a1 "java/lang/String" "value" "[B" (.ref b) ∧ Fld Z h a1 "java/lang/String" "coder" "B" (.int 0) ∧ Arv Z h b kb .byte (2 : Int32) [(.int (nar .byte (y0.toInt8.toInt32))), (.int (nar .byte (y1.toInt8.toInt32)))] (.int 0)) := by
  refine Ct.of (plainFor_of_name pn_String_837) ?_
  intro p e s m below meth c T0 X0 hx hby hml hown hnm hret hlk hZ e0
  have N0 := Fr.nil n0
  have G' := G
  obtain ⟨S_CS, hzc, S_FM, hfm, S_AD, S_HI, S_LO⟩ := G'
  refine Go.cast (g' := mkF m 0 #[.val (.ref a1), .val (.ref ac)] []) (by first | (simp [entryFrame, mkF, argsToLocals, Value.category]; done) | rfl) ?_
  have K : Keep h0 h0 [a1] := Keep.refl _ _
  refine Go.st (g' := (mkF m 4 #[.val (.ref a1), .val (.ref ac)] [(.ref ac), (.int 0), (.ref ac), (.ref a1)])) (fun t k => ?_) ?_
  · refine XS.aloadN X0.here hx rfl (hb hby d_j42_m3_0) rfl rfl ?_
    refine XS.aloadN X0.here hx rfl (hb hby d_j42_m3_1) rfl rfl ?_
    refine XS.iconst X0.here hx rfl (hb hby d_j42_m3_2) ?_
    refine XS.aloadN X0.here hx rfl (hb hby d_j42_m3_3) rfl rfl ?_
    exact k
  refine Go.alenV X0 hx hZ e0 V_c (hb hby d_j42_m3_4) ?_
  refine Go.st (g' := (mkF m 6 #[.val (.ref a1), .val (.ref ac)] [.null, (.int 2), (.int 0), (.ref ac), (.ref a1)])) (fun t k => ?_) ?_
  · refine XS.aconstNull X0.here hx rfl (hb hby d_j42_m3_5) ?_
    exact k
  refine Go.callC X0 hx hZ (W := 0) (argsL := [(.ref ac), (.int 0), (.int 2), .null]) (rest := []) hown rfl (wd hw 13 rfl) (wd hw 14 rfl) (wd hw 8 rfl) (wd hw 16 rfl) (by decide) (ct_si4_2_L l Z a0 hw zc fm G a1 ac kc y0 y1 h0 n0 O E_a1 F_a1_value F_a1_coder g_a1 V_c ne_a1_ac hr0 hr1 hv0 hv1) e0 (by rw [hml]; rfl) (lenOf pd___CIILjava_lang_Void__V_1319 rfl) rfl rfl (hb hby d_j42_m3_6) ?_
  intro v1 T1 h1 L1 X1 e1 q1
  obtain ⟨ob1, kb1, rfl, N1, K1, Fv1, Fc1, V_ob1⟩ := q1
  replace N1 := Fr.app N0 N1
  replace E_a1 := E_a1.keep K1
  clear F_a1_value
  clear F_a1_coder
  replace V_c := V_c.keep K1 (ninS (Ne.symm ne_a1_ac) nin0)
  replace O := O.keep K1 (allS g_a1 all0)
  replace K := K.trans K1 (allS (Or.inl (List.mem_of_getElem? (i := 0) rfl)) all0)
  show Go p e below _ T1 (mkF m 9 #[.val (.ref a1), .val (.ref ac)] [])
  refine Go.retV X1 hx hlk hret (hb hby d_j42_m3_9) (by decide) (by decide) e1 ?_
  exact ⟨ob1, kb1, rfl, N1, K, Fv1, Fc1, V_ob1⟩
theorem ct_len_2_0 (l : Launch) (Z : State) (a0 : Array Value) (hw : ∀ d ∈ tables_1, d.before a0 Z = true) (zc : Int32) (fm : Value) (G : Gl Z zc fm) (a1 : Addr) (ab : Addr) (kb : ClassId) (dv : Value) (u0 : Value) (u1 : Value) (h0 : Heap) (n0 : Nat) (O : Old Z n0 h0) (E_a1 : Exa Z h0 a1 "java/lang/String") (F_v : Fld Z h0 a1 "java/lang/String" "value" "[B" (.ref ab)) (F_c : Fld Z h0 a1 "java/lang/String" "coder" "B" (.int 0)) (V_b : Arv Z h0 ab kb .byte (2 : Int32) [u0, u1] dv) :
    Ct l (⟨"java/lang/String", "length", "()I"⟩ : MethodName) jdk_42_method_54_code 1 (some .int) ({ frames := 2, cells := 0, slots := 0, locals := 60 } : Room) Z #[(.ref a1)] h0 (fun v h L => v = some (.int 2) ∧ Fr n0 L ∧ h0 = h) := by
  refine Ct.of (plainFor_of_name pn_String_837) ?_
  intro p e s m below meth c T0 X0 hx hby hml hown hnm hret hlk hZ e0
  have N0 := Fr.nil n0
  have G' := G
  obtain ⟨S_CS, hzc, S_FM, hfm, S_AD, S_HI, S_LO⟩ := G'
  refine Go.cast (g' := mkF m 0 #[.val (.ref a1)] []) (by first | (simp [entryFrame, mkF, argsToLocals, Value.category]; done) | rfl) ?_
  refine Go.st (g' := (mkF m 1 #[.val (.ref a1)] [(.ref a1)])) (fun t k => ?_) ?_
  · refine XS.aloadN X0.here hx rfl (hb hby d_j42_m54_0) rfl rfl ?_
    exact k
  refine Go.getF X0 hx hZ hown (wd hw 34 rfl) Via.refl e0 F_v (hb hby d_j42_m54_1) ?_
  intro T1 X1 e1
  show Go p e below _ T1 (mkF m 4 #[.val (.ref a1)] [(.ref ab)])
  refine Go.alenV X1 hx hZ e1 V_b (hb hby d_j42_m54_4) ?_
  refine Go.st (g' := (mkF m 6 #[.val (.ref a1)] [(.ref a1), (.int 2)])) (fun t k => ?_) ?_
  · refine XS.aloadN X1.here hx rfl (hb hby d_j42_m54_5) rfl rfl ?_
    exact k
  refine Go.callV X1 hx hZ (W := 1) (argsL := []) (rest := [(.int 2)]) hown (wd hw 48 rfl) (wd hw 49 rfl) (notFace_of_selects (args := #[]) (mvT hZ (wd hw 51 rfl))) (wd hw 51 rfl) (wd hw 50 rfl) (wd hw 8 rfl) (wd hw 52 rfl) (by decide) E_a1 (ct_coder_0 l Z a0 hw zc fm G a1 h0 n0 O F_c) e1 (by rw [hml]; rfl) (lenOf pd___B_8314 rfl) rfl rfl (hb hby d_j42_m54_6) ?_
  intro v2 T2 h2 L2 X2 e2 q2
  obtain ⟨rfl, N2, rfl⟩ := q2
  replace N2 := Fr.app N0 N2
  refine Go.st (g' := (mkF m 10 #[.val (.ref a1)] [(.int 2)])) (fun t k => ?_) ?_
  · refine XS.ishr X2.here hx rfl (hb hby d_j42_m54_9) rfl ?_
    exact k
  refine Go.retI X2 hx hlk hret (hb hby d_j42_m54_10) (by decide) (by decide) e2 ?_
  exact ⟨rfl, N2, rfl⟩
theorem ct_lch_2_0 (l : Launch) (Z : State) (a0 : Array Value) (hw : ∀ d ∈ tables_1, d.before a0 Z = true) (zc : Int32) (fm : Value) (G : Gl Z zc fm) (ab : Addr) (kb : ClassId) (y0 : Int32) (u1 : Value) (h0 : Heap) (n0 : Nat) (O : Old Z n0 h0) (V_b : Arv Z h0 ab kb .byte (2 : Int32) [(.int (nar .byte (y0.toInt8.toInt32))), u1] (.int 0)) (hr0 : 0 ≤ y0.toInt ∧ y0.toInt < 65536) (hv0 : ¬ (255 : Int32) < y0) :
    Ct l (⟨"java/lang/StringLatin1", "charAt", "([BI)C"⟩ : MethodName) jdk_43_method_2_code 2 (some .char) ({ frames := 2, cells := 0, slots := 0, locals := 27 } : Room) Z #[(.ref ab), (.int 0)] h0 (fun v h L => v = some (.int y0) ∧ Fr n0 L ∧ h0 = h) := by
  refine Ct.of (plainFor_of_name pn_StringLatin1_654) ?_
  intro p e s m below meth c T0 X0 hx hby hml hown hnm hret hlk hZ e0
  have N0 := Fr.nil n0
  have G' := G
  obtain ⟨S_CS, hzc, S_FM, hfm, S_AD, S_HI, S_LO⟩ := G'
  refine Go.cast (g' := mkF m 0 #[.val (.ref ab), .val (.int 0)] []) (by first | (simp [entryFrame, mkF, argsToLocals, Value.category]; done) | rfl) ?_
  refine Go.st (g' := (mkF m 2 #[.val (.ref ab), .val (.int 0)] [(.ref ab), (.int 0)])) (fun t k => ?_) ?_
  · refine XS.iloadN X0.here hx rfl (hb hby d_j43_m2_0) rfl ?_
    refine XS.aloadN X0.here hx rfl (hb hby d_j43_m2_1) rfl rfl ?_
    exact k
  refine Go.alenV X0 hx hZ e0 V_b (hb hby d_j43_m2_2) ?_
  show Go p e below _ T0 (mkF m 3 #[.val (.ref ab), .val (.int 0)] [(.int 2), (.int 0)])
  refine Go.callS X0 hx hZ (W := 0) (argsL := [(.int 0), (.int 2)]) (rest := []) hown (wd hw 67 rfl) (wd hw 68 rfl) (wd hw 8 rfl) (wd hw 69 rfl) (by decide) (ct_sci_2_0 l Z a0 hw zc fm G  h0 n0 O ) e0 (by rw [hml]; rfl) (lenOf pd__II_V_433 rfl) rfl rfl (hb hby d_j43_m2_3) ?_
  intro v1 T1 h1 L1 X1 e1 q1
  obtain ⟨rfl, N1, rfl⟩ := q1
  replace N1 := Fr.app N0 N1
  refine Go.st (g' := (mkF m 8 #[.val (.ref ab), .val (.int 0)] [(.int 0), (.ref ab)])) (fun t k => ?_) ?_
  · refine XS.aloadN X1.here hx rfl (hb hby d_j43_m2_6) rfl rfl ?_
    refine XS.iloadN X1.here hx rfl (hb hby d_j43_m2_7) rfl ?_
    exact k
  refine Go.aloadV X1 hx hZ e1 V_b (j := (0 : Int32)) (v := (.int (nar .byte (y0.toInt8.toInt32)))) ⟨by decide, by decide⟩ rfl (Or.inr (Or.inr (Or.inr (Or.inr (Or.inr ⟨rfl, rfl⟩))))) (hb hby d_j43_m2_8) ?_
  refine Go.st (g' := (mkF m 14 #[.val (.ref ab), .val (.int 0)] [(.int (((nar .byte (y0.toInt8.toInt32)) &&& (255 : Int32)).toUInt32.toUInt16.toUInt32.toInt32))])) (fun t k => ?_) ?_
  · refine XS.sipush X1.here hx rfl (hb hby d_j43_m2_9) ?_
    refine XS.iand X1.here hx rfl (hb hby d_j43_m2_12) rfl ?_
    refine XS.i2c X1.here hx rfl (hb hby d_j43_m2_13) rfl ?_
    exact k
  refine Go.retS X1 hx hlk hret (by simp) (own_nc _) (hb hby d_j43_m2_14) (by decide) (by decide) e1 ?_
  exact ⟨by rw [own_lc hr0 hv0], N1, rfl⟩
theorem ct_ch_2_0_0 (l : Launch) (Z : State) (a0 : Array Value) (hw : ∀ d ∈ tables_1, d.before a0 Z = true) (zc : Int32) (fm : Value) (G : Gl Z zc fm) (a1 : Addr) (ab : Addr) (kb : ClassId) (y0 : Int32) (u1 : Value) (h0 : Heap) (n0 : Nat) (O : Old Z n0 h0) (E_a1 : Exa Z h0 a1 "java/lang/String") (F_v : Fld Z h0 a1 "java/lang/String" "value" "[B" (.ref ab)) (F_c : Fld Z h0 a1 "java/lang/String" "coder" "B" (.int 0)) (V_b : Arv Z h0 ab kb .byte (2 : Int32) [(.int (nar .byte (y0.toInt8.toInt32))), u1] (.int 0)) (hr0 : 0 ≤ y0.toInt ∧ y0.toInt < 65536) (hv0 : ¬ (255 : Int32) < y0) :
    Ct l (⟨"java/lang/String", "charAt", "(I)C"⟩ : MethodName) jdk_42_method_56_code 2 (some .char) ({ frames := 4, cells := 0, slots := 0, locals := 110 } : Room) Z #[(.ref a1), (.int 0)] h0 (fun v h L => v = some (.int y0) ∧ Fr n0 L ∧ h0 = h) := by
  refine Ct.of (plainFor_of_name pn_String_837) ?_
  intro p e s m below meth c T0 X0 hx hby hml hown hnm hret hlk hZ e0
  have N0 := Fr.nil n0
  have G' := G
  obtain ⟨S_CS, hzc, S_FM, hfm, S_AD, S_HI, S_LO⟩ := G'
  refine Go.cast (g' := mkF m 0 #[.val (.ref a1), .val (.int 0)] []) (by first | (simp [entryFrame, mkF, argsToLocals, Value.category]; done) | rfl) ?_
  refine Go.st (g' := (mkF m 1 #[.val (.ref a1), .val (.int 0)] [(.ref a1)])) (fun t k => ?_) ?_
  · refine XS.aloadN X0.here hx rfl (hb hby d_j42_m56_0) rfl rfl ?_
    exact k
  refine Go.callV X0 hx hZ (W := 0) (argsL := []) (rest := []) hown (wd hw 58 rfl) (wd hw 59 rfl) (notFace_of_selects (args := #[]) (mvT hZ (wd hw 61 rfl))) (wd hw 61 rfl) (wd hw 60 rfl) (wd hw 8 rfl) (wd hw 62 rfl) (by decide) E_a1 (ct_isL_0 l Z a0 hw zc fm G a1 h0 n0 O F_c) e0 (by rw [hml]; rfl) (lenOf pd___Z_8338 rfl) rfl rfl (hb hby d_j42_m56_1) ?_
  intro v1 T1 h1 L1 X1 e1 q1
  obtain ⟨rfl, N1, rfl⟩ := q1
  replace N1 := Fr.app N0 N1
  refine Go.st (g' := (mkF m 8 #[.val (.ref a1), .val (.int 0)] [(.ref a1)])) (fun t k => ?_) ?_
  · refine XS.ifNo X1.here hx rfl (hb hby d_j42_m56_4) rfl ((if0 _ _).trans (feq (by decide : ¬ (1 : Int32) = (0 : Int32))).1) ?_
    refine XS.aloadN X1.here hx rfl (hb hby d_j42_m56_7) rfl rfl ?_
    exact k
  refine Go.getF X1 hx hZ hown (wd hw 34 rfl) Via.refl e1 F_v (hb hby d_j42_m56_8) ?_
  intro T2 X2 e2
  refine Go.st (g' := (mkF m 12 #[.val (.ref a1), .val (.int 0)] [(.int 0), (.ref ab)])) (fun t k => ?_) ?_
  · refine XS.iloadN X2.here hx rfl (hb hby d_j42_m56_11) rfl ?_
    exact k
  refine Go.callS X2 hx hZ (W := 0) (argsL := [(.ref ab), (.int 0)]) (rest := []) hown (wd hw 63 rfl) (wd hw 64 rfl) (wd hw 65 rfl) (wd hw 66 rfl) (by decide) (ct_lch_2_0 l Z a0 hw zc fm G ab kb y0 u1 h0 n0 O V_b hr0 hv0) e2 (by rw [hml]; rfl) (lenOf pd___BI_C_7586 rfl) rfl rfl (hb hby d_j42_m56_12) ?_
  intro v3 T3 h3 L3 X3 e3 q3
  obtain ⟨rfl, N3, rfl⟩ := q3
  replace N3 := Fr.app N1 N3
  show Go p e below _ T3 (mkF m 15 #[.val (.ref a1), .val (.int 0)] [(.int y0)])
  refine Go.retS X3 hx hlk hret (by simp) (own_nr hr0) (hb hby d_j42_m56_15) (by decide) (by decide) e3 ?_
  exact ⟨rfl, N3, rfl⟩
theorem ct_lch_2_1 (l : Launch) (Z : State) (a0 : Array Value) (hw : ∀ d ∈ tables_1, d.before a0 Z = true) (zc : Int32) (fm : Value) (G : Gl Z zc fm) (ab : Addr) (kb : ClassId) (y0 : Int32) (u0 : Value) (h0 : Heap) (n0 : Nat) (O : Old Z n0 h0) (V_b : Arv Z h0 ab kb .byte (2 : Int32) [u0, (.int (nar .byte (y0.toInt8.toInt32)))] (.int 0)) (hr0 : 0 ≤ y0.toInt ∧ y0.toInt < 65536) (hv0 : ¬ (255 : Int32) < y0) :
    Ct l (⟨"java/lang/StringLatin1", "charAt", "([BI)C"⟩ : MethodName) jdk_43_method_2_code 2 (some .char) ({ frames := 2, cells := 0, slots := 0, locals := 27 } : Room) Z #[(.ref ab), (.int 1)] h0 (fun v h L => v = some (.int y0) ∧ Fr n0 L ∧ h0 = h) := by
  refine Ct.of (plainFor_of_name pn_StringLatin1_654) ?_
  intro p e s m below meth c T0 X0 hx hby hml hown hnm hret hlk hZ e0
  have N0 := Fr.nil n0
  have G' := G
  obtain ⟨S_CS, hzc, S_FM, hfm, S_AD, S_HI, S_LO⟩ := G'
  refine Go.cast (g' := mkF m 0 #[.val (.ref ab), .val (.int 1)] []) (by first | (simp [entryFrame, mkF, argsToLocals, Value.category]; done) | rfl) ?_
  refine Go.st (g' := (mkF m 2 #[.val (.ref ab), .val (.int 1)] [(.ref ab), (.int 1)])) (fun t k => ?_) ?_
  · refine XS.iloadN X0.here hx rfl (hb hby d_j43_m2_0) rfl ?_
    refine XS.aloadN X0.here hx rfl (hb hby d_j43_m2_1) rfl rfl ?_
    exact k
  refine Go.alenV X0 hx hZ e0 V_b (hb hby d_j43_m2_2) ?_
  show Go p e below _ T0 (mkF m 3 #[.val (.ref ab), .val (.int 1)] [(.int 2), (.int 1)])
  refine Go.callS X0 hx hZ (W := 0) (argsL := [(.int 1), (.int 2)]) (rest := []) hown (wd hw 67 rfl) (wd hw 68 rfl) (wd hw 8 rfl) (wd hw 69 rfl) (by decide) (ct_sci_2_1 l Z a0 hw zc fm G  h0 n0 O ) e0 (by rw [hml]; rfl) (lenOf pd__II_V_433 rfl) rfl rfl (hb hby d_j43_m2_3) ?_
  intro v1 T1 h1 L1 X1 e1 q1
  obtain ⟨rfl, N1, rfl⟩ := q1
  replace N1 := Fr.app N0 N1
  refine Go.st (g' := (mkF m 8 #[.val (.ref ab), .val (.int 1)] [(.int 1), (.ref ab)])) (fun t k => ?_) ?_
  · refine XS.aloadN X1.here hx rfl (hb hby d_j43_m2_6) rfl rfl ?_
    refine XS.iloadN X1.here hx rfl (hb hby d_j43_m2_7) rfl ?_
    exact k
  refine Go.aloadV X1 hx hZ e1 V_b (j := (1 : Int32)) (v := (.int (nar .byte (y0.toInt8.toInt32)))) ⟨by decide, by decide⟩ rfl (Or.inr (Or.inr (Or.inr (Or.inr (Or.inr ⟨rfl, rfl⟩))))) (hb hby d_j43_m2_8) ?_
  refine Go.st (g' := (mkF m 14 #[.val (.ref ab), .val (.int 1)] [(.int (((nar .byte (y0.toInt8.toInt32)) &&& (255 : Int32)).toUInt32.toUInt16.toUInt32.toInt32))])) (fun t k => ?_) ?_
  · refine XS.sipush X1.here hx rfl (hb hby d_j43_m2_9) ?_
    refine XS.iand X1.here hx rfl (hb hby d_j43_m2_12) rfl ?_
    refine XS.i2c X1.here hx rfl (hb hby d_j43_m2_13) rfl ?_
    exact k
  refine Go.retS X1 hx hlk hret (by simp) (own_nc _) (hb hby d_j43_m2_14) (by decide) (by decide) e1 ?_
  exact ⟨by rw [own_lc hr0 hv0], N1, rfl⟩
theorem ct_ch_2_1_0 (l : Launch) (Z : State) (a0 : Array Value) (hw : ∀ d ∈ tables_1, d.before a0 Z = true) (zc : Int32) (fm : Value) (G : Gl Z zc fm) (a1 : Addr) (ab : Addr) (kb : ClassId) (y0 : Int32) (u0 : Value) (h0 : Heap) (n0 : Nat) (O : Old Z n0 h0) (E_a1 : Exa Z h0 a1 "java/lang/String") (F_v : Fld Z h0 a1 "java/lang/String" "value" "[B" (.ref ab)) (F_c : Fld Z h0 a1 "java/lang/String" "coder" "B" (.int 0)) (V_b : Arv Z h0 ab kb .byte (2 : Int32) [u0, (.int (nar .byte (y0.toInt8.toInt32)))] (.int 0)) (hr0 : 0 ≤ y0.toInt ∧ y0.toInt < 65536) (hv0 : ¬ (255 : Int32) < y0) :
    Ct l (⟨"java/lang/String", "charAt", "(I)C"⟩ : MethodName) jdk_42_method_56_code 2 (some .char) ({ frames := 4, cells := 0, slots := 0, locals := 110 } : Room) Z #[(.ref a1), (.int 1)] h0 (fun v h L => v = some (.int y0) ∧ Fr n0 L ∧ h0 = h) := by
  refine Ct.of (plainFor_of_name pn_String_837) ?_
  intro p e s m below meth c T0 X0 hx hby hml hown hnm hret hlk hZ e0
  have N0 := Fr.nil n0
  have G' := G
  obtain ⟨S_CS, hzc, S_FM, hfm, S_AD, S_HI, S_LO⟩ := G'
  refine Go.cast (g' := mkF m 0 #[.val (.ref a1), .val (.int 1)] []) (by first | (simp [entryFrame, mkF, argsToLocals, Value.category]; done) | rfl) ?_
  refine Go.st (g' := (mkF m 1 #[.val (.ref a1), .val (.int 1)] [(.ref a1)])) (fun t k => ?_) ?_
  · refine XS.aloadN X0.here hx rfl (hb hby d_j42_m56_0) rfl rfl ?_
    exact k
  refine Go.callV X0 hx hZ (W := 0) (argsL := []) (rest := []) hown (wd hw 58 rfl) (wd hw 59 rfl) (notFace_of_selects (args := #[]) (mvT hZ (wd hw 61 rfl))) (wd hw 61 rfl) (wd hw 60 rfl) (wd hw 8 rfl) (wd hw 62 rfl) (by decide) E_a1 (ct_isL_0 l Z a0 hw zc fm G a1 h0 n0 O F_c) e0 (by rw [hml]; rfl) (lenOf pd___Z_8338 rfl) rfl rfl (hb hby d_j42_m56_1) ?_
  intro v1 T1 h1 L1 X1 e1 q1
  obtain ⟨rfl, N1, rfl⟩ := q1
  replace N1 := Fr.app N0 N1
  refine Go.st (g' := (mkF m 8 #[.val (.ref a1), .val (.int 1)] [(.ref a1)])) (fun t k => ?_) ?_
  · refine XS.ifNo X1.here hx rfl (hb hby d_j42_m56_4) rfl ((if0 _ _).trans (feq (by decide : ¬ (1 : Int32) = (0 : Int32))).1) ?_
    refine XS.aloadN X1.here hx rfl (hb hby d_j42_m56_7) rfl rfl ?_
    exact k
  refine Go.getF X1 hx hZ hown (wd hw 34 rfl) Via.refl e1 F_v (hb hby d_j42_m56_8) ?_
  intro T2 X2 e2
  refine Go.st (g' := (mkF m 12 #[.val (.ref a1), .val (.int 1)] [(.int 1), (.ref ab)])) (fun t k => ?_) ?_
  · refine XS.iloadN X2.here hx rfl (hb hby d_j42_m56_11) rfl ?_
    exact k
  refine Go.callS X2 hx hZ (W := 0) (argsL := [(.ref ab), (.int 1)]) (rest := []) hown (wd hw 63 rfl) (wd hw 64 rfl) (wd hw 65 rfl) (wd hw 66 rfl) (by decide) (ct_lch_2_1 l Z a0 hw zc fm G ab kb y0 u0 h0 n0 O V_b hr0 hv0) e2 (by rw [hml]; rfl) (lenOf pd___BI_C_7586 rfl) rfl rfl (hb hby d_j42_m56_12) ?_
  intro v3 T3 h3 L3 X3 e3 q3
  obtain ⟨rfl, N3, rfl⟩ := q3
  replace N3 := Fr.app N1 N3
  show Go p e below _ T3 (mkF m 15 #[.val (.ref a1), .val (.int 1)] [(.int y0)])
  refine Go.retS X3 hx hlk hret (by simp) (own_nr hr0) (hb hby d_j42_m56_15) (by decide) (by decide) e3 ?_
  exact ⟨rfl, N3, rfl⟩
theorem ct_cmp5_3_0 (l : Launch) (Z : State) (a0 : Array Value) (hw : ∀ d ∈ tables_1, d.before a0 Z = true) (ac : Addr) (kc : ClassId) (ab : Addr) (kb : ClassId) (y0 : Int32) (y1 : Int32) (y2 : Int32) (h0 : Heap) (n0 : Nat) (O : Old Z n0 h0) (V_c : Arv Z h0 ac kc .char (3 : Int32) [(.int y0), (.int y1), (.int y2)] (.int 0)) (V_b : Arv Z h0 ab kb .byte (3 : Int32) [(.int 0), (.int 0), (.int 0)] (.int 0)) (g_ab : n0 ≤ ab) (ne_ac_ab : ac ≠ ab) (hv0 : (255 : Int32) < y0) :
    Ct l (⟨"java/lang/StringUTF16", "compress", "([CI[BII)I"⟩ : MethodName) jdk_52_method_21_code 7 (some .int) ({ frames := 0, cells := 0, slots := 0, locals := 0 } : Room) Z #[(.ref ac), (.int 0), (.ref ab), (.int 0), (.int 3)] h0 (fun v h L => v = some (.int 0) ∧ Fr n0 L ∧ Keep h0 h [ab] ∧ Arv Z h ab kb .byte (3 : Int32) [(.int 0), (.int 0), (.int 0)] (.int 0)) := by
  refine Ct.of (plainFor_of_name pn_StringUTF16_856) ?_
  intro p e s m below meth c T0 X0 hx hby hml hown hnm hret hlk hZ e0
  have N0 := Fr.nil n0
  refine Go.cast (g' := mkF m 0 #[.val (.ref ac), .val (.int 0), .val (.ref ab), .val (.int 0), .val (.int 3), .unset, .unset] []) (by first | (simp [entryFrame, mkF, argsToLocals, Value.category]; done) | rfl) ?_
  have K : Keep h0 h0 [ab] := Keep.refl _ _
  refine Go.st (g' := (mkF m 12 #[.val (.ref ac), .val (.int 0), .val (.ref ab), .val (.int 0), .val (.int 3), .val (.int 0), .unset] [(.int 0), (.ref ac)])) (fun t k => ?_) ?_
  · refine XS.iconst X0.here hx rfl (hb hby d_j52_m21_0) ?_
    refine XS.istore X0.here hx rfl (hb hby d_j52_m21_1) rfl (l' := #[.val (.ref ac), .val (.int 0), .val (.ref ab), .val (.int 0), .val (.int 3), .val (.int 0), .unset]) rfl ?_
    refine XS.iload X0.here hx rfl (hb hby d_j52_m21_3) rfl ?_
    refine XS.iload X0.here hx rfl (hb hby d_j52_m21_5) rfl ?_
    refine XS.icmpNo X0.here hx rfl (hb hby d_j52_m21_7) rfl (tlt (by decide : (0 : Int32) < (3 : Int32))).2.1 ?_
    refine XS.aloadN X0.here hx rfl (hb hby d_j52_m21_10) rfl rfl ?_
    refine XS.iloadN X0.here hx rfl (hb hby d_j52_m21_11) rfl ?_
    exact k
  refine Go.aloadV X0 hx hZ e0 V_c (j := (0 : Int32)) (v := (.int y0)) ⟨by decide, by decide⟩ rfl (Or.inr (Or.inr (Or.inr (Or.inl ⟨rfl, rfl⟩)))) (hb hby d_j52_m21_12) ?_
  refine Go.st (g' := (mkF m 25 #[.val (.ref ac), .val (.int 0), .val (.ref ab), .val (.int 0), .val (.int 3), .val (.int 0), .val (.int y0)] [(.int 0)])) (fun t k => ?_) ?_
  · refine XS.istore X0.here hx rfl (hb hby d_j52_m21_13) rfl (l' := #[.val (.ref ac), .val (.int 0), .val (.ref ab), .val (.int 0), .val (.int 3), .val (.int 0), .val (.int y0)]) rfl ?_
    refine XS.iload X0.here hx rfl (hb hby d_j52_m21_15) rfl ?_
    refine XS.sipush X0.here hx rfl (hb hby d_j52_m21_17) ?_
    refine XS.icmpNo X0.here hx rfl (hb hby d_j52_m21_20) rfl (tlt hv0).2.2.2 ?_
    refine XS.iload X0.here hx rfl (hb hby d_j52_m21_23) rfl ?_
    exact k
  refine Go.retI X0 hx hlk hret (hb hby d_j52_m21_25) (by decide) (by decide) e0 ?_
  exact ⟨rfl, N0, K, V_b⟩
theorem ct_nbl_3 (l : Launch) (Z : State) (a0 : Array Value) (hw : ∀ d ∈ tables_1, d.before a0 Z = true)  (h0 : Heap) (n0 : Nat) (O : Old Z n0 h0)  :
    Ct l (⟨"java/lang/StringUTF16", "newBytesLength", "(I)I"⟩ : MethodName) jdk_52_method_3_code 1 (some .int) ({ frames := 0, cells := 0, slots := 0, locals := 0 } : Room) Z #[(.int 3)] h0 (fun v h L => v = some (.int 6) ∧ Fr n0 L ∧ h0 = h) := by
  refine Ct.of (plainFor_of_name pn_StringUTF16_856) ?_
  intro p e s m below meth c T0 X0 hx hby hml hown hnm hret hlk hZ e0
  have N0 := Fr.nil n0
  refine Go.cast (g' := mkF m 0 #[.val (.int 3)] []) (by first | (simp [entryFrame, mkF, argsToLocals, Value.category]; done) | rfl) ?_
  refine Go.st (g' := (mkF m 58 #[.val (.int 3)] [(.int 6)])) (fun t k => ?_) ?_
  · refine XS.iloadN X0.here hx rfl (hb hby d_j52_m3_0) rfl ?_
    refine XS.ifYes X0.here hx rfl (pc0 := 1) (pc' := 12) rfl (hb hby d_j52_m3_1) rfl ((if0 _ _).trans (flt (by decide : ¬ (3 : Int32) < (0 : Int32))).2.1) (by decide) (by decide) ?_
    refine XS.iloadN X0.here hx rfl (hb hby d_j52_m3_12) rfl ?_
    refine X0.ldcInt hx hown (mvT hZ (wd hw 102 rfl)) (g := (mkF m 13 #[.val (.int 3)] [(.int 3)])) rfl (hb hby d_j52_m3_13) _ ?_
    refine XS.icmpYes X0.here hx rfl (pc0 := 15) (pc' := 55) rfl (hb hby d_j52_m3_15) rfl (tlt (by decide : (3 : Int32) < (1073741823 : Int32))).1 (by decide) (by decide) ?_
    refine XS.iloadN X0.here hx rfl (hb hby d_j52_m3_55) rfl ?_
    refine XS.iconst X0.here hx rfl (hb hby d_j52_m3_56) ?_
    refine XS.ishl X0.here hx rfl (hb hby d_j52_m3_57) rfl ?_
    exact k
  refine Go.retI X0 hx hlk hret (hb hby d_j52_m3_58) (by decide) (by decide) e0 ?_
  exact ⟨rfl, N0, rfl⟩
theorem ct_nbf_3 (l : Launch) (Z : State) (a0 : Array Value) (hw : ∀ d ∈ tables_1, d.before a0 Z = true)  (h0 : Heap) (n0 : Nat) (O : Old Z n0 h0)  :
    Ct l (⟨"java/lang/StringUTF16", "newBytesFor", "(I)[B"⟩ : MethodName) jdk_52_method_2_code 1 (some (.array .byte)) ({ frames := 1, cells := 1, slots := 6, locals := 12 } : Room) Z #[(.int 3)] h0 (fun v h L => ∃ b kb, v = some (.ref b) ∧ Fr n0 L ∧ Keep h0 h [] ∧ h0.size ≤ b ∧ Arv Z h b kb .byte (6 : Int32) [(.int 0), (.int 0), (.int 0), (.int 0), (.int 0), (.int 0)] (.int 0)) := by
  refine Ct.of (plainFor_of_name pn_StringUTF16_856) ?_
  intro p e s m below meth c T0 X0 hx hby hml hown hnm hret hlk hZ e0
  have N0 := Fr.nil n0
  refine Go.cast (g' := mkF m 0 #[.val (.int 3)] []) (by first | (simp [entryFrame, mkF, argsToLocals, Value.category]; done) | rfl) ?_
  have K : Keep h0 h0 [] := Keep.refl _ _
  refine Go.st (g' := (mkF m 1 #[.val (.int 3)] [(.int 3)])) (fun t k => ?_) ?_
  · refine XS.iloadN X0.here hx rfl (hb hby d_j52_m2_0) rfl ?_
    exact k
  refine Go.callS X0 hx hZ (W := 0) (argsL := [(.int 3)]) (rest := []) hown (wd hw 99 rfl) (wd hw 100 rfl) (wd hw 23 rfl) (wd hw 101 rfl) (by decide) (ct_nbl_3 l Z a0 hw   h0 n0 O ) e0 (by rw [hml]; rfl) (lenOf pd__I_I_7763 rfl) rfl rfl (hb hby d_j52_m2_1) ?_
  intro v1 T1 h1 L1 X1 e1 q1
  obtain ⟨rfl, N1, rfl⟩ := q1
  replace N1 := Fr.app N0 N1
  show Go p e below _ T1 (mkF m 4 #[.val (.int 3)] [(.int 6)])
  refine Go.newP X1 hx hZ (wd hw 25 rfl) e1 (hb hby d_j52_m2_4) (by decide) (cap := 6) (by decide) (by decide) (by decide) (by decide) ?_
  intro T2 h2 b2 k2 X2 e2 E2 g2 V_b2
  have lb2 := Nat.le_of_eq g2.symm
  have g_b2 : n0 ≤ b2 := Nat.le_trans (OwnKit.Old.le O) lb2
  have sz_b2 : h0.size ≤ b2 := Nat.le_trans K.1 lb2
  replace O := O.ext E2
  replace K := K.ext E2
  replace V_b2 := V_b2.pad (pad_rep [] (.int 0) 6)
  replace V_b2 : Arv Z h2 b2 k2 .byte (6 : Int32) [(.int 0), (.int 0), (.int 0), (.int 0), (.int 0), (.int 0)] (.int 0) := V_b2
  show Go p e below _ T2 (mkF m 6 #[.val (.int 3)] [(.ref b2)])
  refine Go.retA X2 hx hlk hret rfl rfl (hb hby d_j52_m2_6) (by decide) (by decide) e2 ?_
  exact ⟨b2, _, rfl, N1, K, sz_b2, V_b2⟩
theorem ct_pch_3_0 (l : Launch) (Z : State) (a0 : Array Value) (hw : ∀ d ∈ tables_1, d.before a0 Z = true) (zc : Int32) (fm : Value) (G : Gl Z zc fm) (ab : Addr) (kb : ClassId) (y0 : Int32) (u0 : Value) (u1 : Value) (u2 : Value) (u3 : Value) (u4 : Value) (u5 : Value) (h0 : Heap) (n0 : Nat) (O : Old Z n0 h0) (V_b : Arv Z h0 ab kb .byte (6 : Int32) [u0, u1, u2, u3, u4, u5] (.int 0)) (g_ab : n0 ≤ ab) :
    Ct l (⟨"java/lang/StringUTF16", "putChar", "([BII)V"⟩ : MethodName) jdk_52_method_4_code 3 none ({ frames := 0, cells := 0, slots := 0, locals := 0 } : Room) Z #[(.ref ab), (.int 0), (.int y0)] h0 (fun v h L => v = none ∧ Fr n0 L ∧ Keep h0 h [ab] ∧ Arv Z h ab kb .byte (6 : Int32) [(.int (nar .byte ((y0 >>> ((0 : Int32) &&& 31)).toInt8.toInt32))), (.int (nar .byte ((y0 >>> ((8 : Int32) &&& 31)).toInt8.toInt32))), u2, u3, u4, u5] (.int 0)) := by
  refine Ct.of (plainFor_of_name pn_StringUTF16_856) ?_
  intro p e s m below meth c T0 X0 hx hby hml hown hnm hret hlk hZ e0
  have N0 := Fr.nil n0
  have G' := G
  obtain ⟨S_CS, hzc, S_FM, hfm, S_AD, S_HI, S_LO⟩ := G'
  refine Go.cast (g' := mkF m 0 #[.val (.ref ab), .val (.int 0), .val (.int y0)] []) (by first | (simp [entryFrame, mkF, argsToLocals, Value.category]; done) | rfl) ?_
  have K : Keep h0 h0 [ab] := Keep.refl _ _
  refine Go.getS X0 hx hZ hown (wd hw 106 rfl) Via.refl e0 (S_AD.ext O.2) (hb hby d_j52_m4_0) ?_
  intro T1 X1 e1
  refine Go.st (g' := (mkF m 38 #[.val (.ref ab), .val (.int 1), .val (.int y0)] [(.int y0), (.int 0), (.ref ab)])) (fun t k => ?_) ?_
  · refine XS.ifYes X1.here hx rfl (pc0 := 3) (pc' := 28) rfl (hb hby d_j52_m4_3) rfl ((if0 _ _).trans (feq (by decide : ¬ (1 : Int32) = (0 : Int32))).2) (by decide) (by decide) ?_
    refine XS.iloadN X1.here hx rfl (hb hby d_j52_m4_28) rfl ?_
    refine XS.iconst X1.here hx rfl (hb hby d_j52_m4_29) ?_
    refine XS.ishl X1.here hx rfl (hb hby d_j52_m4_30) rfl ?_
    refine XS.istoreN X1.here hx rfl (hb hby d_j52_m4_31) rfl (l' := #[.val (.ref ab), .val (.int 0), .val (.int y0)]) rfl ?_
    refine XS.aloadN X1.here hx rfl (hb hby d_j52_m4_32) rfl rfl ?_
    refine XS.iloadN X1.here hx rfl (hb hby d_j52_m4_33) rfl ?_
    refine XS.iinc X1.here hx rfl (hb hby d_j52_m4_34) rfl (l' := #[.val (.ref ab), .val (.int 1), .val (.int y0)]) rfl ?_
    refine XS.iloadN X1.here hx rfl (hb hby d_j52_m4_37) rfl ?_
    exact k
  refine Go.getS X1 hx hZ hown (wd hw 107 rfl) Via.refl e1 (S_HI.ext O.2) (hb hby d_j52_m4_38) ?_
  intro T2 X2 e2
  refine Go.st (g' := (mkF m 43 #[.val (.ref ab), .val (.int 1), .val (.int y0)] [(.int ((y0 >>> ((0 : Int32) &&& 31)).toInt8.toInt32)), (.int 0), (.ref ab)])) (fun t k => ?_) ?_
  · refine XS.ishr X2.here hx rfl (hb hby d_j52_m4_41) rfl ?_
    refine XS.i2b X2.here hx rfl (hb hby d_j52_m4_42) rfl ?_
    exact k
  refine Go.nstV X2 hx hZ e2 V_b (j := (0 : Int32)) ⟨by decide, by decide⟩ 0 rfl (Nat.le_of_ble_eq_true rfl) (Or.inr ⟨rfl, rfl⟩) (hb hby d_j52_m4_43) ?_
  intro T3 h3 X3 e3 W3 Vn3
  replace O := O.wr W3 g_ab
  have N3 := Fr.snoc X3 N0 g_ab
  replace K := K.wr W3 (Or.inl (List.mem_of_getElem? (i := 0) rfl))
  replace V_b : Arv Z h3 ab kb .byte (6 : Int32) [(.int (nar .byte ((y0 >>> ((0 : Int32) &&& 31)).toInt8.toInt32))), u1, u2, u3, u4, u5] (.int 0) := Vn3
  clear Vn3
  refine Go.st (g' := (mkF m 47 #[.val (.ref ab), .val (.int 1), .val (.int y0)] [(.int y0), (.int 1), (.ref ab)])) (fun t k => ?_) ?_
  · refine XS.aloadN X3.here hx rfl (hb hby d_j52_m4_44) rfl rfl ?_
    refine XS.iloadN X3.here hx rfl (hb hby d_j52_m4_45) rfl ?_
    refine XS.iloadN X3.here hx rfl (hb hby d_j52_m4_46) rfl ?_
    exact k
  refine Go.getS X3 hx hZ hown (wd hw 108 rfl) Via.refl e3 (S_LO.ext O.2) (hb hby d_j52_m4_47) ?_
  intro T4 X4 e4
  refine Go.st (g' := (mkF m 52 #[.val (.ref ab), .val (.int 1), .val (.int y0)] [(.int ((y0 >>> ((8 : Int32) &&& 31)).toInt8.toInt32)), (.int 1), (.ref ab)])) (fun t k => ?_) ?_
  · refine XS.ishr X4.here hx rfl (hb hby d_j52_m4_50) rfl ?_
    refine XS.i2b X4.here hx rfl (hb hby d_j52_m4_51) rfl ?_
    exact k
  refine Go.nstV X4 hx hZ e4 V_b (j := (1 : Int32)) ⟨by decide, by decide⟩ 1 rfl (Nat.le_of_ble_eq_true rfl) (Or.inr ⟨rfl, rfl⟩) (hb hby d_j52_m4_52) ?_
  intro T5 h5 X5 e5 W5 Vn5
  replace O := O.wr W5 g_ab
  have N5 := Fr.snoc X5 N3 g_ab
  replace K := K.wr W5 (Or.inl (List.mem_of_getElem? (i := 0) rfl))
  replace V_b : Arv Z h5 ab kb .byte (6 : Int32) [(.int (nar .byte ((y0 >>> ((0 : Int32) &&& 31)).toInt8.toInt32))), (.int (nar .byte ((y0 >>> ((8 : Int32) &&& 31)).toInt8.toInt32))), u2, u3, u4, u5] (.int 0) := Vn5
  clear Vn5
  show Go p e below _ T5 (mkF m 53 #[.val (.ref ab), .val (.int 1), .val (.int y0)] [])
  refine Go.retV X5 hx hlk hret (hb hby d_j52_m4_53) (by decide) (by decide) e5 ?_
  exact ⟨rfl, N5, K, V_b⟩
theorem ct_pch_3_1 (l : Launch) (Z : State) (a0 : Array Value) (hw : ∀ d ∈ tables_1, d.before a0 Z = true) (zc : Int32) (fm : Value) (G : Gl Z zc fm) (ab : Addr) (kb : ClassId) (y0 : Int32) (u0 : Value) (u1 : Value) (u2 : Value) (u3 : Value) (u4 : Value) (u5 : Value) (h0 : Heap) (n0 : Nat) (O : Old Z n0 h0) (V_b : Arv Z h0 ab kb .byte (6 : Int32) [u0, u1, u2, u3, u4, u5] (.int 0)) (g_ab : n0 ≤ ab) :
    Ct l (⟨"java/lang/StringUTF16", "putChar", "([BII)V"⟩ : MethodName) jdk_52_method_4_code 3 none ({ frames := 0, cells := 0, slots := 0, locals := 0 } : Room) Z #[(.ref ab), (.int 1), (.int y0)] h0 (fun v h L => v = none ∧ Fr n0 L ∧ Keep h0 h [ab] ∧ Arv Z h ab kb .byte (6 : Int32) [u0, u1, (.int (nar .byte ((y0 >>> ((0 : Int32) &&& 31)).toInt8.toInt32))), (.int (nar .byte ((y0 >>> ((8 : Int32) &&& 31)).toInt8.toInt32))), u4, u5] (.int 0)) := by
  refine Ct.of (plainFor_of_name pn_StringUTF16_856) ?_
  intro p e s m below meth c T0 X0 hx hby hml hown hnm hret hlk hZ e0
  have N0 := Fr.nil n0
  have G' := G
  obtain ⟨S_CS, hzc, S_FM, hfm, S_AD, S_HI, S_LO⟩ := G'
  refine Go.cast (g' := mkF m 0 #[.val (.ref ab), .val (.int 1), .val (.int y0)] []) (by first | (simp [entryFrame, mkF, argsToLocals, Value.category]; done) | rfl) ?_
  have K : Keep h0 h0 [ab] := Keep.refl _ _
  refine Go.getS X0 hx hZ hown (wd hw 106 rfl) Via.refl e0 (S_AD.ext O.2) (hb hby d_j52_m4_0) ?_
  intro T1 X1 e1
  refine Go.st (g' := (mkF m 38 #[.val (.ref ab), .val (.int 3), .val (.int y0)] [(.int y0), (.int 2), (.ref ab)])) (fun t k => ?_) ?_
  · refine XS.ifYes X1.here hx rfl (pc0 := 3) (pc' := 28) rfl (hb hby d_j52_m4_3) rfl ((if0 _ _).trans (feq (by decide : ¬ (1 : Int32) = (0 : Int32))).2) (by decide) (by decide) ?_
    refine XS.iloadN X1.here hx rfl (hb hby d_j52_m4_28) rfl ?_
    refine XS.iconst X1.here hx rfl (hb hby d_j52_m4_29) ?_
    refine XS.ishl X1.here hx rfl (hb hby d_j52_m4_30) rfl ?_
    refine XS.istoreN X1.here hx rfl (hb hby d_j52_m4_31) rfl (l' := #[.val (.ref ab), .val (.int 2), .val (.int y0)]) rfl ?_
    refine XS.aloadN X1.here hx rfl (hb hby d_j52_m4_32) rfl rfl ?_
    refine XS.iloadN X1.here hx rfl (hb hby d_j52_m4_33) rfl ?_
    refine XS.iinc X1.here hx rfl (hb hby d_j52_m4_34) rfl (l' := #[.val (.ref ab), .val (.int 3), .val (.int y0)]) rfl ?_
    refine XS.iloadN X1.here hx rfl (hb hby d_j52_m4_37) rfl ?_
    exact k
  refine Go.getS X1 hx hZ hown (wd hw 107 rfl) Via.refl e1 (S_HI.ext O.2) (hb hby d_j52_m4_38) ?_
  intro T2 X2 e2
  refine Go.st (g' := (mkF m 43 #[.val (.ref ab), .val (.int 3), .val (.int y0)] [(.int ((y0 >>> ((0 : Int32) &&& 31)).toInt8.toInt32)), (.int 2), (.ref ab)])) (fun t k => ?_) ?_
  · refine XS.ishr X2.here hx rfl (hb hby d_j52_m4_41) rfl ?_
    refine XS.i2b X2.here hx rfl (hb hby d_j52_m4_42) rfl ?_
    exact k
  refine Go.nstV X2 hx hZ e2 V_b (j := (2 : Int32)) ⟨by decide, by decide⟩ 2 rfl (Nat.le_of_ble_eq_true rfl) (Or.inr ⟨rfl, rfl⟩) (hb hby d_j52_m4_43) ?_
  intro T3 h3 X3 e3 W3 Vn3
  replace O := O.wr W3 g_ab
  have N3 := Fr.snoc X3 N0 g_ab
  replace K := K.wr W3 (Or.inl (List.mem_of_getElem? (i := 0) rfl))
  replace V_b : Arv Z h3 ab kb .byte (6 : Int32) [u0, u1, (.int (nar .byte ((y0 >>> ((0 : Int32) &&& 31)).toInt8.toInt32))), u3, u4, u5] (.int 0) := Vn3
  clear Vn3
  refine Go.st (g' := (mkF m 47 #[.val (.ref ab), .val (.int 3), .val (.int y0)] [(.int y0), (.int 3), (.ref ab)])) (fun t k => ?_) ?_
  · refine XS.aloadN X3.here hx rfl (hb hby d_j52_m4_44) rfl rfl ?_
    refine XS.iloadN X3.here hx rfl (hb hby d_j52_m4_45) rfl ?_
    refine XS.iloadN X3.here hx rfl (hb hby d_j52_m4_46) rfl ?_
    exact k
  refine Go.getS X3 hx hZ hown (wd hw 108 rfl) Via.refl e3 (S_LO.ext O.2) (hb hby d_j52_m4_47) ?_
  intro T4 X4 e4
  refine Go.st (g' := (mkF m 52 #[.val (.ref ab), .val (.int 3), .val (.int y0)] [(.int ((y0 >>> ((8 : Int32) &&& 31)).toInt8.toInt32)), (.int 3), (.ref ab)])) (fun t k => ?_) ?_
  · refine XS.ishr X4.here hx rfl (hb hby d_j52_m4_50) rfl ?_
    refine XS.i2b X4.here hx rfl (hb hby d_j52_m4_51) rfl ?_
    exact k
  refine Go.nstV X4 hx hZ e4 V_b (j := (3 : Int32)) ⟨by decide, by decide⟩ 3 rfl (Nat.le_of_ble_eq_true rfl) (Or.inr ⟨rfl, rfl⟩) (hb hby d_j52_m4_52) ?_
  intro T5 h5 X5 e5 W5 Vn5
  replace O := O.wr W5 g_ab
  have N5 := Fr.snoc X5 N3 g_ab
  replace K := K.wr W5 (Or.inl (List.mem_of_getElem? (i := 0) rfl))
  replace V_b : Arv Z h5 ab kb .byte (6 : Int32) [u0, u1, (.int (nar .byte ((y0 >>> ((0 : Int32) &&& 31)).toInt8.toInt32))), (.int (nar .byte ((y0 >>> ((8 : Int32) &&& 31)).toInt8.toInt32))), u4, u5] (.int 0) := Vn5
  clear Vn5
  show Go p e below _ T5 (mkF m 53 #[.val (.ref ab), .val (.int 3), .val (.int y0)] [])
  refine Go.retV X5 hx hlk hret (hb hby d_j52_m4_53) (by decide) (by decide) e5 ?_
  exact ⟨rfl, N5, K, V_b⟩
theorem ct_pch_3_2 (l : Launch) (Z : State) (a0 : Array Value) (hw : ∀ d ∈ tables_1, d.before a0 Z = true) (zc : Int32) (fm : Value) (G : Gl Z zc fm) (ab : Addr) (kb : ClassId) (y0 : Int32) (u0 : Value) (u1 : Value) (u2 : Value) (u3 : Value) (u4 : Value) (u5 : Value) (h0 : Heap) (n0 : Nat) (O : Old Z n0 h0) (V_b : Arv Z h0 ab kb .byte (6 : Int32) [u0, u1, u2, u3, u4, u5] (.int 0)) (g_ab : n0 ≤ ab) :
    Ct l (⟨"java/lang/StringUTF16", "putChar", "([BII)V"⟩ : MethodName) jdk_52_method_4_code 3 none ({ frames := 0, cells := 0, slots := 0, locals := 0 } : Room) Z #[(.ref ab), (.int 2), (.int y0)] h0 (fun v h L => v = none ∧ Fr n0 L ∧ Keep h0 h [ab] ∧ Arv Z h ab kb .byte (6 : Int32) [u0, u1, u2, u3, (.int (nar .byte ((y0 >>> ((0 : Int32) &&& 31)).toInt8.toInt32))), (.int (nar .byte ((y0 >>> ((8 : Int32) &&& 31)).toInt8.toInt32)))] (.int 0)) := by
  refine Ct.of (plainFor_of_name pn_StringUTF16_856) ?_
  intro p e s m below meth c T0 X0 hx hby hml hown hnm hret hlk hZ e0
  have N0 := Fr.nil n0
  have G' := G
  obtain ⟨S_CS, hzc, S_FM, hfm, S_AD, S_HI, S_LO⟩ := G'
  refine Go.cast (g' := mkF m 0 #[.val (.ref ab), .val (.int 2), .val (.int y0)] []) (by first | (simp [entryFrame, mkF, argsToLocals, Value.category]; done) | rfl) ?_
  have K : Keep h0 h0 [ab] := Keep.refl _ _
  refine Go.getS X0 hx hZ hown (wd hw 106 rfl) Via.refl e0 (S_AD.ext O.2) (hb hby d_j52_m4_0) ?_
  intro T1 X1 e1
  refine Go.st (g' := (mkF m 38 #[.val (.ref ab), .val (.int 5), .val (.int y0)] [(.int y0), (.int 4), (.ref ab)])) (fun t k => ?_) ?_
  · refine XS.ifYes X1.here hx rfl (pc0 := 3) (pc' := 28) rfl (hb hby d_j52_m4_3) rfl ((if0 _ _).trans (feq (by decide : ¬ (1 : Int32) = (0 : Int32))).2) (by decide) (by decide) ?_
    refine XS.iloadN X1.here hx rfl (hb hby d_j52_m4_28) rfl ?_
    refine XS.iconst X1.here hx rfl (hb hby d_j52_m4_29) ?_
    refine XS.ishl X1.here hx rfl (hb hby d_j52_m4_30) rfl ?_
    refine XS.istoreN X1.here hx rfl (hb hby d_j52_m4_31) rfl (l' := #[.val (.ref ab), .val (.int 4), .val (.int y0)]) rfl ?_
    refine XS.aloadN X1.here hx rfl (hb hby d_j52_m4_32) rfl rfl ?_
    refine XS.iloadN X1.here hx rfl (hb hby d_j52_m4_33) rfl ?_
    refine XS.iinc X1.here hx rfl (hb hby d_j52_m4_34) rfl (l' := #[.val (.ref ab), .val (.int 5), .val (.int y0)]) rfl ?_
    refine XS.iloadN X1.here hx rfl (hb hby d_j52_m4_37) rfl ?_
    exact k
  refine Go.getS X1 hx hZ hown (wd hw 107 rfl) Via.refl e1 (S_HI.ext O.2) (hb hby d_j52_m4_38) ?_
  intro T2 X2 e2
  refine Go.st (g' := (mkF m 43 #[.val (.ref ab), .val (.int 5), .val (.int y0)] [(.int ((y0 >>> ((0 : Int32) &&& 31)).toInt8.toInt32)), (.int 4), (.ref ab)])) (fun t k => ?_) ?_
  · refine XS.ishr X2.here hx rfl (hb hby d_j52_m4_41) rfl ?_
    refine XS.i2b X2.here hx rfl (hb hby d_j52_m4_42) rfl ?_
    exact k
  refine Go.nstV X2 hx hZ e2 V_b (j := (4 : Int32)) ⟨by decide, by decide⟩ 4 rfl (Nat.le_of_ble_eq_true rfl) (Or.inr ⟨rfl, rfl⟩) (hb hby d_j52_m4_43) ?_
  intro T3 h3 X3 e3 W3 Vn3
  replace O := O.wr W3 g_ab
  have N3 := Fr.snoc X3 N0 g_ab
  replace K := K.wr W3 (Or.inl (List.mem_of_getElem? (i := 0) rfl))
  replace V_b : Arv Z h3 ab kb .byte (6 : Int32) [u0, u1, u2, u3, (.int (nar .byte ((y0 >>> ((0 : Int32) &&& 31)).toInt8.toInt32))), u5] (.int 0) := Vn3
  clear Vn3
  refine Go.st (g' := (mkF m 47 #[.val (.ref ab), .val (.int 5), .val (.int y0)] [(.int y0), (.int 5), (.ref ab)])) (fun t k => ?_) ?_
  · refine XS.aloadN X3.here hx rfl (hb hby d_j52_m4_44) rfl rfl ?_
    refine XS.iloadN X3.here hx rfl (hb hby d_j52_m4_45) rfl ?_
    refine XS.iloadN X3.here hx rfl (hb hby d_j52_m4_46) rfl ?_
    exact k
  refine Go.getS X3 hx hZ hown (wd hw 108 rfl) Via.refl e3 (S_LO.ext O.2) (hb hby d_j52_m4_47) ?_
  intro T4 X4 e4
  refine Go.st (g' := (mkF m 52 #[.val (.ref ab), .val (.int 5), .val (.int y0)] [(.int ((y0 >>> ((8 : Int32) &&& 31)).toInt8.toInt32)), (.int 5), (.ref ab)])) (fun t k => ?_) ?_
  · refine XS.ishr X4.here hx rfl (hb hby d_j52_m4_50) rfl ?_
    refine XS.i2b X4.here hx rfl (hb hby d_j52_m4_51) rfl ?_
    exact k
  refine Go.nstV X4 hx hZ e4 V_b (j := (5 : Int32)) ⟨by decide, by decide⟩ 5 rfl (Nat.le_of_ble_eq_true rfl) (Or.inr ⟨rfl, rfl⟩) (hb hby d_j52_m4_52) ?_
  intro T5 h5 X5 e5 W5 Vn5
  replace O := O.wr W5 g_ab
  have N5 := Fr.snoc X5 N3 g_ab
  replace K := K.wr W5 (Or.inl (List.mem_of_getElem? (i := 0) rfl))
  replace V_b : Arv Z h5 ab kb .byte (6 : Int32) [u0, u1, u2, u3, (.int (nar .byte ((y0 >>> ((0 : Int32) &&& 31)).toInt8.toInt32))), (.int (nar .byte ((y0 >>> ((8 : Int32) &&& 31)).toInt8.toInt32)))] (.int 0) := Vn5
  clear Vn5
  show Go p e below _ T5 (mkF m 53 #[.val (.ref ab), .val (.int 5), .val (.int y0)] [])
  refine Go.retV X5 hx hlk hret (hb hby d_j52_m4_53) (by decide) (by decide) e5 ?_
  exact ⟨rfl, N5, K, V_b⟩
theorem ct_tob_3 (l : Launch) (Z : State) (a0 : Array Value) (hw : ∀ d ∈ tables_1, d.before a0 Z = true) (zc : Int32) (fm : Value) (G : Gl Z zc fm) (ac : Addr) (kc : ClassId) (y0 : Int32) (y1 : Int32) (y2 : Int32) (h0 : Heap) (n0 : Nat) (O : Old Z n0 h0) (V_c : Arv Z h0 ac kc .char (3 : Int32) [(.int y0), (.int y1), (.int y2)] (.int 0)) :
    Ct l (⟨"java/lang/StringUTF16", "toBytes", "([CII)[B"⟩ : MethodName) jdk_52_method_14_code 5 (some (.array .byte)) ({ frames := 2, cells := 1, slots := 6, locals := 24 } : Room) Z #[(.ref ac), (.int 0), (.int 3)] h0 (fun v h L => ∃ b kb, v = some (.ref b) ∧ Fr n0 L ∧ Keep h0 h [] ∧ h0.size ≤ b ∧ Arv Z h b kb .byte (6 : Int32) [(.int (nar .byte ((y0 >>> ((0 : Int32) &&& 31)).toInt8.toInt32))), (.int (nar .byte ((y0 >>> ((8 : Int32) &&& 31)).toInt8.toInt32))), (.int (nar .byte ((y1 >>> ((0 : Int32) &&& 31)).toInt8.toInt32))), (.int (nar .byte ((y1 >>> ((8 : Int32) &&& 31)).toInt8.toInt32))), (.int (nar .byte ((y2 >>> ((0 : Int32) &&& 31)).toInt8.toInt32))), (.int (nar .byte ((y2 >>> ((8 : Int32) &&& 31)).toInt8.toInt32)))] (.int 0)) := by
  refine Ct.of (plainFor_of_name pn_StringUTF16_856) ?_
  intro p e s m below meth c T0 X0 hx hby hml hown hnm hret hlk hZ e0
  have N0 := Fr.nil n0
  have G' := G
  obtain ⟨S_CS, hzc, S_FM, hfm, S_AD, S_HI, S_LO⟩ := G'
  refine Go.cast (g' := mkF m 0 #[.val (.ref ac), .val (.int 0), .val (.int 3), .unset, .unset] []) (by first | (simp [entryFrame, mkF, argsToLocals, Value.category]; done) | rfl) ?_
  have K : Keep h0 h0 [] := Keep.refl _ _
  refine Go.st (g' := (mkF m 1 #[.val (.ref ac), .val (.int 0), .val (.int 3), .unset, .unset] [(.int 3)])) (fun t k => ?_) ?_
  · refine XS.iloadN X0.here hx rfl (hb hby d_j52_m14_0) rfl ?_
    exact k
  refine Go.callS X0 hx hZ (W := 0) (argsL := [(.int 3)]) (rest := []) hown (wd hw 96 rfl) (wd hw 97 rfl) (wd hw 23 rfl) (wd hw 98 rfl) (by decide) (ct_nbf_3 l Z a0 hw   h0 n0 O ) e0 (by rw [hml]; rfl) (lenOf pd__I__B_1211 rfl) rfl rfl (hb hby d_j52_m14_1) ?_
  intro v1 T1 h1 L1 X1 e1 q1
  obtain ⟨ob, kb, rfl, N1, K1, lb1, V_ob⟩ := q1
  replace N1 := Fr.app N0 N1
  have ne_ac_ob : ac ≠ ob := Nat.ne_of_lt (Nat.lt_of_lt_of_le V_c.lt lb1)
  have g_ob : n0 ≤ ob := Nat.le_trans (OwnKit.Old.le O) lb1
  have sz_ob : h0.size ≤ ob := Nat.le_trans K.1 lb1
  replace V_c := V_c.keep K1 nin0
  replace O := O.keep K1 all0
  replace K := K.trans K1 all0
  refine Go.st (g' := (mkF m 19 #[.val (.ref ac), .val (.int 0), .val (.int 3), .val (.ref ob), .val (.int 0)] [(.int 0), (.ref ac), (.int 0), (.ref ob)])) (fun t k => ?_) ?_
  · refine XS.astoreN X1.here hx rfl (hb hby d_j52_m14_4) rfl rfl (l' := #[.val (.ref ac), .val (.int 0), .val (.int 3), .val (.ref ob), .unset]) rfl ?_
    refine XS.iconst X1.here hx rfl (hb hby d_j52_m14_5) ?_
    refine XS.istore X1.here hx rfl (hb hby d_j52_m14_6) rfl (l' := #[.val (.ref ac), .val (.int 0), .val (.int 3), .val (.ref ob), .val (.int 0)]) rfl ?_
    refine XS.iload X1.here hx rfl (hb hby d_j52_m14_8) rfl ?_
    refine XS.iloadN X1.here hx rfl (hb hby d_j52_m14_10) rfl ?_
    refine XS.icmpNo X1.here hx rfl (hb hby d_j52_m14_11) rfl (tlt (by decide : (0 : Int32) < (3 : Int32))).2.1 ?_
    refine XS.aloadN X1.here hx rfl (hb hby d_j52_m14_14) rfl rfl ?_
    refine XS.iload X1.here hx rfl (hb hby d_j52_m14_15) rfl ?_
    refine XS.aloadN X1.here hx rfl (hb hby d_j52_m14_17) rfl rfl ?_
    refine XS.iloadN X1.here hx rfl (hb hby d_j52_m14_18) rfl ?_
    exact k
  refine Go.aloadV X1 hx hZ e1 V_c (j := (0 : Int32)) (v := (.int y0)) ⟨by decide, by decide⟩ rfl (Or.inr (Or.inr (Or.inr (Or.inl ⟨rfl, rfl⟩)))) (hb hby d_j52_m14_19) ?_
  show Go p e below _ T1 (mkF m 20 #[.val (.ref ac), .val (.int 0), .val (.int 3), .val (.ref ob), .val (.int 0)] [(.int y0), (.int 0), (.ref ob)])
  refine Go.callS X1 hx hZ (W := 0) (argsL := [(.ref ob), (.int 0), (.int y0)]) (rest := []) hown (wd hw 103 rfl) (wd hw 104 rfl) (wd hw 23 rfl) (wd hw 105 rfl) (by decide) (ct_pch_3_0 l Z a0 hw zc fm G ob kb y0 (.int 0) (.int 0) (.int 0) (.int 0) (.int 0) (.int 0) h1 n0 O V_ob g_ob) e1 (by rw [hml]; rfl) (lenOf pd___BII_V_5129 rfl) rfl rfl (hb hby d_j52_m14_20) ?_
  intro v2 T2 h2 L2 X2 e2 q2
  obtain ⟨rfl, N2, K2, V_n2⟩ := q2
  replace N2 := Fr.app N1 N2
  replace V_c := V_c.keep K2 (ninS ne_ac_ob nin0)
  clear V_ob
  replace O := O.keep K2 (allS g_ob all0)
  replace K := K.trans K2 (allS (Or.inr sz_ob) all0)
  refine Go.st (g' := (mkF m 19 #[.val (.ref ac), .val (.int 1), .val (.int 3), .val (.ref ob), .val (.int 1)] [(.int 1), (.ref ac), (.int 1), (.ref ob)])) (fun t k => ?_) ?_
  · refine XS.iinc X2.here hx rfl (hb hby d_j52_m14_23) rfl (l' := #[.val (.ref ac), .val (.int 1), .val (.int 3), .val (.ref ob), .val (.int 0)]) rfl ?_
    refine XS.iinc X2.here hx rfl (hb hby d_j52_m14_26) rfl (l' := #[.val (.ref ac), .val (.int 1), .val (.int 3), .val (.ref ob), .val (.int 1)]) rfl ?_
    refine XS.goto X2.here hx rfl (pc0 := 29) (pc' := 8) rfl (hb hby d_j52_m14_29) (by decide) (by decide) ?_
    refine XS.iload X2.here hx rfl (hb hby d_j52_m14_8) rfl ?_
    refine XS.iloadN X2.here hx rfl (hb hby d_j52_m14_10) rfl ?_
    refine XS.icmpNo X2.here hx rfl (hb hby d_j52_m14_11) rfl (tlt (by decide : (1 : Int32) < (3 : Int32))).2.1 ?_
    refine XS.aloadN X2.here hx rfl (hb hby d_j52_m14_14) rfl rfl ?_
    refine XS.iload X2.here hx rfl (hb hby d_j52_m14_15) rfl ?_
    refine XS.aloadN X2.here hx rfl (hb hby d_j52_m14_17) rfl rfl ?_
    refine XS.iloadN X2.here hx rfl (hb hby d_j52_m14_18) rfl ?_
    exact k
  refine Go.aloadV X2 hx hZ e2 V_c (j := (1 : Int32)) (v := (.int y1)) ⟨by decide, by decide⟩ rfl (Or.inr (Or.inr (Or.inr (Or.inl ⟨rfl, rfl⟩)))) (hb hby d_j52_m14_19) ?_
  show Go p e below _ T2 (mkF m 20 #[.val (.ref ac), .val (.int 1), .val (.int 3), .val (.ref ob), .val (.int 1)] [(.int y1), (.int 1), (.ref ob)])
  refine Go.callS X2 hx hZ (W := 0) (argsL := [(.ref ob), (.int 1), (.int y1)]) (rest := []) hown (wd hw 103 rfl) (wd hw 104 rfl) (wd hw 23 rfl) (wd hw 105 rfl) (by decide) (ct_pch_3_1 l Z a0 hw zc fm G ob kb y1 (.int (nar .byte ((y0 >>> ((0 : Int32) &&& 31)).toInt8.toInt32))) (.int (nar .byte ((y0 >>> ((8 : Int32) &&& 31)).toInt8.toInt32))) (.int 0) (.int 0) (.int 0) (.int 0) h2 n0 O V_n2 g_ob) e2 (by rw [hml]; rfl) (lenOf pd___BII_V_5129 rfl) rfl rfl (hb hby d_j52_m14_20) ?_
  intro v3 T3 h3 L3 X3 e3 q3
  obtain ⟨rfl, N3, K3, V_n3⟩ := q3
  replace N3 := Fr.app N2 N3
  replace V_c := V_c.keep K3 (ninS ne_ac_ob nin0)
  clear V_n2
  replace O := O.keep K3 (allS g_ob all0)
  replace K := K.trans K3 (allS (Or.inr sz_ob) all0)
  refine Go.st (g' := (mkF m 19 #[.val (.ref ac), .val (.int 2), .val (.int 3), .val (.ref ob), .val (.int 2)] [(.int 2), (.ref ac), (.int 2), (.ref ob)])) (fun t k => ?_) ?_
  · refine XS.iinc X3.here hx rfl (hb hby d_j52_m14_23) rfl (l' := #[.val (.ref ac), .val (.int 2), .val (.int 3), .val (.ref ob), .val (.int 1)]) rfl ?_
    refine XS.iinc X3.here hx rfl (hb hby d_j52_m14_26) rfl (l' := #[.val (.ref ac), .val (.int 2), .val (.int 3), .val (.ref ob), .val (.int 2)]) rfl ?_
    refine XS.goto X3.here hx rfl (pc0 := 29) (pc' := 8) rfl (hb hby d_j52_m14_29) (by decide) (by decide) ?_
    refine XS.iload X3.here hx rfl (hb hby d_j52_m14_8) rfl ?_
    refine XS.iloadN X3.here hx rfl (hb hby d_j52_m14_10) rfl ?_
    refine XS.icmpNo X3.here hx rfl (hb hby d_j52_m14_11) rfl (tlt (by decide : (2 : Int32) < (3 : Int32))).2.1 ?_
    refine XS.aloadN X3.here hx rfl (hb hby d_j52_m14_14) rfl rfl ?_
    refine XS.iload X3.here hx rfl (hb hby d_j52_m14_15) rfl ?_
    refine XS.aloadN X3.here hx rfl (hb hby d_j52_m14_17) rfl rfl ?_
    refine XS.iloadN X3.here hx rfl (hb hby d_j52_m14_18) rfl ?_
    exact k
  refine Go.aloadV X3 hx hZ e3 V_c (j := (2 : Int32)) (v := (.int y2)) ⟨by decide, by decide⟩ rfl (Or.inr (Or.inr (Or.inr (Or.inl ⟨rfl, rfl⟩)))) (hb hby d_j52_m14_19) ?_
  show Go p e below _ T3 (mkF m 20 #[.val (.ref ac), .val (.int 2), .val (.int 3), .val (.ref ob), .val (.int 2)] [(.int y2), (.int 2), (.ref ob)])
  refine Go.callS X3 hx hZ (W := 0) (argsL := [(.ref ob), (.int 2), (.int y2)]) (rest := []) hown (wd hw 103 rfl) (wd hw 104 rfl) (wd hw 23 rfl) (wd hw 105 rfl) (by decide) (ct_pch_3_2 l Z a0 hw zc fm G ob kb y2 (.int (nar .byte ((y0 >>> ((0 : Int32) &&& 31)).toInt8.toInt32))) (.int (nar .byte ((y0 >>> ((8 : Int32) &&& 31)).toInt8.toInt32))) (.int (nar .byte ((y1 >>> ((0 : Int32) &&& 31)).toInt8.toInt32))) (.int (nar .byte ((y1 >>> ((8 : Int32) &&& 31)).toInt8.toInt32))) (.int 0) (.int 0) h3 n0 O V_n3 g_ob) e3 (by rw [hml]; rfl) (lenOf pd___BII_V_5129 rfl) rfl rfl (hb hby d_j52_m14_20) ?_
  intro v4 T4 h4 L4 X4 e4 q4
  obtain ⟨rfl, N4, K4, V_n4⟩ := q4
  replace N4 := Fr.app N3 N4
  replace V_c := V_c.keep K4 (ninS ne_ac_ob nin0)
  clear V_n3
  replace O := O.keep K4 (allS g_ob all0)
  replace K := K.trans K4 (allS (Or.inr sz_ob) all0)
  refine Go.st (g' := (mkF m 33 #[.val (.ref ac), .val (.int 3), .val (.int 3), .val (.ref ob), .val (.int 3)] [(.ref ob)])) (fun t k => ?_) ?_
  · refine XS.iinc X4.here hx rfl (hb hby d_j52_m14_23) rfl (l' := #[.val (.ref ac), .val (.int 3), .val (.int 3), .val (.ref ob), .val (.int 2)]) rfl ?_
    refine XS.iinc X4.here hx rfl (hb hby d_j52_m14_26) rfl (l' := #[.val (.ref ac), .val (.int 3), .val (.int 3), .val (.ref ob), .val (.int 3)]) rfl ?_
    refine XS.goto X4.here hx rfl (pc0 := 29) (pc' := 8) rfl (hb hby d_j52_m14_29) (by decide) (by decide) ?_
    refine XS.iload X4.here hx rfl (hb hby d_j52_m14_8) rfl ?_
    refine XS.iloadN X4.here hx rfl (hb hby d_j52_m14_10) rfl ?_
    refine XS.icmpYes X4.here hx rfl (pc0 := 11) (pc' := 32) rfl (hb hby d_j52_m14_11) rfl (flt (by decide : ¬ (3 : Int32) < (3 : Int32))).2.1 (by decide) (by decide) ?_
    refine XS.aloadN X4.here hx rfl (hb hby d_j52_m14_32) rfl rfl ?_
    exact k
  refine Go.retA X4 hx hlk hret rfl rfl (hb hby d_j52_m14_33) (by decide) (by decide) e4 ?_
  exact ⟨ob, _, rfl, N4, K, sz_ob, V_n4⟩
theorem ct_gch_3_0 (l : Launch) (Z : State) (a0 : Array Value) (hw : ∀ d ∈ tables_1, d.before a0 Z = true) (zc : Int32) (fm : Value) (G : Gl Z zc fm) (ab : Addr) (kb : ClassId) (y0 : Int32) (u2 : Value) (u3 : Value) (u4 : Value) (u5 : Value) (h0 : Heap) (n0 : Nat) (O : Old Z n0 h0) (V_b : Arv Z h0 ab kb .byte (6 : Int32) [(.int (nar .byte ((y0 >>> ((0 : Int32) &&& 31)).toInt8.toInt32))), (.int (nar .byte ((y0 >>> ((8 : Int32) &&& 31)).toInt8.toInt32))), u2, u3, u4, u5] (.int 0)) (hr0 : 0 ≤ y0.toInt ∧ y0.toInt < 65536) :
    Ct l (⟨"java/lang/StringUTF16", "getChar", "([BI)C"⟩ : MethodName) jdk_52_method_5_code 2 (some .char) ({ frames := 0, cells := 0, slots := 0, locals := 0 } : Room) Z #[(.ref ab), (.int 0)] h0 (fun v h L => v = some (.int y0) ∧ Fr n0 L ∧ h0 = h) := by
  refine Ct.of (plainFor_of_name pn_StringUTF16_856) ?_
  intro p e s m below meth c T0 X0 hx hby hml hown hnm hret hlk hZ e0
  have N0 := Fr.nil n0
  have G' := G
  obtain ⟨S_CS, hzc, S_FM, hfm, S_AD, S_HI, S_LO⟩ := G'
  refine Go.cast (g' := mkF m 0 #[.val (.ref ab), .val (.int 0)] []) (by first | (simp [entryFrame, mkF, argsToLocals, Value.category]; done) | rfl) ?_
  refine Go.getS X0 hx hZ hown (wd hw 106 rfl) Via.refl e0 (S_AD.ext O.2) (hb hby d_j52_m5_0) ?_
  intro T1 X1 e1
  refine Go.st (g' := (mkF m 37 #[.val (.ref ab), .val (.int 1)] [(.int 0), (.ref ab)])) (fun t k => ?_) ?_
  · refine XS.ifYes X1.here hx rfl (pc0 := 3) (pc' := 28) rfl (hb hby d_j52_m5_3) rfl ((if0 _ _).trans (feq (by decide : ¬ (1 : Int32) = (0 : Int32))).2) (by decide) (by decide) ?_
    refine XS.iloadN X1.here hx rfl (hb hby d_j52_m5_28) rfl ?_
    refine XS.iconst X1.here hx rfl (hb hby d_j52_m5_29) ?_
    refine XS.ishl X1.here hx rfl (hb hby d_j52_m5_30) rfl ?_
    refine XS.istoreN X1.here hx rfl (hb hby d_j52_m5_31) rfl (l' := #[.val (.ref ab), .val (.int 0)]) rfl ?_
    refine XS.aloadN X1.here hx rfl (hb hby d_j52_m5_32) rfl rfl ?_
    refine XS.iloadN X1.here hx rfl (hb hby d_j52_m5_33) rfl ?_
    refine XS.iinc X1.here hx rfl (hb hby d_j52_m5_34) rfl (l' := #[.val (.ref ab), .val (.int 1)]) rfl ?_
    exact k
  refine Go.aloadV X1 hx hZ e1 V_b (j := (0 : Int32)) (v := (.int (nar .byte ((y0 >>> ((0 : Int32) &&& 31)).toInt8.toInt32)))) ⟨by decide, by decide⟩ rfl (Or.inr (Or.inr (Or.inr (Or.inr (Or.inr ⟨rfl, rfl⟩))))) (hb hby d_j52_m5_37) ?_
  refine Go.st (g' := (mkF m 42 #[.val (.ref ab), .val (.int 1)] [(.int ((nar .byte ((y0 >>> ((0 : Int32) &&& 31)).toInt8.toInt32)) &&& (255 : Int32)))])) (fun t k => ?_) ?_
  · refine XS.sipush X1.here hx rfl (hb hby d_j52_m5_38) ?_
    refine XS.iand X1.here hx rfl (hb hby d_j52_m5_41) rfl ?_
    exact k
  refine Go.getS X1 hx hZ hown (wd hw 107 rfl) Via.refl e1 (S_HI.ext O.2) (hb hby d_j52_m5_42) ?_
  intro T2 X2 e2
  refine Go.st (g' := (mkF m 48 #[.val (.ref ab), .val (.int 1)] [(.int 1), (.ref ab), (.int (((nar .byte ((y0 >>> ((0 : Int32) &&& 31)).toInt8.toInt32)) &&& (255 : Int32)) <<< ((0 : Int32) &&& 31)))])) (fun t k => ?_) ?_
  · refine XS.ishl X2.here hx rfl (hb hby d_j52_m5_45) rfl ?_
    refine XS.aloadN X2.here hx rfl (hb hby d_j52_m5_46) rfl rfl ?_
    refine XS.iloadN X2.here hx rfl (hb hby d_j52_m5_47) rfl ?_
    exact k
  refine Go.aloadV X2 hx hZ e2 V_b (j := (1 : Int32)) (v := (.int (nar .byte ((y0 >>> ((8 : Int32) &&& 31)).toInt8.toInt32)))) ⟨by decide, by decide⟩ rfl (Or.inr (Or.inr (Or.inr (Or.inr (Or.inr ⟨rfl, rfl⟩))))) (hb hby d_j52_m5_48) ?_
  refine Go.st (g' := (mkF m 53 #[.val (.ref ab), .val (.int 1)] [(.int ((nar .byte ((y0 >>> ((8 : Int32) &&& 31)).toInt8.toInt32)) &&& (255 : Int32))), (.int (((nar .byte ((y0 >>> ((0 : Int32) &&& 31)).toInt8.toInt32)) &&& (255 : Int32)) <<< ((0 : Int32) &&& 31)))])) (fun t k => ?_) ?_
  · refine XS.sipush X2.here hx rfl (hb hby d_j52_m5_49) ?_
    refine XS.iand X2.here hx rfl (hb hby d_j52_m5_52) rfl ?_
    exact k
  refine Go.getS X2 hx hZ hown (wd hw 108 rfl) Via.refl e2 (S_LO.ext O.2) (hb hby d_j52_m5_53) ?_
  intro T3 X3 e3
  refine Go.st (g' := (mkF m 59 #[.val (.ref ab), .val (.int 1)] [(.int (((((nar .byte ((y0 >>> ((0 : Int32) &&& 31)).toInt8.toInt32)) &&& (255 : Int32)) <<< ((0 : Int32) &&& 31)) ||| (((nar .byte ((y0 >>> ((8 : Int32) &&& 31)).toInt8.toInt32)) &&& (255 : Int32)) <<< ((8 : Int32) &&& 31))).toUInt32.toUInt16.toUInt32.toInt32))])) (fun t k => ?_) ?_
  · refine XS.ishl X3.here hx rfl (hb hby d_j52_m5_56) rfl ?_
    refine XS.ior X3.here hx rfl (hb hby d_j52_m5_57) rfl ?_
    refine XS.i2c X3.here hx rfl (hb hby d_j52_m5_58) rfl ?_
    exact k
  refine Go.retS X3 hx hlk hret (by simp) (own_nc _) (hb hby d_j52_m5_59) (by decide) (by decide) e3 ?_
  exact ⟨by rw [own_gc hr0], N0, rfl⟩
theorem ct_cmp3_3_0 (l : Launch) (Z : State) (a0 : Array Value) (hw : ∀ d ∈ tables_1, d.before a0 Z = true) (zc : Int32) (fm : Value) (G : Gl Z zc fm) (ac : Addr) (kc : ClassId) (y0 : Int32) (y1 : Int32) (y2 : Int32) (h0 : Heap) (n0 : Nat) (O : Old Z n0 h0) (V_c : Arv Z h0 ac kc .char (3 : Int32) [(.int y0), (.int y1), (.int y2)] (.int 0)) (hr0 : 0 ≤ y0.toInt ∧ y0.toInt < 65536) (hr1 : 0 ≤ y1.toInt ∧ y1.toInt < 65536) (hr2 : 0 ≤ y2.toInt ∧ y2.toInt < 65536) (hv0 : (255 : Int32) < y0) :
    Ct l (⟨"java/lang/StringUTF16", "compress", "([CII)[B"⟩ : MethodName) jdk_52_method_16_code 6 (some (.array .byte)) ({ frames := 3, cells := 2, slots := 9, locals := 40 } : Room) Z #[(.ref ac), (.int 0), (.int 3)] h0 (fun v h L => ∃ b kb, v = some (.ref b) ∧ Fr n0 L ∧ Keep h0 h [] ∧ h0.size ≤ b ∧ Arv Z h b kb .byte (6 : Int32) [(.int (nar .byte ((y0 >>> ((0 : Int32) &&& 31)).toInt8.toInt32))), (.int (nar .byte ((y0 >>> ((8 : Int32) &&& 31)).toInt8.toInt32))), (.int (nar .byte ((y1 >>> ((0 : Int32) &&& 31)).toInt8.toInt32))), (.int (nar .byte ((y1 >>> ((8 : Int32) &&& 31)).toInt8.toInt32))), (.int (nar .byte ((y2 >>> ((0 : Int32) &&& 31)).toInt8.toInt32))), (.int (nar .byte ((y2 >>> ((8 : Int32) &&& 31)).toInt8.toInt32)))] (.int 0)) := by
  refine Ct.of (plainFor_of_name pn_StringUTF16_856) ?_
  intro p e s m below meth c T0 X0 hx hby hml hown hnm hret hlk hZ e0
  have N0 := Fr.nil n0
  have G' := G
  obtain ⟨S_CS, hzc, S_FM, hfm, S_AD, S_HI, S_LO⟩ := G'
  refine Go.cast (g' := mkF m 0 #[.val (.ref ac), .val (.int 0), .val (.int 3), .unset, .unset, .unset] []) (by first | (simp [entryFrame, mkF, argsToLocals, Value.category]; done) | rfl) ?_
  have K : Keep h0 h0 [] := Keep.refl _ _
  refine Go.st (g' := (mkF m 1 #[.val (.ref ac), .val (.int 0), .val (.int 3), .unset, .unset, .unset] [(.int 3)])) (fun t k => ?_) ?_
  · refine XS.iloadN X0.here hx rfl (hb hby d_j52_m16_0) rfl ?_
    exact k
  refine Go.newP X0 hx hZ (wd hw 25 rfl) e0 (hb hby d_j52_m16_1) (by decide) (cap := 3) (by decide) (by decide) (by decide) (by decide) ?_
  intro T1 h1 b1 k1 X1 e1 E1 g1 V_b1
  have lb1 := Nat.le_of_eq g1.symm
  have ne_ac_b1 : ac ≠ b1 := Nat.ne_of_lt (Nat.lt_of_lt_of_le V_c.lt lb1)
  have g_b1 : n0 ≤ b1 := Nat.le_trans (OwnKit.Old.le O) lb1
  have sz_b1 : h0.size ≤ b1 := Nat.le_trans K.1 lb1
  replace V_c := V_c.ext E1
  replace O := O.ext E1
  replace K := K.ext E1
  replace V_b1 := V_b1.pad (pad_rep [] (.int 0) 3)
  replace V_b1 : Arv Z h1 b1 k1 .byte (3 : Int32) [(.int 0), (.int 0), (.int 0)] (.int 0) := V_b1
  refine Go.st (g' := (mkF m 9 #[.val (.ref ac), .val (.int 0), .val (.int 3), .val (.ref b1), .unset, .unset] [(.int 3), (.int 0), (.ref b1), (.int 0), (.ref ac)])) (fun t k => ?_) ?_
  · refine XS.astoreN X1.here hx rfl (hb hby d_j52_m16_3) rfl rfl (l' := #[.val (.ref ac), .val (.int 0), .val (.int 3), .val (.ref b1), .unset, .unset]) rfl ?_
    refine XS.aloadN X1.here hx rfl (hb hby d_j52_m16_4) rfl rfl ?_
    refine XS.iloadN X1.here hx rfl (hb hby d_j52_m16_5) rfl ?_
    refine XS.aloadN X1.here hx rfl (hb hby d_j52_m16_6) rfl rfl ?_
    refine XS.iconst X1.here hx rfl (hb hby d_j52_m16_7) ?_
    refine XS.iloadN X1.here hx rfl (hb hby d_j52_m16_8) rfl ?_
    exact k
  refine Go.callS X1 hx hZ (W := 0) (argsL := [(.ref ac), (.int 0), (.ref b1), (.int 0), (.int 3)]) (rest := []) hown (wd hw 26 rfl) (wd hw 27 rfl) (wd hw 23 rfl) (wd hw 28 rfl) (by decide) (ct_cmp5_3_0 l Z a0 hw  ac kc b1 k1 y0 y1 y2 h1 n0 O V_c V_b1 g_b1 ne_ac_b1 hv0) e1 (by rw [hml]; rfl) (lenOf pd___CI_BII_I_6624 rfl) rfl rfl (hb hby d_j52_m16_9) ?_
  intro v2 T2 h2 L2 X2 e2 q2
  obtain ⟨rfl, N2, K2, V_n2⟩ := q2
  replace N2 := Fr.app N0 N2
  replace V_c := V_c.keep K2 (ninS ne_ac_b1 nin0)
  clear V_b1
  replace O := O.keep K2 (allS g_b1 all0)
  replace K := K.trans K2 (allS (Or.inr sz_b1) all0)
  refine Go.st (g' := (mkF m 23 #[.val (.ref ac), .val (.int 0), .val (.int 3), .val (.ref b1), .val (.int 0), .unset] [(.int 3), (.int 0), (.ref ac)])) (fun t k => ?_) ?_
  · refine XS.istore X2.here hx rfl (hb hby d_j52_m16_12) rfl (l' := #[.val (.ref ac), .val (.int 0), .val (.int 3), .val (.ref b1), .val (.int 0), .unset]) rfl ?_
    refine XS.iload X2.here hx rfl (hb hby d_j52_m16_14) rfl ?_
    refine XS.iloadN X2.here hx rfl (hb hby d_j52_m16_16) rfl ?_
    refine XS.icmpNo X2.here hx rfl (hb hby d_j52_m16_17) rfl (feq (by decide : ¬ (0 : Int32) = (3 : Int32))).1 ?_
    refine XS.aloadN X2.here hx rfl (hb hby d_j52_m16_20) rfl rfl ?_
    refine XS.iloadN X2.here hx rfl (hb hby d_j52_m16_21) rfl ?_
    refine XS.iloadN X2.here hx rfl (hb hby d_j52_m16_22) rfl ?_
    exact k
  refine Go.callS X2 hx hZ (W := 0) (argsL := [(.ref ac), (.int 0), (.int 3)]) (rest := []) hown (wd hw 93 rfl) (wd hw 94 rfl) (wd hw 23 rfl) (wd hw 95 rfl) (by decide) (ct_tob_3 l Z a0 hw zc fm G ac kc y0 y1 y2 h2 n0 O V_c) e2 (by rw [hml]; rfl) (lenOf pd___CII__B_8269 rfl) rfl rfl (hb hby d_j52_m16_23) ?_
  intro v3 T3 h3 L3 X3 e3 q3
  obtain ⟨ot, kt, rfl, N3, K3, lb3, V_ot⟩ := q3
  replace N3 := Fr.app N2 N3
  have ne_ac_ot : ac ≠ ot := Nat.ne_of_lt (Nat.lt_of_lt_of_le V_c.lt lb3)
  have ne_b1_ot : b1 ≠ ot := Nat.ne_of_lt (Nat.lt_of_lt_of_le V_n2.lt lb3)
  have g_ot : n0 ≤ ot := Nat.le_trans (OwnKit.Old.le O) lb3
  have sz_ot : h0.size ≤ ot := Nat.le_trans K.1 lb3
  replace V_c := V_c.keep K3 nin0
  replace V_n2 := V_n2.keep K3 nin0
  replace O := O.keep K3 all0
  replace K := K.trans K3 all0
  refine Go.st (g' := (mkF m 32 #[.val (.ref ac), .val (.int 0), .val (.int 3), .val (.ref b1), .val (.int 0), .val (.ref ot)] [(.int 0), (.ref ot)])) (fun t k => ?_) ?_
  · refine XS.astore X3.here hx rfl (hb hby d_j52_m16_26) rfl rfl (l' := #[.val (.ref ac), .val (.int 0), .val (.int 3), .val (.ref b1), .val (.int 0), .val (.ref ot)]) rfl ?_
    refine XS.aload X3.here hx rfl (hb hby d_j52_m16_28) rfl rfl ?_
    refine XS.iload X3.here hx rfl (hb hby d_j52_m16_30) rfl ?_
    exact k
  refine Go.callS X3 hx hZ (W := 0) (argsL := [(.ref ot), (.int 0)]) (rest := []) hown (wd hw 109 rfl) (wd hw 110 rfl) (wd hw 23 rfl) (wd hw 111 rfl) (by decide) (ct_gch_3_0 l Z a0 hw zc fm G ot kt y0 (.int (nar .byte ((y1 >>> ((0 : Int32) &&& 31)).toInt8.toInt32))) (.int (nar .byte ((y1 >>> ((8 : Int32) &&& 31)).toInt8.toInt32))) (.int (nar .byte ((y2 >>> ((0 : Int32) &&& 31)).toInt8.toInt32))) (.int (nar .byte ((y2 >>> ((8 : Int32) &&& 31)).toInt8.toInt32))) h3 n0 O V_ot hr0) e3 (by rw [hml]; rfl) (lenOf pd___BI_C_7586 rfl) rfl rfl (hb hby d_j52_m16_32) ?_
  intro v4 T4 h4 L4 X4 e4 q4
  obtain ⟨rfl, N4, rfl⟩ := q4
  replace N4 := Fr.app N3 N4
  refine Go.st (g' := (mkF m 56 #[.val (.ref ac), .val (.int 0), .val (.int 3), .val (.ref b1), .val (.int 0), .val (.ref ot)] [(.ref ot)])) (fun t k => ?_) ?_
  · refine XS.sipush X4.here hx rfl (hb hby d_j52_m16_35) ?_
    refine XS.icmpYes X4.here hx rfl (pc0 := 38) (pc' := 54) rfl (hb hby d_j52_m16_38) rfl (tlt hv0).2.2.1 (by decide) (by decide) ?_
    refine XS.aload X4.here hx rfl (hb hby d_j52_m16_54) rfl rfl ?_
    exact k
  refine Go.retA X4 hx hlk hret rfl rfl (hb hby d_j52_m16_56) (by decide) (by decide) e4 ?_
  exact ⟨ot, _, rfl, N4, K, sz_ot, V_ot⟩
theorem ct_cfa_3_6 (l : Launch) (Z : State) (a0 : Array Value) (hw : ∀ d ∈ tables_1, d.before a0 Z = true) (ab : Addr) (kb : ClassId) (u0 : Value) (u1 : Value) (u2 : Value) (u3 : Value) (u4 : Value) (u5 : Value) (h0 : Heap) (n0 : Nat) (O : Old Z n0 h0) (V_b : Arv Z h0 ab kb .byte (6 : Int32) [u0, u1, u2, u3, u4, u5] (.int 0)) :
    Ct l (⟨"java/lang/StringUTF16", "coderFromArrayLen", "([BI)B"⟩ : MethodName) jdk_52_method_15_code 2 (some .byte) ({ frames := 0, cells := 0, slots := 0, locals := 0 } : Room) Z #[(.ref ab), (.int 3)] h0 (fun v h L => v = some (.int 1) ∧ Fr n0 L ∧ h0 = h) := by
  refine Ct.of (plainFor_of_name pn_StringUTF16_856) ?_
  intro p e s m below meth c T0 X0 hx hby hml hown hnm hret hlk hZ e0
  have N0 := Fr.nil n0
  refine Go.cast (g' := mkF m 0 #[.val (.ref ab), .val (.int 3)] []) (by first | (simp [entryFrame, mkF, argsToLocals, Value.category]; done) | rfl) ?_
  refine Go.st (g' := (mkF m 2 #[.val (.ref ab), .val (.int 3)] [(.ref ab), (.int 3)])) (fun t k => ?_) ?_
  · refine XS.iloadN X0.here hx rfl (hb hby d_j52_m15_0) rfl ?_
    refine XS.aloadN X0.here hx rfl (hb hby d_j52_m15_1) rfl rfl ?_
    exact k
  refine Go.alenV X0 hx hZ e0 V_b (hb hby d_j52_m15_2) ?_
  refine Go.st (g' := (mkF m 8 #[.val (.ref ab), .val (.int 3)] [(.int 1)])) (fun t k => ?_) ?_
  · refine XS.isub X0.here hx rfl (hb hby d_j52_m15_3) rfl ?_
    refine XS.bipush X0.here hx rfl (hb hby d_j52_m15_4) ?_
    refine XS.iushr X0.here hx rfl (hb hby d_j52_m15_6) rfl ?_
    refine XS.i2b X0.here hx rfl (hb hby d_j52_m15_7) rfl ?_
    exact k
  refine Go.retS X0 hx hlk hret (by simp) rfl (hb hby d_j52_m15_8) (by decide) (by decide) e0 ?_
  exact ⟨rfl, N0, rfl⟩
theorem ct_si4_3_0 (l : Launch) (Z : State) (a0 : Array Value) (hw : ∀ d ∈ tables_1, d.before a0 Z = true) (zc : Int32) (fm : Value) (G : Gl Z zc fm) (a1 : Addr) (ac : Addr) (kc : ClassId) (y0 : Int32) (y1 : Int32) (y2 : Int32) (h0 : Heap) (n0 : Nat) (O : Old Z n0 h0) (E_a1 : Exa Z h0 a1 "java/lang/String") (F_a1_value : Fld Z h0 a1 "java/lang/String" "value" "[B" .null) (F_a1_coder : Fld Z h0 a1 "java/lang/String" "coder" "B" (.int 0)) (g_a1 : n0 ≤ a1) (V_c : Arv Z h0 ac kc .char (3 : Int32) [(.int y0), (.int y1), (.int y2)] (.int 0)) (ne_a1_ac : a1 ≠ ac) (hr0 : 0 ≤ y0.toInt ∧ y0.toInt < 65536) (hr1 : 0 ≤ y1.toInt ∧ y1.toInt < 65536) (hr2 : 0 ≤ y2.toInt ∧ y2.toInt < 65536) (hv0 : (255 : Int32) < y0) :
    Ct l (⟨"java/lang/String", "<init>", "([CIILjava/lang/Void;)V"⟩ : MethodName) jdk_42_method_149_code 6 none ({ frames := 4, cells := 2, slots := 9, locals := 57 } : Room) Z #[(.ref a1), (.ref ac), (.int 0), (.int 3), .null] h0 (fun v h L => ∃ b kb, v = none ∧ Fr n0 L ∧ Keep h0 h [a1] ∧ Fld Z h a1 "java/lang/String" "value" "[B" (.ref b) ∧ Fld Z h a1 "java/lang/String" "coder" "B" (.int 1) ∧ Arv Z h b kb .byte (6 : Int32) [(.int (nar .byte ((y0 >>> ((0 : Int32) &&& 31)).toInt8.toInt32))), (.int (nar .byte ((y0 >>> ((8 : Int32) &&& 31)).toInt8.toInt32))), (.int (nar .byte ((y1 >>> ((0 : Int32) &&& 31)).toInt8.toInt32))), (.int (nar .byte ((y1 >>> ((8 : Int32) &&& 31)).toInt8.toInt32))), (.int (nar .byte ((y2 >>> ((0 : Int32) &&& 31)).toInt8.toInt32))), (.int (nar .byte ((y2 >>> ((8 : Int32) &&& 31)).toInt8.toInt32)))] (.int 0)) := by
  refine Ct.of (plainFor_of_name pn_String_837) ?_
  intro p e s m below meth c T0 X0 hx hby hml hown hnm hret hlk hZ e0
  have N0 := Fr.nil n0
  have G' := G
  obtain ⟨S_CS, hzc, S_FM, hfm, S_AD, S_HI, S_LO⟩ := G'
  refine Go.cast (g' := mkF m 0 #[.val (.ref a1), .val (.ref ac), .val (.int 0), .val (.int 3), .val .null, .unset] []) (by first | (simp [entryFrame, mkF, argsToLocals, Value.category]; done) | rfl) ?_
  have K : Keep h0 h0 [a1] := Keep.refl _ _
  refine Go.st (g' := (mkF m 1 #[.val (.ref a1), .val (.ref ac), .val (.int 0), .val (.int 3), .val .null, .unset] [(.ref a1)])) (fun t k => ?_) ?_
  · refine XS.aloadN X0.here hx rfl (hb hby d_j42_m149_0) rfl rfl ?_
    exact k
  refine Go.initO X0 hx hZ hown (wd hw 17 rfl) (wd hw 18 rfl) (wd hw 19 rfl) e0 (by rw [hml]; rfl) (hb hby d_j42_m149_1) (by decide) (W := 0) rfl (by decide) ?_
  intro T1 X1 e1
  refine Go.st (g' := (mkF m 27 #[.val (.ref a1), .val (.ref ac), .val (.int 0), .val (.int 3), .val .null, .unset] [])) (fun t k => ?_) ?_
  · refine XS.iloadN X1.here hx rfl (hb hby d_j42_m149_4) rfl ?_
    refine XS.ifYes X1.here hx rfl (pc0 := 5) (pc' := 27) rfl (hb hby d_j42_m149_5) rfl ((if0 _ _).trans (feq (by decide : ¬ (3 : Int32) = (0 : Int32))).2) (by decide) (by decide) ?_
    exact k
  refine Go.getS X1 hx hZ hown (wd hw 20 rfl) Via.refl e1 (S_CS.ext O.2) (hb hby d_j42_m149_27) ?_
  intro T2 X2 e2
  refine Go.st (g' := (mkF m 36 #[.val (.ref a1), .val (.ref ac), .val (.int 0), .val (.int 3), .val .null, .unset] [(.int 3), (.int 0), (.ref ac)])) (fun t k => ?_) ?_
  · refine XS.ifNo X2.here hx rfl (hb hby d_j42_m149_30) rfl ((if0 _ _).trans (feq hzc).1) ?_
    refine XS.aloadN X2.here hx rfl (hb hby d_j42_m149_33) rfl rfl ?_
    refine XS.iloadN X2.here hx rfl (hb hby d_j42_m149_34) rfl ?_
    refine XS.iloadN X2.here hx rfl (hb hby d_j42_m149_35) rfl ?_
    exact k
  refine Go.callS X2 hx hZ (W := 0) (argsL := [(.ref ac), (.int 0), (.int 3)]) (rest := []) hown (wd hw 21 rfl) (wd hw 22 rfl) (wd hw 23 rfl) (wd hw 24 rfl) (by decide) (ct_cmp3_3_0 l Z a0 hw zc fm G ac kc y0 y1 y2 h0 n0 O V_c hr0 hr1 hr2 hv0) e2 (by rw [hml]; rfl) (lenOf pd___CII__B_8269 rfl) rfl rfl (hb hby d_j42_m149_36) ?_
  intro v3 T3 h3 L3 X3 e3 q3
  obtain ⟨ob, kb, rfl, N3, K3, lb3, V_ob⟩ := q3
  replace N3 := Fr.app N0 N3
  have ne_a1_ob : a1 ≠ ob := Nat.ne_of_lt (Nat.lt_of_lt_of_le E_a1.lt lb3)
  have ne_ac_ob : ac ≠ ob := Nat.ne_of_lt (Nat.lt_of_lt_of_le V_c.lt lb3)
  have g_ob : n0 ≤ ob := Nat.le_trans (OwnKit.Old.le O) lb3
  have sz_ob : h0.size ≤ ob := Nat.le_trans K.1 lb3
  replace E_a1 := E_a1.keep K3
  replace F_a1_value := F_a1_value.keep K3 nin0
  replace F_a1_coder := F_a1_coder.keep K3 nin0
  replace V_c := V_c.keep K3 nin0
  replace O := O.keep K3 all0
  replace K := K.trans K3 all0
  refine Go.st (g' := (mkF m 45 #[.val (.ref a1), .val (.ref ac), .val (.int 0), .val (.int 3), .val .null, .val (.ref ob)] [(.int 3), (.ref ob), (.ref a1)])) (fun t k => ?_) ?_
  · refine XS.astore X3.here hx rfl (hb hby d_j42_m149_39) rfl rfl (l' := #[.val (.ref a1), .val (.ref ac), .val (.int 0), .val (.int 3), .val .null, .val (.ref ob)]) rfl ?_
    refine XS.aloadN X3.here hx rfl (hb hby d_j42_m149_41) rfl rfl ?_
    refine XS.aload X3.here hx rfl (hb hby d_j42_m149_42) rfl rfl ?_
    refine XS.iloadN X3.here hx rfl (hb hby d_j42_m149_44) rfl ?_
    exact k
  refine Go.callS X3 hx hZ (W := 1) (argsL := [(.ref ob), (.int 3)]) (rest := [(.ref a1)]) hown (wd hw 29 rfl) (wd hw 30 rfl) (wd hw 23 rfl) (wd hw 31 rfl) (by decide) (ct_cfa_3_6 l Z a0 hw  ob kb (.int (nar .byte ((y0 >>> ((0 : Int32) &&& 31)).toInt8.toInt32))) (.int (nar .byte ((y0 >>> ((8 : Int32) &&& 31)).toInt8.toInt32))) (.int (nar .byte ((y1 >>> ((0 : Int32) &&& 31)).toInt8.toInt32))) (.int (nar .byte ((y1 >>> ((8 : Int32) &&& 31)).toInt8.toInt32))) (.int (nar .byte ((y2 >>> ((0 : Int32) &&& 31)).toInt8.toInt32))) (.int (nar .byte ((y2 >>> ((8 : Int32) &&& 31)).toInt8.toInt32))) h3 n0 O V_ob) e3 (by rw [hml]; rfl) (lenOf pd___BI_B_7585 rfl) rfl rfl (hb hby d_j42_m149_45) ?_
  intro v4 T4 h4 L4 X4 e4 q4
  obtain ⟨rfl, N4, rfl⟩ := q4
  replace N4 := Fr.app N3 N4
  show Go p e below _ T4 (mkF m 48 #[.val (.ref a1), .val (.ref ac), .val (.int 0), .val (.int 3), .val .null, .val (.ref ob)] [(.int 1), (.ref a1)])
  refine Go.putF X4 hx hZ hown (wd hw 32 rfl) Via.refl e4 F_a1_coder E_a1 (Or.inr ⟨(wd hw 33 rfl), rfl, hnm⟩) (wd hw 7 rfl) (ty := .byte) (by decide) rfl rfl (hb hby d_j42_m149_48) ?_
  intro T5 h5 X5 e5 W5
  replace E_a1 := E_a1.wr W5
  replace F_a1_value := F_a1_value.other W5 (Or.inr (slot_ne (a0 := a0) (Or.inr (wd hw 35 rfl)) (Or.inr (wd hw 33 rfl)) (by decide) (t := (.array .byte)) (t' := .byte) (by decide) (by decide)))
  replace F_a1_coder := F_a1_coder.same W5
  replace V_c := V_c.other W5 (Ne.symm ne_a1_ac)
  replace V_ob := V_ob.other W5 (Ne.symm ne_a1_ob)
  replace O := O.wr W5 g_a1
  have N5 := Fr.snoc X5 N4 g_a1
  replace K := K.wr W5 (Or.inl (List.mem_of_getElem? (i := 0) rfl))
  refine Go.st (g' := (mkF m 54 #[.val (.ref a1), .val (.ref ac), .val (.int 0), .val (.int 3), .val .null, .val (.ref ob)] [(.ref ob), (.ref a1)])) (fun t k => ?_) ?_
  · refine XS.aloadN X5.here hx rfl (hb hby d_j42_m149_51) rfl rfl ?_
    refine XS.aload X5.here hx rfl (hb hby d_j42_m149_52) rfl rfl ?_
    exact k
  refine Go.putF X5 hx hZ hown (wd hw 34 rfl) Via.refl e5 F_a1_value E_a1 (Or.inr ⟨(wd hw 35 rfl), rfl, hnm⟩) (wd hw 7 rfl) (ty := (.array .byte)) (by decide) rfl rfl (hb hby d_j42_m149_54) ?_
  intro T6 h6 X6 e6 W6
  replace E_a1 := E_a1.wr W6
  replace F_a1_value := F_a1_value.same W6
  replace F_a1_coder := F_a1_coder.other W6 (Or.inr (slot_ne (a0 := a0) (Or.inr (wd hw 33 rfl)) (Or.inr (wd hw 35 rfl)) (by decide) (t := .byte) (t' := (.array .byte)) (by decide) (by decide)))
  replace V_c := V_c.other W6 (Ne.symm ne_a1_ac)
  replace V_ob := V_ob.other W6 (Ne.symm ne_a1_ob)
  replace O := O.wr W6 g_a1
  have N6 := Fr.snoc X6 N5 g_a1
  replace K := K.wr W6 (Or.inl (List.mem_of_getElem? (i := 0) rfl))
  show Go p e below _ T6 (mkF m 57 #[.val (.ref a1), .val (.ref ac), .val (.int 0), .val (.int 3), .val .null, .val (.ref ob)] [])
  refine Go.retV X6 hx hlk hret (hb hby d_j42_m149_57) (by decide) (by decide) e6 ?_
  exact ⟨ob, kb, rfl, N6, K, F_a1_value, F_a1_coder, V_ob⟩
theorem ct_si1_3_0 (l : Launch) (Z : State) (a0 : Array Value) (hw : ∀ d ∈ tables_1, d.before a0 Z = true) (zc : Int32) (fm : Value) (G : Gl Z zc fm) (a1 : Addr) (ac : Addr) (kc : ClassId) (y0 : Int32) (y1 : Int32) (y2 : Int32) (h0 : Heap) (n0 : Nat) (O : Old Z n0 h0) (E_a1 : Exa Z h0 a1 "java/lang/String") (F_a1_value : Fld Z h0 a1 "java/lang/String" "value" "[B" .null) (F_a1_coder : Fld Z h0 a1 "java/lang/String" "coder" "B" (.int 0)) (g_a1 : n0 ≤ a1) (V_c : Arv Z h0 ac kc .char (3 : Int32) [(.int y0), (.int y1), (.int y2)] (.int 0)) (ne_a1_ac : a1 ≠ ac) (hr0 : 0 ≤ y0.toInt ∧ y0.toInt < 65536) (hr1 : 0 ≤ y1.toInt ∧ y1.toInt < 65536) (hr2 : 0 ≤ y2.toInt ∧ y2.toInt < 65536) (hv0 : (255 : Int32) < y0) :
    Ct l (⟨"java/lang/String", "<init>", "([C)V"⟩ : MethodName) jdk_42_method_3_code 2 none ({ frames := 5, cells := 2, slots := 9, locals := 74 } : Room) Z #[(.ref a1), (.ref ac)] h0 (fun v h L => ∃ b kb, v = none ∧ Fr n0 L ∧ Keep h0 h [a1] ∧ Fld Z h a1 "java/lang/String" "value" "[B" (.ref b) ∧ Fld Z h a1 "java/lang/String" "coder" "B" (.int 1) ∧ Arv Z h b kb .byte (6 : Int32) [(.int (nar .byte ((y0 >>> ((0 : Int32) &&& 31)).toInt8.toInt32))), (.int (nar .byte ((y0 >>> ((8 : Int32) &&& 31)).toInt8.toInt32))), (.int (nar .byte ((y1 >>> ((0 : Int32) &&& 31)).toInt8.toInt32))), (.int (nar .byte ((y1 >>> ((8 : Int32) &&& 31)).toInt8.toInt32))), (.int (nar .byte ((y2 >>> ((0 : Int32) &&& 31)).toInt8.toInt32))), (.int (nar .byte ((y2 >>> ((8 : Int32) &&& 31)).toInt8.toInt32)))] (.int 0)) := by
  refine Ct.of (plainFor_of_name pn_String_837) ?_
  intro p e s m below meth c T0 X0 hx hby hml hown hnm hret hlk hZ e0
  have N0 := Fr.nil n0
  have G' := G
  obtain ⟨S_CS, hzc, S_FM, hfm, S_AD, S_HI, S_LO⟩ := G'
  refine Go.cast (g' := mkF m 0 #[.val (.ref a1), .val (.ref ac)] []) (by first | (simp [entryFrame, mkF, argsToLocals, Value.category]; done) | rfl) ?_
  have K : Keep h0 h0 [a1] := Keep.refl _ _
  refine Go.st (g' := (mkF m 4 #[.val (.ref a1), .val (.ref ac)] [(.ref ac), (.int 0), (.ref ac), (.ref a1)])) (fun t k => ?_) ?_
  · refine XS.aloadN X0.here hx rfl (hb hby d_j42_m3_0) rfl rfl ?_
    refine XS.aloadN X0.here hx rfl (hb hby d_j42_m3_1) rfl rfl ?_
    refine XS.iconst X0.here hx rfl (hb hby d_j42_m3_2) ?_
    refine XS.aloadN X0.here hx rfl (hb hby d_j42_m3_3) rfl rfl ?_
    exact k
  refine Go.alenV X0 hx hZ e0 V_c (hb hby d_j42_m3_4) ?_
  refine Go.st (g' := (mkF m 6 #[.val (.ref a1), .val (.ref ac)] [.null, (.int 3), (.int 0), (.ref ac), (.ref a1)])) (fun t k => ?_) ?_
  · refine XS.aconstNull X0.here hx rfl (hb hby d_j42_m3_5) ?_
    exact k
  refine Go.callC X0 hx hZ (W := 0) (argsL := [(.ref ac), (.int 0), (.int 3), .null]) (rest := []) hown rfl (wd hw 13 rfl) (wd hw 14 rfl) (wd hw 8 rfl) (wd hw 16 rfl) (by decide) (ct_si4_3_0 l Z a0 hw zc fm G a1 ac kc y0 y1 y2 h0 n0 O E_a1 F_a1_value F_a1_coder g_a1 V_c ne_a1_ac hr0 hr1 hr2 hv0) e0 (by rw [hml]; rfl) (lenOf pd___CIILjava_lang_Void__V_1319 rfl) rfl rfl (hb hby d_j42_m3_6) ?_
  intro v1 T1 h1 L1 X1 e1 q1
  obtain ⟨ob1, kb1, rfl, N1, K1, Fv1, Fc1, V_ob1⟩ := q1
  replace N1 := Fr.app N0 N1
  replace E_a1 := E_a1.keep K1
  clear F_a1_value
  clear F_a1_coder
  replace V_c := V_c.keep K1 (ninS (Ne.symm ne_a1_ac) nin0)
  replace O := O.keep K1 (allS g_a1 all0)
  replace K := K.trans K1 (allS (Or.inl (List.mem_of_getElem? (i := 0) rfl)) all0)
  show Go p e below _ T1 (mkF m 9 #[.val (.ref a1), .val (.ref ac)] [])
  refine Go.retV X1 hx hlk hret (hb hby d_j42_m3_9) (by decide) (by decide) e1 ?_
  exact ⟨ob1, kb1, rfl, N1, K, Fv1, Fc1, V_ob1⟩
theorem ct_len_3_1 (l : Launch) (Z : State) (a0 : Array Value) (hw : ∀ d ∈ tables_1, d.before a0 Z = true) (zc : Int32) (fm : Value) (G : Gl Z zc fm) (a1 : Addr) (ab : Addr) (kb : ClassId) (dv : Value) (u0 : Value) (u1 : Value) (u2 : Value) (u3 : Value) (u4 : Value) (u5 : Value) (h0 : Heap) (n0 : Nat) (O : Old Z n0 h0) (E_a1 : Exa Z h0 a1 "java/lang/String") (F_v : Fld Z h0 a1 "java/lang/String" "value" "[B" (.ref ab)) (F_c : Fld Z h0 a1 "java/lang/String" "coder" "B" (.int 1)) (V_b : Arv Z h0 ab kb .byte (6 : Int32) [u0, u1, u2, u3, u4, u5] dv) :
    Ct l (⟨"java/lang/String", "length", "()I"⟩ : MethodName) jdk_42_method_54_code 1 (some .int) ({ frames := 2, cells := 0, slots := 0, locals := 60 } : Room) Z #[(.ref a1)] h0 (fun v h L => v = some (.int 3) ∧ Fr n0 L ∧ h0 = h) := by
  refine Ct.of (plainFor_of_name pn_String_837) ?_
  intro p e s m below meth c T0 X0 hx hby hml hown hnm hret hlk hZ e0
  have N0 := Fr.nil n0
  have G' := G
  obtain ⟨S_CS, hzc, S_FM, hfm, S_AD, S_HI, S_LO⟩ := G'
  refine Go.cast (g' := mkF m 0 #[.val (.ref a1)] []) (by first | (simp [entryFrame, mkF, argsToLocals, Value.category]; done) | rfl) ?_
  refine Go.st (g' := (mkF m 1 #[.val (.ref a1)] [(.ref a1)])) (fun t k => ?_) ?_
  · refine XS.aloadN X0.here hx rfl (hb hby d_j42_m54_0) rfl rfl ?_
    exact k
  refine Go.getF X0 hx hZ hown (wd hw 34 rfl) Via.refl e0 F_v (hb hby d_j42_m54_1) ?_
  intro T1 X1 e1
  show Go p e below _ T1 (mkF m 4 #[.val (.ref a1)] [(.ref ab)])
  refine Go.alenV X1 hx hZ e1 V_b (hb hby d_j42_m54_4) ?_
  refine Go.st (g' := (mkF m 6 #[.val (.ref a1)] [(.ref a1), (.int 6)])) (fun t k => ?_) ?_
  · refine XS.aloadN X1.here hx rfl (hb hby d_j42_m54_5) rfl rfl ?_
    exact k
  refine Go.callV X1 hx hZ (W := 1) (argsL := []) (rest := [(.int 6)]) hown (wd hw 48 rfl) (wd hw 49 rfl) (notFace_of_selects (args := #[]) (mvT hZ (wd hw 51 rfl))) (wd hw 51 rfl) (wd hw 50 rfl) (wd hw 8 rfl) (wd hw 52 rfl) (by decide) E_a1 (ct_coder_1 l Z a0 hw zc fm G a1 h0 n0 O F_c) e1 (by rw [hml]; rfl) (lenOf pd___B_8314 rfl) rfl rfl (hb hby d_j42_m54_6) ?_
  intro v2 T2 h2 L2 X2 e2 q2
  obtain ⟨rfl, N2, rfl⟩ := q2
  replace N2 := Fr.app N0 N2
  refine Go.st (g' := (mkF m 10 #[.val (.ref a1)] [(.int 3)])) (fun t k => ?_) ?_
  · refine XS.ishr X2.here hx rfl (hb hby d_j42_m54_9) rfl ?_
    exact k
  refine Go.retI X2 hx hlk hret (hb hby d_j42_m54_10) (by decide) (by decide) e2 ?_
  exact ⟨rfl, N2, rfl⟩
theorem ct_ulen_6 (l : Launch) (Z : State) (a0 : Array Value) (hw : ∀ d ∈ tables_1, d.before a0 Z = true) (ab : Addr) (kb : ClassId) (u0 : Value) (u1 : Value) (u2 : Value) (u3 : Value) (u4 : Value) (u5 : Value) (h0 : Heap) (n0 : Nat) (O : Old Z n0 h0) (V_b : Arv Z h0 ab kb .byte (6 : Int32) [u0, u1, u2, u3, u4, u5] (.int 0)) :
    Ct l (⟨"java/lang/StringUTF16", "length", "([B)I"⟩ : MethodName) jdk_52_method_6_code 1 (some .int) ({ frames := 0, cells := 0, slots := 0, locals := 0 } : Room) Z #[(.ref ab)] h0 (fun v h L => v = some (.int 3) ∧ Fr n0 L ∧ h0 = h) := by
  refine Ct.of (plainFor_of_name pn_StringUTF16_856) ?_
  intro p e s m below meth c T0 X0 hx hby hml hown hnm hret hlk hZ e0
  have N0 := Fr.nil n0
  refine Go.cast (g' := mkF m 0 #[.val (.ref ab)] []) (by first | (simp [entryFrame, mkF, argsToLocals, Value.category]; done) | rfl) ?_
  refine Go.st (g' := (mkF m 1 #[.val (.ref ab)] [(.ref ab)])) (fun t k => ?_) ?_
  · refine XS.aloadN X0.here hx rfl (hb hby d_j52_m6_0) rfl rfl ?_
    exact k
  refine Go.alenV X0 hx hZ e0 V_b (hb hby d_j52_m6_1) ?_
  refine Go.st (g' := (mkF m 4 #[.val (.ref ab)] [(.int 3)])) (fun t k => ?_) ?_
  · refine XS.iconst X0.here hx rfl (hb hby d_j52_m6_2) ?_
    refine XS.ishr X0.here hx rfl (hb hby d_j52_m6_3) rfl ?_
    exact k
  refine Go.retI X0 hx hlk hret (hb hby d_j52_m6_4) (by decide) (by decide) e0 ?_
  exact ⟨rfl, N0, rfl⟩
theorem ct_pci_3_0 (l : Launch) (Z : State) (a0 : Array Value) (hw : ∀ d ∈ tables_1, d.before a0 Z = true) (zc : Int32) (fm : Value) (G : Gl Z zc fm) (h0 : Heap) (n0 : Nat) (O : Old Z n0 h0)  :
    Ct l (⟨"jdk/internal/util/Preconditions", "checkIndex", "(IILjava/util/function/BiFunction;)I"⟩ : MethodName) jdk_41_method_11_code 3 (some .int) ({ frames := 0, cells := 0, slots := 0, locals := 0 } : Room) Z #[(.int 0), (.int 3), fm] h0 (fun v h L => v = some (.int 0) ∧ Fr n0 L ∧ h0 = h) := by
  refine Ct.of (plainFor_of_name pn_Preconditions_68) ?_
  intro p e s m below meth c T0 X0 hx hby hml hown hnm hret hlk hZ e0
  have N0 := Fr.nil n0
  have G' := G
  obtain ⟨S_CS, hzc, S_FM, hfm, S_AD, S_HI, S_LO⟩ := G'
  refine Go.cast (g' := mkF m 0 #[.val (.int 0), .val (.int 3), .val fm] []) (by rcases ref_cases hfm with rfl | ⟨_, rfl⟩ <;> first | (simp [entryFrame, mkF, argsToLocals, Value.category]; done) | rfl) ?_
  refine Go.st (g' := (mkF m 17 #[.val (.int 0), .val (.int 3), .val fm] [(.int 0)])) (fun t k => ?_) ?_
  · refine XS.iloadN X0.here hx rfl (hb hby d_j41_m11_0) rfl ?_
    refine XS.ifNo X0.here hx rfl (hb hby d_j41_m11_1) rfl ((if0 _ _).trans (flt (by decide : ¬ (0 : Int32) < (0 : Int32))).1) ?_
    refine XS.iloadN X0.here hx rfl (hb hby d_j41_m11_4) rfl ?_
    refine XS.iloadN X0.here hx rfl (hb hby d_j41_m11_5) rfl ?_
    refine XS.icmpYes X0.here hx rfl (pc0 := 6) (pc' := 16) rfl (hb hby d_j41_m11_6) rfl (tlt (by decide : (0 : Int32) < (3 : Int32))).1 (by decide) (by decide) ?_
    refine XS.iloadN X0.here hx rfl (hb hby d_j41_m11_16) rfl ?_
    exact k
  refine Go.retI X0 hx hlk hret (hb hby d_j41_m11_17) (by decide) (by decide) e0 ?_
  exact ⟨rfl, N0, rfl⟩
theorem ct_sci_3_0 (l : Launch) (Z : State) (a0 : Array Value) (hw : ∀ d ∈ tables_1, d.before a0 Z = true) (zc : Int32) (fm : Value) (G : Gl Z zc fm) (h0 : Heap) (n0 : Nat) (O : Old Z n0 h0)  :
    Ct l (⟨"java/lang/String", "checkIndex", "(II)V"⟩ : MethodName) jdk_42_method_155_code 2 none ({ frames := 1, cells := 0, slots := 0, locals := 14 } : Room) Z #[(.int 0), (.int 3)] h0 (fun v h L => v = none ∧ Fr n0 L ∧ h0 = h) := by
  refine Ct.of (plainFor_of_name pn_String_837) ?_
  intro p e s m below meth c T0 X0 hx hby hml hown hnm hret hlk hZ e0
  have N0 := Fr.nil n0
  have G' := G
  obtain ⟨S_CS, hzc, S_FM, hfm, S_AD, S_HI, S_LO⟩ := G'
  refine Go.cast (g' := mkF m 0 #[.val (.int 0), .val (.int 3)] []) (by first | (simp [entryFrame, mkF, argsToLocals, Value.category]; done) | rfl) ?_
  refine Go.st (g' := (mkF m 2 #[.val (.int 0), .val (.int 3)] [(.int 3), (.int 0)])) (fun t k => ?_) ?_
  · refine XS.iloadN X0.here hx rfl (hb hby d_j42_m155_0) rfl ?_
    refine XS.iloadN X0.here hx rfl (hb hby d_j42_m155_1) rfl ?_
    exact k
  refine Go.getS X0 hx hZ hown (wd hw 70 rfl) Via.refl e0 (S_FM.ext O.2) (hb hby d_j42_m155_2) ?_
  intro T1 X1 e1
  show Go p e below _ T1 (mkF m 5 #[.val (.int 0), .val (.int 3)] [fm, (.int 3), (.int 0)])
  refine Go.callS X1 hx hZ (W := 0) (argsL := [(.int 0), (.int 3), fm]) (rest := []) hown (wd hw 72 rfl) (wd hw 73 rfl) (wd hw 71 rfl) (wd hw 74 rfl) (by decide) (ct_pci_3_0 l Z a0 hw zc fm G  h0 n0 O ) e1 (by rw [hml]; rfl) (lenOf pd__IILjava_util_function_BiFunction__I_3570 rfl) rfl rfl (hb hby d_j42_m155_5) ?_
  intro v2 T2 h2 L2 X2 e2 q2
  obtain ⟨rfl, N2, rfl⟩ := q2
  replace N2 := Fr.app N0 N2
  refine Go.st (g' := (mkF m 9 #[.val (.int 0), .val (.int 3)] [])) (fun t k => ?_) ?_
  · refine XS.pop X2.here hx rfl (hb hby d_j42_m155_8) rfl rfl ?_
    exact k
  refine Go.retV X2 hx hlk hret (hb hby d_j42_m155_9) (by decide) (by decide) e2 ?_
  exact ⟨rfl, N2, rfl⟩
theorem ct_uci_3_0 (l : Launch) (Z : State) (a0 : Array Value) (hw : ∀ d ∈ tables_1, d.before a0 Z = true) (zc : Int32) (fm : Value) (G : Gl Z zc fm) (ab : Addr) (kb : ClassId) (u0 : Value) (u1 : Value) (u2 : Value) (u3 : Value) (u4 : Value) (u5 : Value) (h0 : Heap) (n0 : Nat) (O : Old Z n0 h0) (V_b : Arv Z h0 ab kb .byte (6 : Int32) [u0, u1, u2, u3, u4, u5] (.int 0)) :
    Ct l (⟨"java/lang/StringUTF16", "checkIndex", "(I[B)V"⟩ : MethodName) jdk_52_method_91_code 2 none ({ frames := 2, cells := 0, slots := 0, locals := 27 } : Room) Z #[(.int 0), (.ref ab)] h0 (fun v h L => v = none ∧ Fr n0 L ∧ h0 = h) := by
  refine Ct.of (plainFor_of_name pn_StringUTF16_856) ?_
  intro p e s m below meth c T0 X0 hx hby hml hown hnm hret hlk hZ e0
  have N0 := Fr.nil n0
  have G' := G
  obtain ⟨S_CS, hzc, S_FM, hfm, S_AD, S_HI, S_LO⟩ := G'
  refine Go.cast (g' := mkF m 0 #[.val (.int 0), .val (.ref ab)] []) (by first | (simp [entryFrame, mkF, argsToLocals, Value.category]; done) | rfl) ?_
  refine Go.st (g' := (mkF m 2 #[.val (.int 0), .val (.ref ab)] [(.ref ab), (.int 0)])) (fun t k => ?_) ?_
  · refine XS.iloadN X0.here hx rfl (hb hby d_j52_m91_0) rfl ?_
    refine XS.aloadN X0.here hx rfl (hb hby d_j52_m91_1) rfl rfl ?_
    exact k
  refine Go.callS X0 hx hZ (W := 1) (argsL := [(.ref ab)]) (rest := [(.int 0)]) hown (wd hw 118 rfl) (wd hw 119 rfl) (wd hw 23 rfl) (wd hw 120 rfl) (by decide) (ct_ulen_6 l Z a0 hw  ab kb u0 u1 u2 u3 u4 u5 h0 n0 O V_b) e0 (by rw [hml]; rfl) (lenOf pd___B_I_9928 rfl) rfl rfl (hb hby d_j52_m91_2) ?_
  intro v1 T1 h1 L1 X1 e1 q1
  obtain ⟨rfl, N1, rfl⟩ := q1
  replace N1 := Fr.app N0 N1
  show Go p e below _ T1 (mkF m 5 #[.val (.int 0), .val (.ref ab)] [(.int 3), (.int 0)])
  refine Go.callS X1 hx hZ (W := 0) (argsL := [(.int 0), (.int 3)]) (rest := []) hown (wd hw 121 rfl) (wd hw 68 rfl) (wd hw 8 rfl) (wd hw 69 rfl) (by decide) (ct_sci_3_0 l Z a0 hw zc fm G  h0 n0 O ) e1 (by rw [hml]; rfl) (lenOf pd__II_V_433 rfl) rfl rfl (hb hby d_j52_m91_5) ?_
  intro v2 T2 h2 L2 X2 e2 q2
  obtain ⟨rfl, N2, rfl⟩ := q2
  replace N2 := Fr.app N1 N2
  show Go p e below _ T2 (mkF m 8 #[.val (.int 0), .val (.ref ab)] [])
  refine Go.retV X2 hx hlk hret (hb hby d_j52_m91_8) (by decide) (by decide) e2 ?_
  exact ⟨rfl, N2, rfl⟩
theorem ct_uch_3_0 (l : Launch) (Z : State) (a0 : Array Value) (hw : ∀ d ∈ tables_1, d.before a0 Z = true) (zc : Int32) (fm : Value) (G : Gl Z zc fm) (ab : Addr) (kb : ClassId) (y0 : Int32) (u2 : Value) (u3 : Value) (u4 : Value) (u5 : Value) (h0 : Heap) (n0 : Nat) (O : Old Z n0 h0) (V_b : Arv Z h0 ab kb .byte (6 : Int32) [(.int (nar .byte ((y0 >>> ((0 : Int32) &&& 31)).toInt8.toInt32))), (.int (nar .byte ((y0 >>> ((8 : Int32) &&& 31)).toInt8.toInt32))), u2, u3, u4, u5] (.int 0)) (hr0 : 0 ≤ y0.toInt ∧ y0.toInt < 65536) :
    Ct l (⟨"java/lang/StringUTF16", "charAt", "([BI)C"⟩ : MethodName) jdk_52_method_83_code 2 (some .char) ({ frames := 3, cells := 0, slots := 0, locals := 40 } : Room) Z #[(.ref ab), (.int 0)] h0 (fun v h L => v = some (.int y0) ∧ Fr n0 L ∧ h0 = h) := by
  refine Ct.of (plainFor_of_name pn_StringUTF16_856) ?_
  intro p e s m below meth c T0 X0 hx hby hml hown hnm hret hlk hZ e0
  have N0 := Fr.nil n0
  have G' := G
  obtain ⟨S_CS, hzc, S_FM, hfm, S_AD, S_HI, S_LO⟩ := G'
  refine Go.cast (g' := mkF m 0 #[.val (.ref ab), .val (.int 0)] []) (by first | (simp [entryFrame, mkF, argsToLocals, Value.category]; done) | rfl) ?_
  refine Go.st (g' := (mkF m 2 #[.val (.ref ab), .val (.int 0)] [(.ref ab), (.int 0)])) (fun t k => ?_) ?_
  · refine XS.iloadN X0.here hx rfl (hb hby d_j52_m83_0) rfl ?_
    refine XS.aloadN X0.here hx rfl (hb hby d_j52_m83_1) rfl rfl ?_
    exact k
  refine Go.callS X0 hx hZ (W := 0) (argsL := [(.int 0), (.ref ab)]) (rest := []) hown (wd hw 115 rfl) (wd hw 116 rfl) (wd hw 23 rfl) (wd hw 117 rfl) (by decide) (ct_uci_3_0 l Z a0 hw zc fm G ab kb (.int (nar .byte ((y0 >>> ((0 : Int32) &&& 31)).toInt8.toInt32))) (.int (nar .byte ((y0 >>> ((8 : Int32) &&& 31)).toInt8.toInt32))) u2 u3 u4 u5 h0 n0 O V_b) e0 (by rw [hml]; rfl) (lenOf pd__I_B_V_2323 rfl) rfl rfl (hb hby d_j52_m83_2) ?_
  intro v1 T1 h1 L1 X1 e1 q1
  obtain ⟨rfl, N1, rfl⟩ := q1
  replace N1 := Fr.app N0 N1
  refine Go.st (g' := (mkF m 7 #[.val (.ref ab), .val (.int 0)] [(.int 0), (.ref ab)])) (fun t k => ?_) ?_
  · refine XS.aloadN X1.here hx rfl (hb hby d_j52_m83_5) rfl rfl ?_
    refine XS.iloadN X1.here hx rfl (hb hby d_j52_m83_6) rfl ?_
    exact k
  refine Go.callS X1 hx hZ (W := 0) (argsL := [(.ref ab), (.int 0)]) (rest := []) hown (wd hw 109 rfl) (wd hw 110 rfl) (wd hw 23 rfl) (wd hw 111 rfl) (by decide) (ct_gch_3_0 l Z a0 hw zc fm G ab kb y0 u2 u3 u4 u5 h0 n0 O V_b hr0) e1 (by rw [hml]; rfl) (lenOf pd___BI_C_7586 rfl) rfl rfl (hb hby d_j52_m83_7) ?_
  intro v2 T2 h2 L2 X2 e2 q2
  obtain ⟨rfl, N2, rfl⟩ := q2
  replace N2 := Fr.app N1 N2
  show Go p e below _ T2 (mkF m 10 #[.val (.ref ab), .val (.int 0)] [(.int y0)])
  refine Go.retS X2 hx hlk hret (by simp) (own_nr hr0) (hb hby d_j52_m83_10) (by decide) (by decide) e2 ?_
  exact ⟨rfl, N2, rfl⟩
theorem ct_ch_3_0_1 (l : Launch) (Z : State) (a0 : Array Value) (hw : ∀ d ∈ tables_1, d.before a0 Z = true) (zc : Int32) (fm : Value) (G : Gl Z zc fm) (a1 : Addr) (ab : Addr) (kb : ClassId) (y0 : Int32) (u2 : Value) (u3 : Value) (u4 : Value) (u5 : Value) (h0 : Heap) (n0 : Nat) (O : Old Z n0 h0) (E_a1 : Exa Z h0 a1 "java/lang/String") (F_v : Fld Z h0 a1 "java/lang/String" "value" "[B" (.ref ab)) (F_c : Fld Z h0 a1 "java/lang/String" "coder" "B" (.int 1)) (V_b : Arv Z h0 ab kb .byte (6 : Int32) [(.int (nar .byte ((y0 >>> ((0 : Int32) &&& 31)).toInt8.toInt32))), (.int (nar .byte ((y0 >>> ((8 : Int32) &&& 31)).toInt8.toInt32))), u2, u3, u4, u5] (.int 0)) (hr0 : 0 ≤ y0.toInt ∧ y0.toInt < 65536) :
    Ct l (⟨"java/lang/String", "charAt", "(I)C"⟩ : MethodName) jdk_42_method_56_code 2 (some .char) ({ frames := 4, cells := 0, slots := 0, locals := 110 } : Room) Z #[(.ref a1), (.int 0)] h0 (fun v h L => v = some (.int y0) ∧ Fr n0 L ∧ h0 = h) := by
  refine Ct.of (plainFor_of_name pn_String_837) ?_
  intro p e s m below meth c T0 X0 hx hby hml hown hnm hret hlk hZ e0
  have N0 := Fr.nil n0
  have G' := G
  obtain ⟨S_CS, hzc, S_FM, hfm, S_AD, S_HI, S_LO⟩ := G'
  refine Go.cast (g' := mkF m 0 #[.val (.ref a1), .val (.int 0)] []) (by first | (simp [entryFrame, mkF, argsToLocals, Value.category]; done) | rfl) ?_
  refine Go.st (g' := (mkF m 1 #[.val (.ref a1), .val (.int 0)] [(.ref a1)])) (fun t k => ?_) ?_
  · refine XS.aloadN X0.here hx rfl (hb hby d_j42_m56_0) rfl rfl ?_
    exact k
  refine Go.callV X0 hx hZ (W := 0) (argsL := []) (rest := []) hown (wd hw 58 rfl) (wd hw 59 rfl) (notFace_of_selects (args := #[]) (mvT hZ (wd hw 61 rfl))) (wd hw 61 rfl) (wd hw 60 rfl) (wd hw 8 rfl) (wd hw 62 rfl) (by decide) E_a1 (ct_isL_1 l Z a0 hw zc fm G a1 h0 n0 O F_c) e0 (by rw [hml]; rfl) (lenOf pd___Z_8338 rfl) rfl rfl (hb hby d_j42_m56_1) ?_
  intro v1 T1 h1 L1 X1 e1 q1
  obtain ⟨rfl, N1, rfl⟩ := q1
  replace N1 := Fr.app N0 N1
  refine Go.st (g' := (mkF m 17 #[.val (.ref a1), .val (.int 0)] [(.ref a1)])) (fun t k => ?_) ?_
  · refine XS.ifYes X1.here hx rfl (pc0 := 4) (pc' := 16) rfl (hb hby d_j42_m56_4) rfl ((if0 _ _).trans (teq (by decide : (0 : Int32) = (0 : Int32))).1) (by decide) (by decide) ?_
    refine XS.aloadN X1.here hx rfl (hb hby d_j42_m56_16) rfl rfl ?_
    exact k
  refine Go.getF X1 hx hZ hown (wd hw 34 rfl) Via.refl e1 F_v (hb hby d_j42_m56_17) ?_
  intro T2 X2 e2
  refine Go.st (g' := (mkF m 21 #[.val (.ref a1), .val (.int 0)] [(.int 0), (.ref ab)])) (fun t k => ?_) ?_
  · refine XS.iloadN X2.here hx rfl (hb hby d_j42_m56_20) rfl ?_
    exact k
  refine Go.callS X2 hx hZ (W := 0) (argsL := [(.ref ab), (.int 0)]) (rest := []) hown (wd hw 112 rfl) (wd hw 113 rfl) (wd hw 23 rfl) (wd hw 114 rfl) (by decide) (ct_uch_3_0 l Z a0 hw zc fm G ab kb y0 u2 u3 u4 u5 h0 n0 O V_b hr0) e2 (by rw [hml]; rfl) (lenOf pd___BI_C_7586 rfl) rfl rfl (hb hby d_j42_m56_21) ?_
  intro v3 T3 h3 L3 X3 e3 q3
  obtain ⟨rfl, N3, rfl⟩ := q3
  replace N3 := Fr.app N1 N3
  show Go p e below _ T3 (mkF m 24 #[.val (.ref a1), .val (.int 0)] [(.int y0)])
  refine Go.retS X3 hx hlk hret (by simp) (own_nr hr0) (hb hby d_j42_m56_24) (by decide) (by decide) e3 ?_
  exact ⟨rfl, N3, rfl⟩
theorem ct_pci_3_1 (l : Launch) (Z : State) (a0 : Array Value) (hw : ∀ d ∈ tables_1, d.before a0 Z = true) (zc : Int32) (fm : Value) (G : Gl Z zc fm) (h0 : Heap) (n0 : Nat) (O : Old Z n0 h0)  :
    Ct l (⟨"jdk/internal/util/Preconditions", "checkIndex", "(IILjava/util/function/BiFunction;)I"⟩ : MethodName) jdk_41_method_11_code 3 (some .int) ({ frames := 0, cells := 0, slots := 0, locals := 0 } : Room) Z #[(.int 1), (.int 3), fm] h0 (fun v h L => v = some (.int 1) ∧ Fr n0 L ∧ h0 = h) := by
  refine Ct.of (plainFor_of_name pn_Preconditions_68) ?_
  intro p e s m below meth c T0 X0 hx hby hml hown hnm hret hlk hZ e0
  have N0 := Fr.nil n0
  have G' := G
  obtain ⟨S_CS, hzc, S_FM, hfm, S_AD, S_HI, S_LO⟩ := G'
  refine Go.cast (g' := mkF m 0 #[.val (.int 1), .val (.int 3), .val fm] []) (by rcases ref_cases hfm with rfl | ⟨_, rfl⟩ <;> first | (simp [entryFrame, mkF, argsToLocals, Value.category]; done) | rfl) ?_
  refine Go.st (g' := (mkF m 17 #[.val (.int 1), .val (.int 3), .val fm] [(.int 1)])) (fun t k => ?_) ?_
  · refine XS.iloadN X0.here hx rfl (hb hby d_j41_m11_0) rfl ?_
    refine XS.ifNo X0.here hx rfl (hb hby d_j41_m11_1) rfl ((if0 _ _).trans (flt (by decide : ¬ (1 : Int32) < (0 : Int32))).1) ?_
    refine XS.iloadN X0.here hx rfl (hb hby d_j41_m11_4) rfl ?_
    refine XS.iloadN X0.here hx rfl (hb hby d_j41_m11_5) rfl ?_
    refine XS.icmpYes X0.here hx rfl (pc0 := 6) (pc' := 16) rfl (hb hby d_j41_m11_6) rfl (tlt (by decide : (1 : Int32) < (3 : Int32))).1 (by decide) (by decide) ?_
    refine XS.iloadN X0.here hx rfl (hb hby d_j41_m11_16) rfl ?_
    exact k
  refine Go.retI X0 hx hlk hret (hb hby d_j41_m11_17) (by decide) (by decide) e0 ?_
  exact ⟨rfl, N0, rfl⟩
theorem ct_sci_3_1 (l : Launch) (Z : State) (a0 : Array Value) (hw : ∀ d ∈ tables_1, d.before a0 Z = true) (zc : Int32) (fm : Value) (G : Gl Z zc fm) (h0 : Heap) (n0 : Nat) (O : Old Z n0 h0)  :
    Ct l (⟨"java/lang/String", "checkIndex", "(II)V"⟩ : MethodName) jdk_42_method_155_code 2 none ({ frames := 1, cells := 0, slots := 0, locals := 14 } : Room) Z #[(.int 1), (.int 3)] h0 (fun v h L => v = none ∧ Fr n0 L ∧ h0 = h) := by
  refine Ct.of (plainFor_of_name pn_String_837) ?_
  intro p e s m below meth c T0 X0 hx hby hml hown hnm hret hlk hZ e0
  have N0 := Fr.nil n0
  have G' := G
  obtain ⟨S_CS, hzc, S_FM, hfm, S_AD, S_HI, S_LO⟩ := G'
  refine Go.cast (g' := mkF m 0 #[.val (.int 1), .val (.int 3)] []) (by first | (simp [entryFrame, mkF, argsToLocals, Value.category]; done) | rfl) ?_
  refine Go.st (g' := (mkF m 2 #[.val (.int 1), .val (.int 3)] [(.int 3), (.int 1)])) (fun t k => ?_) ?_
  · refine XS.iloadN X0.here hx rfl (hb hby d_j42_m155_0) rfl ?_
    refine XS.iloadN X0.here hx rfl (hb hby d_j42_m155_1) rfl ?_
    exact k
  refine Go.getS X0 hx hZ hown (wd hw 70 rfl) Via.refl e0 (S_FM.ext O.2) (hb hby d_j42_m155_2) ?_
  intro T1 X1 e1
  show Go p e below _ T1 (mkF m 5 #[.val (.int 1), .val (.int 3)] [fm, (.int 3), (.int 1)])
  refine Go.callS X1 hx hZ (W := 0) (argsL := [(.int 1), (.int 3), fm]) (rest := []) hown (wd hw 72 rfl) (wd hw 73 rfl) (wd hw 71 rfl) (wd hw 74 rfl) (by decide) (ct_pci_3_1 l Z a0 hw zc fm G  h0 n0 O ) e1 (by rw [hml]; rfl) (lenOf pd__IILjava_util_function_BiFunction__I_3570 rfl) rfl rfl (hb hby d_j42_m155_5) ?_
  intro v2 T2 h2 L2 X2 e2 q2
  obtain ⟨rfl, N2, rfl⟩ := q2
  replace N2 := Fr.app N0 N2
  refine Go.st (g' := (mkF m 9 #[.val (.int 1), .val (.int 3)] [])) (fun t k => ?_) ?_
  · refine XS.pop X2.here hx rfl (hb hby d_j42_m155_8) rfl rfl ?_
    exact k
  refine Go.retV X2 hx hlk hret (hb hby d_j42_m155_9) (by decide) (by decide) e2 ?_
  exact ⟨rfl, N2, rfl⟩
theorem ct_uci_3_1 (l : Launch) (Z : State) (a0 : Array Value) (hw : ∀ d ∈ tables_1, d.before a0 Z = true) (zc : Int32) (fm : Value) (G : Gl Z zc fm) (ab : Addr) (kb : ClassId) (u0 : Value) (u1 : Value) (u2 : Value) (u3 : Value) (u4 : Value) (u5 : Value) (h0 : Heap) (n0 : Nat) (O : Old Z n0 h0) (V_b : Arv Z h0 ab kb .byte (6 : Int32) [u0, u1, u2, u3, u4, u5] (.int 0)) :
    Ct l (⟨"java/lang/StringUTF16", "checkIndex", "(I[B)V"⟩ : MethodName) jdk_52_method_91_code 2 none ({ frames := 2, cells := 0, slots := 0, locals := 27 } : Room) Z #[(.int 1), (.ref ab)] h0 (fun v h L => v = none ∧ Fr n0 L ∧ h0 = h) := by
  refine Ct.of (plainFor_of_name pn_StringUTF16_856) ?_
  intro p e s m below meth c T0 X0 hx hby hml hown hnm hret hlk hZ e0
  have N0 := Fr.nil n0
  have G' := G
  obtain ⟨S_CS, hzc, S_FM, hfm, S_AD, S_HI, S_LO⟩ := G'
  refine Go.cast (g' := mkF m 0 #[.val (.int 1), .val (.ref ab)] []) (by first | (simp [entryFrame, mkF, argsToLocals, Value.category]; done) | rfl) ?_
  refine Go.st (g' := (mkF m 2 #[.val (.int 1), .val (.ref ab)] [(.ref ab), (.int 1)])) (fun t k => ?_) ?_
  · refine XS.iloadN X0.here hx rfl (hb hby d_j52_m91_0) rfl ?_
    refine XS.aloadN X0.here hx rfl (hb hby d_j52_m91_1) rfl rfl ?_
    exact k
  refine Go.callS X0 hx hZ (W := 1) (argsL := [(.ref ab)]) (rest := [(.int 1)]) hown (wd hw 118 rfl) (wd hw 119 rfl) (wd hw 23 rfl) (wd hw 120 rfl) (by decide) (ct_ulen_6 l Z a0 hw  ab kb u0 u1 u2 u3 u4 u5 h0 n0 O V_b) e0 (by rw [hml]; rfl) (lenOf pd___B_I_9928 rfl) rfl rfl (hb hby d_j52_m91_2) ?_
  intro v1 T1 h1 L1 X1 e1 q1
  obtain ⟨rfl, N1, rfl⟩ := q1
  replace N1 := Fr.app N0 N1
  show Go p e below _ T1 (mkF m 5 #[.val (.int 1), .val (.ref ab)] [(.int 3), (.int 1)])
  refine Go.callS X1 hx hZ (W := 0) (argsL := [(.int 1), (.int 3)]) (rest := []) hown (wd hw 121 rfl) (wd hw 68 rfl) (wd hw 8 rfl) (wd hw 69 rfl) (by decide) (ct_sci_3_1 l Z a0 hw zc fm G  h0 n0 O ) e1 (by rw [hml]; rfl) (lenOf pd__II_V_433 rfl) rfl rfl (hb hby d_j52_m91_5) ?_
  intro v2 T2 h2 L2 X2 e2 q2
  obtain ⟨rfl, N2, rfl⟩ := q2
  replace N2 := Fr.app N1 N2
  show Go p e below _ T2 (mkF m 8 #[.val (.int 1), .val (.ref ab)] [])
  refine Go.retV X2 hx hlk hret (hb hby d_j52_m91_8) (by decide) (by decide) e2 ?_
  exact ⟨rfl, N2, rfl⟩
theorem ct_gch_3_1 (l : Launch) (Z : State) (a0 : Array Value) (hw : ∀ d ∈ tables_1, d.before a0 Z = true) (zc : Int32) (fm : Value) (G : Gl Z zc fm) (ab : Addr) (kb : ClassId) (y0 : Int32) (u0 : Value) (u1 : Value) (u4 : Value) (u5 : Value) (h0 : Heap) (n0 : Nat) (O : Old Z n0 h0) (V_b : Arv Z h0 ab kb .byte (6 : Int32) [u0, u1, (.int (nar .byte ((y0 >>> ((0 : Int32) &&& 31)).toInt8.toInt32))), (.int (nar .byte ((y0 >>> ((8 : Int32) &&& 31)).toInt8.toInt32))), u4, u5] (.int 0)) (hr0 : 0 ≤ y0.toInt ∧ y0.toInt < 65536) :
    Ct l (⟨"java/lang/StringUTF16", "getChar", "([BI)C"⟩ : MethodName) jdk_52_method_5_code 2 (some .char) ({ frames := 0, cells := 0, slots := 0, locals := 0 } : Room) Z #[(.ref ab), (.int 1)] h0 (fun v h L => v = some (.int y0) ∧ Fr n0 L ∧ h0 = h) := by
  refine Ct.of (plainFor_of_name pn_StringUTF16_856) ?_
  intro p e s m below meth c T0 X0 hx hby hml hown hnm hret hlk hZ e0
  have N0 := Fr.nil n0
  have G' := G
  obtain ⟨S_CS, hzc, S_FM, hfm, S_AD, S_HI, S_LO⟩ := G'
  refine Go.cast (g' := mkF m 0 #[.val (.ref ab), .val (.int 1)] []) (by first | (simp [entryFrame, mkF, argsToLocals, Value.category]; done) | rfl) ?_
  refine Go.getS X0 hx hZ hown (wd hw 106 rfl) Via.refl e0 (S_AD.ext O.2) (hb hby d_j52_m5_0) ?_
  intro T1 X1 e1
  refine Go.st (g' := (mkF m 37 #[.val (.ref ab), .val (.int 3)] [(.int 2), (.ref ab)])) (fun t k => ?_) ?_
  · refine XS.ifYes X1.here hx rfl (pc0 := 3) (pc' := 28) rfl (hb hby d_j52_m5_3) rfl ((if0 _ _).trans (feq (by decide : ¬ (1 : Int32) = (0 : Int32))).2) (by decide) (by decide) ?_
    refine XS.iloadN X1.here hx rfl (hb hby d_j52_m5_28) rfl ?_
    refine XS.iconst X1.here hx rfl (hb hby d_j52_m5_29) ?_
    refine XS.ishl X1.here hx rfl (hb hby d_j52_m5_30) rfl ?_
    refine XS.istoreN X1.here hx rfl (hb hby d_j52_m5_31) rfl (l' := #[.val (.ref ab), .val (.int 2)]) rfl ?_
    refine XS.aloadN X1.here hx rfl (hb hby d_j52_m5_32) rfl rfl ?_
    refine XS.iloadN X1.here hx rfl (hb hby d_j52_m5_33) rfl ?_
    refine XS.iinc X1.here hx rfl (hb hby d_j52_m5_34) rfl (l' := #[.val (.ref ab), .val (.int 3)]) rfl ?_
    exact k
  refine Go.aloadV X1 hx hZ e1 V_b (j := (2 : Int32)) (v := (.int (nar .byte ((y0 >>> ((0 : Int32) &&& 31)).toInt8.toInt32)))) ⟨by decide, by decide⟩ rfl (Or.inr (Or.inr (Or.inr (Or.inr (Or.inr ⟨rfl, rfl⟩))))) (hb hby d_j52_m5_37) ?_
  refine Go.st (g' := (mkF m 42 #[.val (.ref ab), .val (.int 3)] [(.int ((nar .byte ((y0 >>> ((0 : Int32) &&& 31)).toInt8.toInt32)) &&& (255 : Int32)))])) (fun t k => ?_) ?_
  · refine XS.sipush X1.here hx rfl (hb hby d_j52_m5_38) ?_
    refine XS.iand X1.here hx rfl (hb hby d_j52_m5_41) rfl ?_
    exact k
  refine Go.getS X1 hx hZ hown (wd hw 107 rfl) Via.refl e1 (S_HI.ext O.2) (hb hby d_j52_m5_42) ?_
  intro T2 X2 e2
  refine Go.st (g' := (mkF m 48 #[.val (.ref ab), .val (.int 3)] [(.int 3), (.ref ab), (.int (((nar .byte ((y0 >>> ((0 : Int32) &&& 31)).toInt8.toInt32)) &&& (255 : Int32)) <<< ((0 : Int32) &&& 31)))])) (fun t k => ?_) ?_
  · refine XS.ishl X2.here hx rfl (hb hby d_j52_m5_45) rfl ?_
    refine XS.aloadN X2.here hx rfl (hb hby d_j52_m5_46) rfl rfl ?_
    refine XS.iloadN X2.here hx rfl (hb hby d_j52_m5_47) rfl ?_
    exact k
  refine Go.aloadV X2 hx hZ e2 V_b (j := (3 : Int32)) (v := (.int (nar .byte ((y0 >>> ((8 : Int32) &&& 31)).toInt8.toInt32)))) ⟨by decide, by decide⟩ rfl (Or.inr (Or.inr (Or.inr (Or.inr (Or.inr ⟨rfl, rfl⟩))))) (hb hby d_j52_m5_48) ?_
  refine Go.st (g' := (mkF m 53 #[.val (.ref ab), .val (.int 3)] [(.int ((nar .byte ((y0 >>> ((8 : Int32) &&& 31)).toInt8.toInt32)) &&& (255 : Int32))), (.int (((nar .byte ((y0 >>> ((0 : Int32) &&& 31)).toInt8.toInt32)) &&& (255 : Int32)) <<< ((0 : Int32) &&& 31)))])) (fun t k => ?_) ?_
  · refine XS.sipush X2.here hx rfl (hb hby d_j52_m5_49) ?_
    refine XS.iand X2.here hx rfl (hb hby d_j52_m5_52) rfl ?_
    exact k
  refine Go.getS X2 hx hZ hown (wd hw 108 rfl) Via.refl e2 (S_LO.ext O.2) (hb hby d_j52_m5_53) ?_
  intro T3 X3 e3
  refine Go.st (g' := (mkF m 59 #[.val (.ref ab), .val (.int 3)] [(.int (((((nar .byte ((y0 >>> ((0 : Int32) &&& 31)).toInt8.toInt32)) &&& (255 : Int32)) <<< ((0 : Int32) &&& 31)) ||| (((nar .byte ((y0 >>> ((8 : Int32) &&& 31)).toInt8.toInt32)) &&& (255 : Int32)) <<< ((8 : Int32) &&& 31))).toUInt32.toUInt16.toUInt32.toInt32))])) (fun t k => ?_) ?_
  · refine XS.ishl X3.here hx rfl (hb hby d_j52_m5_56) rfl ?_
    refine XS.ior X3.here hx rfl (hb hby d_j52_m5_57) rfl ?_
    refine XS.i2c X3.here hx rfl (hb hby d_j52_m5_58) rfl ?_
    exact k
  refine Go.retS X3 hx hlk hret (by simp) (own_nc _) (hb hby d_j52_m5_59) (by decide) (by decide) e3 ?_
  exact ⟨by rw [own_gc hr0], N0, rfl⟩
theorem ct_uch_3_1 (l : Launch) (Z : State) (a0 : Array Value) (hw : ∀ d ∈ tables_1, d.before a0 Z = true) (zc : Int32) (fm : Value) (G : Gl Z zc fm) (ab : Addr) (kb : ClassId) (y0 : Int32) (u0 : Value) (u1 : Value) (u4 : Value) (u5 : Value) (h0 : Heap) (n0 : Nat) (O : Old Z n0 h0) (V_b : Arv Z h0 ab kb .byte (6 : Int32) [u0, u1, (.int (nar .byte ((y0 >>> ((0 : Int32) &&& 31)).toInt8.toInt32))), (.int (nar .byte ((y0 >>> ((8 : Int32) &&& 31)).toInt8.toInt32))), u4, u5] (.int 0)) (hr0 : 0 ≤ y0.toInt ∧ y0.toInt < 65536) :
    Ct l (⟨"java/lang/StringUTF16", "charAt", "([BI)C"⟩ : MethodName) jdk_52_method_83_code 2 (some .char) ({ frames := 3, cells := 0, slots := 0, locals := 40 } : Room) Z #[(.ref ab), (.int 1)] h0 (fun v h L => v = some (.int y0) ∧ Fr n0 L ∧ h0 = h) := by
  refine Ct.of (plainFor_of_name pn_StringUTF16_856) ?_
  intro p e s m below meth c T0 X0 hx hby hml hown hnm hret hlk hZ e0
  have N0 := Fr.nil n0
  have G' := G
  obtain ⟨S_CS, hzc, S_FM, hfm, S_AD, S_HI, S_LO⟩ := G'
  refine Go.cast (g' := mkF m 0 #[.val (.ref ab), .val (.int 1)] []) (by first | (simp [entryFrame, mkF, argsToLocals, Value.category]; done) | rfl) ?_
  refine Go.st (g' := (mkF m 2 #[.val (.ref ab), .val (.int 1)] [(.ref ab), (.int 1)])) (fun t k => ?_) ?_
  · refine XS.iloadN X0.here hx rfl (hb hby d_j52_m83_0) rfl ?_
    refine XS.aloadN X0.here hx rfl (hb hby d_j52_m83_1) rfl rfl ?_
    exact k
  refine Go.callS X0 hx hZ (W := 0) (argsL := [(.int 1), (.ref ab)]) (rest := []) hown (wd hw 115 rfl) (wd hw 116 rfl) (wd hw 23 rfl) (wd hw 117 rfl) (by decide) (ct_uci_3_1 l Z a0 hw zc fm G ab kb u0 u1 (.int (nar .byte ((y0 >>> ((0 : Int32) &&& 31)).toInt8.toInt32))) (.int (nar .byte ((y0 >>> ((8 : Int32) &&& 31)).toInt8.toInt32))) u4 u5 h0 n0 O V_b) e0 (by rw [hml]; rfl) (lenOf pd__I_B_V_2323 rfl) rfl rfl (hb hby d_j52_m83_2) ?_
  intro v1 T1 h1 L1 X1 e1 q1
  obtain ⟨rfl, N1, rfl⟩ := q1
  replace N1 := Fr.app N0 N1
  refine Go.st (g' := (mkF m 7 #[.val (.ref ab), .val (.int 1)] [(.int 1), (.ref ab)])) (fun t k => ?_) ?_
  · refine XS.aloadN X1.here hx rfl (hb hby d_j52_m83_5) rfl rfl ?_
    refine XS.iloadN X1.here hx rfl (hb hby d_j52_m83_6) rfl ?_
    exact k
  refine Go.callS X1 hx hZ (W := 0) (argsL := [(.ref ab), (.int 1)]) (rest := []) hown (wd hw 109 rfl) (wd hw 110 rfl) (wd hw 23 rfl) (wd hw 111 rfl) (by decide) (ct_gch_3_1 l Z a0 hw zc fm G ab kb y0 u0 u1 u4 u5 h0 n0 O V_b hr0) e1 (by rw [hml]; rfl) (lenOf pd___BI_C_7586 rfl) rfl rfl (hb hby d_j52_m83_7) ?_
  intro v2 T2 h2 L2 X2 e2 q2
  obtain ⟨rfl, N2, rfl⟩ := q2
  replace N2 := Fr.app N1 N2
  show Go p e below _ T2 (mkF m 10 #[.val (.ref ab), .val (.int 1)] [(.int y0)])
  refine Go.retS X2 hx hlk hret (by simp) (own_nr hr0) (hb hby d_j52_m83_10) (by decide) (by decide) e2 ?_
  exact ⟨rfl, N2, rfl⟩
theorem ct_ch_3_1_1 (l : Launch) (Z : State) (a0 : Array Value) (hw : ∀ d ∈ tables_1, d.before a0 Z = true) (zc : Int32) (fm : Value) (G : Gl Z zc fm) (a1 : Addr) (ab : Addr) (kb : ClassId) (y0 : Int32) (u0 : Value) (u1 : Value) (u4 : Value) (u5 : Value) (h0 : Heap) (n0 : Nat) (O : Old Z n0 h0) (E_a1 : Exa Z h0 a1 "java/lang/String") (F_v : Fld Z h0 a1 "java/lang/String" "value" "[B" (.ref ab)) (F_c : Fld Z h0 a1 "java/lang/String" "coder" "B" (.int 1)) (V_b : Arv Z h0 ab kb .byte (6 : Int32) [u0, u1, (.int (nar .byte ((y0 >>> ((0 : Int32) &&& 31)).toInt8.toInt32))), (.int (nar .byte ((y0 >>> ((8 : Int32) &&& 31)).toInt8.toInt32))), u4, u5] (.int 0)) (hr0 : 0 ≤ y0.toInt ∧ y0.toInt < 65536) :
    Ct l (⟨"java/lang/String", "charAt", "(I)C"⟩ : MethodName) jdk_42_method_56_code 2 (some .char) ({ frames := 4, cells := 0, slots := 0, locals := 110 } : Room) Z #[(.ref a1), (.int 1)] h0 (fun v h L => v = some (.int y0) ∧ Fr n0 L ∧ h0 = h) := by
  refine Ct.of (plainFor_of_name pn_String_837) ?_
  intro p e s m below meth c T0 X0 hx hby hml hown hnm hret hlk hZ e0
  have N0 := Fr.nil n0
  have G' := G
  obtain ⟨S_CS, hzc, S_FM, hfm, S_AD, S_HI, S_LO⟩ := G'
  refine Go.cast (g' := mkF m 0 #[.val (.ref a1), .val (.int 1)] []) (by first | (simp [entryFrame, mkF, argsToLocals, Value.category]; done) | rfl) ?_
  refine Go.st (g' := (mkF m 1 #[.val (.ref a1), .val (.int 1)] [(.ref a1)])) (fun t k => ?_) ?_
  · refine XS.aloadN X0.here hx rfl (hb hby d_j42_m56_0) rfl rfl ?_
    exact k
  refine Go.callV X0 hx hZ (W := 0) (argsL := []) (rest := []) hown (wd hw 58 rfl) (wd hw 59 rfl) (notFace_of_selects (args := #[]) (mvT hZ (wd hw 61 rfl))) (wd hw 61 rfl) (wd hw 60 rfl) (wd hw 8 rfl) (wd hw 62 rfl) (by decide) E_a1 (ct_isL_1 l Z a0 hw zc fm G a1 h0 n0 O F_c) e0 (by rw [hml]; rfl) (lenOf pd___Z_8338 rfl) rfl rfl (hb hby d_j42_m56_1) ?_
  intro v1 T1 h1 L1 X1 e1 q1
  obtain ⟨rfl, N1, rfl⟩ := q1
  replace N1 := Fr.app N0 N1
  refine Go.st (g' := (mkF m 17 #[.val (.ref a1), .val (.int 1)] [(.ref a1)])) (fun t k => ?_) ?_
  · refine XS.ifYes X1.here hx rfl (pc0 := 4) (pc' := 16) rfl (hb hby d_j42_m56_4) rfl ((if0 _ _).trans (teq (by decide : (0 : Int32) = (0 : Int32))).1) (by decide) (by decide) ?_
    refine XS.aloadN X1.here hx rfl (hb hby d_j42_m56_16) rfl rfl ?_
    exact k
  refine Go.getF X1 hx hZ hown (wd hw 34 rfl) Via.refl e1 F_v (hb hby d_j42_m56_17) ?_
  intro T2 X2 e2
  refine Go.st (g' := (mkF m 21 #[.val (.ref a1), .val (.int 1)] [(.int 1), (.ref ab)])) (fun t k => ?_) ?_
  · refine XS.iloadN X2.here hx rfl (hb hby d_j42_m56_20) rfl ?_
    exact k
  refine Go.callS X2 hx hZ (W := 0) (argsL := [(.ref ab), (.int 1)]) (rest := []) hown (wd hw 112 rfl) (wd hw 113 rfl) (wd hw 23 rfl) (wd hw 114 rfl) (by decide) (ct_uch_3_1 l Z a0 hw zc fm G ab kb y0 u0 u1 u4 u5 h0 n0 O V_b hr0) e2 (by rw [hml]; rfl) (lenOf pd___BI_C_7586 rfl) rfl rfl (hb hby d_j42_m56_21) ?_
  intro v3 T3 h3 L3 X3 e3 q3
  obtain ⟨rfl, N3, rfl⟩ := q3
  replace N3 := Fr.app N1 N3
  show Go p e below _ T3 (mkF m 24 #[.val (.ref a1), .val (.int 1)] [(.int y0)])
  refine Go.retS X3 hx hlk hret (by simp) (own_nr hr0) (hb hby d_j42_m56_24) (by decide) (by decide) e3 ?_
  exact ⟨rfl, N3, rfl⟩
theorem ct_pci_3_2 (l : Launch) (Z : State) (a0 : Array Value) (hw : ∀ d ∈ tables_1, d.before a0 Z = true) (zc : Int32) (fm : Value) (G : Gl Z zc fm) (h0 : Heap) (n0 : Nat) (O : Old Z n0 h0)  :
    Ct l (⟨"jdk/internal/util/Preconditions", "checkIndex", "(IILjava/util/function/BiFunction;)I"⟩ : MethodName) jdk_41_method_11_code 3 (some .int) ({ frames := 0, cells := 0, slots := 0, locals := 0 } : Room) Z #[(.int 2), (.int 3), fm] h0 (fun v h L => v = some (.int 2) ∧ Fr n0 L ∧ h0 = h) := by
  refine Ct.of (plainFor_of_name pn_Preconditions_68) ?_
  intro p e s m below meth c T0 X0 hx hby hml hown hnm hret hlk hZ e0
  have N0 := Fr.nil n0
  have G' := G
  obtain ⟨S_CS, hzc, S_FM, hfm, S_AD, S_HI, S_LO⟩ := G'
  refine Go.cast (g' := mkF m 0 #[.val (.int 2), .val (.int 3), .val fm] []) (by rcases ref_cases hfm with rfl | ⟨_, rfl⟩ <;> first | (simp [entryFrame, mkF, argsToLocals, Value.category]; done) | rfl) ?_
  refine Go.st (g' := (mkF m 17 #[.val (.int 2), .val (.int 3), .val fm] [(.int 2)])) (fun t k => ?_) ?_
  · refine XS.iloadN X0.here hx rfl (hb hby d_j41_m11_0) rfl ?_
    refine XS.ifNo X0.here hx rfl (hb hby d_j41_m11_1) rfl ((if0 _ _).trans (flt (by decide : ¬ (2 : Int32) < (0 : Int32))).1) ?_
    refine XS.iloadN X0.here hx rfl (hb hby d_j41_m11_4) rfl ?_
    refine XS.iloadN X0.here hx rfl (hb hby d_j41_m11_5) rfl ?_
    refine XS.icmpYes X0.here hx rfl (pc0 := 6) (pc' := 16) rfl (hb hby d_j41_m11_6) rfl (tlt (by decide : (2 : Int32) < (3 : Int32))).1 (by decide) (by decide) ?_
    refine XS.iloadN X0.here hx rfl (hb hby d_j41_m11_16) rfl ?_
    exact k
  refine Go.retI X0 hx hlk hret (hb hby d_j41_m11_17) (by decide) (by decide) e0 ?_
  exact ⟨rfl, N0, rfl⟩
theorem ct_sci_3_2 (l : Launch) (Z : State) (a0 : Array Value) (hw : ∀ d ∈ tables_1, d.before a0 Z = true) (zc : Int32) (fm : Value) (G : Gl Z zc fm) (h0 : Heap) (n0 : Nat) (O : Old Z n0 h0)  :
    Ct l (⟨"java/lang/String", "checkIndex", "(II)V"⟩ : MethodName) jdk_42_method_155_code 2 none ({ frames := 1, cells := 0, slots := 0, locals := 14 } : Room) Z #[(.int 2), (.int 3)] h0 (fun v h L => v = none ∧ Fr n0 L ∧ h0 = h) := by
  refine Ct.of (plainFor_of_name pn_String_837) ?_
  intro p e s m below meth c T0 X0 hx hby hml hown hnm hret hlk hZ e0
  have N0 := Fr.nil n0
  have G' := G
  obtain ⟨S_CS, hzc, S_FM, hfm, S_AD, S_HI, S_LO⟩ := G'
  refine Go.cast (g' := mkF m 0 #[.val (.int 2), .val (.int 3)] []) (by first | (simp [entryFrame, mkF, argsToLocals, Value.category]; done) | rfl) ?_
  refine Go.st (g' := (mkF m 2 #[.val (.int 2), .val (.int 3)] [(.int 3), (.int 2)])) (fun t k => ?_) ?_
  · refine XS.iloadN X0.here hx rfl (hb hby d_j42_m155_0) rfl ?_
    refine XS.iloadN X0.here hx rfl (hb hby d_j42_m155_1) rfl ?_
    exact k
  refine Go.getS X0 hx hZ hown (wd hw 70 rfl) Via.refl e0 (S_FM.ext O.2) (hb hby d_j42_m155_2) ?_
  intro T1 X1 e1
  show Go p e below _ T1 (mkF m 5 #[.val (.int 2), .val (.int 3)] [fm, (.int 3), (.int 2)])
  refine Go.callS X1 hx hZ (W := 0) (argsL := [(.int 2), (.int 3), fm]) (rest := []) hown (wd hw 72 rfl) (wd hw 73 rfl) (wd hw 71 rfl) (wd hw 74 rfl) (by decide) (ct_pci_3_2 l Z a0 hw zc fm G  h0 n0 O ) e1 (by rw [hml]; rfl) (lenOf pd__IILjava_util_function_BiFunction__I_3570 rfl) rfl rfl (hb hby d_j42_m155_5) ?_
  intro v2 T2 h2 L2 X2 e2 q2
  obtain ⟨rfl, N2, rfl⟩ := q2
  replace N2 := Fr.app N0 N2
  refine Go.st (g' := (mkF m 9 #[.val (.int 2), .val (.int 3)] [])) (fun t k => ?_) ?_
  · refine XS.pop X2.here hx rfl (hb hby d_j42_m155_8) rfl rfl ?_
    exact k
  refine Go.retV X2 hx hlk hret (hb hby d_j42_m155_9) (by decide) (by decide) e2 ?_
  exact ⟨rfl, N2, rfl⟩
theorem ct_uci_3_2 (l : Launch) (Z : State) (a0 : Array Value) (hw : ∀ d ∈ tables_1, d.before a0 Z = true) (zc : Int32) (fm : Value) (G : Gl Z zc fm) (ab : Addr) (kb : ClassId) (u0 : Value) (u1 : Value) (u2 : Value) (u3 : Value) (u4 : Value) (u5 : Value) (h0 : Heap) (n0 : Nat) (O : Old Z n0 h0) (V_b : Arv Z h0 ab kb .byte (6 : Int32) [u0, u1, u2, u3, u4, u5] (.int 0)) :
    Ct l (⟨"java/lang/StringUTF16", "checkIndex", "(I[B)V"⟩ : MethodName) jdk_52_method_91_code 2 none ({ frames := 2, cells := 0, slots := 0, locals := 27 } : Room) Z #[(.int 2), (.ref ab)] h0 (fun v h L => v = none ∧ Fr n0 L ∧ h0 = h) := by
  refine Ct.of (plainFor_of_name pn_StringUTF16_856) ?_
  intro p e s m below meth c T0 X0 hx hby hml hown hnm hret hlk hZ e0
  have N0 := Fr.nil n0
  have G' := G
  obtain ⟨S_CS, hzc, S_FM, hfm, S_AD, S_HI, S_LO⟩ := G'
  refine Go.cast (g' := mkF m 0 #[.val (.int 2), .val (.ref ab)] []) (by first | (simp [entryFrame, mkF, argsToLocals, Value.category]; done) | rfl) ?_
  refine Go.st (g' := (mkF m 2 #[.val (.int 2), .val (.ref ab)] [(.ref ab), (.int 2)])) (fun t k => ?_) ?_
  · refine XS.iloadN X0.here hx rfl (hb hby d_j52_m91_0) rfl ?_
    refine XS.aloadN X0.here hx rfl (hb hby d_j52_m91_1) rfl rfl ?_
    exact k
  refine Go.callS X0 hx hZ (W := 1) (argsL := [(.ref ab)]) (rest := [(.int 2)]) hown (wd hw 118 rfl) (wd hw 119 rfl) (wd hw 23 rfl) (wd hw 120 rfl) (by decide) (ct_ulen_6 l Z a0 hw  ab kb u0 u1 u2 u3 u4 u5 h0 n0 O V_b) e0 (by rw [hml]; rfl) (lenOf pd___B_I_9928 rfl) rfl rfl (hb hby d_j52_m91_2) ?_
  intro v1 T1 h1 L1 X1 e1 q1
  obtain ⟨rfl, N1, rfl⟩ := q1
  replace N1 := Fr.app N0 N1
  show Go p e below _ T1 (mkF m 5 #[.val (.int 2), .val (.ref ab)] [(.int 3), (.int 2)])
  refine Go.callS X1 hx hZ (W := 0) (argsL := [(.int 2), (.int 3)]) (rest := []) hown (wd hw 121 rfl) (wd hw 68 rfl) (wd hw 8 rfl) (wd hw 69 rfl) (by decide) (ct_sci_3_2 l Z a0 hw zc fm G  h0 n0 O ) e1 (by rw [hml]; rfl) (lenOf pd__II_V_433 rfl) rfl rfl (hb hby d_j52_m91_5) ?_
  intro v2 T2 h2 L2 X2 e2 q2
  obtain ⟨rfl, N2, rfl⟩ := q2
  replace N2 := Fr.app N1 N2
  show Go p e below _ T2 (mkF m 8 #[.val (.int 2), .val (.ref ab)] [])
  refine Go.retV X2 hx hlk hret (hb hby d_j52_m91_8) (by decide) (by decide) e2 ?_
  exact ⟨rfl, N2, rfl⟩
theorem ct_gch_3_2 (l : Launch) (Z : State) (a0 : Array Value) (hw : ∀ d ∈ tables_1, d.before a0 Z = true) (zc : Int32) (fm : Value) (G : Gl Z zc fm) (ab : Addr) (kb : ClassId) (y0 : Int32) (u0 : Value) (u1 : Value) (u2 : Value) (u3 : Value) (h0 : Heap) (n0 : Nat) (O : Old Z n0 h0) (V_b : Arv Z h0 ab kb .byte (6 : Int32) [u0, u1, u2, u3, (.int (nar .byte ((y0 >>> ((0 : Int32) &&& 31)).toInt8.toInt32))), (.int (nar .byte ((y0 >>> ((8 : Int32) &&& 31)).toInt8.toInt32)))] (.int 0)) (hr0 : 0 ≤ y0.toInt ∧ y0.toInt < 65536) :
    Ct l (⟨"java/lang/StringUTF16", "getChar", "([BI)C"⟩ : MethodName) jdk_52_method_5_code 2 (some .char) ({ frames := 0, cells := 0, slots := 0, locals := 0 } : Room) Z #[(.ref ab), (.int 2)] h0 (fun v h L => v = some (.int y0) ∧ Fr n0 L ∧ h0 = h) := by
  refine Ct.of (plainFor_of_name pn_StringUTF16_856) ?_
  intro p e s m below meth c T0 X0 hx hby hml hown hnm hret hlk hZ e0
  have N0 := Fr.nil n0
  have G' := G
  obtain ⟨S_CS, hzc, S_FM, hfm, S_AD, S_HI, S_LO⟩ := G'
  refine Go.cast (g' := mkF m 0 #[.val (.ref ab), .val (.int 2)] []) (by first | (simp [entryFrame, mkF, argsToLocals, Value.category]; done) | rfl) ?_
  refine Go.getS X0 hx hZ hown (wd hw 106 rfl) Via.refl e0 (S_AD.ext O.2) (hb hby d_j52_m5_0) ?_
  intro T1 X1 e1
  refine Go.st (g' := (mkF m 37 #[.val (.ref ab), .val (.int 5)] [(.int 4), (.ref ab)])) (fun t k => ?_) ?_
  · refine XS.ifYes X1.here hx rfl (pc0 := 3) (pc' := 28) rfl (hb hby d_j52_m5_3) rfl ((if0 _ _).trans (feq (by decide : ¬ (1 : Int32) = (0 : Int32))).2) (by decide) (by decide) ?_
    refine XS.iloadN X1.here hx rfl (hb hby d_j52_m5_28) rfl ?_
    refine XS.iconst X1.here hx rfl (hb hby d_j52_m5_29) ?_
    refine XS.ishl X1.here hx rfl (hb hby d_j52_m5_30) rfl ?_
    refine XS.istoreN X1.here hx rfl (hb hby d_j52_m5_31) rfl (l' := #[.val (.ref ab), .val (.int 4)]) rfl ?_
    refine XS.aloadN X1.here hx rfl (hb hby d_j52_m5_32) rfl rfl ?_
    refine XS.iloadN X1.here hx rfl (hb hby d_j52_m5_33) rfl ?_
    refine XS.iinc X1.here hx rfl (hb hby d_j52_m5_34) rfl (l' := #[.val (.ref ab), .val (.int 5)]) rfl ?_
    exact k
  refine Go.aloadV X1 hx hZ e1 V_b (j := (4 : Int32)) (v := (.int (nar .byte ((y0 >>> ((0 : Int32) &&& 31)).toInt8.toInt32)))) ⟨by decide, by decide⟩ rfl (Or.inr (Or.inr (Or.inr (Or.inr (Or.inr ⟨rfl, rfl⟩))))) (hb hby d_j52_m5_37) ?_
  refine Go.st (g' := (mkF m 42 #[.val (.ref ab), .val (.int 5)] [(.int ((nar .byte ((y0 >>> ((0 : Int32) &&& 31)).toInt8.toInt32)) &&& (255 : Int32)))])) (fun t k => ?_) ?_
  · refine XS.sipush X1.here hx rfl (hb hby d_j52_m5_38) ?_
    refine XS.iand X1.here hx rfl (hb hby d_j52_m5_41) rfl ?_
    exact k
  refine Go.getS X1 hx hZ hown (wd hw 107 rfl) Via.refl e1 (S_HI.ext O.2) (hb hby d_j52_m5_42) ?_
  intro T2 X2 e2
  refine Go.st (g' := (mkF m 48 #[.val (.ref ab), .val (.int 5)] [(.int 5), (.ref ab), (.int (((nar .byte ((y0 >>> ((0 : Int32) &&& 31)).toInt8.toInt32)) &&& (255 : Int32)) <<< ((0 : Int32) &&& 31)))])) (fun t k => ?_) ?_
  · refine XS.ishl X2.here hx rfl (hb hby d_j52_m5_45) rfl ?_
    refine XS.aloadN X2.here hx rfl (hb hby d_j52_m5_46) rfl rfl ?_
    refine XS.iloadN X2.here hx rfl (hb hby d_j52_m5_47) rfl ?_
    exact k
  refine Go.aloadV X2 hx hZ e2 V_b (j := (5 : Int32)) (v := (.int (nar .byte ((y0 >>> ((8 : Int32) &&& 31)).toInt8.toInt32)))) ⟨by decide, by decide⟩ rfl (Or.inr (Or.inr (Or.inr (Or.inr (Or.inr ⟨rfl, rfl⟩))))) (hb hby d_j52_m5_48) ?_
  refine Go.st (g' := (mkF m 53 #[.val (.ref ab), .val (.int 5)] [(.int ((nar .byte ((y0 >>> ((8 : Int32) &&& 31)).toInt8.toInt32)) &&& (255 : Int32))), (.int (((nar .byte ((y0 >>> ((0 : Int32) &&& 31)).toInt8.toInt32)) &&& (255 : Int32)) <<< ((0 : Int32) &&& 31)))])) (fun t k => ?_) ?_
  · refine XS.sipush X2.here hx rfl (hb hby d_j52_m5_49) ?_
    refine XS.iand X2.here hx rfl (hb hby d_j52_m5_52) rfl ?_
    exact k
  refine Go.getS X2 hx hZ hown (wd hw 108 rfl) Via.refl e2 (S_LO.ext O.2) (hb hby d_j52_m5_53) ?_
  intro T3 X3 e3
  refine Go.st (g' := (mkF m 59 #[.val (.ref ab), .val (.int 5)] [(.int (((((nar .byte ((y0 >>> ((0 : Int32) &&& 31)).toInt8.toInt32)) &&& (255 : Int32)) <<< ((0 : Int32) &&& 31)) ||| (((nar .byte ((y0 >>> ((8 : Int32) &&& 31)).toInt8.toInt32)) &&& (255 : Int32)) <<< ((8 : Int32) &&& 31))).toUInt32.toUInt16.toUInt32.toInt32))])) (fun t k => ?_) ?_
  · refine XS.ishl X3.here hx rfl (hb hby d_j52_m5_56) rfl ?_
    refine XS.ior X3.here hx rfl (hb hby d_j52_m5_57) rfl ?_
    refine XS.i2c X3.here hx rfl (hb hby d_j52_m5_58) rfl ?_
    exact k
  refine Go.retS X3 hx hlk hret (by simp) (own_nc _) (hb hby d_j52_m5_59) (by decide) (by decide) e3 ?_
  exact ⟨by rw [own_gc hr0], N0, rfl⟩
theorem ct_uch_3_2 (l : Launch) (Z : State) (a0 : Array Value) (hw : ∀ d ∈ tables_1, d.before a0 Z = true) (zc : Int32) (fm : Value) (G : Gl Z zc fm) (ab : Addr) (kb : ClassId) (y0 : Int32) (u0 : Value) (u1 : Value) (u2 : Value) (u3 : Value) (h0 : Heap) (n0 : Nat) (O : Old Z n0 h0) (V_b : Arv Z h0 ab kb .byte (6 : Int32) [u0, u1, u2, u3, (.int (nar .byte ((y0 >>> ((0 : Int32) &&& 31)).toInt8.toInt32))), (.int (nar .byte ((y0 >>> ((8 : Int32) &&& 31)).toInt8.toInt32)))] (.int 0)) (hr0 : 0 ≤ y0.toInt ∧ y0.toInt < 65536) :
    Ct l (⟨"java/lang/StringUTF16", "charAt", "([BI)C"⟩ : MethodName) jdk_52_method_83_code 2 (some .char) ({ frames := 3, cells := 0, slots := 0, locals := 40 } : Room) Z #[(.ref ab), (.int 2)] h0 (fun v h L => v = some (.int y0) ∧ Fr n0 L ∧ h0 = h) := by
  refine Ct.of (plainFor_of_name pn_StringUTF16_856) ?_
  intro p e s m below meth c T0 X0 hx hby hml hown hnm hret hlk hZ e0
  have N0 := Fr.nil n0
  have G' := G
  obtain ⟨S_CS, hzc, S_FM, hfm, S_AD, S_HI, S_LO⟩ := G'
  refine Go.cast (g' := mkF m 0 #[.val (.ref ab), .val (.int 2)] []) (by first | (simp [entryFrame, mkF, argsToLocals, Value.category]; done) | rfl) ?_
  refine Go.st (g' := (mkF m 2 #[.val (.ref ab), .val (.int 2)] [(.ref ab), (.int 2)])) (fun t k => ?_) ?_
  · refine XS.iloadN X0.here hx rfl (hb hby d_j52_m83_0) rfl ?_
    refine XS.aloadN X0.here hx rfl (hb hby d_j52_m83_1) rfl rfl ?_
    exact k
  refine Go.callS X0 hx hZ (W := 0) (argsL := [(.int 2), (.ref ab)]) (rest := []) hown (wd hw 115 rfl) (wd hw 116 rfl) (wd hw 23 rfl) (wd hw 117 rfl) (by decide) (ct_uci_3_2 l Z a0 hw zc fm G ab kb u0 u1 u2 u3 (.int (nar .byte ((y0 >>> ((0 : Int32) &&& 31)).toInt8.toInt32))) (.int (nar .byte ((y0 >>> ((8 : Int32) &&& 31)).toInt8.toInt32))) h0 n0 O V_b) e0 (by rw [hml]; rfl) (lenOf pd__I_B_V_2323 rfl) rfl rfl (hb hby d_j52_m83_2) ?_
  intro v1 T1 h1 L1 X1 e1 q1
  obtain ⟨rfl, N1, rfl⟩ := q1
  replace N1 := Fr.app N0 N1
  refine Go.st (g' := (mkF m 7 #[.val (.ref ab), .val (.int 2)] [(.int 2), (.ref ab)])) (fun t k => ?_) ?_
  · refine XS.aloadN X1.here hx rfl (hb hby d_j52_m83_5) rfl rfl ?_
    refine XS.iloadN X1.here hx rfl (hb hby d_j52_m83_6) rfl ?_
    exact k
  refine Go.callS X1 hx hZ (W := 0) (argsL := [(.ref ab), (.int 2)]) (rest := []) hown (wd hw 109 rfl) (wd hw 110 rfl) (wd hw 23 rfl) (wd hw 111 rfl) (by decide) (ct_gch_3_2 l Z a0 hw zc fm G ab kb y0 u0 u1 u2 u3 h0 n0 O V_b hr0) e1 (by rw [hml]; rfl) (lenOf pd___BI_C_7586 rfl) rfl rfl (hb hby d_j52_m83_7) ?_
  intro v2 T2 h2 L2 X2 e2 q2
  obtain ⟨rfl, N2, rfl⟩ := q2
  replace N2 := Fr.app N1 N2
  show Go p e below _ T2 (mkF m 10 #[.val (.ref ab), .val (.int 2)] [(.int y0)])
  refine Go.retS X2 hx hlk hret (by simp) (own_nr hr0) (hb hby d_j52_m83_10) (by decide) (by decide) e2 ?_
  exact ⟨rfl, N2, rfl⟩
theorem ct_ch_3_2_1 (l : Launch) (Z : State) (a0 : Array Value) (hw : ∀ d ∈ tables_1, d.before a0 Z = true) (zc : Int32) (fm : Value) (G : Gl Z zc fm) (a1 : Addr) (ab : Addr) (kb : ClassId) (y0 : Int32) (u0 : Value) (u1 : Value) (u2 : Value) (u3 : Value) (h0 : Heap) (n0 : Nat) (O : Old Z n0 h0) (E_a1 : Exa Z h0 a1 "java/lang/String") (F_v : Fld Z h0 a1 "java/lang/String" "value" "[B" (.ref ab)) (F_c : Fld Z h0 a1 "java/lang/String" "coder" "B" (.int 1)) (V_b : Arv Z h0 ab kb .byte (6 : Int32) [u0, u1, u2, u3, (.int (nar .byte ((y0 >>> ((0 : Int32) &&& 31)).toInt8.toInt32))), (.int (nar .byte ((y0 >>> ((8 : Int32) &&& 31)).toInt8.toInt32)))] (.int 0)) (hr0 : 0 ≤ y0.toInt ∧ y0.toInt < 65536) :
    Ct l (⟨"java/lang/String", "charAt", "(I)C"⟩ : MethodName) jdk_42_method_56_code 2 (some .char) ({ frames := 4, cells := 0, slots := 0, locals := 110 } : Room) Z #[(.ref a1), (.int 2)] h0 (fun v h L => v = some (.int y0) ∧ Fr n0 L ∧ h0 = h) := by
  refine Ct.of (plainFor_of_name pn_String_837) ?_
  intro p e s m below meth c T0 X0 hx hby hml hown hnm hret hlk hZ e0
  have N0 := Fr.nil n0
  have G' := G
  obtain ⟨S_CS, hzc, S_FM, hfm, S_AD, S_HI, S_LO⟩ := G'
  refine Go.cast (g' := mkF m 0 #[.val (.ref a1), .val (.int 2)] []) (by first | (simp [entryFrame, mkF, argsToLocals, Value.category]; done) | rfl) ?_
  refine Go.st (g' := (mkF m 1 #[.val (.ref a1), .val (.int 2)] [(.ref a1)])) (fun t k => ?_) ?_
  · refine XS.aloadN X0.here hx rfl (hb hby d_j42_m56_0) rfl rfl ?_
    exact k
  refine Go.callV X0 hx hZ (W := 0) (argsL := []) (rest := []) hown (wd hw 58 rfl) (wd hw 59 rfl) (notFace_of_selects (args := #[]) (mvT hZ (wd hw 61 rfl))) (wd hw 61 rfl) (wd hw 60 rfl) (wd hw 8 rfl) (wd hw 62 rfl) (by decide) E_a1 (ct_isL_1 l Z a0 hw zc fm G a1 h0 n0 O F_c) e0 (by rw [hml]; rfl) (lenOf pd___Z_8338 rfl) rfl rfl (hb hby d_j42_m56_1) ?_
  intro v1 T1 h1 L1 X1 e1 q1
  obtain ⟨rfl, N1, rfl⟩ := q1
  replace N1 := Fr.app N0 N1
  refine Go.st (g' := (mkF m 17 #[.val (.ref a1), .val (.int 2)] [(.ref a1)])) (fun t k => ?_) ?_
  · refine XS.ifYes X1.here hx rfl (pc0 := 4) (pc' := 16) rfl (hb hby d_j42_m56_4) rfl ((if0 _ _).trans (teq (by decide : (0 : Int32) = (0 : Int32))).1) (by decide) (by decide) ?_
    refine XS.aloadN X1.here hx rfl (hb hby d_j42_m56_16) rfl rfl ?_
    exact k
  refine Go.getF X1 hx hZ hown (wd hw 34 rfl) Via.refl e1 F_v (hb hby d_j42_m56_17) ?_
  intro T2 X2 e2
  refine Go.st (g' := (mkF m 21 #[.val (.ref a1), .val (.int 2)] [(.int 2), (.ref ab)])) (fun t k => ?_) ?_
  · refine XS.iloadN X2.here hx rfl (hb hby d_j42_m56_20) rfl ?_
    exact k
  refine Go.callS X2 hx hZ (W := 0) (argsL := [(.ref ab), (.int 2)]) (rest := []) hown (wd hw 112 rfl) (wd hw 113 rfl) (wd hw 23 rfl) (wd hw 114 rfl) (by decide) (ct_uch_3_2 l Z a0 hw zc fm G ab kb y0 u0 u1 u2 u3 h0 n0 O V_b hr0) e2 (by rw [hml]; rfl) (lenOf pd___BI_C_7586 rfl) rfl rfl (hb hby d_j42_m56_21) ?_
  intro v3 T3 h3 L3 X3 e3 q3
  obtain ⟨rfl, N3, rfl⟩ := q3
  replace N3 := Fr.app N1 N3
  show Go p e below _ T3 (mkF m 24 #[.val (.ref a1), .val (.int 2)] [(.int y0)])
  refine Go.retS X3 hx hlk hret (by simp) (own_nr hr0) (hb hby d_j42_m56_24) (by decide) (by decide) e3 ?_
  exact ⟨rfl, N3, rfl⟩
theorem ct_storable_3 (l : Launch) (Z : State) (a0 : Array Value) (hw : ∀ d ∈ tables_1, d.before a0 Z = true) (a1 : Addr) (y0 : Int32) (y1 : Int32) (y2 : Int32) (h0 : Heap) (n0 : Nat) (O : Old Z n0 h0) (E_a1 : Exa Z h0 a1 "java/lang/String") (HL : Ct l (⟨"java/lang/String", "length", "()I"⟩ : MethodName) jdk_42_method_54_code 1 (some .int) ({ frames := 2, cells := 0, slots := 0, locals := 60 } : Room) Z #[(.ref a1)] h0 (fun v h L => v = some (.int 3) ∧ Fr n0 L ∧ h0 = h)) (HC0 : Ct l (⟨"java/lang/String", "charAt", "(I)C"⟩ : MethodName) jdk_42_method_56_code 2 (some .char) ({ frames := 4, cells := 0, slots := 0, locals := 110 } : Room) Z #[(.ref a1), (.int 0)] h0 (fun v h L => v = some (.int y0) ∧ Fr n0 L ∧ h0 = h)) (HC1 : Ct l (⟨"java/lang/String", "charAt", "(I)C"⟩ : MethodName) jdk_42_method_56_code 2 (some .char) ({ frames := 4, cells := 0, slots := 0, locals := 110 } : Room) Z #[(.ref a1), (.int 1)] h0 (fun v h L => v = some (.int y1) ∧ Fr n0 L ∧ h0 = h)) (HC2 : Ct l (⟨"java/lang/String", "charAt", "(I)C"⟩ : MethodName) jdk_42_method_56_code 2 (some .char) ({ frames := 4, cells := 0, slots := 0, locals := 110 } : Room) Z #[(.ref a1), (.int 2)] h0 (fun v h L => v = some (.int y2) ∧ Fr n0 L ∧ h0 = h)) :
    Ct l (⟨"com/example/provenara/provenara/model/CatalogText", "isStorable", "(Ljava/lang/String;)Z"⟩ : MethodName) prog_6_method_2_code 3 (some .boolean) ({ frames := 5, cells := 0, slots := 0, locals := 123 } : Room) Z #[(.ref a1)] h0 (fun v h L => v = some (.int (stor [y0, y1, y2])) ∧ Fr n0 L ∧ h0 = h) := by
  refine Ct.of (plainFor_of_name pn_CatalogText_186) ?_
  intro p e s m below meth c T0 X0 hx hby hml hown hnm hret hlk hZ e0
  have N0 := Fr.nil n0
  refine Go.cast (g' := mkF m 0 #[.val (.ref a1), .unset, .unset] []) (by first | (simp [entryFrame, mkF, argsToLocals, Value.category]; done) | rfl) ?_
  refine Go.st (g' := (mkF m 4 #[.val (.ref a1), .val (.int 0), .unset] [(.ref a1), (.int 0)])) (fun t k => ?_) ?_
  · refine XS.iconst X0.here hx rfl (hb hby d_p6_m2_0) ?_
    refine XS.istoreN X0.here hx rfl (hb hby d_p6_m2_1) rfl (l' := #[.val (.ref a1), .val (.int 0), .unset]) rfl ?_
    refine XS.iloadN X0.here hx rfl (hb hby d_p6_m2_2) rfl ?_
    refine XS.aloadN X0.here hx rfl (hb hby d_p6_m2_3) rfl rfl ?_
    exact k
  refine Go.callV X0 hx hZ (W := 1) (argsL := []) (rest := [(.int 0)]) hown (wd hw 43 rfl) (wd hw 44 rfl) (notFace_of_selects (args := #[]) (mvT hZ (wd hw 46 rfl))) (wd hw 46 rfl) (wd hw 45 rfl) (wd hw 8 rfl) (wd hw 47 rfl) (by decide) E_a1 HL e0 (by rw [hml]; rfl) (lenOf pd___I_8321 rfl) rfl rfl (hb hby d_p6_m2_4) ?_
  intro v1 T1 h1 L1 X1 e1 q1
  obtain ⟨rfl, N1, rfl⟩ := q1
  replace N1 := Fr.app N0 N1
  refine Go.st (g' := (mkF m 12 #[.val (.ref a1), .val (.int 0), .unset] [(.int 0), (.ref a1)])) (fun t k => ?_) ?_
  · refine XS.icmpNo X1.here hx rfl (hb hby d_p6_m2_7) rfl (tlt (by decide : (0 : Int32) < (3 : Int32))).2.1 ?_
    refine XS.aloadN X1.here hx rfl (hb hby d_p6_m2_10) rfl rfl ?_
    refine XS.iloadN X1.here hx rfl (hb hby d_p6_m2_11) rfl ?_
    exact k
  refine Go.callV X1 hx hZ (W := 0) (argsL := [(.int 0)]) (rest := []) hown (wd hw 53 rfl) (wd hw 54 rfl) (notFace_of_selects (args := #[]) (mvT hZ (wd hw 56 rfl))) (wd hw 56 rfl) (wd hw 55 rfl) (wd hw 8 rfl) (wd hw 57 rfl) (by decide) E_a1 HC0 e1 (by rw [hml]; rfl) (lenOf pd__I_C_7757 rfl) rfl rfl (hb hby d_p6_m2_12) ?_
  intro v2 T2 h2 L2 X2 e2 q2
  obtain ⟨rfl, N2, rfl⟩ := q2
  replace N2 := Fr.app N1 N2
  refine Go.st (g' := (mkF m 17 #[.val (.ref a1), .val (.int 0), .val (.int y0)] [(.int y0)])) (fun t k => ?_) ?_
  · refine XS.istoreN X2.here hx rfl (hb hby d_p6_m2_15) rfl (l' := #[.val (.ref a1), .val (.int 0), .val (.int y0)]) rfl ?_
    refine XS.iloadN X2.here hx rfl (hb hby d_p6_m2_16) rfl ?_
    exact k
  by_cases hy3 : y0 = (0 : Int32)
  · skip
    refine Go.st (g' := (mkF m 21 #[.val (.ref a1), .val (.int 0), .val (.int y0)] [(.int 0)])) (fun t k => ?_) ?_
    · refine XS.ifNo X2.here hx rfl (hb hby d_p6_m2_17) rfl ((if0 _ _).trans (teq hy3).2) ?_
      refine XS.iconst X2.here hx rfl (hb hby d_p6_m2_20) ?_
      exact k
    refine Go.retZ X2 hx hlk hret (Or.inl rfl) (hb hby d_p6_m2_21) (by decide) (by decide) e2 ?_
    exact ⟨by simp [stor, hy3], N2, rfl⟩
  · skip
    refine Go.st (g' := (mkF m 23 #[.val (.ref a1), .val (.int 0), .val (.int y0)] [(.int y0)])) (fun t k => ?_) ?_
    · refine XS.ifYes X2.here hx rfl (pc0 := 17) (pc' := 22) rfl (hb hby d_p6_m2_17) rfl ((if0 _ _).trans (feq hy3).2) (by decide) (by decide) ?_
      refine XS.iloadN X2.here hx rfl (hb hby d_p6_m2_22) rfl ?_
      exact k
    by_cases hy4 : hiB y0 = true
    · skip
      show Go p e below _ T2 (mkF m 23 #[.val (.ref a1), .val (.int 0), .val (.int y0)] [(.int y0)])
      refine Go.callS X2 hx hZ (W := 0) (argsL := [(.int y0)]) (rest := []) hown (wd hw 82 rfl) (wd hw 83 rfl) (wd hw 84 rfl) (wd hw 85 rfl) (by decide) (ct_ihs l Z a0 hw  y0 (1 : Int32) h0 n0 O (if_pos hy4).symm) e2 (by rw [hml]; rfl) (lenOf pd__C_Z_2014 rfl) rfl rfl (hb hby d_p6_m2_23) ?_
      intro v5 T5 h5 L5 X5 e5 q5
      obtain ⟨rfl, N5, rfl⟩ := q5
      replace N5 := Fr.app N2 N5
      refine Go.st (g' := (mkF m 33 #[.val (.ref a1), .val (.int 0), .val (.int y0)] [(.ref a1), (.int 1)])) (fun t k => ?_) ?_
      · refine XS.ifNo X5.here hx rfl (hb hby d_p6_m2_26) rfl ((if0 _ _).trans (feq (by decide : ¬ (1 : Int32) = (0 : Int32))).1) ?_
        refine XS.iloadN X5.here hx rfl (hb hby d_p6_m2_29) rfl ?_
        refine XS.iconst X5.here hx rfl (hb hby d_p6_m2_30) ?_
        refine XS.iadd X5.here hx rfl (hb hby d_p6_m2_31) rfl ?_
        refine XS.aloadN X5.here hx rfl (hb hby d_p6_m2_32) rfl rfl ?_
        exact k
      refine Go.callV X5 hx hZ (W := 1) (argsL := []) (rest := [(.int 1)]) hown (wd hw 43 rfl) (wd hw 44 rfl) (notFace_of_selects (args := #[]) (mvT hZ (wd hw 46 rfl))) (wd hw 46 rfl) (wd hw 45 rfl) (wd hw 8 rfl) (wd hw 47 rfl) (by decide) E_a1 HL e5 (by rw [hml]; rfl) (lenOf pd___I_8321 rfl) rfl rfl (hb hby d_p6_m2_33) ?_
      intro v6 T6 h6 L6 X6 e6 q6
      obtain ⟨rfl, N6, rfl⟩ := q6
      replace N6 := Fr.app N5 N6
      refine Go.st (g' := (mkF m 43 #[.val (.ref a1), .val (.int 0), .val (.int y0)] [(.int 1), (.ref a1)])) (fun t k => ?_) ?_
      · refine XS.icmpNo X6.here hx rfl (hb hby d_p6_m2_36) rfl (tlt (by decide : (1 : Int32) < (3 : Int32))).2.1 ?_
        refine XS.aloadN X6.here hx rfl (hb hby d_p6_m2_39) rfl rfl ?_
        refine XS.iloadN X6.here hx rfl (hb hby d_p6_m2_40) rfl ?_
        refine XS.iconst X6.here hx rfl (hb hby d_p6_m2_41) ?_
        refine XS.iadd X6.here hx rfl (hb hby d_p6_m2_42) rfl ?_
        exact k
      refine Go.callV X6 hx hZ (W := 0) (argsL := [(.int 1)]) (rest := []) hown (wd hw 53 rfl) (wd hw 54 rfl) (notFace_of_selects (args := #[]) (mvT hZ (wd hw 56 rfl))) (wd hw 56 rfl) (wd hw 55 rfl) (wd hw 8 rfl) (wd hw 57 rfl) (by decide) E_a1 HC1 e6 (by rw [hml]; rfl) (lenOf pd__I_C_7757 rfl) rfl rfl (hb hby d_p6_m2_43) ?_
      intro v7 T7 h7 L7 X7 e7 q7
      obtain ⟨rfl, N7, rfl⟩ := q7
      replace N7 := Fr.app N6 N7
      show Go p e below _ T7 (mkF m 46 #[.val (.ref a1), .val (.int 0), .val (.int y0)] [(.int y1)])
      by_cases hy8 : loB y1 = true
      · skip
        show Go p e below _ T7 (mkF m 46 #[.val (.ref a1), .val (.int 0), .val (.int y0)] [(.int y1)])
        refine Go.callS X7 hx hZ (W := 0) (argsL := [(.int y1)]) (rest := []) hown (wd hw 126 rfl) (wd hw 127 rfl) (wd hw 84 rfl) (wd hw 128 rfl) (by decide) (ct_ils l Z a0 hw  y1 (1 : Int32) h0 n0 O (if_pos hy8).symm) e7 (by rw [hml]; rfl) (lenOf pd__C_Z_2014 rfl) rfl rfl (hb hby d_p6_m2_46) ?_
        intro v9 T9 h9 L9 X9 e9 q9
        obtain ⟨rfl, N9, rfl⟩ := q9
        replace N9 := Fr.app N7 N9
        refine Go.st (g' := (mkF m 4 #[.val (.ref a1), .val (.int 2), .val (.int y0)] [(.ref a1), (.int 2)])) (fun t k => ?_) ?_
        · refine XS.ifNo X9.here hx rfl (hb hby d_p6_m2_49) rfl ((if0 _ _).trans (feq (by decide : ¬ (1 : Int32) = (0 : Int32))).1) ?_
          refine XS.iinc X9.here hx rfl (hb hby d_p6_m2_52) rfl (l' := #[.val (.ref a1), .val (.int 1), .val (.int y0)]) rfl ?_
          refine XS.goto X9.here hx rfl (pc0 := 55) (pc' := 67) rfl (hb hby d_p6_m2_55) (by decide) (by decide) ?_
          refine XS.iinc X9.here hx rfl (hb hby d_p6_m2_67) rfl (l' := #[.val (.ref a1), .val (.int 2), .val (.int y0)]) rfl ?_
          refine XS.goto X9.here hx rfl (pc0 := 70) (pc' := 2) rfl (hb hby d_p6_m2_70) (by decide) (by decide) ?_
          refine XS.iloadN X9.here hx rfl (hb hby d_p6_m2_2) rfl ?_
          refine XS.aloadN X9.here hx rfl (hb hby d_p6_m2_3) rfl rfl ?_
          exact k
        refine Go.callV X9 hx hZ (W := 1) (argsL := []) (rest := [(.int 2)]) hown (wd hw 43 rfl) (wd hw 44 rfl) (notFace_of_selects (args := #[]) (mvT hZ (wd hw 46 rfl))) (wd hw 46 rfl) (wd hw 45 rfl) (wd hw 8 rfl) (wd hw 47 rfl) (by decide) E_a1 HL e9 (by rw [hml]; rfl) (lenOf pd___I_8321 rfl) rfl rfl (hb hby d_p6_m2_4) ?_
        intro v10 T10 h10 L10 X10 e10 q10
        obtain ⟨rfl, N10, rfl⟩ := q10
        replace N10 := Fr.app N9 N10
        refine Go.st (g' := (mkF m 12 #[.val (.ref a1), .val (.int 2), .val (.int y0)] [(.int 2), (.ref a1)])) (fun t k => ?_) ?_
        · refine XS.icmpNo X10.here hx rfl (hb hby d_p6_m2_7) rfl (tlt (by decide : (2 : Int32) < (3 : Int32))).2.1 ?_
          refine XS.aloadN X10.here hx rfl (hb hby d_p6_m2_10) rfl rfl ?_
          refine XS.iloadN X10.here hx rfl (hb hby d_p6_m2_11) rfl ?_
          exact k
        refine Go.callV X10 hx hZ (W := 0) (argsL := [(.int 2)]) (rest := []) hown (wd hw 53 rfl) (wd hw 54 rfl) (notFace_of_selects (args := #[]) (mvT hZ (wd hw 56 rfl))) (wd hw 56 rfl) (wd hw 55 rfl) (wd hw 8 rfl) (wd hw 57 rfl) (by decide) E_a1 HC2 e10 (by rw [hml]; rfl) (lenOf pd__I_C_7757 rfl) rfl rfl (hb hby d_p6_m2_12) ?_
        intro v11 T11 h11 L11 X11 e11 q11
        obtain ⟨rfl, N11, rfl⟩ := q11
        replace N11 := Fr.app N10 N11
        refine Go.st (g' := (mkF m 17 #[.val (.ref a1), .val (.int 2), .val (.int y2)] [(.int y2)])) (fun t k => ?_) ?_
        · refine XS.istoreN X11.here hx rfl (hb hby d_p6_m2_15) rfl (l' := #[.val (.ref a1), .val (.int 2), .val (.int y2)]) rfl ?_
          refine XS.iloadN X11.here hx rfl (hb hby d_p6_m2_16) rfl ?_
          exact k
        by_cases hy12 : y2 = (0 : Int32)
        · skip
          refine Go.st (g' := (mkF m 21 #[.val (.ref a1), .val (.int 2), .val (.int y2)] [(.int 0)])) (fun t k => ?_) ?_
          · refine XS.ifNo X11.here hx rfl (hb hby d_p6_m2_17) rfl ((if0 _ _).trans (teq hy12).2) ?_
            refine XS.iconst X11.here hx rfl (hb hby d_p6_m2_20) ?_
            exact k
          refine Go.retZ X11 hx hlk hret (Or.inl rfl) (hb hby d_p6_m2_21) (by decide) (by decide) e11 ?_
          exact ⟨by simp [stor, hy3, hy4, hy8, hy12], N11, rfl⟩
        · skip
          refine Go.st (g' := (mkF m 23 #[.val (.ref a1), .val (.int 2), .val (.int y2)] [(.int y2)])) (fun t k => ?_) ?_
          · refine XS.ifYes X11.here hx rfl (pc0 := 17) (pc' := 22) rfl (hb hby d_p6_m2_17) rfl ((if0 _ _).trans (feq hy12).2) (by decide) (by decide) ?_
            refine XS.iloadN X11.here hx rfl (hb hby d_p6_m2_22) rfl ?_
            exact k
          by_cases hy13 : hiB y2 = true
          · skip
            show Go p e below _ T11 (mkF m 23 #[.val (.ref a1), .val (.int 2), .val (.int y2)] [(.int y2)])
            refine Go.callS X11 hx hZ (W := 0) (argsL := [(.int y2)]) (rest := []) hown (wd hw 82 rfl) (wd hw 83 rfl) (wd hw 84 rfl) (wd hw 85 rfl) (by decide) (ct_ihs l Z a0 hw  y2 (1 : Int32) h0 n0 O (if_pos hy13).symm) e11 (by rw [hml]; rfl) (lenOf pd__C_Z_2014 rfl) rfl rfl (hb hby d_p6_m2_23) ?_
            intro v14 T14 h14 L14 X14 e14 q14
            obtain ⟨rfl, N14, rfl⟩ := q14
            replace N14 := Fr.app N11 N14
            refine Go.st (g' := (mkF m 33 #[.val (.ref a1), .val (.int 2), .val (.int y2)] [(.ref a1), (.int 3)])) (fun t k => ?_) ?_
            · refine XS.ifNo X14.here hx rfl (hb hby d_p6_m2_26) rfl ((if0 _ _).trans (feq (by decide : ¬ (1 : Int32) = (0 : Int32))).1) ?_
              refine XS.iloadN X14.here hx rfl (hb hby d_p6_m2_29) rfl ?_
              refine XS.iconst X14.here hx rfl (hb hby d_p6_m2_30) ?_
              refine XS.iadd X14.here hx rfl (hb hby d_p6_m2_31) rfl ?_
              refine XS.aloadN X14.here hx rfl (hb hby d_p6_m2_32) rfl rfl ?_
              exact k
            refine Go.callV X14 hx hZ (W := 1) (argsL := []) (rest := [(.int 3)]) hown (wd hw 43 rfl) (wd hw 44 rfl) (notFace_of_selects (args := #[]) (mvT hZ (wd hw 46 rfl))) (wd hw 46 rfl) (wd hw 45 rfl) (wd hw 8 rfl) (wd hw 47 rfl) (by decide) E_a1 HL e14 (by rw [hml]; rfl) (lenOf pd___I_8321 rfl) rfl rfl (hb hby d_p6_m2_33) ?_
            intro v15 T15 h15 L15 X15 e15 q15
            obtain ⟨rfl, N15, rfl⟩ := q15
            replace N15 := Fr.app N14 N15
            refine Go.st (g' := (mkF m 59 #[.val (.ref a1), .val (.int 2), .val (.int y2)] [(.int y2)])) (fun t k => ?_) ?_
            · refine XS.icmpYes X15.here hx rfl (pc0 := 36) (pc' := 58) rfl (hb hby d_p6_m2_36) rfl (flt (by decide : ¬ (3 : Int32) < (3 : Int32))).2.1 (by decide) (by decide) ?_
              refine XS.iloadN X15.here hx rfl (hb hby d_p6_m2_58) rfl ?_
              exact k
            refine Go.callS X15 hx hZ (W := 0) (argsL := [(.int y2)]) (rest := []) hown (wd hw 87 rfl) (wd hw 88 rfl) (wd hw 84 rfl) (wd hw 89 rfl) (by decide) (ct_isr l Z a0 hw  y2 (1 : Int32) h0 n0 O (if_pos (own_or1 hy13)).symm) e15 (by rw [hml]; rfl) (lenOf pd__C_Z_2014 rfl) rfl rfl (hb hby d_p6_m2_59) ?_
            intro v16 T16 h16 L16 X16 e16 q16
            obtain ⟨rfl, N16, rfl⟩ := q16
            replace N16 := Fr.app N15 N16
            refine Go.st (g' := (mkF m 66 #[.val (.ref a1), .val (.int 2), .val (.int y2)] [(.int 0)])) (fun t k => ?_) ?_
            · refine XS.ifNo X16.here hx rfl (hb hby d_p6_m2_62) rfl ((if0 _ _).trans (feq (by decide : ¬ (1 : Int32) = (0 : Int32))).1) ?_
              refine XS.iconst X16.here hx rfl (hb hby d_p6_m2_65) ?_
              exact k
            refine Go.retZ X16 hx hlk hret (Or.inl rfl) (hb hby d_p6_m2_66) (by decide) (by decide) e16 ?_
            exact ⟨by simp [stor, hy3, hy4, hy8, hy12, hy13], N16, rfl⟩
          · skip
            show Go p e below _ T11 (mkF m 23 #[.val (.ref a1), .val (.int 2), .val (.int y2)] [(.int y2)])
            refine Go.callS X11 hx hZ (W := 0) (argsL := [(.int y2)]) (rest := []) hown (wd hw 82 rfl) (wd hw 83 rfl) (wd hw 84 rfl) (wd hw 85 rfl) (by decide) (ct_ihs l Z a0 hw  y2 (0 : Int32) h0 n0 O (if_neg hy13).symm) e11 (by rw [hml]; rfl) (lenOf pd__C_Z_2014 rfl) rfl rfl (hb hby d_p6_m2_23) ?_
            intro v17 T17 h17 L17 X17 e17 q17
            obtain ⟨rfl, N17, rfl⟩ := q17
            replace N17 := Fr.app N11 N17
            refine Go.st (g' := (mkF m 59 #[.val (.ref a1), .val (.int 2), .val (.int y2)] [(.int y2)])) (fun t k => ?_) ?_
            · refine XS.ifYes X17.here hx rfl (pc0 := 26) (pc' := 58) rfl (hb hby d_p6_m2_26) rfl ((if0 _ _).trans (teq (by decide : (0 : Int32) = (0 : Int32))).1) (by decide) (by decide) ?_
              refine XS.iloadN X17.here hx rfl (hb hby d_p6_m2_58) rfl ?_
              exact k
            by_cases hy18 : loB y2 = true
            · skip
              show Go p e below _ T17 (mkF m 59 #[.val (.ref a1), .val (.int 2), .val (.int y2)] [(.int y2)])
              refine Go.callS X17 hx hZ (W := 0) (argsL := [(.int y2)]) (rest := []) hown (wd hw 87 rfl) (wd hw 88 rfl) (wd hw 84 rfl) (wd hw 89 rfl) (by decide) (ct_isr l Z a0 hw  y2 (1 : Int32) h0 n0 O (if_pos (own_or2 hy18)).symm) e17 (by rw [hml]; rfl) (lenOf pd__C_Z_2014 rfl) rfl rfl (hb hby d_p6_m2_59) ?_
              intro v19 T19 h19 L19 X19 e19 q19
              obtain ⟨rfl, N19, rfl⟩ := q19
              replace N19 := Fr.app N17 N19
              refine Go.st (g' := (mkF m 66 #[.val (.ref a1), .val (.int 2), .val (.int y2)] [(.int 0)])) (fun t k => ?_) ?_
              · refine XS.ifNo X19.here hx rfl (hb hby d_p6_m2_62) rfl ((if0 _ _).trans (feq (by decide : ¬ (1 : Int32) = (0 : Int32))).1) ?_
                refine XS.iconst X19.here hx rfl (hb hby d_p6_m2_65) ?_
                exact k
              refine Go.retZ X19 hx hlk hret (Or.inl rfl) (hb hby d_p6_m2_66) (by decide) (by decide) e19 ?_
              exact ⟨by simp [stor, hy3, hy4, hy8, hy12, hy13, hy18], N19, rfl⟩
            · skip
              show Go p e below _ T17 (mkF m 59 #[.val (.ref a1), .val (.int 2), .val (.int y2)] [(.int y2)])
              refine Go.callS X17 hx hZ (W := 0) (argsL := [(.int y2)]) (rest := []) hown (wd hw 87 rfl) (wd hw 88 rfl) (wd hw 84 rfl) (wd hw 89 rfl) (by decide) (ct_isr l Z a0 hw  y2 (0 : Int32) h0 n0 O (if_neg (own_or3 hy13 hy18)).symm) e17 (by rw [hml]; rfl) (lenOf pd__C_Z_2014 rfl) rfl rfl (hb hby d_p6_m2_59) ?_
              intro v20 T20 h20 L20 X20 e20 q20
              obtain ⟨rfl, N20, rfl⟩ := q20
              replace N20 := Fr.app N17 N20
              refine Go.st (g' := (mkF m 4 #[.val (.ref a1), .val (.int 3), .val (.int y2)] [(.ref a1), (.int 3)])) (fun t k => ?_) ?_
              · refine XS.ifYes X20.here hx rfl (pc0 := 62) (pc' := 67) rfl (hb hby d_p6_m2_62) rfl ((if0 _ _).trans (teq (by decide : (0 : Int32) = (0 : Int32))).1) (by decide) (by decide) ?_
                refine XS.iinc X20.here hx rfl (hb hby d_p6_m2_67) rfl (l' := #[.val (.ref a1), .val (.int 3), .val (.int y2)]) rfl ?_
                refine XS.goto X20.here hx rfl (pc0 := 70) (pc' := 2) rfl (hb hby d_p6_m2_70) (by decide) (by decide) ?_
                refine XS.iloadN X20.here hx rfl (hb hby d_p6_m2_2) rfl ?_
                refine XS.aloadN X20.here hx rfl (hb hby d_p6_m2_3) rfl rfl ?_
                exact k
              refine Go.callV X20 hx hZ (W := 1) (argsL := []) (rest := [(.int 3)]) hown (wd hw 43 rfl) (wd hw 44 rfl) (notFace_of_selects (args := #[]) (mvT hZ (wd hw 46 rfl))) (wd hw 46 rfl) (wd hw 45 rfl) (wd hw 8 rfl) (wd hw 47 rfl) (by decide) E_a1 HL e20 (by rw [hml]; rfl) (lenOf pd___I_8321 rfl) rfl rfl (hb hby d_p6_m2_4) ?_
              intro v21 T21 h21 L21 X21 e21 q21
              obtain ⟨rfl, N21, rfl⟩ := q21
              replace N21 := Fr.app N20 N21
              refine Go.st (g' := (mkF m 74 #[.val (.ref a1), .val (.int 3), .val (.int y2)] [(.int 1)])) (fun t k => ?_) ?_
              · refine XS.icmpYes X21.here hx rfl (pc0 := 7) (pc' := 73) rfl (hb hby d_p6_m2_7) rfl (flt (by decide : ¬ (3 : Int32) < (3 : Int32))).2.1 (by decide) (by decide) ?_
                refine XS.iconst X21.here hx rfl (hb hby d_p6_m2_73) ?_
                exact k
              refine Go.retZ X21 hx hlk hret (Or.inr rfl) (hb hby d_p6_m2_74) (by decide) (by decide) e21 ?_
              exact ⟨by simp [stor, hy3, hy4, hy8, hy12, hy13, hy18], N21, rfl⟩
      · skip
        show Go p e below _ T7 (mkF m 46 #[.val (.ref a1), .val (.int 0), .val (.int y0)] [(.int y1)])
        refine Go.callS X7 hx hZ (W := 0) (argsL := [(.int y1)]) (rest := []) hown (wd hw 126 rfl) (wd hw 127 rfl) (wd hw 84 rfl) (wd hw 128 rfl) (by decide) (ct_ils l Z a0 hw  y1 (0 : Int32) h0 n0 O (if_neg hy8).symm) e7 (by rw [hml]; rfl) (lenOf pd__C_Z_2014 rfl) rfl rfl (hb hby d_p6_m2_46) ?_
        intro v22 T22 h22 L22 X22 e22 q22
        obtain ⟨rfl, N22, rfl⟩ := q22
        replace N22 := Fr.app N7 N22
        refine Go.st (g' := (mkF m 59 #[.val (.ref a1), .val (.int 0), .val (.int y0)] [(.int y0)])) (fun t k => ?_) ?_
        · refine XS.ifYes X22.here hx rfl (pc0 := 49) (pc' := 58) rfl (hb hby d_p6_m2_49) rfl ((if0 _ _).trans (teq (by decide : (0 : Int32) = (0 : Int32))).1) (by decide) (by decide) ?_
          refine XS.iloadN X22.here hx rfl (hb hby d_p6_m2_58) rfl ?_
          exact k
        refine Go.callS X22 hx hZ (W := 0) (argsL := [(.int y0)]) (rest := []) hown (wd hw 87 rfl) (wd hw 88 rfl) (wd hw 84 rfl) (wd hw 89 rfl) (by decide) (ct_isr l Z a0 hw  y0 (1 : Int32) h0 n0 O (if_pos (own_or1 hy4)).symm) e22 (by rw [hml]; rfl) (lenOf pd__C_Z_2014 rfl) rfl rfl (hb hby d_p6_m2_59) ?_
        intro v23 T23 h23 L23 X23 e23 q23
        obtain ⟨rfl, N23, rfl⟩ := q23
        replace N23 := Fr.app N22 N23
        refine Go.st (g' := (mkF m 66 #[.val (.ref a1), .val (.int 0), .val (.int y0)] [(.int 0)])) (fun t k => ?_) ?_
        · refine XS.ifNo X23.here hx rfl (hb hby d_p6_m2_62) rfl ((if0 _ _).trans (feq (by decide : ¬ (1 : Int32) = (0 : Int32))).1) ?_
          refine XS.iconst X23.here hx rfl (hb hby d_p6_m2_65) ?_
          exact k
        refine Go.retZ X23 hx hlk hret (Or.inl rfl) (hb hby d_p6_m2_66) (by decide) (by decide) e23 ?_
        exact ⟨by simp [stor, hy3, hy4, hy8], N23, rfl⟩
    · skip
      show Go p e below _ T2 (mkF m 23 #[.val (.ref a1), .val (.int 0), .val (.int y0)] [(.int y0)])
      refine Go.callS X2 hx hZ (W := 0) (argsL := [(.int y0)]) (rest := []) hown (wd hw 82 rfl) (wd hw 83 rfl) (wd hw 84 rfl) (wd hw 85 rfl) (by decide) (ct_ihs l Z a0 hw  y0 (0 : Int32) h0 n0 O (if_neg hy4).symm) e2 (by rw [hml]; rfl) (lenOf pd__C_Z_2014 rfl) rfl rfl (hb hby d_p6_m2_23) ?_
      intro v24 T24 h24 L24 X24 e24 q24
      obtain ⟨rfl, N24, rfl⟩ := q24
      replace N24 := Fr.app N2 N24
      refine Go.st (g' := (mkF m 59 #[.val (.ref a1), .val (.int 0), .val (.int y0)] [(.int y0)])) (fun t k => ?_) ?_
      · refine XS.ifYes X24.here hx rfl (pc0 := 26) (pc' := 58) rfl (hb hby d_p6_m2_26) rfl ((if0 _ _).trans (teq (by decide : (0 : Int32) = (0 : Int32))).1) (by decide) (by decide) ?_
        refine XS.iloadN X24.here hx rfl (hb hby d_p6_m2_58) rfl ?_
        exact k
      by_cases hy25 : loB y0 = true
      · skip
        show Go p e below _ T24 (mkF m 59 #[.val (.ref a1), .val (.int 0), .val (.int y0)] [(.int y0)])
        refine Go.callS X24 hx hZ (W := 0) (argsL := [(.int y0)]) (rest := []) hown (wd hw 87 rfl) (wd hw 88 rfl) (wd hw 84 rfl) (wd hw 89 rfl) (by decide) (ct_isr l Z a0 hw  y0 (1 : Int32) h0 n0 O (if_pos (own_or2 hy25)).symm) e24 (by rw [hml]; rfl) (lenOf pd__C_Z_2014 rfl) rfl rfl (hb hby d_p6_m2_59) ?_
        intro v26 T26 h26 L26 X26 e26 q26
        obtain ⟨rfl, N26, rfl⟩ := q26
        replace N26 := Fr.app N24 N26
        refine Go.st (g' := (mkF m 66 #[.val (.ref a1), .val (.int 0), .val (.int y0)] [(.int 0)])) (fun t k => ?_) ?_
        · refine XS.ifNo X26.here hx rfl (hb hby d_p6_m2_62) rfl ((if0 _ _).trans (feq (by decide : ¬ (1 : Int32) = (0 : Int32))).1) ?_
          refine XS.iconst X26.here hx rfl (hb hby d_p6_m2_65) ?_
          exact k
        refine Go.retZ X26 hx hlk hret (Or.inl rfl) (hb hby d_p6_m2_66) (by decide) (by decide) e26 ?_
        exact ⟨by simp [stor, hy3, hy4, hy25], N26, rfl⟩
      · skip
        show Go p e below _ T24 (mkF m 59 #[.val (.ref a1), .val (.int 0), .val (.int y0)] [(.int y0)])
        refine Go.callS X24 hx hZ (W := 0) (argsL := [(.int y0)]) (rest := []) hown (wd hw 87 rfl) (wd hw 88 rfl) (wd hw 84 rfl) (wd hw 89 rfl) (by decide) (ct_isr l Z a0 hw  y0 (0 : Int32) h0 n0 O (if_neg (own_or3 hy4 hy25)).symm) e24 (by rw [hml]; rfl) (lenOf pd__C_Z_2014 rfl) rfl rfl (hb hby d_p6_m2_59) ?_
        intro v27 T27 h27 L27 X27 e27 q27
        obtain ⟨rfl, N27, rfl⟩ := q27
        replace N27 := Fr.app N24 N27
        refine Go.st (g' := (mkF m 4 #[.val (.ref a1), .val (.int 1), .val (.int y0)] [(.ref a1), (.int 1)])) (fun t k => ?_) ?_
        · refine XS.ifYes X27.here hx rfl (pc0 := 62) (pc' := 67) rfl (hb hby d_p6_m2_62) rfl ((if0 _ _).trans (teq (by decide : (0 : Int32) = (0 : Int32))).1) (by decide) (by decide) ?_
          refine XS.iinc X27.here hx rfl (hb hby d_p6_m2_67) rfl (l' := #[.val (.ref a1), .val (.int 1), .val (.int y0)]) rfl ?_
          refine XS.goto X27.here hx rfl (pc0 := 70) (pc' := 2) rfl (hb hby d_p6_m2_70) (by decide) (by decide) ?_
          refine XS.iloadN X27.here hx rfl (hb hby d_p6_m2_2) rfl ?_
          refine XS.aloadN X27.here hx rfl (hb hby d_p6_m2_3) rfl rfl ?_
          exact k
        refine Go.callV X27 hx hZ (W := 1) (argsL := []) (rest := [(.int 1)]) hown (wd hw 43 rfl) (wd hw 44 rfl) (notFace_of_selects (args := #[]) (mvT hZ (wd hw 46 rfl))) (wd hw 46 rfl) (wd hw 45 rfl) (wd hw 8 rfl) (wd hw 47 rfl) (by decide) E_a1 HL e27 (by rw [hml]; rfl) (lenOf pd___I_8321 rfl) rfl rfl (hb hby d_p6_m2_4) ?_
        intro v28 T28 h28 L28 X28 e28 q28
        obtain ⟨rfl, N28, rfl⟩ := q28
        replace N28 := Fr.app N27 N28
        refine Go.st (g' := (mkF m 12 #[.val (.ref a1), .val (.int 1), .val (.int y0)] [(.int 1), (.ref a1)])) (fun t k => ?_) ?_
        · refine XS.icmpNo X28.here hx rfl (hb hby d_p6_m2_7) rfl (tlt (by decide : (1 : Int32) < (3 : Int32))).2.1 ?_
          refine XS.aloadN X28.here hx rfl (hb hby d_p6_m2_10) rfl rfl ?_
          refine XS.iloadN X28.here hx rfl (hb hby d_p6_m2_11) rfl ?_
          exact k
        refine Go.callV X28 hx hZ (W := 0) (argsL := [(.int 1)]) (rest := []) hown (wd hw 53 rfl) (wd hw 54 rfl) (notFace_of_selects (args := #[]) (mvT hZ (wd hw 56 rfl))) (wd hw 56 rfl) (wd hw 55 rfl) (wd hw 8 rfl) (wd hw 57 rfl) (by decide) E_a1 HC1 e28 (by rw [hml]; rfl) (lenOf pd__I_C_7757 rfl) rfl rfl (hb hby d_p6_m2_12) ?_
        intro v29 T29 h29 L29 X29 e29 q29
        obtain ⟨rfl, N29, rfl⟩ := q29
        replace N29 := Fr.app N28 N29
        refine Go.st (g' := (mkF m 17 #[.val (.ref a1), .val (.int 1), .val (.int y1)] [(.int y1)])) (fun t k => ?_) ?_
        · refine XS.istoreN X29.here hx rfl (hb hby d_p6_m2_15) rfl (l' := #[.val (.ref a1), .val (.int 1), .val (.int y1)]) rfl ?_
          refine XS.iloadN X29.here hx rfl (hb hby d_p6_m2_16) rfl ?_
          exact k
        by_cases hy30 : y1 = (0 : Int32)
        · skip
          refine Go.st (g' := (mkF m 21 #[.val (.ref a1), .val (.int 1), .val (.int y1)] [(.int 0)])) (fun t k => ?_) ?_
          · refine XS.ifNo X29.here hx rfl (hb hby d_p6_m2_17) rfl ((if0 _ _).trans (teq hy30).2) ?_
            refine XS.iconst X29.here hx rfl (hb hby d_p6_m2_20) ?_
            exact k
          refine Go.retZ X29 hx hlk hret (Or.inl rfl) (hb hby d_p6_m2_21) (by decide) (by decide) e29 ?_
          exact ⟨by simp [stor, hy3, hy4, hy25, hy30], N29, rfl⟩
        · skip
          refine Go.st (g' := (mkF m 23 #[.val (.ref a1), .val (.int 1), .val (.int y1)] [(.int y1)])) (fun t k => ?_) ?_
          · refine XS.ifYes X29.here hx rfl (pc0 := 17) (pc' := 22) rfl (hb hby d_p6_m2_17) rfl ((if0 _ _).trans (feq hy30).2) (by decide) (by decide) ?_
            refine XS.iloadN X29.here hx rfl (hb hby d_p6_m2_22) rfl ?_
            exact k
          by_cases hy31 : hiB y1 = true
          · skip
            show Go p e below _ T29 (mkF m 23 #[.val (.ref a1), .val (.int 1), .val (.int y1)] [(.int y1)])
            refine Go.callS X29 hx hZ (W := 0) (argsL := [(.int y1)]) (rest := []) hown (wd hw 82 rfl) (wd hw 83 rfl) (wd hw 84 rfl) (wd hw 85 rfl) (by decide) (ct_ihs l Z a0 hw  y1 (1 : Int32) h0 n0 O (if_pos hy31).symm) e29 (by rw [hml]; rfl) (lenOf pd__C_Z_2014 rfl) rfl rfl (hb hby d_p6_m2_23) ?_
            intro v32 T32 h32 L32 X32 e32 q32
            obtain ⟨rfl, N32, rfl⟩ := q32
            replace N32 := Fr.app N29 N32
            refine Go.st (g' := (mkF m 33 #[.val (.ref a1), .val (.int 1), .val (.int y1)] [(.ref a1), (.int 2)])) (fun t k => ?_) ?_
            · refine XS.ifNo X32.here hx rfl (hb hby d_p6_m2_26) rfl ((if0 _ _).trans (feq (by decide : ¬ (1 : Int32) = (0 : Int32))).1) ?_
              refine XS.iloadN X32.here hx rfl (hb hby d_p6_m2_29) rfl ?_
              refine XS.iconst X32.here hx rfl (hb hby d_p6_m2_30) ?_
              refine XS.iadd X32.here hx rfl (hb hby d_p6_m2_31) rfl ?_
              refine XS.aloadN X32.here hx rfl (hb hby d_p6_m2_32) rfl rfl ?_
              exact k
            refine Go.callV X32 hx hZ (W := 1) (argsL := []) (rest := [(.int 2)]) hown (wd hw 43 rfl) (wd hw 44 rfl) (notFace_of_selects (args := #[]) (mvT hZ (wd hw 46 rfl))) (wd hw 46 rfl) (wd hw 45 rfl) (wd hw 8 rfl) (wd hw 47 rfl) (by decide) E_a1 HL e32 (by rw [hml]; rfl) (lenOf pd___I_8321 rfl) rfl rfl (hb hby d_p6_m2_33) ?_
            intro v33 T33 h33 L33 X33 e33 q33
            obtain ⟨rfl, N33, rfl⟩ := q33
            replace N33 := Fr.app N32 N33
            refine Go.st (g' := (mkF m 43 #[.val (.ref a1), .val (.int 1), .val (.int y1)] [(.int 2), (.ref a1)])) (fun t k => ?_) ?_
            · refine XS.icmpNo X33.here hx rfl (hb hby d_p6_m2_36) rfl (tlt (by decide : (2 : Int32) < (3 : Int32))).2.1 ?_
              refine XS.aloadN X33.here hx rfl (hb hby d_p6_m2_39) rfl rfl ?_
              refine XS.iloadN X33.here hx rfl (hb hby d_p6_m2_40) rfl ?_
              refine XS.iconst X33.here hx rfl (hb hby d_p6_m2_41) ?_
              refine XS.iadd X33.here hx rfl (hb hby d_p6_m2_42) rfl ?_
              exact k
            refine Go.callV X33 hx hZ (W := 0) (argsL := [(.int 2)]) (rest := []) hown (wd hw 53 rfl) (wd hw 54 rfl) (notFace_of_selects (args := #[]) (mvT hZ (wd hw 56 rfl))) (wd hw 56 rfl) (wd hw 55 rfl) (wd hw 8 rfl) (wd hw 57 rfl) (by decide) E_a1 HC2 e33 (by rw [hml]; rfl) (lenOf pd__I_C_7757 rfl) rfl rfl (hb hby d_p6_m2_43) ?_
            intro v34 T34 h34 L34 X34 e34 q34
            obtain ⟨rfl, N34, rfl⟩ := q34
            replace N34 := Fr.app N33 N34
            show Go p e below _ T34 (mkF m 46 #[.val (.ref a1), .val (.int 1), .val (.int y1)] [(.int y2)])
            by_cases hy35 : loB y2 = true
            · skip
              show Go p e below _ T34 (mkF m 46 #[.val (.ref a1), .val (.int 1), .val (.int y1)] [(.int y2)])
              refine Go.callS X34 hx hZ (W := 0) (argsL := [(.int y2)]) (rest := []) hown (wd hw 126 rfl) (wd hw 127 rfl) (wd hw 84 rfl) (wd hw 128 rfl) (by decide) (ct_ils l Z a0 hw  y2 (1 : Int32) h0 n0 O (if_pos hy35).symm) e34 (by rw [hml]; rfl) (lenOf pd__C_Z_2014 rfl) rfl rfl (hb hby d_p6_m2_46) ?_
              intro v36 T36 h36 L36 X36 e36 q36
              obtain ⟨rfl, N36, rfl⟩ := q36
              replace N36 := Fr.app N34 N36
              refine Go.st (g' := (mkF m 4 #[.val (.ref a1), .val (.int 3), .val (.int y1)] [(.ref a1), (.int 3)])) (fun t k => ?_) ?_
              · refine XS.ifNo X36.here hx rfl (hb hby d_p6_m2_49) rfl ((if0 _ _).trans (feq (by decide : ¬ (1 : Int32) = (0 : Int32))).1) ?_
                refine XS.iinc X36.here hx rfl (hb hby d_p6_m2_52) rfl (l' := #[.val (.ref a1), .val (.int 2), .val (.int y1)]) rfl ?_
                refine XS.goto X36.here hx rfl (pc0 := 55) (pc' := 67) rfl (hb hby d_p6_m2_55) (by decide) (by decide) ?_
                refine XS.iinc X36.here hx rfl (hb hby d_p6_m2_67) rfl (l' := #[.val (.ref a1), .val (.int 3), .val (.int y1)]) rfl ?_
                refine XS.goto X36.here hx rfl (pc0 := 70) (pc' := 2) rfl (hb hby d_p6_m2_70) (by decide) (by decide) ?_
                refine XS.iloadN X36.here hx rfl (hb hby d_p6_m2_2) rfl ?_
                refine XS.aloadN X36.here hx rfl (hb hby d_p6_m2_3) rfl rfl ?_
                exact k
              refine Go.callV X36 hx hZ (W := 1) (argsL := []) (rest := [(.int 3)]) hown (wd hw 43 rfl) (wd hw 44 rfl) (notFace_of_selects (args := #[]) (mvT hZ (wd hw 46 rfl))) (wd hw 46 rfl) (wd hw 45 rfl) (wd hw 8 rfl) (wd hw 47 rfl) (by decide) E_a1 HL e36 (by rw [hml]; rfl) (lenOf pd___I_8321 rfl) rfl rfl (hb hby d_p6_m2_4) ?_
              intro v37 T37 h37 L37 X37 e37 q37
              obtain ⟨rfl, N37, rfl⟩ := q37
              replace N37 := Fr.app N36 N37
              refine Go.st (g' := (mkF m 74 #[.val (.ref a1), .val (.int 3), .val (.int y1)] [(.int 1)])) (fun t k => ?_) ?_
              · refine XS.icmpYes X37.here hx rfl (pc0 := 7) (pc' := 73) rfl (hb hby d_p6_m2_7) rfl (flt (by decide : ¬ (3 : Int32) < (3 : Int32))).2.1 (by decide) (by decide) ?_
                refine XS.iconst X37.here hx rfl (hb hby d_p6_m2_73) ?_
                exact k
              refine Go.retZ X37 hx hlk hret (Or.inr rfl) (hb hby d_p6_m2_74) (by decide) (by decide) e37 ?_
              exact ⟨by simp [stor, hy3, hy4, hy25, hy30, hy31, hy35], N37, rfl⟩
            · skip
              show Go p e below _ T34 (mkF m 46 #[.val (.ref a1), .val (.int 1), .val (.int y1)] [(.int y2)])
              refine Go.callS X34 hx hZ (W := 0) (argsL := [(.int y2)]) (rest := []) hown (wd hw 126 rfl) (wd hw 127 rfl) (wd hw 84 rfl) (wd hw 128 rfl) (by decide) (ct_ils l Z a0 hw  y2 (0 : Int32) h0 n0 O (if_neg hy35).symm) e34 (by rw [hml]; rfl) (lenOf pd__C_Z_2014 rfl) rfl rfl (hb hby d_p6_m2_46) ?_
              intro v38 T38 h38 L38 X38 e38 q38
              obtain ⟨rfl, N38, rfl⟩ := q38
              replace N38 := Fr.app N34 N38
              refine Go.st (g' := (mkF m 59 #[.val (.ref a1), .val (.int 1), .val (.int y1)] [(.int y1)])) (fun t k => ?_) ?_
              · refine XS.ifYes X38.here hx rfl (pc0 := 49) (pc' := 58) rfl (hb hby d_p6_m2_49) rfl ((if0 _ _).trans (teq (by decide : (0 : Int32) = (0 : Int32))).1) (by decide) (by decide) ?_
                refine XS.iloadN X38.here hx rfl (hb hby d_p6_m2_58) rfl ?_
                exact k
              refine Go.callS X38 hx hZ (W := 0) (argsL := [(.int y1)]) (rest := []) hown (wd hw 87 rfl) (wd hw 88 rfl) (wd hw 84 rfl) (wd hw 89 rfl) (by decide) (ct_isr l Z a0 hw  y1 (1 : Int32) h0 n0 O (if_pos (own_or1 hy31)).symm) e38 (by rw [hml]; rfl) (lenOf pd__C_Z_2014 rfl) rfl rfl (hb hby d_p6_m2_59) ?_
              intro v39 T39 h39 L39 X39 e39 q39
              obtain ⟨rfl, N39, rfl⟩ := q39
              replace N39 := Fr.app N38 N39
              refine Go.st (g' := (mkF m 66 #[.val (.ref a1), .val (.int 1), .val (.int y1)] [(.int 0)])) (fun t k => ?_) ?_
              · refine XS.ifNo X39.here hx rfl (hb hby d_p6_m2_62) rfl ((if0 _ _).trans (feq (by decide : ¬ (1 : Int32) = (0 : Int32))).1) ?_
                refine XS.iconst X39.here hx rfl (hb hby d_p6_m2_65) ?_
                exact k
              refine Go.retZ X39 hx hlk hret (Or.inl rfl) (hb hby d_p6_m2_66) (by decide) (by decide) e39 ?_
              exact ⟨by simp [stor, hy3, hy4, hy25, hy30, hy31, hy35], N39, rfl⟩
          · skip
            show Go p e below _ T29 (mkF m 23 #[.val (.ref a1), .val (.int 1), .val (.int y1)] [(.int y1)])
            refine Go.callS X29 hx hZ (W := 0) (argsL := [(.int y1)]) (rest := []) hown (wd hw 82 rfl) (wd hw 83 rfl) (wd hw 84 rfl) (wd hw 85 rfl) (by decide) (ct_ihs l Z a0 hw  y1 (0 : Int32) h0 n0 O (if_neg hy31).symm) e29 (by rw [hml]; rfl) (lenOf pd__C_Z_2014 rfl) rfl rfl (hb hby d_p6_m2_23) ?_
            intro v40 T40 h40 L40 X40 e40 q40
            obtain ⟨rfl, N40, rfl⟩ := q40
            replace N40 := Fr.app N29 N40
            refine Go.st (g' := (mkF m 59 #[.val (.ref a1), .val (.int 1), .val (.int y1)] [(.int y1)])) (fun t k => ?_) ?_
            · refine XS.ifYes X40.here hx rfl (pc0 := 26) (pc' := 58) rfl (hb hby d_p6_m2_26) rfl ((if0 _ _).trans (teq (by decide : (0 : Int32) = (0 : Int32))).1) (by decide) (by decide) ?_
              refine XS.iloadN X40.here hx rfl (hb hby d_p6_m2_58) rfl ?_
              exact k
            by_cases hy41 : loB y1 = true
            · skip
              show Go p e below _ T40 (mkF m 59 #[.val (.ref a1), .val (.int 1), .val (.int y1)] [(.int y1)])
              refine Go.callS X40 hx hZ (W := 0) (argsL := [(.int y1)]) (rest := []) hown (wd hw 87 rfl) (wd hw 88 rfl) (wd hw 84 rfl) (wd hw 89 rfl) (by decide) (ct_isr l Z a0 hw  y1 (1 : Int32) h0 n0 O (if_pos (own_or2 hy41)).symm) e40 (by rw [hml]; rfl) (lenOf pd__C_Z_2014 rfl) rfl rfl (hb hby d_p6_m2_59) ?_
              intro v42 T42 h42 L42 X42 e42 q42
              obtain ⟨rfl, N42, rfl⟩ := q42
              replace N42 := Fr.app N40 N42
              refine Go.st (g' := (mkF m 66 #[.val (.ref a1), .val (.int 1), .val (.int y1)] [(.int 0)])) (fun t k => ?_) ?_
              · refine XS.ifNo X42.here hx rfl (hb hby d_p6_m2_62) rfl ((if0 _ _).trans (feq (by decide : ¬ (1 : Int32) = (0 : Int32))).1) ?_
                refine XS.iconst X42.here hx rfl (hb hby d_p6_m2_65) ?_
                exact k
              refine Go.retZ X42 hx hlk hret (Or.inl rfl) (hb hby d_p6_m2_66) (by decide) (by decide) e42 ?_
              exact ⟨by simp [stor, hy3, hy4, hy25, hy30, hy31, hy41], N42, rfl⟩
            · skip
              show Go p e below _ T40 (mkF m 59 #[.val (.ref a1), .val (.int 1), .val (.int y1)] [(.int y1)])
              refine Go.callS X40 hx hZ (W := 0) (argsL := [(.int y1)]) (rest := []) hown (wd hw 87 rfl) (wd hw 88 rfl) (wd hw 84 rfl) (wd hw 89 rfl) (by decide) (ct_isr l Z a0 hw  y1 (0 : Int32) h0 n0 O (if_neg (own_or3 hy31 hy41)).symm) e40 (by rw [hml]; rfl) (lenOf pd__C_Z_2014 rfl) rfl rfl (hb hby d_p6_m2_59) ?_
              intro v43 T43 h43 L43 X43 e43 q43
              obtain ⟨rfl, N43, rfl⟩ := q43
              replace N43 := Fr.app N40 N43
              refine Go.st (g' := (mkF m 4 #[.val (.ref a1), .val (.int 2), .val (.int y1)] [(.ref a1), (.int 2)])) (fun t k => ?_) ?_
              · refine XS.ifYes X43.here hx rfl (pc0 := 62) (pc' := 67) rfl (hb hby d_p6_m2_62) rfl ((if0 _ _).trans (teq (by decide : (0 : Int32) = (0 : Int32))).1) (by decide) (by decide) ?_
                refine XS.iinc X43.here hx rfl (hb hby d_p6_m2_67) rfl (l' := #[.val (.ref a1), .val (.int 2), .val (.int y1)]) rfl ?_
                refine XS.goto X43.here hx rfl (pc0 := 70) (pc' := 2) rfl (hb hby d_p6_m2_70) (by decide) (by decide) ?_
                refine XS.iloadN X43.here hx rfl (hb hby d_p6_m2_2) rfl ?_
                refine XS.aloadN X43.here hx rfl (hb hby d_p6_m2_3) rfl rfl ?_
                exact k
              refine Go.callV X43 hx hZ (W := 1) (argsL := []) (rest := [(.int 2)]) hown (wd hw 43 rfl) (wd hw 44 rfl) (notFace_of_selects (args := #[]) (mvT hZ (wd hw 46 rfl))) (wd hw 46 rfl) (wd hw 45 rfl) (wd hw 8 rfl) (wd hw 47 rfl) (by decide) E_a1 HL e43 (by rw [hml]; rfl) (lenOf pd___I_8321 rfl) rfl rfl (hb hby d_p6_m2_4) ?_
              intro v44 T44 h44 L44 X44 e44 q44
              obtain ⟨rfl, N44, rfl⟩ := q44
              replace N44 := Fr.app N43 N44
              refine Go.st (g' := (mkF m 12 #[.val (.ref a1), .val (.int 2), .val (.int y1)] [(.int 2), (.ref a1)])) (fun t k => ?_) ?_
              · refine XS.icmpNo X44.here hx rfl (hb hby d_p6_m2_7) rfl (tlt (by decide : (2 : Int32) < (3 : Int32))).2.1 ?_
                refine XS.aloadN X44.here hx rfl (hb hby d_p6_m2_10) rfl rfl ?_
                refine XS.iloadN X44.here hx rfl (hb hby d_p6_m2_11) rfl ?_
                exact k
              refine Go.callV X44 hx hZ (W := 0) (argsL := [(.int 2)]) (rest := []) hown (wd hw 53 rfl) (wd hw 54 rfl) (notFace_of_selects (args := #[]) (mvT hZ (wd hw 56 rfl))) (wd hw 56 rfl) (wd hw 55 rfl) (wd hw 8 rfl) (wd hw 57 rfl) (by decide) E_a1 HC2 e44 (by rw [hml]; rfl) (lenOf pd__I_C_7757 rfl) rfl rfl (hb hby d_p6_m2_12) ?_
              intro v45 T45 h45 L45 X45 e45 q45
              obtain ⟨rfl, N45, rfl⟩ := q45
              replace N45 := Fr.app N44 N45
              refine Go.st (g' := (mkF m 17 #[.val (.ref a1), .val (.int 2), .val (.int y2)] [(.int y2)])) (fun t k => ?_) ?_
              · refine XS.istoreN X45.here hx rfl (hb hby d_p6_m2_15) rfl (l' := #[.val (.ref a1), .val (.int 2), .val (.int y2)]) rfl ?_
                refine XS.iloadN X45.here hx rfl (hb hby d_p6_m2_16) rfl ?_
                exact k
              by_cases hy46 : y2 = (0 : Int32)
              · skip
                refine Go.st (g' := (mkF m 21 #[.val (.ref a1), .val (.int 2), .val (.int y2)] [(.int 0)])) (fun t k => ?_) ?_
                · refine XS.ifNo X45.here hx rfl (hb hby d_p6_m2_17) rfl ((if0 _ _).trans (teq hy46).2) ?_
                  refine XS.iconst X45.here hx rfl (hb hby d_p6_m2_20) ?_
                  exact k
                refine Go.retZ X45 hx hlk hret (Or.inl rfl) (hb hby d_p6_m2_21) (by decide) (by decide) e45 ?_
                exact ⟨by simp [stor, hy3, hy4, hy25, hy30, hy31, hy41, hy46], N45, rfl⟩
              · skip
                refine Go.st (g' := (mkF m 23 #[.val (.ref a1), .val (.int 2), .val (.int y2)] [(.int y2)])) (fun t k => ?_) ?_
                · refine XS.ifYes X45.here hx rfl (pc0 := 17) (pc' := 22) rfl (hb hby d_p6_m2_17) rfl ((if0 _ _).trans (feq hy46).2) (by decide) (by decide) ?_
                  refine XS.iloadN X45.here hx rfl (hb hby d_p6_m2_22) rfl ?_
                  exact k
                by_cases hy47 : hiB y2 = true
                · skip
                  show Go p e below _ T45 (mkF m 23 #[.val (.ref a1), .val (.int 2), .val (.int y2)] [(.int y2)])
                  refine Go.callS X45 hx hZ (W := 0) (argsL := [(.int y2)]) (rest := []) hown (wd hw 82 rfl) (wd hw 83 rfl) (wd hw 84 rfl) (wd hw 85 rfl) (by decide) (ct_ihs l Z a0 hw  y2 (1 : Int32) h0 n0 O (if_pos hy47).symm) e45 (by rw [hml]; rfl) (lenOf pd__C_Z_2014 rfl) rfl rfl (hb hby d_p6_m2_23) ?_
                  intro v48 T48 h48 L48 X48 e48 q48
                  obtain ⟨rfl, N48, rfl⟩ := q48
                  replace N48 := Fr.app N45 N48
                  refine Go.st (g' := (mkF m 33 #[.val (.ref a1), .val (.int 2), .val (.int y2)] [(.ref a1), (.int 3)])) (fun t k => ?_) ?_
                  · refine XS.ifNo X48.here hx rfl (hb hby d_p6_m2_26) rfl ((if0 _ _).trans (feq (by decide : ¬ (1 : Int32) = (0 : Int32))).1) ?_
                    refine XS.iloadN X48.here hx rfl (hb hby d_p6_m2_29) rfl ?_
                    refine XS.iconst X48.here hx rfl (hb hby d_p6_m2_30) ?_
                    refine XS.iadd X48.here hx rfl (hb hby d_p6_m2_31) rfl ?_
                    refine XS.aloadN X48.here hx rfl (hb hby d_p6_m2_32) rfl rfl ?_
                    exact k
                  refine Go.callV X48 hx hZ (W := 1) (argsL := []) (rest := [(.int 3)]) hown (wd hw 43 rfl) (wd hw 44 rfl) (notFace_of_selects (args := #[]) (mvT hZ (wd hw 46 rfl))) (wd hw 46 rfl) (wd hw 45 rfl) (wd hw 8 rfl) (wd hw 47 rfl) (by decide) E_a1 HL e48 (by rw [hml]; rfl) (lenOf pd___I_8321 rfl) rfl rfl (hb hby d_p6_m2_33) ?_
                  intro v49 T49 h49 L49 X49 e49 q49
                  obtain ⟨rfl, N49, rfl⟩ := q49
                  replace N49 := Fr.app N48 N49
                  refine Go.st (g' := (mkF m 59 #[.val (.ref a1), .val (.int 2), .val (.int y2)] [(.int y2)])) (fun t k => ?_) ?_
                  · refine XS.icmpYes X49.here hx rfl (pc0 := 36) (pc' := 58) rfl (hb hby d_p6_m2_36) rfl (flt (by decide : ¬ (3 : Int32) < (3 : Int32))).2.1 (by decide) (by decide) ?_
                    refine XS.iloadN X49.here hx rfl (hb hby d_p6_m2_58) rfl ?_
                    exact k
                  refine Go.callS X49 hx hZ (W := 0) (argsL := [(.int y2)]) (rest := []) hown (wd hw 87 rfl) (wd hw 88 rfl) (wd hw 84 rfl) (wd hw 89 rfl) (by decide) (ct_isr l Z a0 hw  y2 (1 : Int32) h0 n0 O (if_pos (own_or1 hy47)).symm) e49 (by rw [hml]; rfl) (lenOf pd__C_Z_2014 rfl) rfl rfl (hb hby d_p6_m2_59) ?_
                  intro v50 T50 h50 L50 X50 e50 q50
                  obtain ⟨rfl, N50, rfl⟩ := q50
                  replace N50 := Fr.app N49 N50
                  refine Go.st (g' := (mkF m 66 #[.val (.ref a1), .val (.int 2), .val (.int y2)] [(.int 0)])) (fun t k => ?_) ?_
                  · refine XS.ifNo X50.here hx rfl (hb hby d_p6_m2_62) rfl ((if0 _ _).trans (feq (by decide : ¬ (1 : Int32) = (0 : Int32))).1) ?_
                    refine XS.iconst X50.here hx rfl (hb hby d_p6_m2_65) ?_
                    exact k
                  refine Go.retZ X50 hx hlk hret (Or.inl rfl) (hb hby d_p6_m2_66) (by decide) (by decide) e50 ?_
                  exact ⟨by simp [stor, hy3, hy4, hy25, hy30, hy31, hy41, hy46, hy47], N50, rfl⟩
                · skip
                  show Go p e below _ T45 (mkF m 23 #[.val (.ref a1), .val (.int 2), .val (.int y2)] [(.int y2)])
                  refine Go.callS X45 hx hZ (W := 0) (argsL := [(.int y2)]) (rest := []) hown (wd hw 82 rfl) (wd hw 83 rfl) (wd hw 84 rfl) (wd hw 85 rfl) (by decide) (ct_ihs l Z a0 hw  y2 (0 : Int32) h0 n0 O (if_neg hy47).symm) e45 (by rw [hml]; rfl) (lenOf pd__C_Z_2014 rfl) rfl rfl (hb hby d_p6_m2_23) ?_
                  intro v51 T51 h51 L51 X51 e51 q51
                  obtain ⟨rfl, N51, rfl⟩ := q51
                  replace N51 := Fr.app N45 N51
                  refine Go.st (g' := (mkF m 59 #[.val (.ref a1), .val (.int 2), .val (.int y2)] [(.int y2)])) (fun t k => ?_) ?_
                  · refine XS.ifYes X51.here hx rfl (pc0 := 26) (pc' := 58) rfl (hb hby d_p6_m2_26) rfl ((if0 _ _).trans (teq (by decide : (0 : Int32) = (0 : Int32))).1) (by decide) (by decide) ?_
                    refine XS.iloadN X51.here hx rfl (hb hby d_p6_m2_58) rfl ?_
                    exact k
                  by_cases hy52 : loB y2 = true
                  · skip
                    show Go p e below _ T51 (mkF m 59 #[.val (.ref a1), .val (.int 2), .val (.int y2)] [(.int y2)])
                    refine Go.callS X51 hx hZ (W := 0) (argsL := [(.int y2)]) (rest := []) hown (wd hw 87 rfl) (wd hw 88 rfl) (wd hw 84 rfl) (wd hw 89 rfl) (by decide) (ct_isr l Z a0 hw  y2 (1 : Int32) h0 n0 O (if_pos (own_or2 hy52)).symm) e51 (by rw [hml]; rfl) (lenOf pd__C_Z_2014 rfl) rfl rfl (hb hby d_p6_m2_59) ?_
                    intro v53 T53 h53 L53 X53 e53 q53
                    obtain ⟨rfl, N53, rfl⟩ := q53
                    replace N53 := Fr.app N51 N53
                    refine Go.st (g' := (mkF m 66 #[.val (.ref a1), .val (.int 2), .val (.int y2)] [(.int 0)])) (fun t k => ?_) ?_
                    · refine XS.ifNo X53.here hx rfl (hb hby d_p6_m2_62) rfl ((if0 _ _).trans (feq (by decide : ¬ (1 : Int32) = (0 : Int32))).1) ?_
                      refine XS.iconst X53.here hx rfl (hb hby d_p6_m2_65) ?_
                      exact k
                    refine Go.retZ X53 hx hlk hret (Or.inl rfl) (hb hby d_p6_m2_66) (by decide) (by decide) e53 ?_
                    exact ⟨by simp [stor, hy3, hy4, hy25, hy30, hy31, hy41, hy46, hy47, hy52], N53, rfl⟩
                  · skip
                    show Go p e below _ T51 (mkF m 59 #[.val (.ref a1), .val (.int 2), .val (.int y2)] [(.int y2)])
                    refine Go.callS X51 hx hZ (W := 0) (argsL := [(.int y2)]) (rest := []) hown (wd hw 87 rfl) (wd hw 88 rfl) (wd hw 84 rfl) (wd hw 89 rfl) (by decide) (ct_isr l Z a0 hw  y2 (0 : Int32) h0 n0 O (if_neg (own_or3 hy47 hy52)).symm) e51 (by rw [hml]; rfl) (lenOf pd__C_Z_2014 rfl) rfl rfl (hb hby d_p6_m2_59) ?_
                    intro v54 T54 h54 L54 X54 e54 q54
                    obtain ⟨rfl, N54, rfl⟩ := q54
                    replace N54 := Fr.app N51 N54
                    refine Go.st (g' := (mkF m 4 #[.val (.ref a1), .val (.int 3), .val (.int y2)] [(.ref a1), (.int 3)])) (fun t k => ?_) ?_
                    · refine XS.ifYes X54.here hx rfl (pc0 := 62) (pc' := 67) rfl (hb hby d_p6_m2_62) rfl ((if0 _ _).trans (teq (by decide : (0 : Int32) = (0 : Int32))).1) (by decide) (by decide) ?_
                      refine XS.iinc X54.here hx rfl (hb hby d_p6_m2_67) rfl (l' := #[.val (.ref a1), .val (.int 3), .val (.int y2)]) rfl ?_
                      refine XS.goto X54.here hx rfl (pc0 := 70) (pc' := 2) rfl (hb hby d_p6_m2_70) (by decide) (by decide) ?_
                      refine XS.iloadN X54.here hx rfl (hb hby d_p6_m2_2) rfl ?_
                      refine XS.aloadN X54.here hx rfl (hb hby d_p6_m2_3) rfl rfl ?_
                      exact k
                    refine Go.callV X54 hx hZ (W := 1) (argsL := []) (rest := [(.int 3)]) hown (wd hw 43 rfl) (wd hw 44 rfl) (notFace_of_selects (args := #[]) (mvT hZ (wd hw 46 rfl))) (wd hw 46 rfl) (wd hw 45 rfl) (wd hw 8 rfl) (wd hw 47 rfl) (by decide) E_a1 HL e54 (by rw [hml]; rfl) (lenOf pd___I_8321 rfl) rfl rfl (hb hby d_p6_m2_4) ?_
                    intro v55 T55 h55 L55 X55 e55 q55
                    obtain ⟨rfl, N55, rfl⟩ := q55
                    replace N55 := Fr.app N54 N55
                    refine Go.st (g' := (mkF m 74 #[.val (.ref a1), .val (.int 3), .val (.int y2)] [(.int 1)])) (fun t k => ?_) ?_
                    · refine XS.icmpYes X55.here hx rfl (pc0 := 7) (pc' := 73) rfl (hb hby d_p6_m2_7) rfl (flt (by decide : ¬ (3 : Int32) < (3 : Int32))).2.1 (by decide) (by decide) ?_
                      refine XS.iconst X55.here hx rfl (hb hby d_p6_m2_73) ?_
                      exact k
                    refine Go.retZ X55 hx hlk hret (Or.inr rfl) (hb hby d_p6_m2_74) (by decide) (by decide) e55 ?_
                    exact ⟨by simp [stor, hy3, hy4, hy25, hy30, hy31, hy41, hy46, hy47, hy52], N55, rfl⟩
theorem ct_good_1_1 (l : Launch) (Z : State) (a0 : Array Value) (hw : ∀ d ∈ tables_1, d.before a0 Z = true) (y0 : Int32) (y1 : Int32) (y2 : Int32) (h0 : Heap) (n0 : Nat) (O : Old Z n0 h0)  :
    Ct l (⟨"com/example/provenara/provenara/model/CatalogTextIsStorablePinLaw", "good", "(CZCZC)Z"⟩ : MethodName) method_5_code 5 (some .boolean) ({ frames := 1, cells := 0, slots := 0, locals := 12 } : Room) Z #[(.int y0), (.int 1), (.int y1), (.int 1), (.int y2)] h0 (fun v h L => v = some (.int (goodF y0 true y1 true y2)) ∧ Fr n0 L ∧ h0 = h) := by
  refine Ct.of (plainFor_of_name pn_CatalogTextIsStorablePinLaw_167) ?_
  intro p e s m below meth c T0 X0 hx hby hml hown hnm hret hlk hZ e0
  have N0 := Fr.nil n0
  refine Go.cast (g' := mkF m 0 #[.val (.int y0), .val (.int 1), .val (.int y1), .val (.int 1), .val (.int y2)] []) (by first | (simp [entryFrame, mkF, argsToLocals, Value.category]; done) | rfl) ?_
  refine Go.st (g' := (mkF m 1 #[.val (.int y0), .val (.int 1), .val (.int y1), .val (.int 1), .val (.int y2)] [(.int y0)])) (fun t k => ?_) ?_
  · refine XS.iloadN X0.here hx rfl (hb hby d_m5_0) rfl ?_
    exact k
  by_cases hy1 : y0 = (0 : Int32)
  · skip
    refine Go.st (g' := (mkF m 5 #[.val (.int y0), .val (.int 1), .val (.int y1), .val (.int 1), .val (.int y2)] [(.int 0)])) (fun t k => ?_) ?_
    · refine XS.ifNo X0.here hx rfl (hb hby d_m5_1) rfl ((if0 _ _).trans (teq hy1).2) ?_
      refine XS.iconst X0.here hx rfl (hb hby d_m5_4) ?_
      exact k
    refine Go.retZ X0 hx hlk hret (Or.inl rfl) (hb hby d_m5_5) (by decide) (by decide) e0 ?_
    exact ⟨by simp [goodF, hy1], N0, rfl⟩
  · skip
    refine Go.st (g' := (mkF m 7 #[.val (.int y0), .val (.int 1), .val (.int y1), .val (.int 1), .val (.int y2)] [(.int y0)])) (fun t k => ?_) ?_
    · refine XS.ifYes X0.here hx rfl (pc0 := 1) (pc' := 6) rfl (hb hby d_m5_1) rfl ((if0 _ _).trans (feq hy1).2) (by decide) (by decide) ?_
      refine XS.iloadN X0.here hx rfl (hb hby d_m5_6) rfl ?_
      exact k
    by_cases hy2 : hiB y0 = true
    · skip
      show Go p e below _ T0 (mkF m 7 #[.val (.int y0), .val (.int 1), .val (.int y1), .val (.int 1), .val (.int y2)] [(.int y0)])
      refine Go.callS X0 hx hZ (W := 0) (argsL := [(.int y0)]) (rest := []) hown (wd hw 75 rfl) (wd hw 76 rfl) (wd hw 2 rfl) (wd hw 77 rfl) (by decide) (ct_iHi l Z a0 hw  y0 (1 : Int32) h0 n0 O (if_pos hy2).symm) e0 (by rw [hml]; rfl) (lenOf pd__C_Z_2014 rfl) rfl rfl (hb hby d_m5_7) ?_
      intro v3 T3 h3 L3 X3 e3 q3
      obtain ⟨rfl, N3, rfl⟩ := q3
      replace N3 := Fr.app N0 N3
      refine Go.st (g' := (mkF m 19 #[.val (.int y0), .val (.int 1), .val (.int y1), .val (.int 1), .val (.int y2)] [(.int y2)])) (fun t k => ?_) ?_
      · refine XS.ifNo X3.here hx rfl (hb hby d_m5_10) rfl ((if0 _ _).trans (feq (by decide : ¬ (1 : Int32) = (0 : Int32))).1) ?_
        refine XS.iloadN X3.here hx rfl (hb hby d_m5_13) rfl ?_
        refine XS.ifNo X3.here hx rfl (hb hby d_m5_14) rfl ((if0 _ _).trans (feq (by decide : ¬ (1 : Int32) = (0 : Int32))).1) ?_
        refine XS.iload X3.here hx rfl (hb hby d_m5_17) rfl ?_
        exact k
      by_cases hy4 : loB y2 = true
      · skip
        show Go p e below _ T3 (mkF m 19 #[.val (.int y0), .val (.int 1), .val (.int y1), .val (.int 1), .val (.int y2)] [(.int y2)])
        refine Go.callS X3 hx hZ (W := 0) (argsL := [(.int y2)]) (rest := []) hown (wd hw 79 rfl) (wd hw 80 rfl) (wd hw 2 rfl) (wd hw 81 rfl) (by decide) (ct_iLo l Z a0 hw  y2 (1 : Int32) h0 n0 O (if_pos hy4).symm) e3 (by rw [hml]; rfl) (lenOf pd__C_Z_2014 rfl) rfl rfl (hb hby d_m5_19) ?_
        intro v5 T5 h5 L5 X5 e5 q5
        obtain ⟨rfl, N5, rfl⟩ := q5
        replace N5 := Fr.app N3 N5
        refine Go.st (g' := (mkF m 30 #[.val (.int y0), .val (.int 1), .val (.int y1), .val (.int 1), .val (.int y2)] [(.int 1)])) (fun t k => ?_) ?_
        · refine XS.ifNo X5.here hx rfl (hb hby d_m5_22) rfl ((if0 _ _).trans (feq (by decide : ¬ (1 : Int32) = (0 : Int32))).1) ?_
          refine XS.iconst X5.here hx rfl (hb hby d_m5_25) ?_
          refine XS.goto X5.here hx rfl (pc0 := 26) (pc' := 30) rfl (hb hby d_m5_26) (by decide) (by decide) ?_
          exact k
        refine Go.retZ X5 hx hlk hret (Or.inr rfl) (hb hby d_m5_30) (by decide) (by decide) e5 ?_
        exact ⟨by simp [goodF, hy1, hy2, hy4], N5, rfl⟩
      · skip
        show Go p e below _ T3 (mkF m 19 #[.val (.int y0), .val (.int 1), .val (.int y1), .val (.int 1), .val (.int y2)] [(.int y2)])
        refine Go.callS X3 hx hZ (W := 0) (argsL := [(.int y2)]) (rest := []) hown (wd hw 79 rfl) (wd hw 80 rfl) (wd hw 2 rfl) (wd hw 81 rfl) (by decide) (ct_iLo l Z a0 hw  y2 (0 : Int32) h0 n0 O (if_neg hy4).symm) e3 (by rw [hml]; rfl) (lenOf pd__C_Z_2014 rfl) rfl rfl (hb hby d_m5_19) ?_
        intro v6 T6 h6 L6 X6 e6 q6
        obtain ⟨rfl, N6, rfl⟩ := q6
        replace N6 := Fr.app N3 N6
        refine Go.st (g' := (mkF m 30 #[.val (.int y0), .val (.int 1), .val (.int y1), .val (.int 1), .val (.int y2)] [(.int 0)])) (fun t k => ?_) ?_
        · refine XS.ifYes X6.here hx rfl (pc0 := 22) (pc' := 29) rfl (hb hby d_m5_22) rfl ((if0 _ _).trans (teq (by decide : (0 : Int32) = (0 : Int32))).1) (by decide) (by decide) ?_
          refine XS.iconst X6.here hx rfl (hb hby d_m5_29) ?_
          exact k
        refine Go.retZ X6 hx hlk hret (Or.inl rfl) (hb hby d_m5_30) (by decide) (by decide) e6 ?_
        exact ⟨by simp [goodF, hy1, hy2, hy4], N6, rfl⟩
    · skip
      show Go p e below _ T0 (mkF m 7 #[.val (.int y0), .val (.int 1), .val (.int y1), .val (.int 1), .val (.int y2)] [(.int y0)])
      refine Go.callS X0 hx hZ (W := 0) (argsL := [(.int y0)]) (rest := []) hown (wd hw 75 rfl) (wd hw 76 rfl) (wd hw 2 rfl) (wd hw 77 rfl) (by decide) (ct_iHi l Z a0 hw  y0 (0 : Int32) h0 n0 O (if_neg hy2).symm) e0 (by rw [hml]; rfl) (lenOf pd__C_Z_2014 rfl) rfl rfl (hb hby d_m5_7) ?_
      intro v7 T7 h7 L7 X7 e7 q7
      obtain ⟨rfl, N7, rfl⟩ := q7
      replace N7 := Fr.app N0 N7
      refine Go.st (g' := (mkF m 32 #[.val (.int y0), .val (.int 1), .val (.int y1), .val (.int 1), .val (.int y2)] [(.int y0)])) (fun t k => ?_) ?_
      · refine XS.ifYes X7.here hx rfl (pc0 := 10) (pc' := 31) rfl (hb hby d_m5_10) rfl ((if0 _ _).trans (teq (by decide : (0 : Int32) = (0 : Int32))).1) (by decide) (by decide) ?_
        refine XS.iloadN X7.here hx rfl (hb hby d_m5_31) rfl ?_
        exact k
      by_cases hy8 : loB y0 = true
      · skip
        show Go p e below _ T7 (mkF m 32 #[.val (.int y0), .val (.int 1), .val (.int y1), .val (.int 1), .val (.int y2)] [(.int y0)])
        refine Go.callS X7 hx hZ (W := 0) (argsL := [(.int y0)]) (rest := []) hown (wd hw 79 rfl) (wd hw 80 rfl) (wd hw 2 rfl) (wd hw 81 rfl) (by decide) (ct_iLo l Z a0 hw  y0 (1 : Int32) h0 n0 O (if_pos hy8).symm) e7 (by rw [hml]; rfl) (lenOf pd__C_Z_2014 rfl) rfl rfl (hb hby d_m5_32) ?_
        intro v9 T9 h9 L9 X9 e9 q9
        obtain ⟨rfl, N9, rfl⟩ := q9
        replace N9 := Fr.app N7 N9
        refine Go.st (g' := (mkF m 43 #[.val (.int y0), .val (.int 1), .val (.int y1), .val (.int 1), .val (.int y2)] [(.int y1)])) (fun t k => ?_) ?_
        · refine XS.ifNo X9.here hx rfl (hb hby d_m5_35) rfl ((if0 _ _).trans (feq (by decide : ¬ (1 : Int32) = (0 : Int32))).1) ?_
          refine XS.iloadN X9.here hx rfl (hb hby d_m5_38) rfl ?_
          refine XS.ifNo X9.here hx rfl (hb hby d_m5_39) rfl ((if0 _ _).trans (feq (by decide : ¬ (1 : Int32) = (0 : Int32))).1) ?_
          refine XS.iloadN X9.here hx rfl (hb hby d_m5_42) rfl ?_
          exact k
        by_cases hy10 : hiB y1 = true
        · skip
          show Go p e below _ T9 (mkF m 43 #[.val (.int y0), .val (.int 1), .val (.int y1), .val (.int 1), .val (.int y2)] [(.int y1)])
          refine Go.callS X9 hx hZ (W := 0) (argsL := [(.int y1)]) (rest := []) hown (wd hw 75 rfl) (wd hw 76 rfl) (wd hw 2 rfl) (wd hw 77 rfl) (by decide) (ct_iHi l Z a0 hw  y1 (1 : Int32) h0 n0 O (if_pos hy10).symm) e9 (by rw [hml]; rfl) (lenOf pd__C_Z_2014 rfl) rfl rfl (hb hby d_m5_43) ?_
          intro v11 T11 h11 L11 X11 e11 q11
          obtain ⟨rfl, N11, rfl⟩ := q11
          replace N11 := Fr.app N9 N11
          refine Go.st (g' := (mkF m 54 #[.val (.int y0), .val (.int 1), .val (.int y1), .val (.int 1), .val (.int y2)] [(.int 1)])) (fun t k => ?_) ?_
          · refine XS.ifNo X11.here hx rfl (hb hby d_m5_46) rfl ((if0 _ _).trans (feq (by decide : ¬ (1 : Int32) = (0 : Int32))).1) ?_
            refine XS.iconst X11.here hx rfl (hb hby d_m5_49) ?_
            refine XS.goto X11.here hx rfl (pc0 := 50) (pc' := 54) rfl (hb hby d_m5_50) (by decide) (by decide) ?_
            exact k
          refine Go.retZ X11 hx hlk hret (Or.inr rfl) (hb hby d_m5_54) (by decide) (by decide) e11 ?_
          exact ⟨by simp [goodF, hy1, hy2, hy8, hy10], N11, rfl⟩
        · skip
          show Go p e below _ T9 (mkF m 43 #[.val (.int y0), .val (.int 1), .val (.int y1), .val (.int 1), .val (.int y2)] [(.int y1)])
          refine Go.callS X9 hx hZ (W := 0) (argsL := [(.int y1)]) (rest := []) hown (wd hw 75 rfl) (wd hw 76 rfl) (wd hw 2 rfl) (wd hw 77 rfl) (by decide) (ct_iHi l Z a0 hw  y1 (0 : Int32) h0 n0 O (if_neg hy10).symm) e9 (by rw [hml]; rfl) (lenOf pd__C_Z_2014 rfl) rfl rfl (hb hby d_m5_43) ?_
          intro v12 T12 h12 L12 X12 e12 q12
          obtain ⟨rfl, N12, rfl⟩ := q12
          replace N12 := Fr.app N9 N12
          refine Go.st (g' := (mkF m 54 #[.val (.int y0), .val (.int 1), .val (.int y1), .val (.int 1), .val (.int y2)] [(.int 0)])) (fun t k => ?_) ?_
          · refine XS.ifYes X12.here hx rfl (pc0 := 46) (pc' := 53) rfl (hb hby d_m5_46) rfl ((if0 _ _).trans (teq (by decide : (0 : Int32) = (0 : Int32))).1) (by decide) (by decide) ?_
            refine XS.iconst X12.here hx rfl (hb hby d_m5_53) ?_
            exact k
          refine Go.retZ X12 hx hlk hret (Or.inl rfl) (hb hby d_m5_54) (by decide) (by decide) e12 ?_
          exact ⟨by simp [goodF, hy1, hy2, hy8, hy10], N12, rfl⟩
      · skip
        show Go p e below _ T7 (mkF m 32 #[.val (.int y0), .val (.int 1), .val (.int y1), .val (.int 1), .val (.int y2)] [(.int y0)])
        refine Go.callS X7 hx hZ (W := 0) (argsL := [(.int y0)]) (rest := []) hown (wd hw 79 rfl) (wd hw 80 rfl) (wd hw 2 rfl) (wd hw 81 rfl) (by decide) (ct_iLo l Z a0 hw  y0 (0 : Int32) h0 n0 O (if_neg hy8).symm) e7 (by rw [hml]; rfl) (lenOf pd__C_Z_2014 rfl) rfl rfl (hb hby d_m5_32) ?_
        intro v13 T13 h13 L13 X13 e13 q13
        obtain ⟨rfl, N13, rfl⟩ := q13
        replace N13 := Fr.app N7 N13
        refine Go.st (g' := (mkF m 56 #[.val (.int y0), .val (.int 1), .val (.int y1), .val (.int 1), .val (.int y2)] [(.int 1)])) (fun t k => ?_) ?_
        · refine XS.ifYes X13.here hx rfl (pc0 := 35) (pc' := 55) rfl (hb hby d_m5_35) rfl ((if0 _ _).trans (teq (by decide : (0 : Int32) = (0 : Int32))).1) (by decide) (by decide) ?_
          refine XS.iconst X13.here hx rfl (hb hby d_m5_55) ?_
          exact k
        refine Go.retZ X13 hx hlk hret (Or.inr rfl) (hb hby d_m5_56) (by decide) (by decide) e13 ?_
        exact ⟨by simp [goodF, hy1, hy2, hy8], N13, rfl⟩
theorem ct_cmp5_3_1 (l : Launch) (Z : State) (a0 : Array Value) (hw : ∀ d ∈ tables_1, d.before a0 Z = true) (ac : Addr) (kc : ClassId) (ab : Addr) (kb : ClassId) (y0 : Int32) (y1 : Int32) (y2 : Int32) (h0 : Heap) (n0 : Nat) (O : Old Z n0 h0) (V_c : Arv Z h0 ac kc .char (3 : Int32) [(.int y0), (.int y1), (.int y2)] (.int 0)) (V_b : Arv Z h0 ab kb .byte (3 : Int32) [(.int 0), (.int 0), (.int 0)] (.int 0)) (g_ab : n0 ≤ ab) (ne_ac_ab : ac ≠ ab) (hv0 : ¬ (255 : Int32) < y0) (hv1 : (255 : Int32) < y1) :
    Ct l (⟨"java/lang/StringUTF16", "compress", "([CI[BII)I"⟩ : MethodName) jdk_52_method_21_code 7 (some .int) ({ frames := 0, cells := 0, slots := 0, locals := 0 } : Room) Z #[(.ref ac), (.int 0), (.ref ab), (.int 0), (.int 3)] h0 (fun v h L => v = some (.int 1) ∧ Fr n0 L ∧ Keep h0 h [ab] ∧ Arv Z h ab kb .byte (3 : Int32) [(.int (nar .byte (y0.toInt8.toInt32))), (.int 0), (.int 0)] (.int 0)) := by
  refine Ct.of (plainFor_of_name pn_StringUTF16_856) ?_
  intro p e s m below meth c T0 X0 hx hby hml hown hnm hret hlk hZ e0
  have N0 := Fr.nil n0
  refine Go.cast (g' := mkF m 0 #[.val (.ref ac), .val (.int 0), .val (.ref ab), .val (.int 0), .val (.int 3), .unset, .unset] []) (by first | (simp [entryFrame, mkF, argsToLocals, Value.category]; done) | rfl) ?_
  have K : Keep h0 h0 [ab] := Keep.refl _ _
  refine Go.st (g' := (mkF m 12 #[.val (.ref ac), .val (.int 0), .val (.ref ab), .val (.int 0), .val (.int 3), .val (.int 0), .unset] [(.int 0), (.ref ac)])) (fun t k => ?_) ?_
  · refine XS.iconst X0.here hx rfl (hb hby d_j52_m21_0) ?_
    refine XS.istore X0.here hx rfl (hb hby d_j52_m21_1) rfl (l' := #[.val (.ref ac), .val (.int 0), .val (.ref ab), .val (.int 0), .val (.int 3), .val (.int 0), .unset]) rfl ?_
    refine XS.iload X0.here hx rfl (hb hby d_j52_m21_3) rfl ?_
    refine XS.iload X0.here hx rfl (hb hby d_j52_m21_5) rfl ?_
    refine XS.icmpNo X0.here hx rfl (hb hby d_j52_m21_7) rfl (tlt (by decide : (0 : Int32) < (3 : Int32))).2.1 ?_
    refine XS.aloadN X0.here hx rfl (hb hby d_j52_m21_10) rfl rfl ?_
    refine XS.iloadN X0.here hx rfl (hb hby d_j52_m21_11) rfl ?_
    exact k
  refine Go.aloadV X0 hx hZ e0 V_c (j := (0 : Int32)) (v := (.int y0)) ⟨by decide, by decide⟩ rfl (Or.inr (Or.inr (Or.inr (Or.inl ⟨rfl, rfl⟩)))) (hb hby d_j52_m21_12) ?_
  refine Go.st (g' := (mkF m 31 #[.val (.ref ac), .val (.int 0), .val (.ref ab), .val (.int 0), .val (.int 3), .val (.int 0), .val (.int y0)] [(.int (y0.toInt8.toInt32)), (.int 0), (.ref ab)])) (fun t k => ?_) ?_
  · refine XS.istore X0.here hx rfl (hb hby d_j52_m21_13) rfl (l' := #[.val (.ref ac), .val (.int 0), .val (.ref ab), .val (.int 0), .val (.int 3), .val (.int 0), .val (.int y0)]) rfl ?_
    refine XS.iload X0.here hx rfl (hb hby d_j52_m21_15) rfl ?_
    refine XS.sipush X0.here hx rfl (hb hby d_j52_m21_17) ?_
    refine XS.icmpYes X0.here hx rfl (pc0 := 20) (pc' := 26) rfl (hb hby d_j52_m21_20) rfl (flt hv0).2.2.2 (by decide) (by decide) ?_
    refine XS.aloadN X0.here hx rfl (hb hby d_j52_m21_26) rfl rfl ?_
    refine XS.iloadN X0.here hx rfl (hb hby d_j52_m21_27) rfl ?_
    refine XS.iload X0.here hx rfl (hb hby d_j52_m21_28) rfl ?_
    refine XS.i2b X0.here hx rfl (hb hby d_j52_m21_30) rfl ?_
    exact k
  refine Go.nstV X0 hx hZ e0 V_b (j := (0 : Int32)) ⟨by decide, by decide⟩ 0 rfl (Nat.le_of_ble_eq_true rfl) (Or.inr ⟨rfl, rfl⟩) (hb hby d_j52_m21_31) ?_
  intro T1 h1 X1 e1 W1 Vn1
  replace V_c := V_c.other W1 ne_ac_ab
  replace O := O.wr W1 g_ab
  have N1 := Fr.snoc X1 N0 g_ab
  replace K := K.wr W1 (Or.inl (List.mem_of_getElem? (i := 0) rfl))
  replace V_b : Arv Z h1 ab kb .byte (3 : Int32) [(.int (nar .byte (y0.toInt8.toInt32))), (.int 0), (.int 0)] (.int 0) := Vn1
  clear Vn1
  refine Go.st (g' := (mkF m 12 #[.val (.ref ac), .val (.int 1), .val (.ref ab), .val (.int 1), .val (.int 3), .val (.int 1), .val (.int y0)] [(.int 1), (.ref ac)])) (fun t k => ?_) ?_
  · refine XS.iinc X1.here hx rfl (hb hby d_j52_m21_32) rfl (l' := #[.val (.ref ac), .val (.int 1), .val (.ref ab), .val (.int 0), .val (.int 3), .val (.int 0), .val (.int y0)]) rfl ?_
    refine XS.iinc X1.here hx rfl (hb hby d_j52_m21_35) rfl (l' := #[.val (.ref ac), .val (.int 1), .val (.ref ab), .val (.int 1), .val (.int 3), .val (.int 0), .val (.int y0)]) rfl ?_
    refine XS.iinc X1.here hx rfl (hb hby d_j52_m21_38) rfl (l' := #[.val (.ref ac), .val (.int 1), .val (.ref ab), .val (.int 1), .val (.int 3), .val (.int 1), .val (.int y0)]) rfl ?_
    refine XS.goto X1.here hx rfl (pc0 := 41) (pc' := 3) rfl (hb hby d_j52_m21_41) (by decide) (by decide) ?_
    refine XS.iload X1.here hx rfl (hb hby d_j52_m21_3) rfl ?_
    refine XS.iload X1.here hx rfl (hb hby d_j52_m21_5) rfl ?_
    refine XS.icmpNo X1.here hx rfl (hb hby d_j52_m21_7) rfl (tlt (by decide : (1 : Int32) < (3 : Int32))).2.1 ?_
    refine XS.aloadN X1.here hx rfl (hb hby d_j52_m21_10) rfl rfl ?_
    refine XS.iloadN X1.here hx rfl (hb hby d_j52_m21_11) rfl ?_
    exact k
  refine Go.aloadV X1 hx hZ e1 V_c (j := (1 : Int32)) (v := (.int y1)) ⟨by decide, by decide⟩ rfl (Or.inr (Or.inr (Or.inr (Or.inl ⟨rfl, rfl⟩)))) (hb hby d_j52_m21_12) ?_
  refine Go.st (g' := (mkF m 25 #[.val (.ref ac), .val (.int 1), .val (.ref ab), .val (.int 1), .val (.int 3), .val (.int 1), .val (.int y1)] [(.int 1)])) (fun t k => ?_) ?_
  · refine XS.istore X1.here hx rfl (hb hby d_j52_m21_13) rfl (l' := #[.val (.ref ac), .val (.int 1), .val (.ref ab), .val (.int 1), .val (.int 3), .val (.int 1), .val (.int y1)]) rfl ?_
    refine XS.iload X1.here hx rfl (hb hby d_j52_m21_15) rfl ?_
    refine XS.sipush X1.here hx rfl (hb hby d_j52_m21_17) ?_
    refine XS.icmpNo X1.here hx rfl (hb hby d_j52_m21_20) rfl (tlt hv1).2.2.2 ?_
    refine XS.iload X1.here hx rfl (hb hby d_j52_m21_23) rfl ?_
    exact k
  refine Go.retI X1 hx hlk hret (hb hby d_j52_m21_25) (by decide) (by decide) e1 ?_
  exact ⟨rfl, N1, K, V_b⟩
theorem ct_cmp3_3_1 (l : Launch) (Z : State) (a0 : Array Value) (hw : ∀ d ∈ tables_1, d.before a0 Z = true) (zc : Int32) (fm : Value) (G : Gl Z zc fm) (ac : Addr) (kc : ClassId) (y0 : Int32) (y1 : Int32) (y2 : Int32) (h0 : Heap) (n0 : Nat) (O : Old Z n0 h0) (V_c : Arv Z h0 ac kc .char (3 : Int32) [(.int y0), (.int y1), (.int y2)] (.int 0)) (hr0 : 0 ≤ y0.toInt ∧ y0.toInt < 65536) (hr1 : 0 ≤ y1.toInt ∧ y1.toInt < 65536) (hr2 : 0 ≤ y2.toInt ∧ y2.toInt < 65536) (hv0 : ¬ (255 : Int32) < y0) (hv1 : (255 : Int32) < y1) :
    Ct l (⟨"java/lang/StringUTF16", "compress", "([CII)[B"⟩ : MethodName) jdk_52_method_16_code 6 (some (.array .byte)) ({ frames := 3, cells := 2, slots := 9, locals := 40 } : Room) Z #[(.ref ac), (.int 0), (.int 3)] h0 (fun v h L => ∃ b kb, v = some (.ref b) ∧ Fr n0 L ∧ Keep h0 h [] ∧ h0.size ≤ b ∧ Arv Z h b kb .byte (6 : Int32) [(.int (nar .byte ((y0 >>> ((0 : Int32) &&& 31)).toInt8.toInt32))), (.int (nar .byte ((y0 >>> ((8 : Int32) &&& 31)).toInt8.toInt32))), (.int (nar .byte ((y1 >>> ((0 : Int32) &&& 31)).toInt8.toInt32))), (.int (nar .byte ((y1 >>> ((8 : Int32) &&& 31)).toInt8.toInt32))), (.int (nar .byte ((y2 >>> ((0 : Int32) &&& 31)).toInt8.toInt32))), (.int (nar .byte ((y2 >>> ((8 : Int32) &&& 31)).toInt8.toInt32)))] (.int 0)) := by
  refine Ct.of (plainFor_of_name pn_StringUTF16_856) ?_
  intro p e s m below meth c T0 X0 hx hby hml hown hnm hret hlk hZ e0
  have N0 := Fr.nil n0
  have G' := G
  obtain ⟨S_CS, hzc, S_FM, hfm, S_AD, S_HI, S_LO⟩ := G'
  refine Go.cast (g' := mkF m 0 #[.val (.ref ac), .val (.int 0), .val (.int 3), .unset, .unset, .unset] []) (by first | (simp [entryFrame, mkF, argsToLocals, Value.category]; done) | rfl) ?_
  have K : Keep h0 h0 [] := Keep.refl _ _
  refine Go.st (g' := (mkF m 1 #[.val (.ref ac), .val (.int 0), .val (.int 3), .unset, .unset, .unset] [(.int 3)])) (fun t k => ?_) ?_
  · refine XS.iloadN X0.here hx rfl (hb hby d_j52_m16_0) rfl ?_
    exact k
  refine Go.newP X0 hx hZ (wd hw 25 rfl) e0 (hb hby d_j52_m16_1) (by decide) (cap := 3) (by decide) (by decide) (by decide) (by decide) ?_
  intro T1 h1 b1 k1 X1 e1 E1 g1 V_b1
  have lb1 := Nat.le_of_eq g1.symm
  have ne_ac_b1 : ac ≠ b1 := Nat.ne_of_lt (Nat.lt_of_lt_of_le V_c.lt lb1)
  have g_b1 : n0 ≤ b1 := Nat.le_trans (OwnKit.Old.le O) lb1
  have sz_b1 : h0.size ≤ b1 := Nat.le_trans K.1 lb1
  replace V_c := V_c.ext E1
  replace O := O.ext E1
  replace K := K.ext E1
  replace V_b1 := V_b1.pad (pad_rep [] (.int 0) 3)
  replace V_b1 : Arv Z h1 b1 k1 .byte (3 : Int32) [(.int 0), (.int 0), (.int 0)] (.int 0) := V_b1
  refine Go.st (g' := (mkF m 9 #[.val (.ref ac), .val (.int 0), .val (.int 3), .val (.ref b1), .unset, .unset] [(.int 3), (.int 0), (.ref b1), (.int 0), (.ref ac)])) (fun t k => ?_) ?_
  · refine XS.astoreN X1.here hx rfl (hb hby d_j52_m16_3) rfl rfl (l' := #[.val (.ref ac), .val (.int 0), .val (.int 3), .val (.ref b1), .unset, .unset]) rfl ?_
    refine XS.aloadN X1.here hx rfl (hb hby d_j52_m16_4) rfl rfl ?_
    refine XS.iloadN X1.here hx rfl (hb hby d_j52_m16_5) rfl ?_
    refine XS.aloadN X1.here hx rfl (hb hby d_j52_m16_6) rfl rfl ?_
    refine XS.iconst X1.here hx rfl (hb hby d_j52_m16_7) ?_
    refine XS.iloadN X1.here hx rfl (hb hby d_j52_m16_8) rfl ?_
    exact k
  refine Go.callS X1 hx hZ (W := 0) (argsL := [(.ref ac), (.int 0), (.ref b1), (.int 0), (.int 3)]) (rest := []) hown (wd hw 26 rfl) (wd hw 27 rfl) (wd hw 23 rfl) (wd hw 28 rfl) (by decide) (ct_cmp5_3_1 l Z a0 hw  ac kc b1 k1 y0 y1 y2 h1 n0 O V_c V_b1 g_b1 ne_ac_b1 hv0 hv1) e1 (by rw [hml]; rfl) (lenOf pd___CI_BII_I_6624 rfl) rfl rfl (hb hby d_j52_m16_9) ?_
  intro v2 T2 h2 L2 X2 e2 q2
  obtain ⟨rfl, N2, K2, V_n2⟩ := q2
  replace N2 := Fr.app N0 N2
  replace V_c := V_c.keep K2 (ninS ne_ac_b1 nin0)
  clear V_b1
  replace O := O.keep K2 (allS g_b1 all0)
  replace K := K.trans K2 (allS (Or.inr sz_b1) all0)
  refine Go.st (g' := (mkF m 23 #[.val (.ref ac), .val (.int 0), .val (.int 3), .val (.ref b1), .val (.int 1), .unset] [(.int 3), (.int 0), (.ref ac)])) (fun t k => ?_) ?_
  · refine XS.istore X2.here hx rfl (hb hby d_j52_m16_12) rfl (l' := #[.val (.ref ac), .val (.int 0), .val (.int 3), .val (.ref b1), .val (.int 1), .unset]) rfl ?_
    refine XS.iload X2.here hx rfl (hb hby d_j52_m16_14) rfl ?_
    refine XS.iloadN X2.here hx rfl (hb hby d_j52_m16_16) rfl ?_
    refine XS.icmpNo X2.here hx rfl (hb hby d_j52_m16_17) rfl (feq (by decide : ¬ (1 : Int32) = (3 : Int32))).1 ?_
    refine XS.aloadN X2.here hx rfl (hb hby d_j52_m16_20) rfl rfl ?_
    refine XS.iloadN X2.here hx rfl (hb hby d_j52_m16_21) rfl ?_
    refine XS.iloadN X2.here hx rfl (hb hby d_j52_m16_22) rfl ?_
    exact k
  refine Go.callS X2 hx hZ (W := 0) (argsL := [(.ref ac), (.int 0), (.int 3)]) (rest := []) hown (wd hw 93 rfl) (wd hw 94 rfl) (wd hw 23 rfl) (wd hw 95 rfl) (by decide) (ct_tob_3 l Z a0 hw zc fm G ac kc y0 y1 y2 h2 n0 O V_c) e2 (by rw [hml]; rfl) (lenOf pd___CII__B_8269 rfl) rfl rfl (hb hby d_j52_m16_23) ?_
  intro v3 T3 h3 L3 X3 e3 q3
  obtain ⟨ot, kt, rfl, N3, K3, lb3, V_ot⟩ := q3
  replace N3 := Fr.app N2 N3
  have ne_ac_ot : ac ≠ ot := Nat.ne_of_lt (Nat.lt_of_lt_of_le V_c.lt lb3)
  have ne_b1_ot : b1 ≠ ot := Nat.ne_of_lt (Nat.lt_of_lt_of_le V_n2.lt lb3)
  have g_ot : n0 ≤ ot := Nat.le_trans (OwnKit.Old.le O) lb3
  have sz_ot : h0.size ≤ ot := Nat.le_trans K.1 lb3
  replace V_c := V_c.keep K3 nin0
  replace V_n2 := V_n2.keep K3 nin0
  replace O := O.keep K3 all0
  replace K := K.trans K3 all0
  refine Go.st (g' := (mkF m 32 #[.val (.ref ac), .val (.int 0), .val (.int 3), .val (.ref b1), .val (.int 1), .val (.ref ot)] [(.int 1), (.ref ot)])) (fun t k => ?_) ?_
  · refine XS.astore X3.here hx rfl (hb hby d_j52_m16_26) rfl rfl (l' := #[.val (.ref ac), .val (.int 0), .val (.int 3), .val (.ref b1), .val (.int 1), .val (.ref ot)]) rfl ?_
    refine XS.aload X3.here hx rfl (hb hby d_j52_m16_28) rfl rfl ?_
    refine XS.iload X3.here hx rfl (hb hby d_j52_m16_30) rfl ?_
    exact k
  refine Go.callS X3 hx hZ (W := 0) (argsL := [(.ref ot), (.int 1)]) (rest := []) hown (wd hw 109 rfl) (wd hw 110 rfl) (wd hw 23 rfl) (wd hw 111 rfl) (by decide) (ct_gch_3_1 l Z a0 hw zc fm G ot kt y1 (.int (nar .byte ((y0 >>> ((0 : Int32) &&& 31)).toInt8.toInt32))) (.int (nar .byte ((y0 >>> ((8 : Int32) &&& 31)).toInt8.toInt32))) (.int (nar .byte ((y2 >>> ((0 : Int32) &&& 31)).toInt8.toInt32))) (.int (nar .byte ((y2 >>> ((8 : Int32) &&& 31)).toInt8.toInt32))) h3 n0 O V_ot hr1) e3 (by rw [hml]; rfl) (lenOf pd___BI_C_7586 rfl) rfl rfl (hb hby d_j52_m16_32) ?_
  intro v4 T4 h4 L4 X4 e4 q4
  obtain ⟨rfl, N4, rfl⟩ := q4
  replace N4 := Fr.app N3 N4
  refine Go.st (g' := (mkF m 56 #[.val (.ref ac), .val (.int 0), .val (.int 3), .val (.ref b1), .val (.int 1), .val (.ref ot)] [(.ref ot)])) (fun t k => ?_) ?_
  · refine XS.sipush X4.here hx rfl (hb hby d_j52_m16_35) ?_
    refine XS.icmpYes X4.here hx rfl (pc0 := 38) (pc' := 54) rfl (hb hby d_j52_m16_38) rfl (tlt hv1).2.2.1 (by decide) (by decide) ?_
    refine XS.aload X4.here hx rfl (hb hby d_j52_m16_54) rfl rfl ?_
    exact k
  refine Go.retA X4 hx hlk hret rfl rfl (hb hby d_j52_m16_56) (by decide) (by decide) e4 ?_
  exact ⟨ot, _, rfl, N4, K, sz_ot, V_ot⟩
theorem ct_si4_3_1 (l : Launch) (Z : State) (a0 : Array Value) (hw : ∀ d ∈ tables_1, d.before a0 Z = true) (zc : Int32) (fm : Value) (G : Gl Z zc fm) (a1 : Addr) (ac : Addr) (kc : ClassId) (y0 : Int32) (y1 : Int32) (y2 : Int32) (h0 : Heap) (n0 : Nat) (O : Old Z n0 h0) (E_a1 : Exa Z h0 a1 "java/lang/String") (F_a1_value : Fld Z h0 a1 "java/lang/String" "value" "[B" .null) (F_a1_coder : Fld Z h0 a1 "java/lang/String" "coder" "B" (.int 0)) (g_a1 : n0 ≤ a1) (V_c : Arv Z h0 ac kc .char (3 : Int32) [(.int y0), (.int y1), (.int y2)] (.int 0)) (ne_a1_ac : a1 ≠ ac) (hr0 : 0 ≤ y0.toInt ∧ y0.toInt < 65536) (hr1 : 0 ≤ y1.toInt ∧ y1.toInt < 65536) (hr2 : 0 ≤ y2.toInt ∧ y2.toInt < 65536) (hv0 : ¬ (255 : Int32) < y0) (hv1 : (255 : Int32) < y1) :
    Ct l (⟨"java/lang/String", "<init>", "([CIILjava/lang/Void;)V"⟩ : MethodName) jdk_42_method_149_code 6 none ({ frames := 4, cells := 2, slots := 9, locals := 57 } : Room) Z #[(.ref a1), (.ref ac), (.int 0), (.int 3), .null] h0 (fun v h L => ∃ b kb, v = none ∧ Fr n0 L ∧ Keep h0 h [a1] ∧ Fld Z h a1 "java/lang/String" "value" "[B" (.ref b) ∧ Fld Z h a1 "java/lang/String" "coder" "B" (.int 1) ∧ Arv Z h b kb .byte (6 : Int32) [(.int (nar .byte ((y0 >>> ((0 : Int32) &&& 31)).toInt8.toInt32))), (.int (nar .byte ((y0 >>> ((8 : Int32) &&& 31)).toInt8.toInt32))), (.int (nar .byte ((y1 >>> ((0 : Int32) &&& 31)).toInt8.toInt32))), (.int (nar .byte ((y1 >>> ((8 : Int32) &&& 31)).toInt8.toInt32))), (.int (nar .byte ((y2 >>> ((0 : Int32) &&& 31)).toInt8.toInt32))), (.int (nar .byte ((y2 >>> ((8 : Int32) &&& 31)).toInt8.toInt32)))] (.int 0)) := by
  refine Ct.of (plainFor_of_name pn_String_837) ?_
  intro p e s m below meth c T0 X0 hx hby hml hown hnm hret hlk hZ e0
  have N0 := Fr.nil n0
  have G' := G
  obtain ⟨S_CS, hzc, S_FM, hfm, S_AD, S_HI, S_LO⟩ := G'
  refine Go.cast (g' := mkF m 0 #[.val (.ref a1), .val (.ref ac), .val (.int 0), .val (.int 3), .val .null, .unset] []) (by first | (simp [entryFrame, mkF, argsToLocals, Value.category]; done) | rfl) ?_
  have K : Keep h0 h0 [a1] := Keep.refl _ _
  refine Go.st (g' := (mkF m 1 #[.val (.ref a1), .val (.ref ac), .val (.int 0), .val (.int 3), .val .null, .unset] [(.ref a1)])) (fun t k => ?_) ?_
  · refine XS.aloadN X0.here hx rfl (hb hby d_j42_m149_0) rfl rfl ?_
    exact k
  refine Go.initO X0 hx hZ hown (wd hw 17 rfl) (wd hw 18 rfl) (wd hw 19 rfl) e0 (by rw [hml]; rfl) (hb hby d_j42_m149_1) (by decide) (W := 0) rfl (by decide) ?_
  intro T1 X1 e1
  refine Go.st (g' := (mkF m 27 #[.val (.ref a1), .val (.ref ac), .val (.int 0), .val (.int 3), .val .null, .unset] [])) (fun t k => ?_) ?_
  · refine XS.iloadN X1.here hx rfl (hb hby d_j42_m149_4) rfl ?_
    refine XS.ifYes X1.here hx rfl (pc0 := 5) (pc' := 27) rfl (hb hby d_j42_m149_5) rfl ((if0 _ _).trans (feq (by decide : ¬ (3 : Int32) = (0 : Int32))).2) (by decide) (by decide) ?_
    exact k
  refine Go.getS X1 hx hZ hown (wd hw 20 rfl) Via.refl e1 (S_CS.ext O.2) (hb hby d_j42_m149_27) ?_
  intro T2 X2 e2
  refine Go.st (g' := (mkF m 36 #[.val (.ref a1), .val (.ref ac), .val (.int 0), .val (.int 3), .val .null, .unset] [(.int 3), (.int 0), (.ref ac)])) (fun t k => ?_) ?_
  · refine XS.ifNo X2.here hx rfl (hb hby d_j42_m149_30) rfl ((if0 _ _).trans (feq hzc).1) ?_
    refine XS.aloadN X2.here hx rfl (hb hby d_j42_m149_33) rfl rfl ?_
    refine XS.iloadN X2.here hx rfl (hb hby d_j42_m149_34) rfl ?_
    refine XS.iloadN X2.here hx rfl (hb hby d_j42_m149_35) rfl ?_
    exact k
  refine Go.callS X2 hx hZ (W := 0) (argsL := [(.ref ac), (.int 0), (.int 3)]) (rest := []) hown (wd hw 21 rfl) (wd hw 22 rfl) (wd hw 23 rfl) (wd hw 24 rfl) (by decide) (ct_cmp3_3_1 l Z a0 hw zc fm G ac kc y0 y1 y2 h0 n0 O V_c hr0 hr1 hr2 hv0 hv1) e2 (by rw [hml]; rfl) (lenOf pd___CII__B_8269 rfl) rfl rfl (hb hby d_j42_m149_36) ?_
  intro v3 T3 h3 L3 X3 e3 q3
  obtain ⟨ob, kb, rfl, N3, K3, lb3, V_ob⟩ := q3
  replace N3 := Fr.app N0 N3
  have ne_a1_ob : a1 ≠ ob := Nat.ne_of_lt (Nat.lt_of_lt_of_le E_a1.lt lb3)
  have ne_ac_ob : ac ≠ ob := Nat.ne_of_lt (Nat.lt_of_lt_of_le V_c.lt lb3)
  have g_ob : n0 ≤ ob := Nat.le_trans (OwnKit.Old.le O) lb3
  have sz_ob : h0.size ≤ ob := Nat.le_trans K.1 lb3
  replace E_a1 := E_a1.keep K3
  replace F_a1_value := F_a1_value.keep K3 nin0
  replace F_a1_coder := F_a1_coder.keep K3 nin0
  replace V_c := V_c.keep K3 nin0
  replace O := O.keep K3 all0
  replace K := K.trans K3 all0
  refine Go.st (g' := (mkF m 45 #[.val (.ref a1), .val (.ref ac), .val (.int 0), .val (.int 3), .val .null, .val (.ref ob)] [(.int 3), (.ref ob), (.ref a1)])) (fun t k => ?_) ?_
  · refine XS.astore X3.here hx rfl (hb hby d_j42_m149_39) rfl rfl (l' := #[.val (.ref a1), .val (.ref ac), .val (.int 0), .val (.int 3), .val .null, .val (.ref ob)]) rfl ?_
    refine XS.aloadN X3.here hx rfl (hb hby d_j42_m149_41) rfl rfl ?_
    refine XS.aload X3.here hx rfl (hb hby d_j42_m149_42) rfl rfl ?_
    refine XS.iloadN X3.here hx rfl (hb hby d_j42_m149_44) rfl ?_
    exact k
  refine Go.callS X3 hx hZ (W := 1) (argsL := [(.ref ob), (.int 3)]) (rest := [(.ref a1)]) hown (wd hw 29 rfl) (wd hw 30 rfl) (wd hw 23 rfl) (wd hw 31 rfl) (by decide) (ct_cfa_3_6 l Z a0 hw  ob kb (.int (nar .byte ((y0 >>> ((0 : Int32) &&& 31)).toInt8.toInt32))) (.int (nar .byte ((y0 >>> ((8 : Int32) &&& 31)).toInt8.toInt32))) (.int (nar .byte ((y1 >>> ((0 : Int32) &&& 31)).toInt8.toInt32))) (.int (nar .byte ((y1 >>> ((8 : Int32) &&& 31)).toInt8.toInt32))) (.int (nar .byte ((y2 >>> ((0 : Int32) &&& 31)).toInt8.toInt32))) (.int (nar .byte ((y2 >>> ((8 : Int32) &&& 31)).toInt8.toInt32))) h3 n0 O V_ob) e3 (by rw [hml]; rfl) (lenOf pd___BI_B_7585 rfl) rfl rfl (hb hby d_j42_m149_45) ?_
  intro v4 T4 h4 L4 X4 e4 q4
  obtain ⟨rfl, N4, rfl⟩ := q4
  replace N4 := Fr.app N3 N4
  show Go p e below _ T4 (mkF m 48 #[.val (.ref a1), .val (.ref ac), .val (.int 0), .val (.int 3), .val .null, .val (.ref ob)] [(.int 1), (.ref a1)])
  refine Go.putF X4 hx hZ hown (wd hw 32 rfl) Via.refl e4 F_a1_coder E_a1 (Or.inr ⟨(wd hw 33 rfl), rfl, hnm⟩) (wd hw 7 rfl) (ty := .byte) (by decide) rfl rfl (hb hby d_j42_m149_48) ?_
  intro T5 h5 X5 e5 W5
  replace E_a1 := E_a1.wr W5
  replace F_a1_value := F_a1_value.other W5 (Or.inr (slot_ne (a0 := a0) (Or.inr (wd hw 35 rfl)) (Or.inr (wd hw 33 rfl)) (by decide) (t := (.array .byte)) (t' := .byte) (by decide) (by decide)))
  replace F_a1_coder := F_a1_coder.same W5
  replace V_c := V_c.other W5 (Ne.symm ne_a1_ac)
  replace V_ob := V_ob.other W5 (Ne.symm ne_a1_ob)
  replace O := O.wr W5 g_a1
  have N5 := Fr.snoc X5 N4 g_a1
  replace K := K.wr W5 (Or.inl (List.mem_of_getElem? (i := 0) rfl))
  refine Go.st (g' := (mkF m 54 #[.val (.ref a1), .val (.ref ac), .val (.int 0), .val (.int 3), .val .null, .val (.ref ob)] [(.ref ob), (.ref a1)])) (fun t k => ?_) ?_
  · refine XS.aloadN X5.here hx rfl (hb hby d_j42_m149_51) rfl rfl ?_
    refine XS.aload X5.here hx rfl (hb hby d_j42_m149_52) rfl rfl ?_
    exact k
  refine Go.putF X5 hx hZ hown (wd hw 34 rfl) Via.refl e5 F_a1_value E_a1 (Or.inr ⟨(wd hw 35 rfl), rfl, hnm⟩) (wd hw 7 rfl) (ty := (.array .byte)) (by decide) rfl rfl (hb hby d_j42_m149_54) ?_
  intro T6 h6 X6 e6 W6
  replace E_a1 := E_a1.wr W6
  replace F_a1_value := F_a1_value.same W6
  replace F_a1_coder := F_a1_coder.other W6 (Or.inr (slot_ne (a0 := a0) (Or.inr (wd hw 33 rfl)) (Or.inr (wd hw 35 rfl)) (by decide) (t := .byte) (t' := (.array .byte)) (by decide) (by decide)))
  replace V_c := V_c.other W6 (Ne.symm ne_a1_ac)
  replace V_ob := V_ob.other W6 (Ne.symm ne_a1_ob)
  replace O := O.wr W6 g_a1
  have N6 := Fr.snoc X6 N5 g_a1
  replace K := K.wr W6 (Or.inl (List.mem_of_getElem? (i := 0) rfl))
  show Go p e below _ T6 (mkF m 57 #[.val (.ref a1), .val (.ref ac), .val (.int 0), .val (.int 3), .val .null, .val (.ref ob)] [])
  refine Go.retV X6 hx hlk hret (hb hby d_j42_m149_57) (by decide) (by decide) e6 ?_
  exact ⟨ob, kb, rfl, N6, K, F_a1_value, F_a1_coder, V_ob⟩
theorem ct_si1_3_1 (l : Launch) (Z : State) (a0 : Array Value) (hw : ∀ d ∈ tables_1, d.before a0 Z = true) (zc : Int32) (fm : Value) (G : Gl Z zc fm) (a1 : Addr) (ac : Addr) (kc : ClassId) (y0 : Int32) (y1 : Int32) (y2 : Int32) (h0 : Heap) (n0 : Nat) (O : Old Z n0 h0) (E_a1 : Exa Z h0 a1 "java/lang/String") (F_a1_value : Fld Z h0 a1 "java/lang/String" "value" "[B" .null) (F_a1_coder : Fld Z h0 a1 "java/lang/String" "coder" "B" (.int 0)) (g_a1 : n0 ≤ a1) (V_c : Arv Z h0 ac kc .char (3 : Int32) [(.int y0), (.int y1), (.int y2)] (.int 0)) (ne_a1_ac : a1 ≠ ac) (hr0 : 0 ≤ y0.toInt ∧ y0.toInt < 65536) (hr1 : 0 ≤ y1.toInt ∧ y1.toInt < 65536) (hr2 : 0 ≤ y2.toInt ∧ y2.toInt < 65536) (hv0 : ¬ (255 : Int32) < y0) (hv1 : (255 : Int32) < y1) :
    Ct l (⟨"java/lang/String", "<init>", "([C)V"⟩ : MethodName) jdk_42_method_3_code 2 none ({ frames := 5, cells := 2, slots := 9, locals := 74 } : Room) Z #[(.ref a1), (.ref ac)] h0 (fun v h L => ∃ b kb, v = none ∧ Fr n0 L ∧ Keep h0 h [a1] ∧ Fld Z h a1 "java/lang/String" "value" "[B" (.ref b) ∧ Fld Z h a1 "java/lang/String" "coder" "B" (.int 1) ∧ Arv Z h b kb .byte (6 : Int32) [(.int (nar .byte ((y0 >>> ((0 : Int32) &&& 31)).toInt8.toInt32))), (.int (nar .byte ((y0 >>> ((8 : Int32) &&& 31)).toInt8.toInt32))), (.int (nar .byte ((y1 >>> ((0 : Int32) &&& 31)).toInt8.toInt32))), (.int (nar .byte ((y1 >>> ((8 : Int32) &&& 31)).toInt8.toInt32))), (.int (nar .byte ((y2 >>> ((0 : Int32) &&& 31)).toInt8.toInt32))), (.int (nar .byte ((y2 >>> ((8 : Int32) &&& 31)).toInt8.toInt32)))] (.int 0)) := by
  refine Ct.of (plainFor_of_name pn_String_837) ?_
  intro p e s m below meth c T0 X0 hx hby hml hown hnm hret hlk hZ e0
  have N0 := Fr.nil n0
  have G' := G
  obtain ⟨S_CS, hzc, S_FM, hfm, S_AD, S_HI, S_LO⟩ := G'
  refine Go.cast (g' := mkF m 0 #[.val (.ref a1), .val (.ref ac)] []) (by first | (simp [entryFrame, mkF, argsToLocals, Value.category]; done) | rfl) ?_
  have K : Keep h0 h0 [a1] := Keep.refl _ _
  refine Go.st (g' := (mkF m 4 #[.val (.ref a1), .val (.ref ac)] [(.ref ac), (.int 0), (.ref ac), (.ref a1)])) (fun t k => ?_) ?_
  · refine XS.aloadN X0.here hx rfl (hb hby d_j42_m3_0) rfl rfl ?_
    refine XS.aloadN X0.here hx rfl (hb hby d_j42_m3_1) rfl rfl ?_
    refine XS.iconst X0.here hx rfl (hb hby d_j42_m3_2) ?_
    refine XS.aloadN X0.here hx rfl (hb hby d_j42_m3_3) rfl rfl ?_
    exact k
  refine Go.alenV X0 hx hZ e0 V_c (hb hby d_j42_m3_4) ?_
  refine Go.st (g' := (mkF m 6 #[.val (.ref a1), .val (.ref ac)] [.null, (.int 3), (.int 0), (.ref ac), (.ref a1)])) (fun t k => ?_) ?_
  · refine XS.aconstNull X0.here hx rfl (hb hby d_j42_m3_5) ?_
    exact k
  refine Go.callC X0 hx hZ (W := 0) (argsL := [(.ref ac), (.int 0), (.int 3), .null]) (rest := []) hown rfl (wd hw 13 rfl) (wd hw 14 rfl) (wd hw 8 rfl) (wd hw 16 rfl) (by decide) (ct_si4_3_1 l Z a0 hw zc fm G a1 ac kc y0 y1 y2 h0 n0 O E_a1 F_a1_value F_a1_coder g_a1 V_c ne_a1_ac hr0 hr1 hr2 hv0 hv1) e0 (by rw [hml]; rfl) (lenOf pd___CIILjava_lang_Void__V_1319 rfl) rfl rfl (hb hby d_j42_m3_6) ?_
  intro v1 T1 h1 L1 X1 e1 q1
  obtain ⟨ob1, kb1, rfl, N1, K1, Fv1, Fc1, V_ob1⟩ := q1
  replace N1 := Fr.app N0 N1
  replace E_a1 := E_a1.keep K1
  clear F_a1_value
  clear F_a1_coder
  replace V_c := V_c.keep K1 (ninS (Ne.symm ne_a1_ac) nin0)
  replace O := O.keep K1 (allS g_a1 all0)
  replace K := K.trans K1 (allS (Or.inl (List.mem_of_getElem? (i := 0) rfl)) all0)
  show Go p e below _ T1 (mkF m 9 #[.val (.ref a1), .val (.ref ac)] [])
  refine Go.retV X1 hx hlk hret (hb hby d_j42_m3_9) (by decide) (by decide) e1 ?_
  exact ⟨ob1, kb1, rfl, N1, K, Fv1, Fc1, V_ob1⟩
theorem ct_cmp5_3_2 (l : Launch) (Z : State) (a0 : Array Value) (hw : ∀ d ∈ tables_1, d.before a0 Z = true) (ac : Addr) (kc : ClassId) (ab : Addr) (kb : ClassId) (y0 : Int32) (y1 : Int32) (y2 : Int32) (h0 : Heap) (n0 : Nat) (O : Old Z n0 h0) (V_c : Arv Z h0 ac kc .char (3 : Int32) [(.int y0), (.int y1), (.int y2)] (.int 0)) (V_b : Arv Z h0 ab kb .byte (3 : Int32) [(.int 0), (.int 0), (.int 0)] (.int 0)) (g_ab : n0 ≤ ab) (ne_ac_ab : ac ≠ ab) (hv0 : ¬ (255 : Int32) < y0) (hv1 : ¬ (255 : Int32) < y1) (hv2 : (255 : Int32) < y2) :
    Ct l (⟨"java/lang/StringUTF16", "compress", "([CI[BII)I"⟩ : MethodName) jdk_52_method_21_code 7 (some .int) ({ frames := 0, cells := 0, slots := 0, locals := 0 } : Room) Z #[(.ref ac), (.int 0), (.ref ab), (.int 0), (.int 3)] h0 (fun v h L => v = some (.int 2) ∧ Fr n0 L ∧ Keep h0 h [ab] ∧ Arv Z h ab kb .byte (3 : Int32) [(.int (nar .byte (y0.toInt8.toInt32))), (.int (nar .byte (y1.toInt8.toInt32))), (.int 0)] (.int 0)) := by
  refine Ct.of (plainFor_of_name pn_StringUTF16_856) ?_
  intro p e s m below meth c T0 X0 hx hby hml hown hnm hret hlk hZ e0
  have N0 := Fr.nil n0
  refine Go.cast (g' := mkF m 0 #[.val (.ref ac), .val (.int 0), .val (.ref ab), .val (.int 0), .val (.int 3), .unset, .unset] []) (by first | (simp [entryFrame, mkF, argsToLocals, Value.category]; done) | rfl) ?_
  have K : Keep h0 h0 [ab] := Keep.refl _ _
  refine Go.st (g' := (mkF m 12 #[.val (.ref ac), .val (.int 0), .val (.ref ab), .val (.int 0), .val (.int 3), .val (.int 0), .unset] [(.int 0), (.ref ac)])) (fun t k => ?_) ?_
  · refine XS.iconst X0.here hx rfl (hb hby d_j52_m21_0) ?_
    refine XS.istore X0.here hx rfl (hb hby d_j52_m21_1) rfl (l' := #[.val (.ref ac), .val (.int 0), .val (.ref ab), .val (.int 0), .val (.int 3), .val (.int 0), .unset]) rfl ?_
    refine XS.iload X0.here hx rfl (hb hby d_j52_m21_3) rfl ?_
    refine XS.iload X0.here hx rfl (hb hby d_j52_m21_5) rfl ?_
    refine XS.icmpNo X0.here hx rfl (hb hby d_j52_m21_7) rfl (tlt (by decide : (0 : Int32) < (3 : Int32))).2.1 ?_
    refine XS.aloadN X0.here hx rfl (hb hby d_j52_m21_10) rfl rfl ?_
    refine XS.iloadN X0.here hx rfl (hb hby d_j52_m21_11) rfl ?_
    exact k
  refine Go.aloadV X0 hx hZ e0 V_c (j := (0 : Int32)) (v := (.int y0)) ⟨by decide, by decide⟩ rfl (Or.inr (Or.inr (Or.inr (Or.inl ⟨rfl, rfl⟩)))) (hb hby d_j52_m21_12) ?_
  refine Go.st (g' := (mkF m 31 #[.val (.ref ac), .val (.int 0), .val (.ref ab), .val (.int 0), .val (.int 3), .val (.int 0), .val (.int y0)] [(.int (y0.toInt8.toInt32)), (.int 0), (.ref ab)])) (fun t k => ?_) ?_
  · refine XS.istore X0.here hx rfl (hb hby d_j52_m21_13) rfl (l' := #[.val (.ref ac), .val (.int 0), .val (.ref ab), .val (.int 0), .val (.int 3), .val (.int 0), .val (.int y0)]) rfl ?_
    refine XS.iload X0.here hx rfl (hb hby d_j52_m21_15) rfl ?_
    refine XS.sipush X0.here hx rfl (hb hby d_j52_m21_17) ?_
    refine XS.icmpYes X0.here hx rfl (pc0 := 20) (pc' := 26) rfl (hb hby d_j52_m21_20) rfl (flt hv0).2.2.2 (by decide) (by decide) ?_
    refine XS.aloadN X0.here hx rfl (hb hby d_j52_m21_26) rfl rfl ?_
    refine XS.iloadN X0.here hx rfl (hb hby d_j52_m21_27) rfl ?_
    refine XS.iload X0.here hx rfl (hb hby d_j52_m21_28) rfl ?_
    refine XS.i2b X0.here hx rfl (hb hby d_j52_m21_30) rfl ?_
    exact k
  refine Go.nstV X0 hx hZ e0 V_b (j := (0 : Int32)) ⟨by decide, by decide⟩ 0 rfl (Nat.le_of_ble_eq_true rfl) (Or.inr ⟨rfl, rfl⟩) (hb hby d_j52_m21_31) ?_
  intro T1 h1 X1 e1 W1 Vn1
  replace V_c := V_c.other W1 ne_ac_ab
  replace O := O.wr W1 g_ab
  have N1 := Fr.snoc X1 N0 g_ab
  replace K := K.wr W1 (Or.inl (List.mem_of_getElem? (i := 0) rfl))
  replace V_b : Arv Z h1 ab kb .byte (3 : Int32) [(.int (nar .byte (y0.toInt8.toInt32))), (.int 0), (.int 0)] (.int 0) := Vn1
  clear Vn1
  refine Go.st (g' := (mkF m 12 #[.val (.ref ac), .val (.int 1), .val (.ref ab), .val (.int 1), .val (.int 3), .val (.int 1), .val (.int y0)] [(.int 1), (.ref ac)])) (fun t k => ?_) ?_
  · refine XS.iinc X1.here hx rfl (hb hby d_j52_m21_32) rfl (l' := #[.val (.ref ac), .val (.int 1), .val (.ref ab), .val (.int 0), .val (.int 3), .val (.int 0), .val (.int y0)]) rfl ?_
    refine XS.iinc X1.here hx rfl (hb hby d_j52_m21_35) rfl (l' := #[.val (.ref ac), .val (.int 1), .val (.ref ab), .val (.int 1), .val (.int 3), .val (.int 0), .val (.int y0)]) rfl ?_
    refine XS.iinc X1.here hx rfl (hb hby d_j52_m21_38) rfl (l' := #[.val (.ref ac), .val (.int 1), .val (.ref ab), .val (.int 1), .val (.int 3), .val (.int 1), .val (.int y0)]) rfl ?_
    refine XS.goto X1.here hx rfl (pc0 := 41) (pc' := 3) rfl (hb hby d_j52_m21_41) (by decide) (by decide) ?_
    refine XS.iload X1.here hx rfl (hb hby d_j52_m21_3) rfl ?_
    refine XS.iload X1.here hx rfl (hb hby d_j52_m21_5) rfl ?_
    refine XS.icmpNo X1.here hx rfl (hb hby d_j52_m21_7) rfl (tlt (by decide : (1 : Int32) < (3 : Int32))).2.1 ?_
    refine XS.aloadN X1.here hx rfl (hb hby d_j52_m21_10) rfl rfl ?_
    refine XS.iloadN X1.here hx rfl (hb hby d_j52_m21_11) rfl ?_
    exact k
  refine Go.aloadV X1 hx hZ e1 V_c (j := (1 : Int32)) (v := (.int y1)) ⟨by decide, by decide⟩ rfl (Or.inr (Or.inr (Or.inr (Or.inl ⟨rfl, rfl⟩)))) (hb hby d_j52_m21_12) ?_
  refine Go.st (g' := (mkF m 31 #[.val (.ref ac), .val (.int 1), .val (.ref ab), .val (.int 1), .val (.int 3), .val (.int 1), .val (.int y1)] [(.int (y1.toInt8.toInt32)), (.int 1), (.ref ab)])) (fun t k => ?_) ?_
  · refine XS.istore X1.here hx rfl (hb hby d_j52_m21_13) rfl (l' := #[.val (.ref ac), .val (.int 1), .val (.ref ab), .val (.int 1), .val (.int 3), .val (.int 1), .val (.int y1)]) rfl ?_
    refine XS.iload X1.here hx rfl (hb hby d_j52_m21_15) rfl ?_
    refine XS.sipush X1.here hx rfl (hb hby d_j52_m21_17) ?_
    refine XS.icmpYes X1.here hx rfl (pc0 := 20) (pc' := 26) rfl (hb hby d_j52_m21_20) rfl (flt hv1).2.2.2 (by decide) (by decide) ?_
    refine XS.aloadN X1.here hx rfl (hb hby d_j52_m21_26) rfl rfl ?_
    refine XS.iloadN X1.here hx rfl (hb hby d_j52_m21_27) rfl ?_
    refine XS.iload X1.here hx rfl (hb hby d_j52_m21_28) rfl ?_
    refine XS.i2b X1.here hx rfl (hb hby d_j52_m21_30) rfl ?_
    exact k
  refine Go.nstV X1 hx hZ e1 V_b (j := (1 : Int32)) ⟨by decide, by decide⟩ 1 rfl (Nat.le_of_ble_eq_true rfl) (Or.inr ⟨rfl, rfl⟩) (hb hby d_j52_m21_31) ?_
  intro T2 h2 X2 e2 W2 Vn2
  replace V_c := V_c.other W2 ne_ac_ab
  replace O := O.wr W2 g_ab
  have N2 := Fr.snoc X2 N1 g_ab
  replace K := K.wr W2 (Or.inl (List.mem_of_getElem? (i := 0) rfl))
  replace V_b : Arv Z h2 ab kb .byte (3 : Int32) [(.int (nar .byte (y0.toInt8.toInt32))), (.int (nar .byte (y1.toInt8.toInt32))), (.int 0)] (.int 0) := Vn2
  clear Vn2
  refine Go.st (g' := (mkF m 12 #[.val (.ref ac), .val (.int 2), .val (.ref ab), .val (.int 2), .val (.int 3), .val (.int 2), .val (.int y1)] [(.int 2), (.ref ac)])) (fun t k => ?_) ?_
  · refine XS.iinc X2.here hx rfl (hb hby d_j52_m21_32) rfl (l' := #[.val (.ref ac), .val (.int 2), .val (.ref ab), .val (.int 1), .val (.int 3), .val (.int 1), .val (.int y1)]) rfl ?_
    refine XS.iinc X2.here hx rfl (hb hby d_j52_m21_35) rfl (l' := #[.val (.ref ac), .val (.int 2), .val (.ref ab), .val (.int 2), .val (.int 3), .val (.int 1), .val (.int y1)]) rfl ?_
    refine XS.iinc X2.here hx rfl (hb hby d_j52_m21_38) rfl (l' := #[.val (.ref ac), .val (.int 2), .val (.ref ab), .val (.int 2), .val (.int 3), .val (.int 2), .val (.int y1)]) rfl ?_
    refine XS.goto X2.here hx rfl (pc0 := 41) (pc' := 3) rfl (hb hby d_j52_m21_41) (by decide) (by decide) ?_
    refine XS.iload X2.here hx rfl (hb hby d_j52_m21_3) rfl ?_
    refine XS.iload X2.here hx rfl (hb hby d_j52_m21_5) rfl ?_
    refine XS.icmpNo X2.here hx rfl (hb hby d_j52_m21_7) rfl (tlt (by decide : (2 : Int32) < (3 : Int32))).2.1 ?_
    refine XS.aloadN X2.here hx rfl (hb hby d_j52_m21_10) rfl rfl ?_
    refine XS.iloadN X2.here hx rfl (hb hby d_j52_m21_11) rfl ?_
    exact k
  refine Go.aloadV X2 hx hZ e2 V_c (j := (2 : Int32)) (v := (.int y2)) ⟨by decide, by decide⟩ rfl (Or.inr (Or.inr (Or.inr (Or.inl ⟨rfl, rfl⟩)))) (hb hby d_j52_m21_12) ?_
  refine Go.st (g' := (mkF m 25 #[.val (.ref ac), .val (.int 2), .val (.ref ab), .val (.int 2), .val (.int 3), .val (.int 2), .val (.int y2)] [(.int 2)])) (fun t k => ?_) ?_
  · refine XS.istore X2.here hx rfl (hb hby d_j52_m21_13) rfl (l' := #[.val (.ref ac), .val (.int 2), .val (.ref ab), .val (.int 2), .val (.int 3), .val (.int 2), .val (.int y2)]) rfl ?_
    refine XS.iload X2.here hx rfl (hb hby d_j52_m21_15) rfl ?_
    refine XS.sipush X2.here hx rfl (hb hby d_j52_m21_17) ?_
    refine XS.icmpNo X2.here hx rfl (hb hby d_j52_m21_20) rfl (tlt hv2).2.2.2 ?_
    refine XS.iload X2.here hx rfl (hb hby d_j52_m21_23) rfl ?_
    exact k
  refine Go.retI X2 hx hlk hret (hb hby d_j52_m21_25) (by decide) (by decide) e2 ?_
  exact ⟨rfl, N2, K, V_b⟩
theorem ct_cmp3_3_2 (l : Launch) (Z : State) (a0 : Array Value) (hw : ∀ d ∈ tables_1, d.before a0 Z = true) (zc : Int32) (fm : Value) (G : Gl Z zc fm) (ac : Addr) (kc : ClassId) (y0 : Int32) (y1 : Int32) (y2 : Int32) (h0 : Heap) (n0 : Nat) (O : Old Z n0 h0) (V_c : Arv Z h0 ac kc .char (3 : Int32) [(.int y0), (.int y1), (.int y2)] (.int 0)) (hr0 : 0 ≤ y0.toInt ∧ y0.toInt < 65536) (hr1 : 0 ≤ y1.toInt ∧ y1.toInt < 65536) (hr2 : 0 ≤ y2.toInt ∧ y2.toInt < 65536) (hv0 : ¬ (255 : Int32) < y0) (hv1 : ¬ (255 : Int32) < y1) (hv2 : (255 : Int32) < y2) :
    Ct l (⟨"java/lang/StringUTF16", "compress", "([CII)[B"⟩ : MethodName) jdk_52_method_16_code 6 (some (.array .byte)) ({ frames := 3, cells := 2, slots := 9, locals := 40 } : Room) Z #[(.ref ac), (.int 0), (.int 3)] h0 (fun v h L => ∃ b kb, v = some (.ref b) ∧ Fr n0 L ∧ Keep h0 h [] ∧ h0.size ≤ b ∧ Arv Z h b kb .byte (6 : Int32) [(.int (nar .byte ((y0 >>> ((0 : Int32) &&& 31)).toInt8.toInt32))), (.int (nar .byte ((y0 >>> ((8 : Int32) &&& 31)).toInt8.toInt32))), (.int (nar .byte ((y1 >>> ((0 : Int32) &&& 31)).toInt8.toInt32))), (.int (nar .byte ((y1 >>> ((8 : Int32) &&& 31)).toInt8.toInt32))), (.int (nar .byte ((y2 >>> ((0 : Int32) &&& 31)).toInt8.toInt32))), (.int (nar .byte ((y2 >>> ((8 : Int32) &&& 31)).toInt8.toInt32)))] (.int 0)) := by
  refine Ct.of (plainFor_of_name pn_StringUTF16_856) ?_
  intro p e s m below meth c T0 X0 hx hby hml hown hnm hret hlk hZ e0
  have N0 := Fr.nil n0
  have G' := G
  obtain ⟨S_CS, hzc, S_FM, hfm, S_AD, S_HI, S_LO⟩ := G'
  refine Go.cast (g' := mkF m 0 #[.val (.ref ac), .val (.int 0), .val (.int 3), .unset, .unset, .unset] []) (by first | (simp [entryFrame, mkF, argsToLocals, Value.category]; done) | rfl) ?_
  have K : Keep h0 h0 [] := Keep.refl _ _
  refine Go.st (g' := (mkF m 1 #[.val (.ref ac), .val (.int 0), .val (.int 3), .unset, .unset, .unset] [(.int 3)])) (fun t k => ?_) ?_
  · refine XS.iloadN X0.here hx rfl (hb hby d_j52_m16_0) rfl ?_
    exact k
  refine Go.newP X0 hx hZ (wd hw 25 rfl) e0 (hb hby d_j52_m16_1) (by decide) (cap := 3) (by decide) (by decide) (by decide) (by decide) ?_
  intro T1 h1 b1 k1 X1 e1 E1 g1 V_b1
  have lb1 := Nat.le_of_eq g1.symm
  have ne_ac_b1 : ac ≠ b1 := Nat.ne_of_lt (Nat.lt_of_lt_of_le V_c.lt lb1)
  have g_b1 : n0 ≤ b1 := Nat.le_trans (OwnKit.Old.le O) lb1
  have sz_b1 : h0.size ≤ b1 := Nat.le_trans K.1 lb1
  replace V_c := V_c.ext E1
  replace O := O.ext E1
  replace K := K.ext E1
  replace V_b1 := V_b1.pad (pad_rep [] (.int 0) 3)
  replace V_b1 : Arv Z h1 b1 k1 .byte (3 : Int32) [(.int 0), (.int 0), (.int 0)] (.int 0) := V_b1
  refine Go.st (g' := (mkF m 9 #[.val (.ref ac), .val (.int 0), .val (.int 3), .val (.ref b1), .unset, .unset] [(.int 3), (.int 0), (.ref b1), (.int 0), (.ref ac)])) (fun t k => ?_) ?_
  · refine XS.astoreN X1.here hx rfl (hb hby d_j52_m16_3) rfl rfl (l' := #[.val (.ref ac), .val (.int 0), .val (.int 3), .val (.ref b1), .unset, .unset]) rfl ?_
    refine XS.aloadN X1.here hx rfl (hb hby d_j52_m16_4) rfl rfl ?_
    refine XS.iloadN X1.here hx rfl (hb hby d_j52_m16_5) rfl ?_
    refine XS.aloadN X1.here hx rfl (hb hby d_j52_m16_6) rfl rfl ?_
    refine XS.iconst X1.here hx rfl (hb hby d_j52_m16_7) ?_
    refine XS.iloadN X1.here hx rfl (hb hby d_j52_m16_8) rfl ?_
    exact k
  refine Go.callS X1 hx hZ (W := 0) (argsL := [(.ref ac), (.int 0), (.ref b1), (.int 0), (.int 3)]) (rest := []) hown (wd hw 26 rfl) (wd hw 27 rfl) (wd hw 23 rfl) (wd hw 28 rfl) (by decide) (ct_cmp5_3_2 l Z a0 hw  ac kc b1 k1 y0 y1 y2 h1 n0 O V_c V_b1 g_b1 ne_ac_b1 hv0 hv1 hv2) e1 (by rw [hml]; rfl) (lenOf pd___CI_BII_I_6624 rfl) rfl rfl (hb hby d_j52_m16_9) ?_
  intro v2 T2 h2 L2 X2 e2 q2
  obtain ⟨rfl, N2, K2, V_n2⟩ := q2
  replace N2 := Fr.app N0 N2
  replace V_c := V_c.keep K2 (ninS ne_ac_b1 nin0)
  clear V_b1
  replace O := O.keep K2 (allS g_b1 all0)
  replace K := K.trans K2 (allS (Or.inr sz_b1) all0)
  refine Go.st (g' := (mkF m 23 #[.val (.ref ac), .val (.int 0), .val (.int 3), .val (.ref b1), .val (.int 2), .unset] [(.int 3), (.int 0), (.ref ac)])) (fun t k => ?_) ?_
  · refine XS.istore X2.here hx rfl (hb hby d_j52_m16_12) rfl (l' := #[.val (.ref ac), .val (.int 0), .val (.int 3), .val (.ref b1), .val (.int 2), .unset]) rfl ?_
    refine XS.iload X2.here hx rfl (hb hby d_j52_m16_14) rfl ?_
    refine XS.iloadN X2.here hx rfl (hb hby d_j52_m16_16) rfl ?_
    refine XS.icmpNo X2.here hx rfl (hb hby d_j52_m16_17) rfl (feq (by decide : ¬ (2 : Int32) = (3 : Int32))).1 ?_
    refine XS.aloadN X2.here hx rfl (hb hby d_j52_m16_20) rfl rfl ?_
    refine XS.iloadN X2.here hx rfl (hb hby d_j52_m16_21) rfl ?_
    refine XS.iloadN X2.here hx rfl (hb hby d_j52_m16_22) rfl ?_
    exact k
  refine Go.callS X2 hx hZ (W := 0) (argsL := [(.ref ac), (.int 0), (.int 3)]) (rest := []) hown (wd hw 93 rfl) (wd hw 94 rfl) (wd hw 23 rfl) (wd hw 95 rfl) (by decide) (ct_tob_3 l Z a0 hw zc fm G ac kc y0 y1 y2 h2 n0 O V_c) e2 (by rw [hml]; rfl) (lenOf pd___CII__B_8269 rfl) rfl rfl (hb hby d_j52_m16_23) ?_
  intro v3 T3 h3 L3 X3 e3 q3
  obtain ⟨ot, kt, rfl, N3, K3, lb3, V_ot⟩ := q3
  replace N3 := Fr.app N2 N3
  have ne_ac_ot : ac ≠ ot := Nat.ne_of_lt (Nat.lt_of_lt_of_le V_c.lt lb3)
  have ne_b1_ot : b1 ≠ ot := Nat.ne_of_lt (Nat.lt_of_lt_of_le V_n2.lt lb3)
  have g_ot : n0 ≤ ot := Nat.le_trans (OwnKit.Old.le O) lb3
  have sz_ot : h0.size ≤ ot := Nat.le_trans K.1 lb3
  replace V_c := V_c.keep K3 nin0
  replace V_n2 := V_n2.keep K3 nin0
  replace O := O.keep K3 all0
  replace K := K.trans K3 all0
  refine Go.st (g' := (mkF m 32 #[.val (.ref ac), .val (.int 0), .val (.int 3), .val (.ref b1), .val (.int 2), .val (.ref ot)] [(.int 2), (.ref ot)])) (fun t k => ?_) ?_
  · refine XS.astore X3.here hx rfl (hb hby d_j52_m16_26) rfl rfl (l' := #[.val (.ref ac), .val (.int 0), .val (.int 3), .val (.ref b1), .val (.int 2), .val (.ref ot)]) rfl ?_
    refine XS.aload X3.here hx rfl (hb hby d_j52_m16_28) rfl rfl ?_
    refine XS.iload X3.here hx rfl (hb hby d_j52_m16_30) rfl ?_
    exact k
  refine Go.callS X3 hx hZ (W := 0) (argsL := [(.ref ot), (.int 2)]) (rest := []) hown (wd hw 109 rfl) (wd hw 110 rfl) (wd hw 23 rfl) (wd hw 111 rfl) (by decide) (ct_gch_3_2 l Z a0 hw zc fm G ot kt y2 (.int (nar .byte ((y0 >>> ((0 : Int32) &&& 31)).toInt8.toInt32))) (.int (nar .byte ((y0 >>> ((8 : Int32) &&& 31)).toInt8.toInt32))) (.int (nar .byte ((y1 >>> ((0 : Int32) &&& 31)).toInt8.toInt32))) (.int (nar .byte ((y1 >>> ((8 : Int32) &&& 31)).toInt8.toInt32))) h3 n0 O V_ot hr2) e3 (by rw [hml]; rfl) (lenOf pd___BI_C_7586 rfl) rfl rfl (hb hby d_j52_m16_32) ?_
  intro v4 T4 h4 L4 X4 e4 q4
  obtain ⟨rfl, N4, rfl⟩ := q4
  replace N4 := Fr.app N3 N4
  refine Go.st (g' := (mkF m 56 #[.val (.ref ac), .val (.int 0), .val (.int 3), .val (.ref b1), .val (.int 2), .val (.ref ot)] [(.ref ot)])) (fun t k => ?_) ?_
  · refine XS.sipush X4.here hx rfl (hb hby d_j52_m16_35) ?_
    refine XS.icmpYes X4.here hx rfl (pc0 := 38) (pc' := 54) rfl (hb hby d_j52_m16_38) rfl (tlt hv2).2.2.1 (by decide) (by decide) ?_
    refine XS.aload X4.here hx rfl (hb hby d_j52_m16_54) rfl rfl ?_
    exact k
  refine Go.retA X4 hx hlk hret rfl rfl (hb hby d_j52_m16_56) (by decide) (by decide) e4 ?_
  exact ⟨ot, _, rfl, N4, K, sz_ot, V_ot⟩
theorem ct_si4_3_2 (l : Launch) (Z : State) (a0 : Array Value) (hw : ∀ d ∈ tables_1, d.before a0 Z = true) (zc : Int32) (fm : Value) (G : Gl Z zc fm) (a1 : Addr) (ac : Addr) (kc : ClassId) (y0 : Int32) (y1 : Int32) (y2 : Int32) (h0 : Heap) (n0 : Nat) (O : Old Z n0 h0) (E_a1 : Exa Z h0 a1 "java/lang/String") (F_a1_value : Fld Z h0 a1 "java/lang/String" "value" "[B" .null) (F_a1_coder : Fld Z h0 a1 "java/lang/String" "coder" "B" (.int 0)) (g_a1 : n0 ≤ a1) (V_c : Arv Z h0 ac kc .char (3 : Int32) [(.int y0), (.int y1), (.int y2)] (.int 0)) (ne_a1_ac : a1 ≠ ac) (hr0 : 0 ≤ y0.toInt ∧ y0.toInt < 65536) (hr1 : 0 ≤ y1.toInt ∧ y1.toInt < 65536) (hr2 : 0 ≤ y2.toInt ∧ y2.toInt < 65536) (hv0 : ¬ (255 : Int32) < y0) (hv1 : ¬ (255 : Int32) < y1) (hv2 : (255 : Int32) < y2) :
    Ct l (⟨"java/lang/String", "<init>", "([CIILjava/lang/Void;)V"⟩ : MethodName) jdk_42_method_149_code 6 none ({ frames := 4, cells := 2, slots := 9, locals := 57 } : Room) Z #[(.ref a1), (.ref ac), (.int 0), (.int 3), .null] h0 (fun v h L => ∃ b kb, v = none ∧ Fr n0 L ∧ Keep h0 h [a1] ∧ Fld Z h a1 "java/lang/String" "value" "[B" (.ref b) ∧ Fld Z h a1 "java/lang/String" "coder" "B" (.int 1) ∧ Arv Z h b kb .byte (6 : Int32) [(.int (nar .byte ((y0 >>> ((0 : Int32) &&& 31)).toInt8.toInt32))), (.int (nar .byte ((y0 >>> ((8 : Int32) &&& 31)).toInt8.toInt32))), (.int (nar .byte ((y1 >>> ((0 : Int32) &&& 31)).toInt8.toInt32))), (.int (nar .byte ((y1 >>> ((8 : Int32) &&& 31)).toInt8.toInt32))), (.int (nar .byte ((y2 >>> ((0 : Int32) &&& 31)).toInt8.toInt32))), (.int (nar .byte ((y2 >>> ((8 : Int32) &&& 31)).toInt8.toInt32)))] (.int 0)) := by
  refine Ct.of (plainFor_of_name pn_String_837) ?_
  intro p e s m below meth c T0 X0 hx hby hml hown hnm hret hlk hZ e0
  have N0 := Fr.nil n0
  have G' := G
  obtain ⟨S_CS, hzc, S_FM, hfm, S_AD, S_HI, S_LO⟩ := G'
  refine Go.cast (g' := mkF m 0 #[.val (.ref a1), .val (.ref ac), .val (.int 0), .val (.int 3), .val .null, .unset] []) (by first | (simp [entryFrame, mkF, argsToLocals, Value.category]; done) | rfl) ?_
  have K : Keep h0 h0 [a1] := Keep.refl _ _
  refine Go.st (g' := (mkF m 1 #[.val (.ref a1), .val (.ref ac), .val (.int 0), .val (.int 3), .val .null, .unset] [(.ref a1)])) (fun t k => ?_) ?_
  · refine XS.aloadN X0.here hx rfl (hb hby d_j42_m149_0) rfl rfl ?_
    exact k
  refine Go.initO X0 hx hZ hown (wd hw 17 rfl) (wd hw 18 rfl) (wd hw 19 rfl) e0 (by rw [hml]; rfl) (hb hby d_j42_m149_1) (by decide) (W := 0) rfl (by decide) ?_
  intro T1 X1 e1
  refine Go.st (g' := (mkF m 27 #[.val (.ref a1), .val (.ref ac), .val (.int 0), .val (.int 3), .val .null, .unset] [])) (fun t k => ?_) ?_
  · refine XS.iloadN X1.here hx rfl (hb hby d_j42_m149_4) rfl ?_
    refine XS.ifYes X1.here hx rfl (pc0 := 5) (pc' := 27) rfl (hb hby d_j42_m149_5) rfl ((if0 _ _).trans (feq (by decide : ¬ (3 : Int32) = (0 : Int32))).2) (by decide) (by decide) ?_
    exact k
  refine Go.getS X1 hx hZ hown (wd hw 20 rfl) Via.refl e1 (S_CS.ext O.2) (hb hby d_j42_m149_27) ?_
  intro T2 X2 e2
  refine Go.st (g' := (mkF m 36 #[.val (.ref a1), .val (.ref ac), .val (.int 0), .val (.int 3), .val .null, .unset] [(.int 3), (.int 0), (.ref ac)])) (fun t k => ?_) ?_
  · refine XS.ifNo X2.here hx rfl (hb hby d_j42_m149_30) rfl ((if0 _ _).trans (feq hzc).1) ?_
    refine XS.aloadN X2.here hx rfl (hb hby d_j42_m149_33) rfl rfl ?_
    refine XS.iloadN X2.here hx rfl (hb hby d_j42_m149_34) rfl ?_
    refine XS.iloadN X2.here hx rfl (hb hby d_j42_m149_35) rfl ?_
    exact k
  refine Go.callS X2 hx hZ (W := 0) (argsL := [(.ref ac), (.int 0), (.int 3)]) (rest := []) hown (wd hw 21 rfl) (wd hw 22 rfl) (wd hw 23 rfl) (wd hw 24 rfl) (by decide) (ct_cmp3_3_2 l Z a0 hw zc fm G ac kc y0 y1 y2 h0 n0 O V_c hr0 hr1 hr2 hv0 hv1 hv2) e2 (by rw [hml]; rfl) (lenOf pd___CII__B_8269 rfl) rfl rfl (hb hby d_j42_m149_36) ?_
  intro v3 T3 h3 L3 X3 e3 q3
  obtain ⟨ob, kb, rfl, N3, K3, lb3, V_ob⟩ := q3
  replace N3 := Fr.app N0 N3
  have ne_a1_ob : a1 ≠ ob := Nat.ne_of_lt (Nat.lt_of_lt_of_le E_a1.lt lb3)
  have ne_ac_ob : ac ≠ ob := Nat.ne_of_lt (Nat.lt_of_lt_of_le V_c.lt lb3)
  have g_ob : n0 ≤ ob := Nat.le_trans (OwnKit.Old.le O) lb3
  have sz_ob : h0.size ≤ ob := Nat.le_trans K.1 lb3
  replace E_a1 := E_a1.keep K3
  replace F_a1_value := F_a1_value.keep K3 nin0
  replace F_a1_coder := F_a1_coder.keep K3 nin0
  replace V_c := V_c.keep K3 nin0
  replace O := O.keep K3 all0
  replace K := K.trans K3 all0
  refine Go.st (g' := (mkF m 45 #[.val (.ref a1), .val (.ref ac), .val (.int 0), .val (.int 3), .val .null, .val (.ref ob)] [(.int 3), (.ref ob), (.ref a1)])) (fun t k => ?_) ?_
  · refine XS.astore X3.here hx rfl (hb hby d_j42_m149_39) rfl rfl (l' := #[.val (.ref a1), .val (.ref ac), .val (.int 0), .val (.int 3), .val .null, .val (.ref ob)]) rfl ?_
    refine XS.aloadN X3.here hx rfl (hb hby d_j42_m149_41) rfl rfl ?_
    refine XS.aload X3.here hx rfl (hb hby d_j42_m149_42) rfl rfl ?_
    refine XS.iloadN X3.here hx rfl (hb hby d_j42_m149_44) rfl ?_
    exact k
  refine Go.callS X3 hx hZ (W := 1) (argsL := [(.ref ob), (.int 3)]) (rest := [(.ref a1)]) hown (wd hw 29 rfl) (wd hw 30 rfl) (wd hw 23 rfl) (wd hw 31 rfl) (by decide) (ct_cfa_3_6 l Z a0 hw  ob kb (.int (nar .byte ((y0 >>> ((0 : Int32) &&& 31)).toInt8.toInt32))) (.int (nar .byte ((y0 >>> ((8 : Int32) &&& 31)).toInt8.toInt32))) (.int (nar .byte ((y1 >>> ((0 : Int32) &&& 31)).toInt8.toInt32))) (.int (nar .byte ((y1 >>> ((8 : Int32) &&& 31)).toInt8.toInt32))) (.int (nar .byte ((y2 >>> ((0 : Int32) &&& 31)).toInt8.toInt32))) (.int (nar .byte ((y2 >>> ((8 : Int32) &&& 31)).toInt8.toInt32))) h3 n0 O V_ob) e3 (by rw [hml]; rfl) (lenOf pd___BI_B_7585 rfl) rfl rfl (hb hby d_j42_m149_45) ?_
  intro v4 T4 h4 L4 X4 e4 q4
  obtain ⟨rfl, N4, rfl⟩ := q4
  replace N4 := Fr.app N3 N4
  show Go p e below _ T4 (mkF m 48 #[.val (.ref a1), .val (.ref ac), .val (.int 0), .val (.int 3), .val .null, .val (.ref ob)] [(.int 1), (.ref a1)])
  refine Go.putF X4 hx hZ hown (wd hw 32 rfl) Via.refl e4 F_a1_coder E_a1 (Or.inr ⟨(wd hw 33 rfl), rfl, hnm⟩) (wd hw 7 rfl) (ty := .byte) (by decide) rfl rfl (hb hby d_j42_m149_48) ?_
  intro T5 h5 X5 e5 W5
  replace E_a1 := E_a1.wr W5
  replace F_a1_value := F_a1_value.other W5 (Or.inr (slot_ne (a0 := a0) (Or.inr (wd hw 35 rfl)) (Or.inr (wd hw 33 rfl)) (by decide) (t := (.array .byte)) (t' := .byte) (by decide) (by decide)))
  replace F_a1_coder := F_a1_coder.same W5
  replace V_c := V_c.other W5 (Ne.symm ne_a1_ac)
  replace V_ob := V_ob.other W5 (Ne.symm ne_a1_ob)
  replace O := O.wr W5 g_a1
  have N5 := Fr.snoc X5 N4 g_a1
  replace K := K.wr W5 (Or.inl (List.mem_of_getElem? (i := 0) rfl))
  refine Go.st (g' := (mkF m 54 #[.val (.ref a1), .val (.ref ac), .val (.int 0), .val (.int 3), .val .null, .val (.ref ob)] [(.ref ob), (.ref a1)])) (fun t k => ?_) ?_
  · refine XS.aloadN X5.here hx rfl (hb hby d_j42_m149_51) rfl rfl ?_
    refine XS.aload X5.here hx rfl (hb hby d_j42_m149_52) rfl rfl ?_
    exact k
  refine Go.putF X5 hx hZ hown (wd hw 34 rfl) Via.refl e5 F_a1_value E_a1 (Or.inr ⟨(wd hw 35 rfl), rfl, hnm⟩) (wd hw 7 rfl) (ty := (.array .byte)) (by decide) rfl rfl (hb hby d_j42_m149_54) ?_
  intro T6 h6 X6 e6 W6
  replace E_a1 := E_a1.wr W6
  replace F_a1_value := F_a1_value.same W6
  replace F_a1_coder := F_a1_coder.other W6 (Or.inr (slot_ne (a0 := a0) (Or.inr (wd hw 33 rfl)) (Or.inr (wd hw 35 rfl)) (by decide) (t := .byte) (t' := (.array .byte)) (by decide) (by decide)))
  replace V_c := V_c.other W6 (Ne.symm ne_a1_ac)
  replace V_ob := V_ob.other W6 (Ne.symm ne_a1_ob)
  replace O := O.wr W6 g_a1
  have N6 := Fr.snoc X6 N5 g_a1
  replace K := K.wr W6 (Or.inl (List.mem_of_getElem? (i := 0) rfl))
  show Go p e below _ T6 (mkF m 57 #[.val (.ref a1), .val (.ref ac), .val (.int 0), .val (.int 3), .val .null, .val (.ref ob)] [])
  refine Go.retV X6 hx hlk hret (hb hby d_j42_m149_57) (by decide) (by decide) e6 ?_
  exact ⟨ob, kb, rfl, N6, K, F_a1_value, F_a1_coder, V_ob⟩
theorem ct_si1_3_2 (l : Launch) (Z : State) (a0 : Array Value) (hw : ∀ d ∈ tables_1, d.before a0 Z = true) (zc : Int32) (fm : Value) (G : Gl Z zc fm) (a1 : Addr) (ac : Addr) (kc : ClassId) (y0 : Int32) (y1 : Int32) (y2 : Int32) (h0 : Heap) (n0 : Nat) (O : Old Z n0 h0) (E_a1 : Exa Z h0 a1 "java/lang/String") (F_a1_value : Fld Z h0 a1 "java/lang/String" "value" "[B" .null) (F_a1_coder : Fld Z h0 a1 "java/lang/String" "coder" "B" (.int 0)) (g_a1 : n0 ≤ a1) (V_c : Arv Z h0 ac kc .char (3 : Int32) [(.int y0), (.int y1), (.int y2)] (.int 0)) (ne_a1_ac : a1 ≠ ac) (hr0 : 0 ≤ y0.toInt ∧ y0.toInt < 65536) (hr1 : 0 ≤ y1.toInt ∧ y1.toInt < 65536) (hr2 : 0 ≤ y2.toInt ∧ y2.toInt < 65536) (hv0 : ¬ (255 : Int32) < y0) (hv1 : ¬ (255 : Int32) < y1) (hv2 : (255 : Int32) < y2) :
    Ct l (⟨"java/lang/String", "<init>", "([C)V"⟩ : MethodName) jdk_42_method_3_code 2 none ({ frames := 5, cells := 2, slots := 9, locals := 74 } : Room) Z #[(.ref a1), (.ref ac)] h0 (fun v h L => ∃ b kb, v = none ∧ Fr n0 L ∧ Keep h0 h [a1] ∧ Fld Z h a1 "java/lang/String" "value" "[B" (.ref b) ∧ Fld Z h a1 "java/lang/String" "coder" "B" (.int 1) ∧ Arv Z h b kb .byte (6 : Int32) [(.int (nar .byte ((y0 >>> ((0 : Int32) &&& 31)).toInt8.toInt32))), (.int (nar .byte ((y0 >>> ((8 : Int32) &&& 31)).toInt8.toInt32))), (.int (nar .byte ((y1 >>> ((0 : Int32) &&& 31)).toInt8.toInt32))), (.int (nar .byte ((y1 >>> ((8 : Int32) &&& 31)).toInt8.toInt32))), (.int (nar .byte ((y2 >>> ((0 : Int32) &&& 31)).toInt8.toInt32))), (.int (nar .byte ((y2 >>> ((8 : Int32) &&& 31)).toInt8.toInt32)))] (.int 0)) := by
  refine Ct.of (plainFor_of_name pn_String_837) ?_
  intro p e s m below meth c T0 X0 hx hby hml hown hnm hret hlk hZ e0
  have N0 := Fr.nil n0
  have G' := G
  obtain ⟨S_CS, hzc, S_FM, hfm, S_AD, S_HI, S_LO⟩ := G'
  refine Go.cast (g' := mkF m 0 #[.val (.ref a1), .val (.ref ac)] []) (by first | (simp [entryFrame, mkF, argsToLocals, Value.category]; done) | rfl) ?_
  have K : Keep h0 h0 [a1] := Keep.refl _ _
  refine Go.st (g' := (mkF m 4 #[.val (.ref a1), .val (.ref ac)] [(.ref ac), (.int 0), (.ref ac), (.ref a1)])) (fun t k => ?_) ?_
  · refine XS.aloadN X0.here hx rfl (hb hby d_j42_m3_0) rfl rfl ?_
    refine XS.aloadN X0.here hx rfl (hb hby d_j42_m3_1) rfl rfl ?_
    refine XS.iconst X0.here hx rfl (hb hby d_j42_m3_2) ?_
    refine XS.aloadN X0.here hx rfl (hb hby d_j42_m3_3) rfl rfl ?_
    exact k
  refine Go.alenV X0 hx hZ e0 V_c (hb hby d_j42_m3_4) ?_
  refine Go.st (g' := (mkF m 6 #[.val (.ref a1), .val (.ref ac)] [.null, (.int 3), (.int 0), (.ref ac), (.ref a1)])) (fun t k => ?_) ?_
  · refine XS.aconstNull X0.here hx rfl (hb hby d_j42_m3_5) ?_
    exact k
  refine Go.callC X0 hx hZ (W := 0) (argsL := [(.ref ac), (.int 0), (.int 3), .null]) (rest := []) hown rfl (wd hw 13 rfl) (wd hw 14 rfl) (wd hw 8 rfl) (wd hw 16 rfl) (by decide) (ct_si4_3_2 l Z a0 hw zc fm G a1 ac kc y0 y1 y2 h0 n0 O E_a1 F_a1_value F_a1_coder g_a1 V_c ne_a1_ac hr0 hr1 hr2 hv0 hv1 hv2) e0 (by rw [hml]; rfl) (lenOf pd___CIILjava_lang_Void__V_1319 rfl) rfl rfl (hb hby d_j42_m3_6) ?_
  intro v1 T1 h1 L1 X1 e1 q1
  obtain ⟨ob1, kb1, rfl, N1, K1, Fv1, Fc1, V_ob1⟩ := q1
  replace N1 := Fr.app N0 N1
  replace E_a1 := E_a1.keep K1
  clear F_a1_value
  clear F_a1_coder
  replace V_c := V_c.keep K1 (ninS (Ne.symm ne_a1_ac) nin0)
  replace O := O.keep K1 (allS g_a1 all0)
  replace K := K.trans K1 (allS (Or.inl (List.mem_of_getElem? (i := 0) rfl)) all0)
  show Go p e below _ T1 (mkF m 9 #[.val (.ref a1), .val (.ref ac)] [])
  refine Go.retV X1 hx hlk hret (hb hby d_j42_m3_9) (by decide) (by decide) e1 ?_
  exact ⟨ob1, kb1, rfl, N1, K, Fv1, Fc1, V_ob1⟩
theorem ct_cmp5_3_L (l : Launch) (Z : State) (a0 : Array Value) (hw : ∀ d ∈ tables_1, d.before a0 Z = true) (ac : Addr) (kc : ClassId) (ab : Addr) (kb : ClassId) (y0 : Int32) (y1 : Int32) (y2 : Int32) (h0 : Heap) (n0 : Nat) (O : Old Z n0 h0) (V_c : Arv Z h0 ac kc .char (3 : Int32) [(.int y0), (.int y1), (.int y2)] (.int 0)) (V_b : Arv Z h0 ab kb .byte (3 : Int32) [(.int 0), (.int 0), (.int 0)] (.int 0)) (g_ab : n0 ≤ ab) (ne_ac_ab : ac ≠ ab) (hv0 : ¬ (255 : Int32) < y0) (hv1 : ¬ (255 : Int32) < y1) (hv2 : ¬ (255 : Int32) < y2) :
    Ct l (⟨"java/lang/StringUTF16", "compress", "([CI[BII)I"⟩ : MethodName) jdk_52_method_21_code 7 (some .int) ({ frames := 0, cells := 0, slots := 0, locals := 0 } : Room) Z #[(.ref ac), (.int 0), (.ref ab), (.int 0), (.int 3)] h0 (fun v h L => v = some (.int 3) ∧ Fr n0 L ∧ Keep h0 h [ab] ∧ Arv Z h ab kb .byte (3 : Int32) [(.int (nar .byte (y0.toInt8.toInt32))), (.int (nar .byte (y1.toInt8.toInt32))), (.int (nar .byte (y2.toInt8.toInt32)))] (.int 0)) := by
  refine Ct.of (plainFor_of_name pn_StringUTF16_856) ?_
  intro p e s m below meth c T0 X0 hx hby hml hown hnm hret hlk hZ e0
  have N0 := Fr.nil n0
  refine Go.cast (g' := mkF m 0 #[.val (.ref ac), .val (.int 0), .val (.ref ab), .val (.int 0), .val (.int 3), .unset, .unset] []) (by first | (simp [entryFrame, mkF, argsToLocals, Value.category]; done) | rfl) ?_
  have K : Keep h0 h0 [ab] := Keep.refl _ _
  refine Go.st (g' := (mkF m 12 #[.val (.ref ac), .val (.int 0), .val (.ref ab), .val (.int 0), .val (.int 3), .val (.int 0), .unset] [(.int 0), (.ref ac)])) (fun t k => ?_) ?_
  · refine XS.iconst X0.here hx rfl (hb hby d_j52_m21_0) ?_
    refine XS.istore X0.here hx rfl (hb hby d_j52_m21_1) rfl (l' := #[.val (.ref ac), .val (.int 0), .val (.ref ab), .val (.int 0), .val (.int 3), .val (.int 0), .unset]) rfl ?_
    refine XS.iload X0.here hx rfl (hb hby d_j52_m21_3) rfl ?_
    refine XS.iload X0.here hx rfl (hb hby d_j52_m21_5) rfl ?_
    refine XS.icmpNo X0.here hx rfl (hb hby d_j52_m21_7) rfl (tlt (by decide : (0 : Int32) < (3 : Int32))).2.1 ?_
    refine XS.aloadN X0.here hx rfl (hb hby d_j52_m21_10) rfl rfl ?_
    refine XS.iloadN X0.here hx rfl (hb hby d_j52_m21_11) rfl ?_
    exact k
  refine Go.aloadV X0 hx hZ e0 V_c (j := (0 : Int32)) (v := (.int y0)) ⟨by decide, by decide⟩ rfl (Or.inr (Or.inr (Or.inr (Or.inl ⟨rfl, rfl⟩)))) (hb hby d_j52_m21_12) ?_
  refine Go.st (g' := (mkF m 31 #[.val (.ref ac), .val (.int 0), .val (.ref ab), .val (.int 0), .val (.int 3), .val (.int 0), .val (.int y0)] [(.int (y0.toInt8.toInt32)), (.int 0), (.ref ab)])) (fun t k => ?_) ?_
  · refine XS.istore X0.here hx rfl (hb hby d_j52_m21_13) rfl (l' := #[.val (.ref ac), .val (.int 0), .val (.ref ab), .val (.int 0), .val (.int 3), .val (.int 0), .val (.int y0)]) rfl ?_
    refine XS.iload X0.here hx rfl (hb hby d_j52_m21_15) rfl ?_
    refine XS.sipush X0.here hx rfl (hb hby d_j52_m21_17) ?_
    refine XS.icmpYes X0.here hx rfl (pc0 := 20) (pc' := 26) rfl (hb hby d_j52_m21_20) rfl (flt hv0).2.2.2 (by decide) (by decide) ?_
    refine XS.aloadN X0.here hx rfl (hb hby d_j52_m21_26) rfl rfl ?_
    refine XS.iloadN X0.here hx rfl (hb hby d_j52_m21_27) rfl ?_
    refine XS.iload X0.here hx rfl (hb hby d_j52_m21_28) rfl ?_
    refine XS.i2b X0.here hx rfl (hb hby d_j52_m21_30) rfl ?_
    exact k
  refine Go.nstV X0 hx hZ e0 V_b (j := (0 : Int32)) ⟨by decide, by decide⟩ 0 rfl (Nat.le_of_ble_eq_true rfl) (Or.inr ⟨rfl, rfl⟩) (hb hby d_j52_m21_31) ?_
  intro T1 h1 X1 e1 W1 Vn1
  replace V_c := V_c.other W1 ne_ac_ab
  replace O := O.wr W1 g_ab
  have N1 := Fr.snoc X1 N0 g_ab
  replace K := K.wr W1 (Or.inl (List.mem_of_getElem? (i := 0) rfl))
  replace V_b : Arv Z h1 ab kb .byte (3 : Int32) [(.int (nar .byte (y0.toInt8.toInt32))), (.int 0), (.int 0)] (.int 0) := Vn1
  clear Vn1
  refine Go.st (g' := (mkF m 12 #[.val (.ref ac), .val (.int 1), .val (.ref ab), .val (.int 1), .val (.int 3), .val (.int 1), .val (.int y0)] [(.int 1), (.ref ac)])) (fun t k => ?_) ?_
  · refine XS.iinc X1.here hx rfl (hb hby d_j52_m21_32) rfl (l' := #[.val (.ref ac), .val (.int 1), .val (.ref ab), .val (.int 0), .val (.int 3), .val (.int 0), .val (.int y0)]) rfl ?_
    refine XS.iinc X1.here hx rfl (hb hby d_j52_m21_35) rfl (l' := #[.val (.ref ac), .val (.int 1), .val (.ref ab), .val (.int 1), .val (.int 3), .val (.int 0), .val (.int y0)]) rfl ?_
    refine XS.iinc X1.here hx rfl (hb hby d_j52_m21_38) rfl (l' := #[.val (.ref ac), .val (.int 1), .val (.ref ab), .val (.int 1), .val (.int 3), .val (.int 1), .val (.int y0)]) rfl ?_
    refine XS.goto X1.here hx rfl (pc0 := 41) (pc' := 3) rfl (hb hby d_j52_m21_41) (by decide) (by decide) ?_
    refine XS.iload X1.here hx rfl (hb hby d_j52_m21_3) rfl ?_
    refine XS.iload X1.here hx rfl (hb hby d_j52_m21_5) rfl ?_
    refine XS.icmpNo X1.here hx rfl (hb hby d_j52_m21_7) rfl (tlt (by decide : (1 : Int32) < (3 : Int32))).2.1 ?_
    refine XS.aloadN X1.here hx rfl (hb hby d_j52_m21_10) rfl rfl ?_
    refine XS.iloadN X1.here hx rfl (hb hby d_j52_m21_11) rfl ?_
    exact k
  refine Go.aloadV X1 hx hZ e1 V_c (j := (1 : Int32)) (v := (.int y1)) ⟨by decide, by decide⟩ rfl (Or.inr (Or.inr (Or.inr (Or.inl ⟨rfl, rfl⟩)))) (hb hby d_j52_m21_12) ?_
  refine Go.st (g' := (mkF m 31 #[.val (.ref ac), .val (.int 1), .val (.ref ab), .val (.int 1), .val (.int 3), .val (.int 1), .val (.int y1)] [(.int (y1.toInt8.toInt32)), (.int 1), (.ref ab)])) (fun t k => ?_) ?_
  · refine XS.istore X1.here hx rfl (hb hby d_j52_m21_13) rfl (l' := #[.val (.ref ac), .val (.int 1), .val (.ref ab), .val (.int 1), .val (.int 3), .val (.int 1), .val (.int y1)]) rfl ?_
    refine XS.iload X1.here hx rfl (hb hby d_j52_m21_15) rfl ?_
    refine XS.sipush X1.here hx rfl (hb hby d_j52_m21_17) ?_
    refine XS.icmpYes X1.here hx rfl (pc0 := 20) (pc' := 26) rfl (hb hby d_j52_m21_20) rfl (flt hv1).2.2.2 (by decide) (by decide) ?_
    refine XS.aloadN X1.here hx rfl (hb hby d_j52_m21_26) rfl rfl ?_
    refine XS.iloadN X1.here hx rfl (hb hby d_j52_m21_27) rfl ?_
    refine XS.iload X1.here hx rfl (hb hby d_j52_m21_28) rfl ?_
    refine XS.i2b X1.here hx rfl (hb hby d_j52_m21_30) rfl ?_
    exact k
  refine Go.nstV X1 hx hZ e1 V_b (j := (1 : Int32)) ⟨by decide, by decide⟩ 1 rfl (Nat.le_of_ble_eq_true rfl) (Or.inr ⟨rfl, rfl⟩) (hb hby d_j52_m21_31) ?_
  intro T2 h2 X2 e2 W2 Vn2
  replace V_c := V_c.other W2 ne_ac_ab
  replace O := O.wr W2 g_ab
  have N2 := Fr.snoc X2 N1 g_ab
  replace K := K.wr W2 (Or.inl (List.mem_of_getElem? (i := 0) rfl))
  replace V_b : Arv Z h2 ab kb .byte (3 : Int32) [(.int (nar .byte (y0.toInt8.toInt32))), (.int (nar .byte (y1.toInt8.toInt32))), (.int 0)] (.int 0) := Vn2
  clear Vn2
  refine Go.st (g' := (mkF m 12 #[.val (.ref ac), .val (.int 2), .val (.ref ab), .val (.int 2), .val (.int 3), .val (.int 2), .val (.int y1)] [(.int 2), (.ref ac)])) (fun t k => ?_) ?_
  · refine XS.iinc X2.here hx rfl (hb hby d_j52_m21_32) rfl (l' := #[.val (.ref ac), .val (.int 2), .val (.ref ab), .val (.int 1), .val (.int 3), .val (.int 1), .val (.int y1)]) rfl ?_
    refine XS.iinc X2.here hx rfl (hb hby d_j52_m21_35) rfl (l' := #[.val (.ref ac), .val (.int 2), .val (.ref ab), .val (.int 2), .val (.int 3), .val (.int 1), .val (.int y1)]) rfl ?_
    refine XS.iinc X2.here hx rfl (hb hby d_j52_m21_38) rfl (l' := #[.val (.ref ac), .val (.int 2), .val (.ref ab), .val (.int 2), .val (.int 3), .val (.int 2), .val (.int y1)]) rfl ?_
    refine XS.goto X2.here hx rfl (pc0 := 41) (pc' := 3) rfl (hb hby d_j52_m21_41) (by decide) (by decide) ?_
    refine XS.iload X2.here hx rfl (hb hby d_j52_m21_3) rfl ?_
    refine XS.iload X2.here hx rfl (hb hby d_j52_m21_5) rfl ?_
    refine XS.icmpNo X2.here hx rfl (hb hby d_j52_m21_7) rfl (tlt (by decide : (2 : Int32) < (3 : Int32))).2.1 ?_
    refine XS.aloadN X2.here hx rfl (hb hby d_j52_m21_10) rfl rfl ?_
    refine XS.iloadN X2.here hx rfl (hb hby d_j52_m21_11) rfl ?_
    exact k
  refine Go.aloadV X2 hx hZ e2 V_c (j := (2 : Int32)) (v := (.int y2)) ⟨by decide, by decide⟩ rfl (Or.inr (Or.inr (Or.inr (Or.inl ⟨rfl, rfl⟩)))) (hb hby d_j52_m21_12) ?_
  refine Go.st (g' := (mkF m 31 #[.val (.ref ac), .val (.int 2), .val (.ref ab), .val (.int 2), .val (.int 3), .val (.int 2), .val (.int y2)] [(.int (y2.toInt8.toInt32)), (.int 2), (.ref ab)])) (fun t k => ?_) ?_
  · refine XS.istore X2.here hx rfl (hb hby d_j52_m21_13) rfl (l' := #[.val (.ref ac), .val (.int 2), .val (.ref ab), .val (.int 2), .val (.int 3), .val (.int 2), .val (.int y2)]) rfl ?_
    refine XS.iload X2.here hx rfl (hb hby d_j52_m21_15) rfl ?_
    refine XS.sipush X2.here hx rfl (hb hby d_j52_m21_17) ?_
    refine XS.icmpYes X2.here hx rfl (pc0 := 20) (pc' := 26) rfl (hb hby d_j52_m21_20) rfl (flt hv2).2.2.2 (by decide) (by decide) ?_
    refine XS.aloadN X2.here hx rfl (hb hby d_j52_m21_26) rfl rfl ?_
    refine XS.iloadN X2.here hx rfl (hb hby d_j52_m21_27) rfl ?_
    refine XS.iload X2.here hx rfl (hb hby d_j52_m21_28) rfl ?_
    refine XS.i2b X2.here hx rfl (hb hby d_j52_m21_30) rfl ?_
    exact k
  refine Go.nstV X2 hx hZ e2 V_b (j := (2 : Int32)) ⟨by decide, by decide⟩ 2 rfl (Nat.le_of_ble_eq_true rfl) (Or.inr ⟨rfl, rfl⟩) (hb hby d_j52_m21_31) ?_
  intro T3 h3 X3 e3 W3 Vn3
  replace V_c := V_c.other W3 ne_ac_ab
  replace O := O.wr W3 g_ab
  have N3 := Fr.snoc X3 N2 g_ab
  replace K := K.wr W3 (Or.inl (List.mem_of_getElem? (i := 0) rfl))
  replace V_b : Arv Z h3 ab kb .byte (3 : Int32) [(.int (nar .byte (y0.toInt8.toInt32))), (.int (nar .byte (y1.toInt8.toInt32))), (.int (nar .byte (y2.toInt8.toInt32)))] (.int 0) := Vn3
  clear Vn3
  refine Go.st (g' := (mkF m 46 #[.val (.ref ac), .val (.int 3), .val (.ref ab), .val (.int 3), .val (.int 3), .val (.int 3), .val (.int y2)] [(.int 3)])) (fun t k => ?_) ?_
  · refine XS.iinc X3.here hx rfl (hb hby d_j52_m21_32) rfl (l' := #[.val (.ref ac), .val (.int 3), .val (.ref ab), .val (.int 2), .val (.int 3), .val (.int 2), .val (.int y2)]) rfl ?_
    refine XS.iinc X3.here hx rfl (hb hby d_j52_m21_35) rfl (l' := #[.val (.ref ac), .val (.int 3), .val (.ref ab), .val (.int 3), .val (.int 3), .val (.int 2), .val (.int y2)]) rfl ?_
    refine XS.iinc X3.here hx rfl (hb hby d_j52_m21_38) rfl (l' := #[.val (.ref ac), .val (.int 3), .val (.ref ab), .val (.int 3), .val (.int 3), .val (.int 3), .val (.int y2)]) rfl ?_
    refine XS.goto X3.here hx rfl (pc0 := 41) (pc' := 3) rfl (hb hby d_j52_m21_41) (by decide) (by decide) ?_
    refine XS.iload X3.here hx rfl (hb hby d_j52_m21_3) rfl ?_
    refine XS.iload X3.here hx rfl (hb hby d_j52_m21_5) rfl ?_
    refine XS.icmpYes X3.here hx rfl (pc0 := 7) (pc' := 44) rfl (hb hby d_j52_m21_7) rfl (flt (by decide : ¬ (3 : Int32) < (3 : Int32))).2.1 (by decide) (by decide) ?_
    refine XS.iload X3.here hx rfl (hb hby d_j52_m21_44) rfl ?_
    exact k
  refine Go.retI X3 hx hlk hret (hb hby d_j52_m21_46) (by decide) (by decide) e3 ?_
  exact ⟨rfl, N3, K, V_b⟩
theorem ct_cmp3_3_L (l : Launch) (Z : State) (a0 : Array Value) (hw : ∀ d ∈ tables_1, d.before a0 Z = true) (zc : Int32) (fm : Value) (G : Gl Z zc fm) (ac : Addr) (kc : ClassId) (y0 : Int32) (y1 : Int32) (y2 : Int32) (h0 : Heap) (n0 : Nat) (O : Old Z n0 h0) (V_c : Arv Z h0 ac kc .char (3 : Int32) [(.int y0), (.int y1), (.int y2)] (.int 0)) (hr0 : 0 ≤ y0.toInt ∧ y0.toInt < 65536) (hr1 : 0 ≤ y1.toInt ∧ y1.toInt < 65536) (hr2 : 0 ≤ y2.toInt ∧ y2.toInt < 65536) (hv0 : ¬ (255 : Int32) < y0) (hv1 : ¬ (255 : Int32) < y1) (hv2 : ¬ (255 : Int32) < y2) :
    Ct l (⟨"java/lang/StringUTF16", "compress", "([CII)[B"⟩ : MethodName) jdk_52_method_16_code 6 (some (.array .byte)) ({ frames := 1, cells := 1, slots := 3, locals := 18 } : Room) Z #[(.ref ac), (.int 0), (.int 3)] h0 (fun v h L => ∃ b kb, v = some (.ref b) ∧ Fr n0 L ∧ Keep h0 h [] ∧ h0.size ≤ b ∧ Arv Z h b kb .byte (3 : Int32) [(.int (nar .byte (y0.toInt8.toInt32))), (.int (nar .byte (y1.toInt8.toInt32))), (.int (nar .byte (y2.toInt8.toInt32)))] (.int 0)) := by
  refine Ct.of (plainFor_of_name pn_StringUTF16_856) ?_
  intro p e s m below meth c T0 X0 hx hby hml hown hnm hret hlk hZ e0
  have N0 := Fr.nil n0
  have G' := G
  obtain ⟨S_CS, hzc, S_FM, hfm, S_AD, S_HI, S_LO⟩ := G'
  refine Go.cast (g' := mkF m 0 #[.val (.ref ac), .val (.int 0), .val (.int 3), .unset, .unset, .unset] []) (by first | (simp [entryFrame, mkF, argsToLocals, Value.category]; done) | rfl) ?_
  have K : Keep h0 h0 [] := Keep.refl _ _
  refine Go.st (g' := (mkF m 1 #[.val (.ref ac), .val (.int 0), .val (.int 3), .unset, .unset, .unset] [(.int 3)])) (fun t k => ?_) ?_
  · refine XS.iloadN X0.here hx rfl (hb hby d_j52_m16_0) rfl ?_
    exact k
  refine Go.newP X0 hx hZ (wd hw 25 rfl) e0 (hb hby d_j52_m16_1) (by decide) (cap := 3) (by decide) (by decide) (by decide) (by decide) ?_
  intro T1 h1 b1 k1 X1 e1 E1 g1 V_b1
  have lb1 := Nat.le_of_eq g1.symm
  have ne_ac_b1 : ac ≠ b1 := Nat.ne_of_lt (Nat.lt_of_lt_of_le V_c.lt lb1)
  have g_b1 : n0 ≤ b1 := Nat.le_trans (OwnKit.Old.le O) lb1
  have sz_b1 : h0.size ≤ b1 := Nat.le_trans K.1 lb1
  replace V_c := V_c.ext E1
  replace O := O.ext E1
  replace K := K.ext E1
  replace V_b1 := V_b1.pad (pad_rep [] (.int 0) 3)
  replace V_b1 : Arv Z h1 b1 k1 .byte (3 : Int32) [(.int 0), (.int 0), (.int 0)] (.int 0) := V_b1
  refine Go.st (g' := (mkF m 9 #[.val (.ref ac), .val (.int 0), .val (.int 3), .val (.ref b1), .unset, .unset] [(.int 3), (.int 0), (.ref b1), (.int 0), (.ref ac)])) (fun t k => ?_) ?_
  · refine XS.astoreN X1.here hx rfl (hb hby d_j52_m16_3) rfl rfl (l' := #[.val (.ref ac), .val (.int 0), .val (.int 3), .val (.ref b1), .unset, .unset]) rfl ?_
    refine XS.aloadN X1.here hx rfl (hb hby d_j52_m16_4) rfl rfl ?_
    refine XS.iloadN X1.here hx rfl (hb hby d_j52_m16_5) rfl ?_
    refine XS.aloadN X1.here hx rfl (hb hby d_j52_m16_6) rfl rfl ?_
    refine XS.iconst X1.here hx rfl (hb hby d_j52_m16_7) ?_
    refine XS.iloadN X1.here hx rfl (hb hby d_j52_m16_8) rfl ?_
    exact k
  refine Go.callS X1 hx hZ (W := 0) (argsL := [(.ref ac), (.int 0), (.ref b1), (.int 0), (.int 3)]) (rest := []) hown (wd hw 26 rfl) (wd hw 27 rfl) (wd hw 23 rfl) (wd hw 28 rfl) (by decide) (ct_cmp5_3_L l Z a0 hw  ac kc b1 k1 y0 y1 y2 h1 n0 O V_c V_b1 g_b1 ne_ac_b1 hv0 hv1 hv2) e1 (by rw [hml]; rfl) (lenOf pd___CI_BII_I_6624 rfl) rfl rfl (hb hby d_j52_m16_9) ?_
  intro v2 T2 h2 L2 X2 e2 q2
  obtain ⟨rfl, N2, K2, V_n2⟩ := q2
  replace N2 := Fr.app N0 N2
  replace V_c := V_c.keep K2 (ninS ne_ac_b1 nin0)
  clear V_b1
  replace O := O.keep K2 (allS g_b1 all0)
  replace K := K.trans K2 (allS (Or.inr sz_b1) all0)
  refine Go.st (g' := (mkF m 58 #[.val (.ref ac), .val (.int 0), .val (.int 3), .val (.ref b1), .val (.int 3), .unset] [(.ref b1)])) (fun t k => ?_) ?_
  · refine XS.istore X2.here hx rfl (hb hby d_j52_m16_12) rfl (l' := #[.val (.ref ac), .val (.int 0), .val (.int 3), .val (.ref b1), .val (.int 3), .unset]) rfl ?_
    refine XS.iload X2.here hx rfl (hb hby d_j52_m16_14) rfl ?_
    refine XS.iloadN X2.here hx rfl (hb hby d_j52_m16_16) rfl ?_
    refine XS.icmpYes X2.here hx rfl (pc0 := 17) (pc' := 57) rfl (hb hby d_j52_m16_17) rfl (teq (by decide : (3 : Int32) = (3 : Int32))).1 (by decide) (by decide) ?_
    refine XS.aloadN X2.here hx rfl (hb hby d_j52_m16_57) rfl rfl ?_
    exact k
  refine Go.retA X2 hx hlk hret rfl rfl (hb hby d_j52_m16_58) (by decide) (by decide) e2 ?_
  exact ⟨b1, _, rfl, N2, K, sz_b1, V_n2⟩
theorem ct_cfa_3_3 (l : Launch) (Z : State) (a0 : Array Value) (hw : ∀ d ∈ tables_1, d.before a0 Z = true) (ab : Addr) (kb : ClassId) (u0 : Value) (u1 : Value) (u2 : Value) (h0 : Heap) (n0 : Nat) (O : Old Z n0 h0) (V_b : Arv Z h0 ab kb .byte (3 : Int32) [u0, u1, u2] (.int 0)) :
    Ct l (⟨"java/lang/StringUTF16", "coderFromArrayLen", "([BI)B"⟩ : MethodName) jdk_52_method_15_code 2 (some .byte) ({ frames := 0, cells := 0, slots := 0, locals := 0 } : Room) Z #[(.ref ab), (.int 3)] h0 (fun v h L => v = some (.int 0) ∧ Fr n0 L ∧ h0 = h) := by
  refine Ct.of (plainFor_of_name pn_StringUTF16_856) ?_
  intro p e s m below meth c T0 X0 hx hby hml hown hnm hret hlk hZ e0
  have N0 := Fr.nil n0
  refine Go.cast (g' := mkF m 0 #[.val (.ref ab), .val (.int 3)] []) (by first | (simp [entryFrame, mkF, argsToLocals, Value.category]; done) | rfl) ?_
  refine Go.st (g' := (mkF m 2 #[.val (.ref ab), .val (.int 3)] [(.ref ab), (.int 3)])) (fun t k => ?_) ?_
  · refine XS.iloadN X0.here hx rfl (hb hby d_j52_m15_0) rfl ?_
    refine XS.aloadN X0.here hx rfl (hb hby d_j52_m15_1) rfl rfl ?_
    exact k
  refine Go.alenV X0 hx hZ e0 V_b (hb hby d_j52_m15_2) ?_
  refine Go.st (g' := (mkF m 8 #[.val (.ref ab), .val (.int 3)] [(.int 0)])) (fun t k => ?_) ?_
  · refine XS.isub X0.here hx rfl (hb hby d_j52_m15_3) rfl ?_
    refine XS.bipush X0.here hx rfl (hb hby d_j52_m15_4) ?_
    refine XS.iushr X0.here hx rfl (hb hby d_j52_m15_6) rfl ?_
    refine XS.i2b X0.here hx rfl (hb hby d_j52_m15_7) rfl ?_
    exact k
  refine Go.retS X0 hx hlk hret (by simp) rfl (hb hby d_j52_m15_8) (by decide) (by decide) e0 ?_
  exact ⟨rfl, N0, rfl⟩
theorem ct_si4_3_L (l : Launch) (Z : State) (a0 : Array Value) (hw : ∀ d ∈ tables_1, d.before a0 Z = true) (zc : Int32) (fm : Value) (G : Gl Z zc fm) (a1 : Addr) (ac : Addr) (kc : ClassId) (y0 : Int32) (y1 : Int32) (y2 : Int32) (h0 : Heap) (n0 : Nat) (O : Old Z n0 h0) (E_a1 : Exa Z h0 a1 "java/lang/String") (F_a1_value : Fld Z h0 a1 "java/lang/String" "value" "[B" .null) (F_a1_coder : Fld Z h0 a1 "java/lang/String" "coder" "B" (.int 0)) (g_a1 : n0 ≤ a1) (V_c : Arv Z h0 ac kc .char (3 : Int32) [(.int y0), (.int y1), (.int y2)] (.int 0)) (ne_a1_ac : a1 ≠ ac) (hr0 : 0 ≤ y0.toInt ∧ y0.toInt < 65536) (hr1 : 0 ≤ y1.toInt ∧ y1.toInt < 65536) (hr2 : 0 ≤ y2.toInt ∧ y2.toInt < 65536) (hv0 : ¬ (255 : Int32) < y0) (hv1 : ¬ (255 : Int32) < y1) (hv2 : ¬ (255 : Int32) < y2) :
    Ct l (⟨"java/lang/String", "<init>", "([CIILjava/lang/Void;)V"⟩ : MethodName) jdk_42_method_149_code 6 none ({ frames := 2, cells := 1, slots := 3, locals := 35 } : Room) Z #[(.ref a1), (.ref ac), (.int 0), (.int 3), .null] h0 (fun v h L => ∃ b kb, v = none ∧ Fr n0 L ∧ Keep h0 h [a1] ∧ Fld Z h a1 "java/lang/String" "value" "[B" (.ref b) ∧ Fld Z h a1 "java/lang/String" "coder" "B" (.int 0) ∧ Arv Z h b kb .byte (3 : Int32) [(.int (nar .byte (y0.toInt8.toInt32))), (.int (nar .byte (y1.toInt8.toInt32))), (.int (nar .byte (y2.toInt8.toInt32)))] (.int 0)) := by
  refine Ct.of (plainFor_of_name pn_String_837) ?_
  intro p e s m below meth c T0 X0 hx hby hml hown hnm hret hlk hZ e0
  have N0 := Fr.nil n0
  have G' := G
  obtain ⟨S_CS, hzc, S_FM, hfm, S_AD, S_HI, S_LO⟩ := G'
  refine Go.cast (g' := mkF m 0 #[.val (.ref a1), .val (.ref ac), .val (.int 0), .val (.int 3), .val .null, .unset] []) (by first | (simp [entryFrame, mkF, argsToLocals, Value.category]; done) | rfl) ?_
  have K : Keep h0 h0 [a1] := Keep.refl _ _
  refine Go.st (g' := (mkF m 1 #[.val (.ref a1), .val (.ref ac), .val (.int 0), .val (.int 3), .val .null, .unset] [(.ref a1)])) (fun t k => ?_) ?_
  · refine XS.aloadN X0.here hx rfl (hb hby d_j42_m149_0) rfl rfl ?_
    exact k
  refine Go.initO X0 hx hZ hown (wd hw 17 rfl) (wd hw 18 rfl) (wd hw 19 rfl) e0 (by rw [hml]; rfl) (hb hby d_j42_m149_1) (by decide) (W := 0) rfl (by decide) ?_
  intro T1 X1 e1
  refine Go.st (g' := (mkF m 27 #[.val (.ref a1), .val (.ref ac), .val (.int 0), .val (.int 3), .val .null, .unset] [])) (fun t k => ?_) ?_
  · refine XS.iloadN X1.here hx rfl (hb hby d_j42_m149_4) rfl ?_
    refine XS.ifYes X1.here hx rfl (pc0 := 5) (pc' := 27) rfl (hb hby d_j42_m149_5) rfl ((if0 _ _).trans (feq (by decide : ¬ (3 : Int32) = (0 : Int32))).2) (by decide) (by decide) ?_
    exact k
  refine Go.getS X1 hx hZ hown (wd hw 20 rfl) Via.refl e1 (S_CS.ext O.2) (hb hby d_j42_m149_27) ?_
  intro T2 X2 e2
  refine Go.st (g' := (mkF m 36 #[.val (.ref a1), .val (.ref ac), .val (.int 0), .val (.int 3), .val .null, .unset] [(.int 3), (.int 0), (.ref ac)])) (fun t k => ?_) ?_
  · refine XS.ifNo X2.here hx rfl (hb hby d_j42_m149_30) rfl ((if0 _ _).trans (feq hzc).1) ?_
    refine XS.aloadN X2.here hx rfl (hb hby d_j42_m149_33) rfl rfl ?_
    refine XS.iloadN X2.here hx rfl (hb hby d_j42_m149_34) rfl ?_
    refine XS.iloadN X2.here hx rfl (hb hby d_j42_m149_35) rfl ?_
    exact k
  refine Go.callS X2 hx hZ (W := 0) (argsL := [(.ref ac), (.int 0), (.int 3)]) (rest := []) hown (wd hw 21 rfl) (wd hw 22 rfl) (wd hw 23 rfl) (wd hw 24 rfl) (by decide) (ct_cmp3_3_L l Z a0 hw zc fm G ac kc y0 y1 y2 h0 n0 O V_c hr0 hr1 hr2 hv0 hv1 hv2) e2 (by rw [hml]; rfl) (lenOf pd___CII__B_8269 rfl) rfl rfl (hb hby d_j42_m149_36) ?_
  intro v3 T3 h3 L3 X3 e3 q3
  obtain ⟨ob, kb, rfl, N3, K3, lb3, V_ob⟩ := q3
  replace N3 := Fr.app N0 N3
  have ne_a1_ob : a1 ≠ ob := Nat.ne_of_lt (Nat.lt_of_lt_of_le E_a1.lt lb3)
  have ne_ac_ob : ac ≠ ob := Nat.ne_of_lt (Nat.lt_of_lt_of_le V_c.lt lb3)
  have g_ob : n0 ≤ ob := Nat.le_trans (OwnKit.Old.le O) lb3
  have sz_ob : h0.size ≤ ob := Nat.le_trans K.1 lb3
  replace E_a1 := E_a1.keep K3
  replace F_a1_value := F_a1_value.keep K3 nin0
  replace F_a1_coder := F_a1_coder.keep K3 nin0
  replace V_c := V_c.keep K3 nin0
  replace O := O.keep K3 all0
  replace K := K.trans K3 all0
  refine Go.st (g' := (mkF m 45 #[.val (.ref a1), .val (.ref ac), .val (.int 0), .val (.int 3), .val .null, .val (.ref ob)] [(.int 3), (.ref ob), (.ref a1)])) (fun t k => ?_) ?_
  · refine XS.astore X3.here hx rfl (hb hby d_j42_m149_39) rfl rfl (l' := #[.val (.ref a1), .val (.ref ac), .val (.int 0), .val (.int 3), .val .null, .val (.ref ob)]) rfl ?_
    refine XS.aloadN X3.here hx rfl (hb hby d_j42_m149_41) rfl rfl ?_
    refine XS.aload X3.here hx rfl (hb hby d_j42_m149_42) rfl rfl ?_
    refine XS.iloadN X3.here hx rfl (hb hby d_j42_m149_44) rfl ?_
    exact k
  refine Go.callS X3 hx hZ (W := 1) (argsL := [(.ref ob), (.int 3)]) (rest := [(.ref a1)]) hown (wd hw 29 rfl) (wd hw 30 rfl) (wd hw 23 rfl) (wd hw 31 rfl) (by decide) (ct_cfa_3_3 l Z a0 hw  ob kb (.int (nar .byte (y0.toInt8.toInt32))) (.int (nar .byte (y1.toInt8.toInt32))) (.int (nar .byte (y2.toInt8.toInt32))) h3 n0 O V_ob) e3 (by rw [hml]; rfl) (lenOf pd___BI_B_7585 rfl) rfl rfl (hb hby d_j42_m149_45) ?_
  intro v4 T4 h4 L4 X4 e4 q4
  obtain ⟨rfl, N4, rfl⟩ := q4
  replace N4 := Fr.app N3 N4
  show Go p e below _ T4 (mkF m 48 #[.val (.ref a1), .val (.ref ac), .val (.int 0), .val (.int 3), .val .null, .val (.ref ob)] [(.int 0), (.ref a1)])
  refine Go.putF X4 hx hZ hown (wd hw 32 rfl) Via.refl e4 F_a1_coder E_a1 (Or.inr ⟨(wd hw 33 rfl), rfl, hnm⟩) (wd hw 7 rfl) (ty := .byte) (by decide) rfl rfl (hb hby d_j42_m149_48) ?_
  intro T5 h5 X5 e5 W5
  replace E_a1 := E_a1.wr W5
  replace F_a1_value := F_a1_value.other W5 (Or.inr (slot_ne (a0 := a0) (Or.inr (wd hw 35 rfl)) (Or.inr (wd hw 33 rfl)) (by decide) (t := (.array .byte)) (t' := .byte) (by decide) (by decide)))
  replace F_a1_coder := F_a1_coder.same W5
  replace V_c := V_c.other W5 (Ne.symm ne_a1_ac)
  replace V_ob := V_ob.other W5 (Ne.symm ne_a1_ob)
  replace O := O.wr W5 g_a1
  have N5 := Fr.snoc X5 N4 g_a1
  replace K := K.wr W5 (Or.inl (List.mem_of_getElem? (i := 0) rfl))
  refine Go.st (g' := (mkF m 54 #[.val (.ref a1), .val (.ref ac), .val (.int 0), .val (.int 3), .val .null, .val (.ref ob)] [(.ref ob), (.ref a1)])) (fun t k => ?_) ?_
  · refine XS.aloadN X5.here hx rfl (hb hby d_j42_m149_51) rfl rfl ?_
    refine XS.aload X5.here hx rfl (hb hby d_j42_m149_52) rfl rfl ?_
    exact k
  refine Go.putF X5 hx hZ hown (wd hw 34 rfl) Via.refl e5 F_a1_value E_a1 (Or.inr ⟨(wd hw 35 rfl), rfl, hnm⟩) (wd hw 7 rfl) (ty := (.array .byte)) (by decide) rfl rfl (hb hby d_j42_m149_54) ?_
  intro T6 h6 X6 e6 W6
  replace E_a1 := E_a1.wr W6
  replace F_a1_value := F_a1_value.same W6
  replace F_a1_coder := F_a1_coder.other W6 (Or.inr (slot_ne (a0 := a0) (Or.inr (wd hw 33 rfl)) (Or.inr (wd hw 35 rfl)) (by decide) (t := .byte) (t' := (.array .byte)) (by decide) (by decide)))
  replace V_c := V_c.other W6 (Ne.symm ne_a1_ac)
  replace V_ob := V_ob.other W6 (Ne.symm ne_a1_ob)
  replace O := O.wr W6 g_a1
  have N6 := Fr.snoc X6 N5 g_a1
  replace K := K.wr W6 (Or.inl (List.mem_of_getElem? (i := 0) rfl))
  show Go p e below _ T6 (mkF m 57 #[.val (.ref a1), .val (.ref ac), .val (.int 0), .val (.int 3), .val .null, .val (.ref ob)] [])
  refine Go.retV X6 hx hlk hret (hb hby d_j42_m149_57) (by decide) (by decide) e6 ?_
  exact ⟨ob, kb, rfl, N6, K, F_a1_value, F_a1_coder, V_ob⟩
theorem ct_si1_3_L (l : Launch) (Z : State) (a0 : Array Value) (hw : ∀ d ∈ tables_1, d.before a0 Z = true) (zc : Int32) (fm : Value) (G : Gl Z zc fm) (a1 : Addr) (ac : Addr) (kc : ClassId) (y0 : Int32) (y1 : Int32) (y2 : Int32) (h0 : Heap) (n0 : Nat) (O : Old Z n0 h0) (E_a1 : Exa Z h0 a1 "java/lang/String") (F_a1_value : Fld Z h0 a1 "java/lang/String" "value" "[B" .null) (F_a1_coder : Fld Z h0 a1 "java/lang/String" "coder" "B" (.int 0)) (g_a1 : n0 ≤ a1) (V_c : Arv Z h0 ac kc .char (3 : Int32) [(.int y0), (.int y1), (.int y2)] (.int 0)) (ne_a1_ac : a1 ≠ ac) (hr0 : 0 ≤ y0.toInt ∧ y0.toInt < 65536) (hr1 : 0 ≤ y1.toInt ∧ y1.toInt < 65536) (hr2 : 0 ≤ y2.toInt ∧ y2.toInt < 65536) (hv0 : ¬ (255 : Int32) < y0) (hv1 : ¬ (255 : Int32) < y1) (hv2 : ¬ (255 : Int32) < y2) :
    Ct l (⟨"java/lang/String", "<init>", "([C)V"⟩ : MethodName) jdk_42_method_3_code 2 none ({ frames := 3, cells := 1, slots := 3, locals := 52 } : Room) Z #[(.ref a1), (.ref ac)] h0 (fun v h L => ∃ b kb, v = none ∧ Fr n0 L ∧ Keep h0 h [a1] ∧ Fld Z h a1 "java/lang/String" "value" "[B" (.ref b) ∧ Fld Z h a1 "java/lang/String" "coder" "B" (.int 0) ∧ Arv Z h b kb .byte (3 : Int32) [(.int (nar .byte (y0.toInt8.toInt32))), (.int (nar .byte (y1.toInt8.toInt32))), (.int (nar .byte (y2.toInt8.toInt32)))] (.int 0)) := by
  refine Ct.of (plainFor_of_name pn_String_837) ?_
  intro p e s m below meth c T0 X0 hx hby hml hown hnm hret hlk hZ e0
  have N0 := Fr.nil n0
  have G' := G
  obtain ⟨S_CS, hzc, S_FM, hfm, S_AD, S_HI, S_LO⟩ := G'
  refine Go.cast (g' := mkF m 0 #[.val (.ref a1), .val (.ref ac)] []) (by first | (simp [entryFrame, mkF, argsToLocals, Value.category]; done) | rfl) ?_
  have K : Keep h0 h0 [a1] := Keep.refl _ _
  refine Go.st (g' := (mkF m 4 #[.val (.ref a1), .val (.ref ac)] [(.ref ac), (.int 0), (.ref ac), (.ref a1)])) (fun t k => ?_) ?_
  · refine XS.aloadN X0.here hx rfl (hb hby d_j42_m3_0) rfl rfl ?_
    refine XS.aloadN X0.here hx rfl (hb hby d_j42_m3_1) rfl rfl ?_
    refine XS.iconst X0.here hx rfl (hb hby d_j42_m3_2) ?_
    refine XS.aloadN X0.here hx rfl (hb hby d_j42_m3_3) rfl rfl ?_
    exact k
  refine Go.alenV X0 hx hZ e0 V_c (hb hby d_j42_m3_4) ?_
  refine Go.st (g' := (mkF m 6 #[.val (.ref a1), .val (.ref ac)] [.null, (.int 3), (.int 0), (.ref ac), (.ref a1)])) (fun t k => ?_) ?_
  · refine XS.aconstNull X0.here hx rfl (hb hby d_j42_m3_5) ?_
    exact k
  refine Go.callC X0 hx hZ (W := 0) (argsL := [(.ref ac), (.int 0), (.int 3), .null]) (rest := []) hown rfl (wd hw 13 rfl) (wd hw 14 rfl) (wd hw 8 rfl) (wd hw 16 rfl) (by decide) (ct_si4_3_L l Z a0 hw zc fm G a1 ac kc y0 y1 y2 h0 n0 O E_a1 F_a1_value F_a1_coder g_a1 V_c ne_a1_ac hr0 hr1 hr2 hv0 hv1 hv2) e0 (by rw [hml]; rfl) (lenOf pd___CIILjava_lang_Void__V_1319 rfl) rfl rfl (hb hby d_j42_m3_6) ?_
  intro v1 T1 h1 L1 X1 e1 q1
  obtain ⟨ob1, kb1, rfl, N1, K1, Fv1, Fc1, V_ob1⟩ := q1
  replace N1 := Fr.app N0 N1
  replace E_a1 := E_a1.keep K1
  clear F_a1_value
  clear F_a1_coder
  replace V_c := V_c.keep K1 (ninS (Ne.symm ne_a1_ac) nin0)
  replace O := O.keep K1 (allS g_a1 all0)
  replace K := K.trans K1 (allS (Or.inl (List.mem_of_getElem? (i := 0) rfl)) all0)
  show Go p e below _ T1 (mkF m 9 #[.val (.ref a1), .val (.ref ac)] [])
  refine Go.retV X1 hx hlk hret (hb hby d_j42_m3_9) (by decide) (by decide) e1 ?_
  exact ⟨ob1, kb1, rfl, N1, K, Fv1, Fc1, V_ob1⟩
theorem ct_len_3_0 (l : Launch) (Z : State) (a0 : Array Value) (hw : ∀ d ∈ tables_1, d.before a0 Z = true) (zc : Int32) (fm : Value) (G : Gl Z zc fm) (a1 : Addr) (ab : Addr) (kb : ClassId) (dv : Value) (u0 : Value) (u1 : Value) (u2 : Value) (h0 : Heap) (n0 : Nat) (O : Old Z n0 h0) (E_a1 : Exa Z h0 a1 "java/lang/String") (F_v : Fld Z h0 a1 "java/lang/String" "value" "[B" (.ref ab)) (F_c : Fld Z h0 a1 "java/lang/String" "coder" "B" (.int 0)) (V_b : Arv Z h0 ab kb .byte (3 : Int32) [u0, u1, u2] dv) :
    Ct l (⟨"java/lang/String", "length", "()I"⟩ : MethodName) jdk_42_method_54_code 1 (some .int) ({ frames := 2, cells := 0, slots := 0, locals := 60 } : Room) Z #[(.ref a1)] h0 (fun v h L => v = some (.int 3) ∧ Fr n0 L ∧ h0 = h) := by
  refine Ct.of (plainFor_of_name pn_String_837) ?_
  intro p e s m below meth c T0 X0 hx hby hml hown hnm hret hlk hZ e0
  have N0 := Fr.nil n0
  have G' := G
  obtain ⟨S_CS, hzc, S_FM, hfm, S_AD, S_HI, S_LO⟩ := G'
  refine Go.cast (g' := mkF m 0 #[.val (.ref a1)] []) (by first | (simp [entryFrame, mkF, argsToLocals, Value.category]; done) | rfl) ?_
  refine Go.st (g' := (mkF m 1 #[.val (.ref a1)] [(.ref a1)])) (fun t k => ?_) ?_
  · refine XS.aloadN X0.here hx rfl (hb hby d_j42_m54_0) rfl rfl ?_
    exact k
  refine Go.getF X0 hx hZ hown (wd hw 34 rfl) Via.refl e0 F_v (hb hby d_j42_m54_1) ?_
  intro T1 X1 e1
  show Go p e below _ T1 (mkF m 4 #[.val (.ref a1)] [(.ref ab)])
  refine Go.alenV X1 hx hZ e1 V_b (hb hby d_j42_m54_4) ?_
  refine Go.st (g' := (mkF m 6 #[.val (.ref a1)] [(.ref a1), (.int 3)])) (fun t k => ?_) ?_
  · refine XS.aloadN X1.here hx rfl (hb hby d_j42_m54_5) rfl rfl ?_
    exact k
  refine Go.callV X1 hx hZ (W := 1) (argsL := []) (rest := [(.int 3)]) hown (wd hw 48 rfl) (wd hw 49 rfl) (notFace_of_selects (args := #[]) (mvT hZ (wd hw 51 rfl))) (wd hw 51 rfl) (wd hw 50 rfl) (wd hw 8 rfl) (wd hw 52 rfl) (by decide) E_a1 (ct_coder_0 l Z a0 hw zc fm G a1 h0 n0 O F_c) e1 (by rw [hml]; rfl) (lenOf pd___B_8314 rfl) rfl rfl (hb hby d_j42_m54_6) ?_
  intro v2 T2 h2 L2 X2 e2 q2
  obtain ⟨rfl, N2, rfl⟩ := q2
  replace N2 := Fr.app N0 N2
  refine Go.st (g' := (mkF m 10 #[.val (.ref a1)] [(.int 3)])) (fun t k => ?_) ?_
  · refine XS.ishr X2.here hx rfl (hb hby d_j42_m54_9) rfl ?_
    exact k
  refine Go.retI X2 hx hlk hret (hb hby d_j42_m54_10) (by decide) (by decide) e2 ?_
  exact ⟨rfl, N2, rfl⟩
theorem ct_lch_3_0 (l : Launch) (Z : State) (a0 : Array Value) (hw : ∀ d ∈ tables_1, d.before a0 Z = true) (zc : Int32) (fm : Value) (G : Gl Z zc fm) (ab : Addr) (kb : ClassId) (y0 : Int32) (u1 : Value) (u2 : Value) (h0 : Heap) (n0 : Nat) (O : Old Z n0 h0) (V_b : Arv Z h0 ab kb .byte (3 : Int32) [(.int (nar .byte (y0.toInt8.toInt32))), u1, u2] (.int 0)) (hr0 : 0 ≤ y0.toInt ∧ y0.toInt < 65536) (hv0 : ¬ (255 : Int32) < y0) :
    Ct l (⟨"java/lang/StringLatin1", "charAt", "([BI)C"⟩ : MethodName) jdk_43_method_2_code 2 (some .char) ({ frames := 2, cells := 0, slots := 0, locals := 27 } : Room) Z #[(.ref ab), (.int 0)] h0 (fun v h L => v = some (.int y0) ∧ Fr n0 L ∧ h0 = h) := by
  refine Ct.of (plainFor_of_name pn_StringLatin1_654) ?_
  intro p e s m below meth c T0 X0 hx hby hml hown hnm hret hlk hZ e0
  have N0 := Fr.nil n0
  have G' := G
  obtain ⟨S_CS, hzc, S_FM, hfm, S_AD, S_HI, S_LO⟩ := G'
  refine Go.cast (g' := mkF m 0 #[.val (.ref ab), .val (.int 0)] []) (by first | (simp [entryFrame, mkF, argsToLocals, Value.category]; done) | rfl) ?_
  refine Go.st (g' := (mkF m 2 #[.val (.ref ab), .val (.int 0)] [(.ref ab), (.int 0)])) (fun t k => ?_) ?_
  · refine XS.iloadN X0.here hx rfl (hb hby d_j43_m2_0) rfl ?_
    refine XS.aloadN X0.here hx rfl (hb hby d_j43_m2_1) rfl rfl ?_
    exact k
  refine Go.alenV X0 hx hZ e0 V_b (hb hby d_j43_m2_2) ?_
  show Go p e below _ T0 (mkF m 3 #[.val (.ref ab), .val (.int 0)] [(.int 3), (.int 0)])
  refine Go.callS X0 hx hZ (W := 0) (argsL := [(.int 0), (.int 3)]) (rest := []) hown (wd hw 67 rfl) (wd hw 68 rfl) (wd hw 8 rfl) (wd hw 69 rfl) (by decide) (ct_sci_3_0 l Z a0 hw zc fm G  h0 n0 O ) e0 (by rw [hml]; rfl) (lenOf pd__II_V_433 rfl) rfl rfl (hb hby d_j43_m2_3) ?_
  intro v1 T1 h1 L1 X1 e1 q1
  obtain ⟨rfl, N1, rfl⟩ := q1
  replace N1 := Fr.app N0 N1
  refine Go.st (g' := (mkF m 8 #[.val (.ref ab), .val (.int 0)] [(.int 0), (.ref ab)])) (fun t k => ?_) ?_
  · refine XS.aloadN X1.here hx rfl (hb hby d_j43_m2_6) rfl rfl ?_
    refine XS.iloadN X1.here hx rfl (hb hby d_j43_m2_7) rfl ?_
    exact k
  refine Go.aloadV X1 hx hZ e1 V_b (j := (0 : Int32)) (v := (.int (nar .byte (y0.toInt8.toInt32)))) ⟨by decide, by decide⟩ rfl (Or.inr (Or.inr (Or.inr (Or.inr (Or.inr ⟨rfl, rfl⟩))))) (hb hby d_j43_m2_8) ?_
  refine Go.st (g' := (mkF m 14 #[.val (.ref ab), .val (.int 0)] [(.int (((nar .byte (y0.toInt8.toInt32)) &&& (255 : Int32)).toUInt32.toUInt16.toUInt32.toInt32))])) (fun t k => ?_) ?_
  · refine XS.sipush X1.here hx rfl (hb hby d_j43_m2_9) ?_
    refine XS.iand X1.here hx rfl (hb hby d_j43_m2_12) rfl ?_
    refine XS.i2c X1.here hx rfl (hb hby d_j43_m2_13) rfl ?_
    exact k
  refine Go.retS X1 hx hlk hret (by simp) (own_nc _) (hb hby d_j43_m2_14) (by decide) (by decide) e1 ?_
  exact ⟨by rw [own_lc hr0 hv0], N1, rfl⟩
theorem ct_ch_3_0_0 (l : Launch) (Z : State) (a0 : Array Value) (hw : ∀ d ∈ tables_1, d.before a0 Z = true) (zc : Int32) (fm : Value) (G : Gl Z zc fm) (a1 : Addr) (ab : Addr) (kb : ClassId) (y0 : Int32) (u1 : Value) (u2 : Value) (h0 : Heap) (n0 : Nat) (O : Old Z n0 h0) (E_a1 : Exa Z h0 a1 "java/lang/String") (F_v : Fld Z h0 a1 "java/lang/String" "value" "[B" (.ref ab)) (F_c : Fld Z h0 a1 "java/lang/String" "coder" "B" (.int 0)) (V_b : Arv Z h0 ab kb .byte (3 : Int32) [(.int (nar .byte (y0.toInt8.toInt32))), u1, u2] (.int 0)) (hr0 : 0 ≤ y0.toInt ∧ y0.toInt < 65536) (hv0 : ¬ (255 : Int32) < y0) :
    Ct l (⟨"java/lang/String", "charAt", "(I)C"⟩ : MethodName) jdk_42_method_56_code 2 (some .char) ({ frames := 4, cells := 0, slots := 0, locals := 110 } : Room) Z #[(.ref a1), (.int 0)] h0 (fun v h L => v = some (.int y0) ∧ Fr n0 L ∧ h0 = h) := by
  refine Ct.of (plainFor_of_name pn_String_837) ?_
  intro p e s m below meth c T0 X0 hx hby hml hown hnm hret hlk hZ e0
  have N0 := Fr.nil n0
  have G' := G
  obtain ⟨S_CS, hzc, S_FM, hfm, S_AD, S_HI, S_LO⟩ := G'
  refine Go.cast (g' := mkF m 0 #[.val (.ref a1), .val (.int 0)] []) (by first | (simp [entryFrame, mkF, argsToLocals, Value.category]; done) | rfl) ?_
  refine Go.st (g' := (mkF m 1 #[.val (.ref a1), .val (.int 0)] [(.ref a1)])) (fun t k => ?_) ?_
  · refine XS.aloadN X0.here hx rfl (hb hby d_j42_m56_0) rfl rfl ?_
    exact k
  refine Go.callV X0 hx hZ (W := 0) (argsL := []) (rest := []) hown (wd hw 58 rfl) (wd hw 59 rfl) (notFace_of_selects (args := #[]) (mvT hZ (wd hw 61 rfl))) (wd hw 61 rfl) (wd hw 60 rfl) (wd hw 8 rfl) (wd hw 62 rfl) (by decide) E_a1 (ct_isL_0 l Z a0 hw zc fm G a1 h0 n0 O F_c) e0 (by rw [hml]; rfl) (lenOf pd___Z_8338 rfl) rfl rfl (hb hby d_j42_m56_1) ?_
  intro v1 T1 h1 L1 X1 e1 q1
  obtain ⟨rfl, N1, rfl⟩ := q1
  replace N1 := Fr.app N0 N1
  refine Go.st (g' := (mkF m 8 #[.val (.ref a1), .val (.int 0)] [(.ref a1)])) (fun t k => ?_) ?_
  · refine XS.ifNo X1.here hx rfl (hb hby d_j42_m56_4) rfl ((if0 _ _).trans (feq (by decide : ¬ (1 : Int32) = (0 : Int32))).1) ?_
    refine XS.aloadN X1.here hx rfl (hb hby d_j42_m56_7) rfl rfl ?_
    exact k
  refine Go.getF X1 hx hZ hown (wd hw 34 rfl) Via.refl e1 F_v (hb hby d_j42_m56_8) ?_
  intro T2 X2 e2
  refine Go.st (g' := (mkF m 12 #[.val (.ref a1), .val (.int 0)] [(.int 0), (.ref ab)])) (fun t k => ?_) ?_
  · refine XS.iloadN X2.here hx rfl (hb hby d_j42_m56_11) rfl ?_
    exact k
  refine Go.callS X2 hx hZ (W := 0) (argsL := [(.ref ab), (.int 0)]) (rest := []) hown (wd hw 63 rfl) (wd hw 64 rfl) (wd hw 65 rfl) (wd hw 66 rfl) (by decide) (ct_lch_3_0 l Z a0 hw zc fm G ab kb y0 u1 u2 h0 n0 O V_b hr0 hv0) e2 (by rw [hml]; rfl) (lenOf pd___BI_C_7586 rfl) rfl rfl (hb hby d_j42_m56_12) ?_
  intro v3 T3 h3 L3 X3 e3 q3
  obtain ⟨rfl, N3, rfl⟩ := q3
  replace N3 := Fr.app N1 N3
  show Go p e below _ T3 (mkF m 15 #[.val (.ref a1), .val (.int 0)] [(.int y0)])
  refine Go.retS X3 hx hlk hret (by simp) (own_nr hr0) (hb hby d_j42_m56_15) (by decide) (by decide) e3 ?_
  exact ⟨rfl, N3, rfl⟩
theorem ct_lch_3_1 (l : Launch) (Z : State) (a0 : Array Value) (hw : ∀ d ∈ tables_1, d.before a0 Z = true) (zc : Int32) (fm : Value) (G : Gl Z zc fm) (ab : Addr) (kb : ClassId) (y0 : Int32) (u0 : Value) (u2 : Value) (h0 : Heap) (n0 : Nat) (O : Old Z n0 h0) (V_b : Arv Z h0 ab kb .byte (3 : Int32) [u0, (.int (nar .byte (y0.toInt8.toInt32))), u2] (.int 0)) (hr0 : 0 ≤ y0.toInt ∧ y0.toInt < 65536) (hv0 : ¬ (255 : Int32) < y0) :
    Ct l (⟨"java/lang/StringLatin1", "charAt", "([BI)C"⟩ : MethodName) jdk_43_method_2_code 2 (some .char) ({ frames := 2, cells := 0, slots := 0, locals := 27 } : Room) Z #[(.ref ab), (.int 1)] h0 (fun v h L => v = some (.int y0) ∧ Fr n0 L ∧ h0 = h) := by
  refine Ct.of (plainFor_of_name pn_StringLatin1_654) ?_
  intro p e s m below meth c T0 X0 hx hby hml hown hnm hret hlk hZ e0
  have N0 := Fr.nil n0
  have G' := G
  obtain ⟨S_CS, hzc, S_FM, hfm, S_AD, S_HI, S_LO⟩ := G'
  refine Go.cast (g' := mkF m 0 #[.val (.ref ab), .val (.int 1)] []) (by first | (simp [entryFrame, mkF, argsToLocals, Value.category]; done) | rfl) ?_
  refine Go.st (g' := (mkF m 2 #[.val (.ref ab), .val (.int 1)] [(.ref ab), (.int 1)])) (fun t k => ?_) ?_
  · refine XS.iloadN X0.here hx rfl (hb hby d_j43_m2_0) rfl ?_
    refine XS.aloadN X0.here hx rfl (hb hby d_j43_m2_1) rfl rfl ?_
    exact k
  refine Go.alenV X0 hx hZ e0 V_b (hb hby d_j43_m2_2) ?_
  show Go p e below _ T0 (mkF m 3 #[.val (.ref ab), .val (.int 1)] [(.int 3), (.int 1)])
  refine Go.callS X0 hx hZ (W := 0) (argsL := [(.int 1), (.int 3)]) (rest := []) hown (wd hw 67 rfl) (wd hw 68 rfl) (wd hw 8 rfl) (wd hw 69 rfl) (by decide) (ct_sci_3_1 l Z a0 hw zc fm G  h0 n0 O ) e0 (by rw [hml]; rfl) (lenOf pd__II_V_433 rfl) rfl rfl (hb hby d_j43_m2_3) ?_
  intro v1 T1 h1 L1 X1 e1 q1
  obtain ⟨rfl, N1, rfl⟩ := q1
  replace N1 := Fr.app N0 N1
  refine Go.st (g' := (mkF m 8 #[.val (.ref ab), .val (.int 1)] [(.int 1), (.ref ab)])) (fun t k => ?_) ?_
  · refine XS.aloadN X1.here hx rfl (hb hby d_j43_m2_6) rfl rfl ?_
    refine XS.iloadN X1.here hx rfl (hb hby d_j43_m2_7) rfl ?_
    exact k
  refine Go.aloadV X1 hx hZ e1 V_b (j := (1 : Int32)) (v := (.int (nar .byte (y0.toInt8.toInt32)))) ⟨by decide, by decide⟩ rfl (Or.inr (Or.inr (Or.inr (Or.inr (Or.inr ⟨rfl, rfl⟩))))) (hb hby d_j43_m2_8) ?_
  refine Go.st (g' := (mkF m 14 #[.val (.ref ab), .val (.int 1)] [(.int (((nar .byte (y0.toInt8.toInt32)) &&& (255 : Int32)).toUInt32.toUInt16.toUInt32.toInt32))])) (fun t k => ?_) ?_
  · refine XS.sipush X1.here hx rfl (hb hby d_j43_m2_9) ?_
    refine XS.iand X1.here hx rfl (hb hby d_j43_m2_12) rfl ?_
    refine XS.i2c X1.here hx rfl (hb hby d_j43_m2_13) rfl ?_
    exact k
  refine Go.retS X1 hx hlk hret (by simp) (own_nc _) (hb hby d_j43_m2_14) (by decide) (by decide) e1 ?_
  exact ⟨by rw [own_lc hr0 hv0], N1, rfl⟩
theorem ct_ch_3_1_0 (l : Launch) (Z : State) (a0 : Array Value) (hw : ∀ d ∈ tables_1, d.before a0 Z = true) (zc : Int32) (fm : Value) (G : Gl Z zc fm) (a1 : Addr) (ab : Addr) (kb : ClassId) (y0 : Int32) (u0 : Value) (u2 : Value) (h0 : Heap) (n0 : Nat) (O : Old Z n0 h0) (E_a1 : Exa Z h0 a1 "java/lang/String") (F_v : Fld Z h0 a1 "java/lang/String" "value" "[B" (.ref ab)) (F_c : Fld Z h0 a1 "java/lang/String" "coder" "B" (.int 0)) (V_b : Arv Z h0 ab kb .byte (3 : Int32) [u0, (.int (nar .byte (y0.toInt8.toInt32))), u2] (.int 0)) (hr0 : 0 ≤ y0.toInt ∧ y0.toInt < 65536) (hv0 : ¬ (255 : Int32) < y0) :
    Ct l (⟨"java/lang/String", "charAt", "(I)C"⟩ : MethodName) jdk_42_method_56_code 2 (some .char) ({ frames := 4, cells := 0, slots := 0, locals := 110 } : Room) Z #[(.ref a1), (.int 1)] h0 (fun v h L => v = some (.int y0) ∧ Fr n0 L ∧ h0 = h) := by
  refine Ct.of (plainFor_of_name pn_String_837) ?_
  intro p e s m below meth c T0 X0 hx hby hml hown hnm hret hlk hZ e0
  have N0 := Fr.nil n0
  have G' := G
  obtain ⟨S_CS, hzc, S_FM, hfm, S_AD, S_HI, S_LO⟩ := G'
  refine Go.cast (g' := mkF m 0 #[.val (.ref a1), .val (.int 1)] []) (by first | (simp [entryFrame, mkF, argsToLocals, Value.category]; done) | rfl) ?_
  refine Go.st (g' := (mkF m 1 #[.val (.ref a1), .val (.int 1)] [(.ref a1)])) (fun t k => ?_) ?_
  · refine XS.aloadN X0.here hx rfl (hb hby d_j42_m56_0) rfl rfl ?_
    exact k
  refine Go.callV X0 hx hZ (W := 0) (argsL := []) (rest := []) hown (wd hw 58 rfl) (wd hw 59 rfl) (notFace_of_selects (args := #[]) (mvT hZ (wd hw 61 rfl))) (wd hw 61 rfl) (wd hw 60 rfl) (wd hw 8 rfl) (wd hw 62 rfl) (by decide) E_a1 (ct_isL_0 l Z a0 hw zc fm G a1 h0 n0 O F_c) e0 (by rw [hml]; rfl) (lenOf pd___Z_8338 rfl) rfl rfl (hb hby d_j42_m56_1) ?_
  intro v1 T1 h1 L1 X1 e1 q1
  obtain ⟨rfl, N1, rfl⟩ := q1
  replace N1 := Fr.app N0 N1
  refine Go.st (g' := (mkF m 8 #[.val (.ref a1), .val (.int 1)] [(.ref a1)])) (fun t k => ?_) ?_
  · refine XS.ifNo X1.here hx rfl (hb hby d_j42_m56_4) rfl ((if0 _ _).trans (feq (by decide : ¬ (1 : Int32) = (0 : Int32))).1) ?_
    refine XS.aloadN X1.here hx rfl (hb hby d_j42_m56_7) rfl rfl ?_
    exact k
  refine Go.getF X1 hx hZ hown (wd hw 34 rfl) Via.refl e1 F_v (hb hby d_j42_m56_8) ?_
  intro T2 X2 e2
  refine Go.st (g' := (mkF m 12 #[.val (.ref a1), .val (.int 1)] [(.int 1), (.ref ab)])) (fun t k => ?_) ?_
  · refine XS.iloadN X2.here hx rfl (hb hby d_j42_m56_11) rfl ?_
    exact k
  refine Go.callS X2 hx hZ (W := 0) (argsL := [(.ref ab), (.int 1)]) (rest := []) hown (wd hw 63 rfl) (wd hw 64 rfl) (wd hw 65 rfl) (wd hw 66 rfl) (by decide) (ct_lch_3_1 l Z a0 hw zc fm G ab kb y0 u0 u2 h0 n0 O V_b hr0 hv0) e2 (by rw [hml]; rfl) (lenOf pd___BI_C_7586 rfl) rfl rfl (hb hby d_j42_m56_12) ?_
  intro v3 T3 h3 L3 X3 e3 q3
  obtain ⟨rfl, N3, rfl⟩ := q3
  replace N3 := Fr.app N1 N3
  show Go p e below _ T3 (mkF m 15 #[.val (.ref a1), .val (.int 1)] [(.int y0)])
  refine Go.retS X3 hx hlk hret (by simp) (own_nr hr0) (hb hby d_j42_m56_15) (by decide) (by decide) e3 ?_
  exact ⟨rfl, N3, rfl⟩
theorem ct_lch_3_2 (l : Launch) (Z : State) (a0 : Array Value) (hw : ∀ d ∈ tables_1, d.before a0 Z = true) (zc : Int32) (fm : Value) (G : Gl Z zc fm) (ab : Addr) (kb : ClassId) (y0 : Int32) (u0 : Value) (u1 : Value) (h0 : Heap) (n0 : Nat) (O : Old Z n0 h0) (V_b : Arv Z h0 ab kb .byte (3 : Int32) [u0, u1, (.int (nar .byte (y0.toInt8.toInt32)))] (.int 0)) (hr0 : 0 ≤ y0.toInt ∧ y0.toInt < 65536) (hv0 : ¬ (255 : Int32) < y0) :
    Ct l (⟨"java/lang/StringLatin1", "charAt", "([BI)C"⟩ : MethodName) jdk_43_method_2_code 2 (some .char) ({ frames := 2, cells := 0, slots := 0, locals := 27 } : Room) Z #[(.ref ab), (.int 2)] h0 (fun v h L => v = some (.int y0) ∧ Fr n0 L ∧ h0 = h) := by
  refine Ct.of (plainFor_of_name pn_StringLatin1_654) ?_
  intro p e s m below meth c T0 X0 hx hby hml hown hnm hret hlk hZ e0
  have N0 := Fr.nil n0
  have G' := G
  obtain ⟨S_CS, hzc, S_FM, hfm, S_AD, S_HI, S_LO⟩ := G'
  refine Go.cast (g' := mkF m 0 #[.val (.ref ab), .val (.int 2)] []) (by first | (simp [entryFrame, mkF, argsToLocals, Value.category]; done) | rfl) ?_
  refine Go.st (g' := (mkF m 2 #[.val (.ref ab), .val (.int 2)] [(.ref ab), (.int 2)])) (fun t k => ?_) ?_
  · refine XS.iloadN X0.here hx rfl (hb hby d_j43_m2_0) rfl ?_
    refine XS.aloadN X0.here hx rfl (hb hby d_j43_m2_1) rfl rfl ?_
    exact k
  refine Go.alenV X0 hx hZ e0 V_b (hb hby d_j43_m2_2) ?_
  show Go p e below _ T0 (mkF m 3 #[.val (.ref ab), .val (.int 2)] [(.int 3), (.int 2)])
  refine Go.callS X0 hx hZ (W := 0) (argsL := [(.int 2), (.int 3)]) (rest := []) hown (wd hw 67 rfl) (wd hw 68 rfl) (wd hw 8 rfl) (wd hw 69 rfl) (by decide) (ct_sci_3_2 l Z a0 hw zc fm G  h0 n0 O ) e0 (by rw [hml]; rfl) (lenOf pd__II_V_433 rfl) rfl rfl (hb hby d_j43_m2_3) ?_
  intro v1 T1 h1 L1 X1 e1 q1
  obtain ⟨rfl, N1, rfl⟩ := q1
  replace N1 := Fr.app N0 N1
  refine Go.st (g' := (mkF m 8 #[.val (.ref ab), .val (.int 2)] [(.int 2), (.ref ab)])) (fun t k => ?_) ?_
  · refine XS.aloadN X1.here hx rfl (hb hby d_j43_m2_6) rfl rfl ?_
    refine XS.iloadN X1.here hx rfl (hb hby d_j43_m2_7) rfl ?_
    exact k
  refine Go.aloadV X1 hx hZ e1 V_b (j := (2 : Int32)) (v := (.int (nar .byte (y0.toInt8.toInt32)))) ⟨by decide, by decide⟩ rfl (Or.inr (Or.inr (Or.inr (Or.inr (Or.inr ⟨rfl, rfl⟩))))) (hb hby d_j43_m2_8) ?_
  refine Go.st (g' := (mkF m 14 #[.val (.ref ab), .val (.int 2)] [(.int (((nar .byte (y0.toInt8.toInt32)) &&& (255 : Int32)).toUInt32.toUInt16.toUInt32.toInt32))])) (fun t k => ?_) ?_
  · refine XS.sipush X1.here hx rfl (hb hby d_j43_m2_9) ?_
    refine XS.iand X1.here hx rfl (hb hby d_j43_m2_12) rfl ?_
    refine XS.i2c X1.here hx rfl (hb hby d_j43_m2_13) rfl ?_
    exact k
  refine Go.retS X1 hx hlk hret (by simp) (own_nc _) (hb hby d_j43_m2_14) (by decide) (by decide) e1 ?_
  exact ⟨by rw [own_lc hr0 hv0], N1, rfl⟩
theorem ct_ch_3_2_0 (l : Launch) (Z : State) (a0 : Array Value) (hw : ∀ d ∈ tables_1, d.before a0 Z = true) (zc : Int32) (fm : Value) (G : Gl Z zc fm) (a1 : Addr) (ab : Addr) (kb : ClassId) (y0 : Int32) (u0 : Value) (u1 : Value) (h0 : Heap) (n0 : Nat) (O : Old Z n0 h0) (E_a1 : Exa Z h0 a1 "java/lang/String") (F_v : Fld Z h0 a1 "java/lang/String" "value" "[B" (.ref ab)) (F_c : Fld Z h0 a1 "java/lang/String" "coder" "B" (.int 0)) (V_b : Arv Z h0 ab kb .byte (3 : Int32) [u0, u1, (.int (nar .byte (y0.toInt8.toInt32)))] (.int 0)) (hr0 : 0 ≤ y0.toInt ∧ y0.toInt < 65536) (hv0 : ¬ (255 : Int32) < y0) :
    Ct l (⟨"java/lang/String", "charAt", "(I)C"⟩ : MethodName) jdk_42_method_56_code 2 (some .char) ({ frames := 4, cells := 0, slots := 0, locals := 110 } : Room) Z #[(.ref a1), (.int 2)] h0 (fun v h L => v = some (.int y0) ∧ Fr n0 L ∧ h0 = h) := by
  refine Ct.of (plainFor_of_name pn_String_837) ?_
  intro p e s m below meth c T0 X0 hx hby hml hown hnm hret hlk hZ e0
  have N0 := Fr.nil n0
  have G' := G
  obtain ⟨S_CS, hzc, S_FM, hfm, S_AD, S_HI, S_LO⟩ := G'
  refine Go.cast (g' := mkF m 0 #[.val (.ref a1), .val (.int 2)] []) (by first | (simp [entryFrame, mkF, argsToLocals, Value.category]; done) | rfl) ?_
  refine Go.st (g' := (mkF m 1 #[.val (.ref a1), .val (.int 2)] [(.ref a1)])) (fun t k => ?_) ?_
  · refine XS.aloadN X0.here hx rfl (hb hby d_j42_m56_0) rfl rfl ?_
    exact k
  refine Go.callV X0 hx hZ (W := 0) (argsL := []) (rest := []) hown (wd hw 58 rfl) (wd hw 59 rfl) (notFace_of_selects (args := #[]) (mvT hZ (wd hw 61 rfl))) (wd hw 61 rfl) (wd hw 60 rfl) (wd hw 8 rfl) (wd hw 62 rfl) (by decide) E_a1 (ct_isL_0 l Z a0 hw zc fm G a1 h0 n0 O F_c) e0 (by rw [hml]; rfl) (lenOf pd___Z_8338 rfl) rfl rfl (hb hby d_j42_m56_1) ?_
  intro v1 T1 h1 L1 X1 e1 q1
  obtain ⟨rfl, N1, rfl⟩ := q1
  replace N1 := Fr.app N0 N1
  refine Go.st (g' := (mkF m 8 #[.val (.ref a1), .val (.int 2)] [(.ref a1)])) (fun t k => ?_) ?_
  · refine XS.ifNo X1.here hx rfl (hb hby d_j42_m56_4) rfl ((if0 _ _).trans (feq (by decide : ¬ (1 : Int32) = (0 : Int32))).1) ?_
    refine XS.aloadN X1.here hx rfl (hb hby d_j42_m56_7) rfl rfl ?_
    exact k
  refine Go.getF X1 hx hZ hown (wd hw 34 rfl) Via.refl e1 F_v (hb hby d_j42_m56_8) ?_
  intro T2 X2 e2
  refine Go.st (g' := (mkF m 12 #[.val (.ref a1), .val (.int 2)] [(.int 2), (.ref ab)])) (fun t k => ?_) ?_
  · refine XS.iloadN X2.here hx rfl (hb hby d_j42_m56_11) rfl ?_
    exact k
  refine Go.callS X2 hx hZ (W := 0) (argsL := [(.ref ab), (.int 2)]) (rest := []) hown (wd hw 63 rfl) (wd hw 64 rfl) (wd hw 65 rfl) (wd hw 66 rfl) (by decide) (ct_lch_3_2 l Z a0 hw zc fm G ab kb y0 u0 u1 h0 n0 O V_b hr0 hv0) e2 (by rw [hml]; rfl) (lenOf pd___BI_C_7586 rfl) rfl rfl (hb hby d_j42_m56_12) ?_
  intro v3 T3 h3 L3 X3 e3 q3
  obtain ⟨rfl, N3, rfl⟩ := q3
  replace N3 := Fr.app N1 N3
  show Go p e below _ T3 (mkF m 15 #[.val (.ref a1), .val (.int 2)] [(.int y0)])
  refine Go.retS X3 hx hlk hret (by simp) (own_nr hr0) (hb hby d_j42_m56_15) (by decide) (by decide) e3 ?_
  exact ⟨rfl, N3, rfl⟩
theorem ct_law (l : Launch) (Z : State) (a0 : Array Value) (hw : ∀ d ∈ tables_1, d.before a0 Z = true) (zc : Int32) (fm : Value) (G : Gl Z zc fm) (p0 : Int32) (p1 : Int32) (p2 : Int32) (p3 : Int32) (h0 : Heap) (n0 : Nat) (O : Old Z n0 h0) (hh0 : Jvm.Lit.constHeld Z "java/lang/String" 7) (hcw : Jvm.Lit.compactW.before a0 Z = true) :
    CtV l x code maxLocals ret room_1 Z #[(.int p0), (.int p1), (.int p2), (.int p3)] h0 (fun v h L => v = some (.int 1) ∧ Fr n0 L) := by
  refine CtV.of (plainFor_of_name pn_CatalogTextIsStorablePinLaw_167) ?_
  intro p e s vm0 m below meth c T0 X0 hx hby hml hown hnm hret hlk hZ e0 hS hk hh hI
  have hown : vm0.findClass "com/example/provenara/provenara/model/CatalogTextIsStorablePinLaw" = some m.cls := hown
  have hml : c.maxLocals = 10 := hml
  have N0 := Fr.nil n0
  have G' := G
  obtain ⟨S_CS, hzc, S_FM, hfm, S_AD, S_HI, S_LO⟩ := G'
  refine Go.cast (g' := mkF m 0 #[.val (.int p0), .val (.int p1), .val (.int p2), .val (.int p3), .unset, .unset, .unset, .unset, .unset, .unset] []) (by first | (simp [entryFrame, mkF, argsToLocals, Value.category, maxLocals]; done) | rfl) ?_
  refine Go.st (g' := (mkF m 6 #[.val (.int p0), .val (.int p1), .val (.int p2), .val (.int p3), .val (.int (p3 &&& (3 : Int32))), .unset, .unset, .unset, .unset, .unset] [(.int p0)])) (fun t k => ?_) ?_
  · refine XS.iloadN X0.here hx rfl (hb hby at_0) rfl ?_
    refine XS.iconst X0.here hx rfl (hb hby at_1) ?_
    refine XS.iand X0.here hx rfl (hb hby at_2) rfl ?_
    refine XS.istore X0.here hx rfl (hb hby at_3) rfl (l' := #[.val (.int p0), .val (.int p1), .val (.int p2), .val (.int p3), .val (.int (p3 &&& (3 : Int32))), .unset, .unset, .unset, .unset, .unset]) rfl ?_
    refine XS.iloadN X0.here hx rfl (hb hby at_5) rfl ?_
    exact k
  refine Go.callS X0 hx hZ (W := 0) (argsL := [(.int p0)]) (rest := []) hown (wd hw 0 rfl) (wd hw 1 rfl) (wd hw 2 rfl) (wd hw 3 rfl) (by decide) (ct_draw l Z a0 hw  p0 h0 n0 O ) e0 (by rw [hml]; rfl) (lenOf pd__I_C_7757 rfl) rfl rfl (hb hby at_6) ?_
  intro v1 T1 h1 L1 X1 e1 q1
  obtain ⟨c0, rfl, N1, rfl, hr0⟩ := q1
  replace N1 := Fr.app N0 N1
  refine Go.st (g' := (mkF m 12 #[.val (.int p0), .val (.int p1), .val (.int p2), .val (.int p3), .val (.int (p3 &&& (3 : Int32))), .val (.int c0), .unset, .unset, .unset, .unset] [(.int p1)])) (fun t k => ?_) ?_
  · refine XS.istore X1.here hx rfl (hb hby at_9) rfl (l' := #[.val (.int p0), .val (.int p1), .val (.int p2), .val (.int p3), .val (.int (p3 &&& (3 : Int32))), .val (.int c0), .unset, .unset, .unset, .unset]) rfl ?_
    refine XS.iloadN X1.here hx rfl (hb hby at_11) rfl ?_
    exact k
  refine Go.callS X1 hx hZ (W := 0) (argsL := [(.int p1)]) (rest := []) hown (wd hw 0 rfl) (wd hw 1 rfl) (wd hw 2 rfl) (wd hw 3 rfl) (by decide) (ct_draw l Z a0 hw  p1 h0 n0 O ) e1 (by rw [hml]; rfl) (lenOf pd__I_C_7757 rfl) rfl rfl (hb hby at_12) ?_
  intro v2 T2 h2 L2 X2 e2 q2
  obtain ⟨c1, rfl, N2, rfl, hr1⟩ := q2
  replace N2 := Fr.app N1 N2
  refine Go.st (g' := (mkF m 18 #[.val (.int p0), .val (.int p1), .val (.int p2), .val (.int p3), .val (.int (p3 &&& (3 : Int32))), .val (.int c0), .val (.int c1), .unset, .unset, .unset] [(.int p2)])) (fun t k => ?_) ?_
  · refine XS.istore X2.here hx rfl (hb hby at_15) rfl (l' := #[.val (.int p0), .val (.int p1), .val (.int p2), .val (.int p3), .val (.int (p3 &&& (3 : Int32))), .val (.int c0), .val (.int c1), .unset, .unset, .unset]) rfl ?_
    refine XS.iloadN X2.here hx rfl (hb hby at_17) rfl ?_
    exact k
  refine Go.callS X2 hx hZ (W := 0) (argsL := [(.int p2)]) (rest := []) hown (wd hw 0 rfl) (wd hw 1 rfl) (wd hw 2 rfl) (wd hw 3 rfl) (by decide) (ct_draw l Z a0 hw  p2 h0 n0 O ) e2 (by rw [hml]; rfl) (lenOf pd__I_C_7757 rfl) rfl rfl (hb hby at_18) ?_
  intro v3 T3 h3 L3 X3 e3 q3
  obtain ⟨c2, rfl, N3, rfl, hr2⟩ := q3
  replace N3 := Fr.app N2 N3
  refine Go.st (g' := (mkF m 23 #[.val (.int p0), .val (.int p1), .val (.int p2), .val (.int p3), .val (.int (p3 &&& (3 : Int32))), .val (.int c0), .val (.int c1), .val (.int c2), .unset, .unset] [])) (fun t k => ?_) ?_
  · refine XS.istore X3.here hx rfl (hb hby at_21) rfl (l' := #[.val (.int p0), .val (.int p1), .val (.int p2), .val (.int p3), .val (.int (p3 &&& (3 : Int32))), .val (.int c0), .val (.int c1), .val (.int c2), .unset, .unset]) rfl ?_
    exact k
  rcases own_and3 p3 with cc | cc | cc | cc
  · skip
    rw [cc]
    refine Go.st (g' := (mkF m 28 #[.val (.int p0), .val (.int p1), .val (.int p2), .val (.int p3), .val (.int 0), .val (.int c0), .val (.int c1), .val (.int c2), .unset, .unset] [])) (fun t k => ?_) ?_
    · refine XS.iload X3.here hx rfl (hb hby at_23) rfl ?_
      refine XS.ifNo X3.here hx rfl (hb hby at_25) rfl ((if0 _ _).trans (teq (by decide : (0 : Int32) = (0 : Int32))).2) ?_
      exact k
    refine Go.newO X3 hx hZ hown (wd hw 6 rfl) (wd hw 7 rfl) (wd hw 8 rfl) e3 (hb hby at_28) (by decide) (by decide) ?_
    intro T4 h4 b4 X4 e4 E4 g4 A4 D4
    have lb4 := Nat.le_of_eq g4.symm
    have g_b4 : n0 ≤ b4 := Nat.le_trans (OwnKit.Old.le O) lb4
    replace O := O.ext E4
    replace hk := Nat.le_trans hk E4.1
    have E_b4 := A4
    have F_b4_coder : Fld Z h4 b4 "java/lang/String" "coder" "B" (.int 0) := D4 (Or.inr (wd hw 33 rfl)) (ty := .byte) (by decide)
    have F_b4_value : Fld Z h4 b4 "java/lang/String" "value" "[B" .null := D4 (Or.inr (wd hw 35 rfl)) (ty := (.array .byte)) (by decide)
    refine Go.st (g' := (mkF m 33 #[.val (.int p0), .val (.int p1), .val (.int p2), .val (.int p3), .val (.int 0), .val (.int c0), .val (.int c1), .val (.int c2), .unset, .unset] [(.int 0), (.ref b4), (.ref b4)])) (fun t k => ?_) ?_
    · refine XS.dup X4.here hx rfl (hb hby at_31) rfl rfl ?_
      refine XS.iconst X4.here hx rfl (hb hby at_32) ?_
      exact k
    refine Go.newP X4 hx hZ (wd hw 9 rfl) e4 (hb hby at_33) (by decide) (cap := 0) (by decide) (by decide) (by decide) (by decide) ?_
    intro T5 h5 b5 k5 X5 e5 E5 g5 V_b5
    have lb5 := Nat.le_of_eq g5.symm
    have ne_b4_b5 : b4 ≠ b5 := Nat.ne_of_lt (Nat.lt_of_lt_of_le E_b4.lt lb5)
    have g_b5 : n0 ≤ b5 := Nat.le_trans (OwnKit.Old.le O) lb5
    replace E_b4 := E_b4.ext E5
    replace F_b4_coder := F_b4_coder.ext E5
    replace F_b4_value := F_b4_value.ext E5
    replace O := O.ext E5
    replace hk := Nat.le_trans hk E5.1
    replace V_b5 : Arv Z h5 b5 k5 .char (0 : Int32) [] (.int 0) := V_b5
    show Go p e below _ T5 (mkF m 35 #[.val (.int p0), .val (.int p1), .val (.int p2), .val (.int p3), .val (.int 0), .val (.int c0), .val (.int c1), .val (.int c2), .unset, .unset] [(.ref b5), (.ref b4), (.ref b4)])
    refine Go.callCV X5 hx hZ (W := 1) (argsL := [(.ref b5)]) (rest := [(.ref b4)]) hown rfl (wd hw 10 rfl) (wd hw 11 rfl) (wd hw 8 rfl) (wd hw 12 rfl) (by decide) (ct_si1_0 l Z a0 hw zc fm G b4 b5 k5 h5 n0 O E_b4 F_b4_value F_b4_coder g_b4 V_b5 ne_b4_b5 hh0 hcw) e5 hS hk hI (by rw [hml]; rfl) (lenOf pd___C_V_902 rfl) rfl rfl (hb hby at_35) ?_
    intro v6 T6 h6 L6 vm6 k6 X6 e6 q6 hS hk hZ hown
    obtain ⟨ob6, kb6, rfl, N6, K6, Fv6, Fc6, V_ob6⟩ := q6
    replace N6 := Fr.app N3 N6
    replace E_b4 := E_b4.keep K6
    clear F_b4_coder
    clear F_b4_value
    replace V_b5 := V_b5.keep K6 (ninS (Ne.symm ne_b4_b5) nin0)
    replace O := O.keep K6 (allS g_b4 all0)
    refine Go.st (g' := (mkF m 248 #[.val (.int p0), .val (.int p1), .val (.int p2), .val (.int p3), .val (.int 0), .val (.int c0), .val (.int c1), .val (.int c2), .val (.ref b4), .val (.int 1)] [(.ref b4)])) (fun t k => ?_) ?_
    · refine XS.astore X6.here hx rfl (hb hby at_38) rfl rfl (l' := #[.val (.int p0), .val (.int p1), .val (.int p2), .val (.int p3), .val (.int 0), .val (.int c0), .val (.int c1), .val (.int c2), .val (.ref b4), .unset]) rfl ?_
      refine XS.goto X6.here hx rfl (pc0 := 40) (pc' := 127) rfl (hb hby at_40) (by decide) (by decide) ?_
      refine XS.iconst X6.here hx rfl (hb hby at_127) ?_
      refine XS.istore X6.here hx rfl (hb hby at_128) rfl (l' := #[.val (.int p0), .val (.int p1), .val (.int p2), .val (.int p3), .val (.int 0), .val (.int c0), .val (.int c1), .val (.int c2), .val (.ref b4), .val (.int 1)]) rfl ?_
      refine XS.iload X6.here hx rfl (hb hby at_130) rfl ?_
      refine XS.iconst X6.here hx rfl (hb hby at_132) ?_
      refine XS.icmpYes X6.here hx rfl (pc0 := 133) (pc' := 172) rfl (hb hby at_133) rfl (tlt (by decide : (0 : Int32) < (1 : Int32))).1 (by decide) (by decide) ?_
      refine XS.iload X6.here hx rfl (hb hby at_172) rfl ?_
      refine XS.iconst X6.here hx rfl (hb hby at_174) ?_
      refine XS.icmpYes X6.here hx rfl (pc0 := 175) (pc' := 214) rfl (hb hby at_175) rfl (tlt (by decide : (0 : Int32) < (2 : Int32))).1 (by decide) (by decide) ?_
      refine XS.iload X6.here hx rfl (hb hby at_214) rfl ?_
      refine XS.iconst X6.here hx rfl (hb hby at_216) ?_
      refine XS.icmpYes X6.here hx rfl (pc0 := 217) (pc' := 246) rfl (hb hby at_217) rfl (tlt (by decide : (0 : Int32) < (3 : Int32))).1 (by decide) (by decide) ?_
      refine XS.aload X6.here hx rfl (hb hby at_246) rfl rfl ?_
      exact k
    refine Go.callS X6 hx hZ (W := 0) (argsL := [(.ref b4)]) (rest := []) hown (wd hw 39 rfl) (wd hw 40 rfl) (wd hw 41 rfl) (wd hw 42 rfl) (by decide) (ct_storable_0 l Z a0 hw  b4 h6 n0 O E_b4 (ct_len_0_0 l Z a0 hw zc fm G b4 ob6 kb6 (.int 0) h6 n0 O E_b4 Fv6 Fc6 V_ob6)) e6 (by rw [hml]; rfl) (lenOf pd__Ljava_lang_String__Z_965 rfl) rfl rfl (hb hby at_248) ?_
    intro v7 T7 h7 L7 X7 e7 q7
    obtain ⟨rfl, N7, rfl⟩ := q7
    replace N7 := Fr.app N6 N7
    refine Go.st (g' := (mkF m 261 #[.val (.int p0), .val (.int p1), .val (.int p2), .val (.int p3), .val (.int 0), .val (.int c0), .val (.int c1), .val (.int c2), .val (.ref b4), .val (.int 1)] [(.int 1)])) (fun t k => ?_) ?_
    · refine XS.iload X7.here hx rfl (hb hby at_251) rfl ?_
      refine XS.icmpNo X7.here hx rfl (hb hby at_253) rfl (teq (by rfl)).2 ?_
      refine XS.iconst X7.here hx rfl (hb hby at_256) ?_
      refine XS.goto X7.here hx rfl (pc0 := 257) (pc' := 261) rfl (hb hby at_257) (by decide) (by decide) ?_
      exact k
    refine Go.retZW X7 hx hlk hret (Or.inr rfl) (hb hby at_261) (by decide) (by decide) e7 hS hk ?_
    exact ⟨rfl, N7⟩
  · skip
    rw [cc]
    refine Go.st (g' := (mkF m 49 #[.val (.int p0), .val (.int p1), .val (.int p2), .val (.int p3), .val (.int 1), .val (.int c0), .val (.int c1), .val (.int c2), .unset, .unset] [])) (fun t k => ?_) ?_
    · refine XS.iload X3.here hx rfl (hb hby at_23) rfl ?_
      refine XS.ifYes X3.here hx rfl (pc0 := 25) (pc' := 43) rfl (hb hby at_25) rfl ((if0 _ _).trans (feq (by decide : ¬ (1 : Int32) = (0 : Int32))).2) (by decide) (by decide) ?_
      refine XS.iload X3.here hx rfl (hb hby at_43) rfl ?_
      refine XS.iconst X3.here hx rfl (hb hby at_45) ?_
      refine XS.icmpNo X3.here hx rfl (hb hby at_46) rfl (teq (by decide : (1 : Int32) = (1 : Int32))).2 ?_
      exact k
    by_cases hy8 : (255 : Int32) < c0
    · skip
      show Go p e below _ T3 (mkF m 49 #[.val (.int p0), .val (.int p1), .val (.int p2), .val (.int p3), .val (.int 1), .val (.int c0), .val (.int c1), .val (.int c2), .unset, .unset] [])
      refine Go.newO X3 hx hZ hown (wd hw 6 rfl) (wd hw 7 rfl) (wd hw 8 rfl) e3 (hb hby at_49) (by decide) (by decide) ?_
      intro T9 h9 b9 X9 e9 E9 g9 A9 D9
      have lb9 := Nat.le_of_eq g9.symm
      have g_b9 : n0 ≤ b9 := Nat.le_trans (OwnKit.Old.le O) lb9
      replace O := O.ext E9
      replace hk := Nat.le_trans hk E9.1
      have E_b9 := A9
      have F_b9_coder : Fld Z h9 b9 "java/lang/String" "coder" "B" (.int 0) := D9 (Or.inr (wd hw 33 rfl)) (ty := .byte) (by decide)
      have F_b9_value : Fld Z h9 b9 "java/lang/String" "value" "[B" .null := D9 (Or.inr (wd hw 35 rfl)) (ty := (.array .byte)) (by decide)
      refine Go.st (g' := (mkF m 54 #[.val (.int p0), .val (.int p1), .val (.int p2), .val (.int p3), .val (.int 1), .val (.int c0), .val (.int c1), .val (.int c2), .unset, .unset] [(.int 1), (.ref b9), (.ref b9)])) (fun t k => ?_) ?_
      · refine XS.dup X9.here hx rfl (hb hby at_52) rfl rfl ?_
        refine XS.iconst X9.here hx rfl (hb hby at_53) ?_
        exact k
      refine Go.newP X9 hx hZ (wd hw 9 rfl) e9 (hb hby at_54) (by decide) (cap := 1) (by decide) (by decide) (by decide) (by decide) ?_
      intro T10 h10 b10 k10 X10 e10 E10 g10 V_b10
      have lb10 := Nat.le_of_eq g10.symm
      have ne_b9_b10 : b9 ≠ b10 := Nat.ne_of_lt (Nat.lt_of_lt_of_le E_b9.lt lb10)
      have g_b10 : n0 ≤ b10 := Nat.le_trans (OwnKit.Old.le O) lb10
      replace E_b9 := E_b9.ext E10
      replace F_b9_coder := F_b9_coder.ext E10
      replace F_b9_value := F_b9_value.ext E10
      replace O := O.ext E10
      replace hk := Nat.le_trans hk E10.1
      replace V_b10 := V_b10.pad (pad_rep [] (.int 0) 1)
      replace V_b10 : Arv Z h10 b10 k10 .char (1 : Int32) [(.int 0)] (.int 0) := V_b10
      refine Go.st (g' := (mkF m 60 #[.val (.int p0), .val (.int p1), .val (.int p2), .val (.int p3), .val (.int 1), .val (.int c0), .val (.int c1), .val (.int c2), .unset, .unset] [(.int c0), (.int 0), (.ref b10), (.ref b10), (.ref b9), (.ref b9)])) (fun t k => ?_) ?_
      · refine XS.dup X10.here hx rfl (hb hby at_56) rfl rfl ?_
        refine XS.iconst X10.here hx rfl (hb hby at_57) ?_
        refine XS.iload X10.here hx rfl (hb hby at_58) rfl ?_
        exact k
      refine Go.nstV X10 hx hZ e10 V_b10 (j := (0 : Int32)) ⟨by decide, by decide⟩ 0 rfl (Nat.le_of_ble_eq_true rfl) (Or.inl ⟨rfl, rfl⟩) (hb hby at_60) ?_
      intro T11 h11 X11 e11 W11 Vn11
      replace E_b9 := E_b9.wr W11
      replace F_b9_coder := F_b9_coder.other W11 (Or.inl ne_b9_b10)
      replace F_b9_value := F_b9_value.other W11 (Or.inl ne_b9_b10)
      replace O := O.wr W11 g_b10
      have N11 := Fr.snoc X11 N3 g_b10
      replace hk := Nat.le_trans hk (Nat.le_of_eq W11.size.symm)
      replace V_b10 : Arv Z h11 b10 k10 .char (1 : Int32) [(.int (nar .char c0))] (.int 0) := Vn11
      clear Vn11
      rw [own_nar hr0] at V_b10
      show Go p e below _ T11 (mkF m 61 #[.val (.int p0), .val (.int p1), .val (.int p2), .val (.int p3), .val (.int 1), .val (.int c0), .val (.int c1), .val (.int c2), .unset, .unset] [(.ref b10), (.ref b9), (.ref b9)])
      refine Go.callC X11 hx hZ (W := 1) (argsL := [(.ref b10)]) (rest := [(.ref b9)]) hown rfl (wd hw 10 rfl) (wd hw 11 rfl) (wd hw 8 rfl) (wd hw 12 rfl) (by decide) (ct_si1_1_0 l Z a0 hw zc fm G b9 b10 k10 c0 h11 n0 O E_b9 F_b9_value F_b9_coder g_b9 V_b10 ne_b9_b10 hr0 hy8) e11 (by rw [hml]; rfl) (lenOf pd___C_V_902 rfl) rfl rfl (hb hby at_61) ?_
      intro v12 T12 h12 L12 X12 e12 q12
      obtain ⟨ob12, kb12, rfl, N12, K12, Fv12, Fc12, V_ob12⟩ := q12
      replace N12 := Fr.app N11 N12
      replace E_b9 := E_b9.keep K12
      clear F_b9_coder
      clear F_b9_value
      replace V_b10 := V_b10.keep K12 (ninS (Ne.symm ne_b9_b10) nin0)
      replace O := O.keep K12 (allS g_b9 all0)
      replace hk := Nat.le_trans hk K12.1
      refine Go.st (g' := (mkF m 159 #[.val (.int p0), .val (.int p1), .val (.int p2), .val (.int p3), .val (.int 1), .val (.int c0), .val (.int c1), .val (.int c2), .val (.ref b9), .val (.int 1)] [(.int c1), (.int 0), (.int c0), (.int 0), (.int c0)])) (fun t k => ?_) ?_
      · refine XS.astore X12.here hx rfl (hb hby at_64) rfl rfl (l' := #[.val (.int p0), .val (.int p1), .val (.int p2), .val (.int p3), .val (.int 1), .val (.int c0), .val (.int c1), .val (.int c2), .val (.ref b9), .unset]) rfl ?_
        refine XS.goto X12.here hx rfl (pc0 := 66) (pc' := 127) rfl (hb hby at_66) (by decide) (by decide) ?_
        refine XS.iconst X12.here hx rfl (hb hby at_127) ?_
        refine XS.istore X12.here hx rfl (hb hby at_128) rfl (l' := #[.val (.int p0), .val (.int p1), .val (.int p2), .val (.int p3), .val (.int 1), .val (.int c0), .val (.int c1), .val (.int c2), .val (.ref b9), .val (.int 1)]) rfl ?_
        refine XS.iload X12.here hx rfl (hb hby at_130) rfl ?_
        refine XS.iconst X12.here hx rfl (hb hby at_132) ?_
        refine XS.icmpNo X12.here hx rfl (hb hby at_133) rfl (flt (by decide : ¬ (1 : Int32) < (1 : Int32))).1 ?_
        refine XS.iload X12.here hx rfl (hb hby at_136) rfl ?_
        refine XS.ifNo X12.here hx rfl (hb hby at_138) rfl ((if0 _ _).trans (feq (by decide : ¬ (1 : Int32) = (0 : Int32))).1) ?_
        refine XS.iload X12.here hx rfl (hb hby at_141) rfl ?_
        refine XS.iconst X12.here hx rfl (hb hby at_143) ?_
        refine XS.iload X12.here hx rfl (hb hby at_144) rfl ?_
        refine XS.iload X12.here hx rfl (hb hby at_146) rfl ?_
        refine XS.iconst X12.here hx rfl (hb hby at_148) ?_
        refine XS.icmpYes X12.here hx rfl (pc0 := 149) (pc' := 156) rfl (hb hby at_149) rfl (flt (by decide : ¬ (1 : Int32) < (1 : Int32))).2.2.2 (by decide) (by decide) ?_
        refine XS.iconst X12.here hx rfl (hb hby at_156) ?_
        refine XS.iload X12.here hx rfl (hb hby at_157) rfl ?_
        exact k
      refine Go.callS X12 hx hZ (W := 0) (argsL := [(.int c0), (.int 0), (.int c0), (.int 0), (.int c1)]) (rest := []) hown (wd hw 36 rfl) (wd hw 37 rfl) (wd hw 2 rfl) (wd hw 38 rfl) (by decide) (ct_good_0_0 l Z a0 hw  c0 c0 c1 h12 n0 O ) e12 (by rw [hml]; rfl) (lenOf pd__CZCZC_Z_1117 rfl) rfl rfl (hb hby at_159) ?_
      intro v13 T13 h13 L13 X13 e13 q13
      obtain ⟨rfl, N13, rfl⟩ := q13
      replace N13 := Fr.app N12 N13
      show Go p e below _ T13 (mkF m 162 #[.val (.int p0), .val (.int p1), .val (.int p2), .val (.int p3), .val (.int 1), .val (.int c0), .val (.int c1), .val (.int c2), .val (.ref b9), .val (.int 1)] [(.int (goodF c0 false c0 false c1))])
      by_cases hy14 : (goodF c0 false c0 false c1) = (0 : Int32)
      · skip
        refine Go.st (g' := (mkF m 248 #[.val (.int p0), .val (.int p1), .val (.int p2), .val (.int p3), .val (.int 1), .val (.int c0), .val (.int c1), .val (.int c2), .val (.ref b9), .val (.int 0)] [(.ref b9)])) (fun t k => ?_) ?_
        · refine XS.ifYes X13.here hx rfl (pc0 := 162) (pc' := 169) rfl (hb hby at_162) rfl ((if0 _ _).trans (teq hy14).1) (by decide) (by decide) ?_
          refine XS.iconst X13.here hx rfl (hb hby at_169) ?_
          refine XS.istore X13.here hx rfl (hb hby at_170) rfl (l' := #[.val (.int p0), .val (.int p1), .val (.int p2), .val (.int p3), .val (.int 1), .val (.int c0), .val (.int c1), .val (.int c2), .val (.ref b9), .val (.int 0)]) rfl ?_
          refine XS.iload X13.here hx rfl (hb hby at_172) rfl ?_
          refine XS.iconst X13.here hx rfl (hb hby at_174) ?_
          refine XS.icmpYes X13.here hx rfl (pc0 := 175) (pc' := 214) rfl (hb hby at_175) rfl (tlt (by decide : (1 : Int32) < (2 : Int32))).1 (by decide) (by decide) ?_
          refine XS.iload X13.here hx rfl (hb hby at_214) rfl ?_
          refine XS.iconst X13.here hx rfl (hb hby at_216) ?_
          refine XS.icmpYes X13.here hx rfl (pc0 := 217) (pc' := 246) rfl (hb hby at_217) rfl (tlt (by decide : (1 : Int32) < (3 : Int32))).1 (by decide) (by decide) ?_
          refine XS.aload X13.here hx rfl (hb hby at_246) rfl rfl ?_
          exact k
        refine Go.callS X13 hx hZ (W := 0) (argsL := [(.ref b9)]) (rest := []) hown (wd hw 39 rfl) (wd hw 40 rfl) (wd hw 41 rfl) (wd hw 42 rfl) (by decide) (ct_storable_1 l Z a0 hw  b9 c0 h12 n0 O E_b9 (ct_len_1_1 l Z a0 hw zc fm G b9 ob12 kb12 (.int 0) (.int (nar .byte ((c0 >>> ((0 : Int32) &&& 31)).toInt8.toInt32))) (.int (nar .byte ((c0 >>> ((8 : Int32) &&& 31)).toInt8.toInt32))) h12 n0 O E_b9 Fv12 Fc12 V_ob12) (ct_ch_1_0_1 l Z a0 hw zc fm G b9 ob12 kb12 c0  h12 n0 O E_b9 Fv12 Fc12 V_ob12 hr0)) e13 (by rw [hml]; rfl) (lenOf pd__Ljava_lang_String__Z_965 rfl) rfl rfl (hb hby at_248) ?_
        intro v15 T15 h15 L15 X15 e15 q15
        obtain ⟨rfl, N15, rfl⟩ := q15
        replace N15 := Fr.app N13 N15
        refine Go.st (g' := (mkF m 261 #[.val (.int p0), .val (.int p1), .val (.int p2), .val (.int p3), .val (.int 1), .val (.int c0), .val (.int c1), .val (.int c2), .val (.ref b9), .val (.int 0)] [(.int 1)])) (fun t k => ?_) ?_
        · refine XS.iload X15.here hx rfl (hb hby at_251) rfl ?_
          refine XS.icmpNo X15.here hx rfl (hb hby at_253) rfl (teq (own_f1_1 hy14)).2 ?_
          refine XS.iconst X15.here hx rfl (hb hby at_256) ?_
          refine XS.goto X15.here hx rfl (pc0 := 257) (pc' := 261) rfl (hb hby at_257) (by decide) (by decide) ?_
          exact k
        refine Go.retZW X15 hx hlk hret (Or.inr rfl) (hb hby at_261) (by decide) (by decide) e15 hS hk ?_
        exact ⟨rfl, N15⟩
      · skip
        refine Go.st (g' := (mkF m 248 #[.val (.int p0), .val (.int p1), .val (.int p2), .val (.int p3), .val (.int 1), .val (.int c0), .val (.int c1), .val (.int c2), .val (.ref b9), .val (.int 1)] [(.ref b9)])) (fun t k => ?_) ?_
        · refine XS.ifNo X13.here hx rfl (hb hby at_162) rfl ((if0 _ _).trans (feq hy14).1) ?_
          refine XS.iconst X13.here hx rfl (hb hby at_165) ?_
          refine XS.goto X13.here hx rfl (pc0 := 166) (pc' := 170) rfl (hb hby at_166) (by decide) (by decide) ?_
          refine XS.istore X13.here hx rfl (hb hby at_170) rfl (l' := #[.val (.int p0), .val (.int p1), .val (.int p2), .val (.int p3), .val (.int 1), .val (.int c0), .val (.int c1), .val (.int c2), .val (.ref b9), .val (.int 1)]) rfl ?_
          refine XS.iload X13.here hx rfl (hb hby at_172) rfl ?_
          refine XS.iconst X13.here hx rfl (hb hby at_174) ?_
          refine XS.icmpYes X13.here hx rfl (pc0 := 175) (pc' := 214) rfl (hb hby at_175) rfl (tlt (by decide : (1 : Int32) < (2 : Int32))).1 (by decide) (by decide) ?_
          refine XS.iload X13.here hx rfl (hb hby at_214) rfl ?_
          refine XS.iconst X13.here hx rfl (hb hby at_216) ?_
          refine XS.icmpYes X13.here hx rfl (pc0 := 217) (pc' := 246) rfl (hb hby at_217) rfl (tlt (by decide : (1 : Int32) < (3 : Int32))).1 (by decide) (by decide) ?_
          refine XS.aload X13.here hx rfl (hb hby at_246) rfl rfl ?_
          exact k
        refine Go.callS X13 hx hZ (W := 0) (argsL := [(.ref b9)]) (rest := []) hown (wd hw 39 rfl) (wd hw 40 rfl) (wd hw 41 rfl) (wd hw 42 rfl) (by decide) (ct_storable_1 l Z a0 hw  b9 c0 h12 n0 O E_b9 (ct_len_1_1 l Z a0 hw zc fm G b9 ob12 kb12 (.int 0) (.int (nar .byte ((c0 >>> ((0 : Int32) &&& 31)).toInt8.toInt32))) (.int (nar .byte ((c0 >>> ((8 : Int32) &&& 31)).toInt8.toInt32))) h12 n0 O E_b9 Fv12 Fc12 V_ob12) (ct_ch_1_0_1 l Z a0 hw zc fm G b9 ob12 kb12 c0  h12 n0 O E_b9 Fv12 Fc12 V_ob12 hr0)) e13 (by rw [hml]; rfl) (lenOf pd__Ljava_lang_String__Z_965 rfl) rfl rfl (hb hby at_248) ?_
        intro v16 T16 h16 L16 X16 e16 q16
        obtain ⟨rfl, N16, rfl⟩ := q16
        replace N16 := Fr.app N13 N16
        refine Go.st (g' := (mkF m 261 #[.val (.int p0), .val (.int p1), .val (.int p2), .val (.int p3), .val (.int 1), .val (.int c0), .val (.int c1), .val (.int c2), .val (.ref b9), .val (.int 1)] [(.int 1)])) (fun t k => ?_) ?_
        · refine XS.iload X16.here hx rfl (hb hby at_251) rfl ?_
          refine XS.icmpNo X16.here hx rfl (hb hby at_253) rfl (teq (own_t1 hy14)).2 ?_
          refine XS.iconst X16.here hx rfl (hb hby at_256) ?_
          refine XS.goto X16.here hx rfl (pc0 := 257) (pc' := 261) rfl (hb hby at_257) (by decide) (by decide) ?_
          exact k
        refine Go.retZW X16 hx hlk hret (Or.inr rfl) (hb hby at_261) (by decide) (by decide) e16 hS hk ?_
        exact ⟨rfl, N16⟩
    · skip
      show Go p e below _ T3 (mkF m 49 #[.val (.int p0), .val (.int p1), .val (.int p2), .val (.int p3), .val (.int 1), .val (.int c0), .val (.int c1), .val (.int c2), .unset, .unset] [])
      refine Go.newO X3 hx hZ hown (wd hw 6 rfl) (wd hw 7 rfl) (wd hw 8 rfl) e3 (hb hby at_49) (by decide) (by decide) ?_
      intro T17 h17 b17 X17 e17 E17 g17 A17 D17
      have lb17 := Nat.le_of_eq g17.symm
      have g_b17 : n0 ≤ b17 := Nat.le_trans (OwnKit.Old.le O) lb17
      replace O := O.ext E17
      replace hk := Nat.le_trans hk E17.1
      have E_b17 := A17
      have F_b17_coder : Fld Z h17 b17 "java/lang/String" "coder" "B" (.int 0) := D17 (Or.inr (wd hw 33 rfl)) (ty := .byte) (by decide)
      have F_b17_value : Fld Z h17 b17 "java/lang/String" "value" "[B" .null := D17 (Or.inr (wd hw 35 rfl)) (ty := (.array .byte)) (by decide)
      refine Go.st (g' := (mkF m 54 #[.val (.int p0), .val (.int p1), .val (.int p2), .val (.int p3), .val (.int 1), .val (.int c0), .val (.int c1), .val (.int c2), .unset, .unset] [(.int 1), (.ref b17), (.ref b17)])) (fun t k => ?_) ?_
      · refine XS.dup X17.here hx rfl (hb hby at_52) rfl rfl ?_
        refine XS.iconst X17.here hx rfl (hb hby at_53) ?_
        exact k
      refine Go.newP X17 hx hZ (wd hw 9 rfl) e17 (hb hby at_54) (by decide) (cap := 1) (by decide) (by decide) (by decide) (by decide) ?_
      intro T18 h18 b18 k18 X18 e18 E18 g18 V_b18
      have lb18 := Nat.le_of_eq g18.symm
      have ne_b17_b18 : b17 ≠ b18 := Nat.ne_of_lt (Nat.lt_of_lt_of_le E_b17.lt lb18)
      have g_b18 : n0 ≤ b18 := Nat.le_trans (OwnKit.Old.le O) lb18
      replace E_b17 := E_b17.ext E18
      replace F_b17_coder := F_b17_coder.ext E18
      replace F_b17_value := F_b17_value.ext E18
      replace O := O.ext E18
      replace hk := Nat.le_trans hk E18.1
      replace V_b18 := V_b18.pad (pad_rep [] (.int 0) 1)
      replace V_b18 : Arv Z h18 b18 k18 .char (1 : Int32) [(.int 0)] (.int 0) := V_b18
      refine Go.st (g' := (mkF m 60 #[.val (.int p0), .val (.int p1), .val (.int p2), .val (.int p3), .val (.int 1), .val (.int c0), .val (.int c1), .val (.int c2), .unset, .unset] [(.int c0), (.int 0), (.ref b18), (.ref b18), (.ref b17), (.ref b17)])) (fun t k => ?_) ?_
      · refine XS.dup X18.here hx rfl (hb hby at_56) rfl rfl ?_
        refine XS.iconst X18.here hx rfl (hb hby at_57) ?_
        refine XS.iload X18.here hx rfl (hb hby at_58) rfl ?_
        exact k
      refine Go.nstV X18 hx hZ e18 V_b18 (j := (0 : Int32)) ⟨by decide, by decide⟩ 0 rfl (Nat.le_of_ble_eq_true rfl) (Or.inl ⟨rfl, rfl⟩) (hb hby at_60) ?_
      intro T19 h19 X19 e19 W19 Vn19
      replace E_b17 := E_b17.wr W19
      replace F_b17_coder := F_b17_coder.other W19 (Or.inl ne_b17_b18)
      replace F_b17_value := F_b17_value.other W19 (Or.inl ne_b17_b18)
      replace O := O.wr W19 g_b18
      have N19 := Fr.snoc X19 N3 g_b18
      replace hk := Nat.le_trans hk (Nat.le_of_eq W19.size.symm)
      replace V_b18 : Arv Z h19 b18 k18 .char (1 : Int32) [(.int (nar .char c0))] (.int 0) := Vn19
      clear Vn19
      rw [own_nar hr0] at V_b18
      show Go p e below _ T19 (mkF m 61 #[.val (.int p0), .val (.int p1), .val (.int p2), .val (.int p3), .val (.int 1), .val (.int c0), .val (.int c1), .val (.int c2), .unset, .unset] [(.ref b18), (.ref b17), (.ref b17)])
      refine Go.callC X19 hx hZ (W := 1) (argsL := [(.ref b18)]) (rest := [(.ref b17)]) hown rfl (wd hw 10 rfl) (wd hw 11 rfl) (wd hw 8 rfl) (wd hw 12 rfl) (by decide) (ct_si1_1_L l Z a0 hw zc fm G b17 b18 k18 c0 h19 n0 O E_b17 F_b17_value F_b17_coder g_b17 V_b18 ne_b17_b18 hr0 hy8) e19 (by rw [hml]; rfl) (lenOf pd___C_V_902 rfl) rfl rfl (hb hby at_61) ?_
      intro v20 T20 h20 L20 X20 e20 q20
      obtain ⟨ob20, kb20, rfl, N20, K20, Fv20, Fc20, V_ob20⟩ := q20
      replace N20 := Fr.app N19 N20
      replace E_b17 := E_b17.keep K20
      clear F_b17_coder
      clear F_b17_value
      replace V_b18 := V_b18.keep K20 (ninS (Ne.symm ne_b17_b18) nin0)
      replace O := O.keep K20 (allS g_b17 all0)
      replace hk := Nat.le_trans hk K20.1
      refine Go.st (g' := (mkF m 159 #[.val (.int p0), .val (.int p1), .val (.int p2), .val (.int p3), .val (.int 1), .val (.int c0), .val (.int c1), .val (.int c2), .val (.ref b17), .val (.int 1)] [(.int c1), (.int 0), (.int c0), (.int 0), (.int c0)])) (fun t k => ?_) ?_
      · refine XS.astore X20.here hx rfl (hb hby at_64) rfl rfl (l' := #[.val (.int p0), .val (.int p1), .val (.int p2), .val (.int p3), .val (.int 1), .val (.int c0), .val (.int c1), .val (.int c2), .val (.ref b17), .unset]) rfl ?_
        refine XS.goto X20.here hx rfl (pc0 := 66) (pc' := 127) rfl (hb hby at_66) (by decide) (by decide) ?_
        refine XS.iconst X20.here hx rfl (hb hby at_127) ?_
        refine XS.istore X20.here hx rfl (hb hby at_128) rfl (l' := #[.val (.int p0), .val (.int p1), .val (.int p2), .val (.int p3), .val (.int 1), .val (.int c0), .val (.int c1), .val (.int c2), .val (.ref b17), .val (.int 1)]) rfl ?_
        refine XS.iload X20.here hx rfl (hb hby at_130) rfl ?_
        refine XS.iconst X20.here hx rfl (hb hby at_132) ?_
        refine XS.icmpNo X20.here hx rfl (hb hby at_133) rfl (flt (by decide : ¬ (1 : Int32) < (1 : Int32))).1 ?_
        refine XS.iload X20.here hx rfl (hb hby at_136) rfl ?_
        refine XS.ifNo X20.here hx rfl (hb hby at_138) rfl ((if0 _ _).trans (feq (by decide : ¬ (1 : Int32) = (0 : Int32))).1) ?_
        refine XS.iload X20.here hx rfl (hb hby at_141) rfl ?_
        refine XS.iconst X20.here hx rfl (hb hby at_143) ?_
        refine XS.iload X20.here hx rfl (hb hby at_144) rfl ?_
        refine XS.iload X20.here hx rfl (hb hby at_146) rfl ?_
        refine XS.iconst X20.here hx rfl (hb hby at_148) ?_
        refine XS.icmpYes X20.here hx rfl (pc0 := 149) (pc' := 156) rfl (hb hby at_149) rfl (flt (by decide : ¬ (1 : Int32) < (1 : Int32))).2.2.2 (by decide) (by decide) ?_
        refine XS.iconst X20.here hx rfl (hb hby at_156) ?_
        refine XS.iload X20.here hx rfl (hb hby at_157) rfl ?_
        exact k
      refine Go.callS X20 hx hZ (W := 0) (argsL := [(.int c0), (.int 0), (.int c0), (.int 0), (.int c1)]) (rest := []) hown (wd hw 36 rfl) (wd hw 37 rfl) (wd hw 2 rfl) (wd hw 38 rfl) (by decide) (ct_good_0_0 l Z a0 hw  c0 c0 c1 h20 n0 O ) e20 (by rw [hml]; rfl) (lenOf pd__CZCZC_Z_1117 rfl) rfl rfl (hb hby at_159) ?_
      intro v21 T21 h21 L21 X21 e21 q21
      obtain ⟨rfl, N21, rfl⟩ := q21
      replace N21 := Fr.app N20 N21
      show Go p e below _ T21 (mkF m 162 #[.val (.int p0), .val (.int p1), .val (.int p2), .val (.int p3), .val (.int 1), .val (.int c0), .val (.int c1), .val (.int c2), .val (.ref b17), .val (.int 1)] [(.int (goodF c0 false c0 false c1))])
      by_cases hy22 : (goodF c0 false c0 false c1) = (0 : Int32)
      · skip
        refine Go.st (g' := (mkF m 248 #[.val (.int p0), .val (.int p1), .val (.int p2), .val (.int p3), .val (.int 1), .val (.int c0), .val (.int c1), .val (.int c2), .val (.ref b17), .val (.int 0)] [(.ref b17)])) (fun t k => ?_) ?_
        · refine XS.ifYes X21.here hx rfl (pc0 := 162) (pc' := 169) rfl (hb hby at_162) rfl ((if0 _ _).trans (teq hy22).1) (by decide) (by decide) ?_
          refine XS.iconst X21.here hx rfl (hb hby at_169) ?_
          refine XS.istore X21.here hx rfl (hb hby at_170) rfl (l' := #[.val (.int p0), .val (.int p1), .val (.int p2), .val (.int p3), .val (.int 1), .val (.int c0), .val (.int c1), .val (.int c2), .val (.ref b17), .val (.int 0)]) rfl ?_
          refine XS.iload X21.here hx rfl (hb hby at_172) rfl ?_
          refine XS.iconst X21.here hx rfl (hb hby at_174) ?_
          refine XS.icmpYes X21.here hx rfl (pc0 := 175) (pc' := 214) rfl (hb hby at_175) rfl (tlt (by decide : (1 : Int32) < (2 : Int32))).1 (by decide) (by decide) ?_
          refine XS.iload X21.here hx rfl (hb hby at_214) rfl ?_
          refine XS.iconst X21.here hx rfl (hb hby at_216) ?_
          refine XS.icmpYes X21.here hx rfl (pc0 := 217) (pc' := 246) rfl (hb hby at_217) rfl (tlt (by decide : (1 : Int32) < (3 : Int32))).1 (by decide) (by decide) ?_
          refine XS.aload X21.here hx rfl (hb hby at_246) rfl rfl ?_
          exact k
        refine Go.callS X21 hx hZ (W := 0) (argsL := [(.ref b17)]) (rest := []) hown (wd hw 39 rfl) (wd hw 40 rfl) (wd hw 41 rfl) (wd hw 42 rfl) (by decide) (ct_storable_1 l Z a0 hw  b17 c0 h20 n0 O E_b17 (ct_len_1_0 l Z a0 hw zc fm G b17 ob20 kb20 (.int 0) (.int (nar .byte (c0.toInt8.toInt32))) h20 n0 O E_b17 Fv20 Fc20 V_ob20) (ct_ch_1_0_0 l Z a0 hw zc fm G b17 ob20 kb20 c0  h20 n0 O E_b17 Fv20 Fc20 V_ob20 hr0 hy8)) e21 (by rw [hml]; rfl) (lenOf pd__Ljava_lang_String__Z_965 rfl) rfl rfl (hb hby at_248) ?_
        intro v23 T23 h23 L23 X23 e23 q23
        obtain ⟨rfl, N23, rfl⟩ := q23
        replace N23 := Fr.app N21 N23
        refine Go.st (g' := (mkF m 261 #[.val (.int p0), .val (.int p1), .val (.int p2), .val (.int p3), .val (.int 1), .val (.int c0), .val (.int c1), .val (.int c2), .val (.ref b17), .val (.int 0)] [(.int 1)])) (fun t k => ?_) ?_
        · refine XS.iload X23.here hx rfl (hb hby at_251) rfl ?_
          refine XS.icmpNo X23.here hx rfl (hb hby at_253) rfl (teq (own_f1_1 hy22)).2 ?_
          refine XS.iconst X23.here hx rfl (hb hby at_256) ?_
          refine XS.goto X23.here hx rfl (pc0 := 257) (pc' := 261) rfl (hb hby at_257) (by decide) (by decide) ?_
          exact k
        refine Go.retZW X23 hx hlk hret (Or.inr rfl) (hb hby at_261) (by decide) (by decide) e23 hS hk ?_
        exact ⟨rfl, N23⟩
      · skip
        refine Go.st (g' := (mkF m 248 #[.val (.int p0), .val (.int p1), .val (.int p2), .val (.int p3), .val (.int 1), .val (.int c0), .val (.int c1), .val (.int c2), .val (.ref b17), .val (.int 1)] [(.ref b17)])) (fun t k => ?_) ?_
        · refine XS.ifNo X21.here hx rfl (hb hby at_162) rfl ((if0 _ _).trans (feq hy22).1) ?_
          refine XS.iconst X21.here hx rfl (hb hby at_165) ?_
          refine XS.goto X21.here hx rfl (pc0 := 166) (pc' := 170) rfl (hb hby at_166) (by decide) (by decide) ?_
          refine XS.istore X21.here hx rfl (hb hby at_170) rfl (l' := #[.val (.int p0), .val (.int p1), .val (.int p2), .val (.int p3), .val (.int 1), .val (.int c0), .val (.int c1), .val (.int c2), .val (.ref b17), .val (.int 1)]) rfl ?_
          refine XS.iload X21.here hx rfl (hb hby at_172) rfl ?_
          refine XS.iconst X21.here hx rfl (hb hby at_174) ?_
          refine XS.icmpYes X21.here hx rfl (pc0 := 175) (pc' := 214) rfl (hb hby at_175) rfl (tlt (by decide : (1 : Int32) < (2 : Int32))).1 (by decide) (by decide) ?_
          refine XS.iload X21.here hx rfl (hb hby at_214) rfl ?_
          refine XS.iconst X21.here hx rfl (hb hby at_216) ?_
          refine XS.icmpYes X21.here hx rfl (pc0 := 217) (pc' := 246) rfl (hb hby at_217) rfl (tlt (by decide : (1 : Int32) < (3 : Int32))).1 (by decide) (by decide) ?_
          refine XS.aload X21.here hx rfl (hb hby at_246) rfl rfl ?_
          exact k
        refine Go.callS X21 hx hZ (W := 0) (argsL := [(.ref b17)]) (rest := []) hown (wd hw 39 rfl) (wd hw 40 rfl) (wd hw 41 rfl) (wd hw 42 rfl) (by decide) (ct_storable_1 l Z a0 hw  b17 c0 h20 n0 O E_b17 (ct_len_1_0 l Z a0 hw zc fm G b17 ob20 kb20 (.int 0) (.int (nar .byte (c0.toInt8.toInt32))) h20 n0 O E_b17 Fv20 Fc20 V_ob20) (ct_ch_1_0_0 l Z a0 hw zc fm G b17 ob20 kb20 c0  h20 n0 O E_b17 Fv20 Fc20 V_ob20 hr0 hy8)) e21 (by rw [hml]; rfl) (lenOf pd__Ljava_lang_String__Z_965 rfl) rfl rfl (hb hby at_248) ?_
        intro v24 T24 h24 L24 X24 e24 q24
        obtain ⟨rfl, N24, rfl⟩ := q24
        replace N24 := Fr.app N21 N24
        refine Go.st (g' := (mkF m 261 #[.val (.int p0), .val (.int p1), .val (.int p2), .val (.int p3), .val (.int 1), .val (.int c0), .val (.int c1), .val (.int c2), .val (.ref b17), .val (.int 1)] [(.int 1)])) (fun t k => ?_) ?_
        · refine XS.iload X24.here hx rfl (hb hby at_251) rfl ?_
          refine XS.icmpNo X24.here hx rfl (hb hby at_253) rfl (teq (own_t1 hy22)).2 ?_
          refine XS.iconst X24.here hx rfl (hb hby at_256) ?_
          refine XS.goto X24.here hx rfl (pc0 := 257) (pc' := 261) rfl (hb hby at_257) (by decide) (by decide) ?_
          exact k
        refine Go.retZW X24 hx hlk hret (Or.inr rfl) (hb hby at_261) (by decide) (by decide) e24 hS hk ?_
        exact ⟨rfl, N24⟩
  · skip
    rw [cc]
    refine Go.st (g' := (mkF m 75 #[.val (.int p0), .val (.int p1), .val (.int p2), .val (.int p3), .val (.int 2), .val (.int c0), .val (.int c1), .val (.int c2), .unset, .unset] [])) (fun t k => ?_) ?_
    · refine XS.iload X3.here hx rfl (hb hby at_23) rfl ?_
      refine XS.ifYes X3.here hx rfl (pc0 := 25) (pc' := 43) rfl (hb hby at_25) rfl ((if0 _ _).trans (feq (by decide : ¬ (2 : Int32) = (0 : Int32))).2) (by decide) (by decide) ?_
      refine XS.iload X3.here hx rfl (hb hby at_43) rfl ?_
      refine XS.iconst X3.here hx rfl (hb hby at_45) ?_
      refine XS.icmpYes X3.here hx rfl (pc0 := 46) (pc' := 69) rfl (hb hby at_46) rfl (feq (by decide : ¬ (2 : Int32) = (1 : Int32))).2 (by decide) (by decide) ?_
      refine XS.iload X3.here hx rfl (hb hby at_69) rfl ?_
      refine XS.iconst X3.here hx rfl (hb hby at_71) ?_
      refine XS.icmpNo X3.here hx rfl (hb hby at_72) rfl (teq (by decide : (2 : Int32) = (2 : Int32))).2 ?_
      exact k
    by_cases hy25 : (255 : Int32) < c0
    · skip
      show Go p e below _ T3 (mkF m 75 #[.val (.int p0), .val (.int p1), .val (.int p2), .val (.int p3), .val (.int 2), .val (.int c0), .val (.int c1), .val (.int c2), .unset, .unset] [])
      refine Go.newO X3 hx hZ hown (wd hw 6 rfl) (wd hw 7 rfl) (wd hw 8 rfl) e3 (hb hby at_75) (by decide) (by decide) ?_
      intro T26 h26 b26 X26 e26 E26 g26 A26 D26
      have lb26 := Nat.le_of_eq g26.symm
      have g_b26 : n0 ≤ b26 := Nat.le_trans (OwnKit.Old.le O) lb26
      replace O := O.ext E26
      replace hk := Nat.le_trans hk E26.1
      have E_b26 := A26
      have F_b26_coder : Fld Z h26 b26 "java/lang/String" "coder" "B" (.int 0) := D26 (Or.inr (wd hw 33 rfl)) (ty := .byte) (by decide)
      have F_b26_value : Fld Z h26 b26 "java/lang/String" "value" "[B" .null := D26 (Or.inr (wd hw 35 rfl)) (ty := (.array .byte)) (by decide)
      refine Go.st (g' := (mkF m 80 #[.val (.int p0), .val (.int p1), .val (.int p2), .val (.int p3), .val (.int 2), .val (.int c0), .val (.int c1), .val (.int c2), .unset, .unset] [(.int 2), (.ref b26), (.ref b26)])) (fun t k => ?_) ?_
      · refine XS.dup X26.here hx rfl (hb hby at_78) rfl rfl ?_
        refine XS.iconst X26.here hx rfl (hb hby at_79) ?_
        exact k
      refine Go.newP X26 hx hZ (wd hw 9 rfl) e26 (hb hby at_80) (by decide) (cap := 2) (by decide) (by decide) (by decide) (by decide) ?_
      intro T27 h27 b27 k27 X27 e27 E27 g27 V_b27
      have lb27 := Nat.le_of_eq g27.symm
      have ne_b26_b27 : b26 ≠ b27 := Nat.ne_of_lt (Nat.lt_of_lt_of_le E_b26.lt lb27)
      have g_b27 : n0 ≤ b27 := Nat.le_trans (OwnKit.Old.le O) lb27
      replace E_b26 := E_b26.ext E27
      replace F_b26_coder := F_b26_coder.ext E27
      replace F_b26_value := F_b26_value.ext E27
      replace O := O.ext E27
      replace hk := Nat.le_trans hk E27.1
      replace V_b27 := V_b27.pad (pad_rep [] (.int 0) 2)
      replace V_b27 : Arv Z h27 b27 k27 .char (2 : Int32) [(.int 0), (.int 0)] (.int 0) := V_b27
      refine Go.st (g' := (mkF m 86 #[.val (.int p0), .val (.int p1), .val (.int p2), .val (.int p3), .val (.int 2), .val (.int c0), .val (.int c1), .val (.int c2), .unset, .unset] [(.int c0), (.int 0), (.ref b27), (.ref b27), (.ref b26), (.ref b26)])) (fun t k => ?_) ?_
      · refine XS.dup X27.here hx rfl (hb hby at_82) rfl rfl ?_
        refine XS.iconst X27.here hx rfl (hb hby at_83) ?_
        refine XS.iload X27.here hx rfl (hb hby at_84) rfl ?_
        exact k
      refine Go.nstV X27 hx hZ e27 V_b27 (j := (0 : Int32)) ⟨by decide, by decide⟩ 0 rfl (Nat.le_of_ble_eq_true rfl) (Or.inl ⟨rfl, rfl⟩) (hb hby at_86) ?_
      intro T28 h28 X28 e28 W28 Vn28
      replace E_b26 := E_b26.wr W28
      replace F_b26_coder := F_b26_coder.other W28 (Or.inl ne_b26_b27)
      replace F_b26_value := F_b26_value.other W28 (Or.inl ne_b26_b27)
      replace O := O.wr W28 g_b27
      have N28 := Fr.snoc X28 N3 g_b27
      replace hk := Nat.le_trans hk (Nat.le_of_eq W28.size.symm)
      replace V_b27 : Arv Z h28 b27 k27 .char (2 : Int32) [(.int (nar .char c0)), (.int 0)] (.int 0) := Vn28
      clear Vn28
      rw [own_nar hr0] at V_b27
      refine Go.st (g' := (mkF m 91 #[.val (.int p0), .val (.int p1), .val (.int p2), .val (.int p3), .val (.int 2), .val (.int c0), .val (.int c1), .val (.int c2), .unset, .unset] [(.int c1), (.int 1), (.ref b27), (.ref b27), (.ref b26), (.ref b26)])) (fun t k => ?_) ?_
      · refine XS.dup X28.here hx rfl (hb hby at_87) rfl rfl ?_
        refine XS.iconst X28.here hx rfl (hb hby at_88) ?_
        refine XS.iload X28.here hx rfl (hb hby at_89) rfl ?_
        exact k
      refine Go.nstV X28 hx hZ e28 V_b27 (j := (1 : Int32)) ⟨by decide, by decide⟩ 1 rfl (Nat.le_of_ble_eq_true rfl) (Or.inl ⟨rfl, rfl⟩) (hb hby at_91) ?_
      intro T29 h29 X29 e29 W29 Vn29
      replace E_b26 := E_b26.wr W29
      replace F_b26_coder := F_b26_coder.other W29 (Or.inl ne_b26_b27)
      replace F_b26_value := F_b26_value.other W29 (Or.inl ne_b26_b27)
      replace O := O.wr W29 g_b27
      have N29 := Fr.snoc X29 N28 g_b27
      replace hk := Nat.le_trans hk (Nat.le_of_eq W29.size.symm)
      replace V_b27 : Arv Z h29 b27 k27 .char (2 : Int32) [(.int c0), (.int (nar .char c1))] (.int 0) := Vn29
      clear Vn29
      rw [own_nar hr1] at V_b27
      show Go p e below _ T29 (mkF m 92 #[.val (.int p0), .val (.int p1), .val (.int p2), .val (.int p3), .val (.int 2), .val (.int c0), .val (.int c1), .val (.int c2), .unset, .unset] [(.ref b27), (.ref b26), (.ref b26)])
      refine Go.callC X29 hx hZ (W := 1) (argsL := [(.ref b27)]) (rest := [(.ref b26)]) hown rfl (wd hw 10 rfl) (wd hw 11 rfl) (wd hw 8 rfl) (wd hw 12 rfl) (by decide) (ct_si1_2_0 l Z a0 hw zc fm G b26 b27 k27 c0 c1 h29 n0 O E_b26 F_b26_value F_b26_coder g_b26 V_b27 ne_b26_b27 hr0 hr1 hy25) e29 (by rw [hml]; rfl) (lenOf pd___C_V_902 rfl) rfl rfl (hb hby at_92) ?_
      intro v30 T30 h30 L30 X30 e30 q30
      obtain ⟨ob30, kb30, rfl, N30, K30, Fv30, Fc30, V_ob30⟩ := q30
      replace N30 := Fr.app N29 N30
      replace E_b26 := E_b26.keep K30
      clear F_b26_coder
      clear F_b26_value
      replace V_b27 := V_b27.keep K30 (ninS (Ne.symm ne_b26_b27) nin0)
      replace O := O.keep K30 (allS g_b26 all0)
      replace hk := Nat.le_trans hk K30.1
      refine Go.st (g' := (mkF m 159 #[.val (.int p0), .val (.int p1), .val (.int p2), .val (.int p3), .val (.int 2), .val (.int c0), .val (.int c1), .val (.int c2), .val (.ref b26), .val (.int 1)] [(.int c1), (.int 1), (.int c0), (.int 0), (.int c0)])) (fun t k => ?_) ?_
      · refine XS.astore X30.here hx rfl (hb hby at_95) rfl rfl (l' := #[.val (.int p0), .val (.int p1), .val (.int p2), .val (.int p3), .val (.int 2), .val (.int c0), .val (.int c1), .val (.int c2), .val (.ref b26), .unset]) rfl ?_
        refine XS.goto X30.here hx rfl (pc0 := 97) (pc' := 127) rfl (hb hby at_97) (by decide) (by decide) ?_
        refine XS.iconst X30.here hx rfl (hb hby at_127) ?_
        refine XS.istore X30.here hx rfl (hb hby at_128) rfl (l' := #[.val (.int p0), .val (.int p1), .val (.int p2), .val (.int p3), .val (.int 2), .val (.int c0), .val (.int c1), .val (.int c2), .val (.ref b26), .val (.int 1)]) rfl ?_
        refine XS.iload X30.here hx rfl (hb hby at_130) rfl ?_
        refine XS.iconst X30.here hx rfl (hb hby at_132) ?_
        refine XS.icmpNo X30.here hx rfl (hb hby at_133) rfl (flt (by decide : ¬ (2 : Int32) < (1 : Int32))).1 ?_
        refine XS.iload X30.here hx rfl (hb hby at_136) rfl ?_
        refine XS.ifNo X30.here hx rfl (hb hby at_138) rfl ((if0 _ _).trans (feq (by decide : ¬ (1 : Int32) = (0 : Int32))).1) ?_
        refine XS.iload X30.here hx rfl (hb hby at_141) rfl ?_
        refine XS.iconst X30.here hx rfl (hb hby at_143) ?_
        refine XS.iload X30.here hx rfl (hb hby at_144) rfl ?_
        refine XS.iload X30.here hx rfl (hb hby at_146) rfl ?_
        refine XS.iconst X30.here hx rfl (hb hby at_148) ?_
        refine XS.icmpNo X30.here hx rfl (hb hby at_149) rfl (tlt (by decide : (1 : Int32) < (2 : Int32))).2.2.2 ?_
        refine XS.iconst X30.here hx rfl (hb hby at_152) ?_
        refine XS.goto X30.here hx rfl (pc0 := 153) (pc' := 157) rfl (hb hby at_153) (by decide) (by decide) ?_
        refine XS.iload X30.here hx rfl (hb hby at_157) rfl ?_
        exact k
      refine Go.callS X30 hx hZ (W := 0) (argsL := [(.int c0), (.int 0), (.int c0), (.int 1), (.int c1)]) (rest := []) hown (wd hw 36 rfl) (wd hw 37 rfl) (wd hw 2 rfl) (wd hw 38 rfl) (by decide) (ct_good_0_1 l Z a0 hw  c0 c0 c1 h30 n0 O ) e30 (by rw [hml]; rfl) (lenOf pd__CZCZC_Z_1117 rfl) rfl rfl (hb hby at_159) ?_
      intro v31 T31 h31 L31 X31 e31 q31
      obtain ⟨rfl, N31, rfl⟩ := q31
      replace N31 := Fr.app N30 N31
      show Go p e below _ T31 (mkF m 162 #[.val (.int p0), .val (.int p1), .val (.int p2), .val (.int p3), .val (.int 2), .val (.int c0), .val (.int c1), .val (.int c2), .val (.ref b26), .val (.int 1)] [(.int (goodF c0 false c0 true c1))])
      by_cases hy32 : (goodF c0 false c0 true c1) = (0 : Int32)
      · skip
        refine Go.st (g' := (mkF m 248 #[.val (.int p0), .val (.int p1), .val (.int p2), .val (.int p3), .val (.int 2), .val (.int c0), .val (.int c1), .val (.int c2), .val (.ref b26), .val (.int 0)] [(.ref b26)])) (fun t k => ?_) ?_
        · refine XS.ifYes X31.here hx rfl (pc0 := 162) (pc' := 169) rfl (hb hby at_162) rfl ((if0 _ _).trans (teq hy32).1) (by decide) (by decide) ?_
          refine XS.iconst X31.here hx rfl (hb hby at_169) ?_
          refine XS.istore X31.here hx rfl (hb hby at_170) rfl (l' := #[.val (.int p0), .val (.int p1), .val (.int p2), .val (.int p3), .val (.int 2), .val (.int c0), .val (.int c1), .val (.int c2), .val (.ref b26), .val (.int 0)]) rfl ?_
          refine XS.iload X31.here hx rfl (hb hby at_172) rfl ?_
          refine XS.iconst X31.here hx rfl (hb hby at_174) ?_
          refine XS.icmpNo X31.here hx rfl (hb hby at_175) rfl (flt (by decide : ¬ (2 : Int32) < (2 : Int32))).1 ?_
          refine XS.iload X31.here hx rfl (hb hby at_178) rfl ?_
          refine XS.ifYes X31.here hx rfl (pc0 := 180) (pc' := 211) rfl (hb hby at_180) rfl ((if0 _ _).trans (teq (by decide : (0 : Int32) = (0 : Int32))).1) (by decide) (by decide) ?_
          refine XS.iconst X31.here hx rfl (hb hby at_211) ?_
          refine XS.istore X31.here hx rfl (hb hby at_212) rfl (l' := #[.val (.int p0), .val (.int p1), .val (.int p2), .val (.int p3), .val (.int 2), .val (.int c0), .val (.int c1), .val (.int c2), .val (.ref b26), .val (.int 0)]) rfl ?_
          refine XS.iload X31.here hx rfl (hb hby at_214) rfl ?_
          refine XS.iconst X31.here hx rfl (hb hby at_216) ?_
          refine XS.icmpYes X31.here hx rfl (pc0 := 217) (pc' := 246) rfl (hb hby at_217) rfl (tlt (by decide : (2 : Int32) < (3 : Int32))).1 (by decide) (by decide) ?_
          refine XS.aload X31.here hx rfl (hb hby at_246) rfl rfl ?_
          exact k
        refine Go.callS X31 hx hZ (W := 0) (argsL := [(.ref b26)]) (rest := []) hown (wd hw 39 rfl) (wd hw 40 rfl) (wd hw 41 rfl) (wd hw 42 rfl) (by decide) (ct_storable_2 l Z a0 hw  b26 c0 c1 h30 n0 O E_b26 (ct_len_2_1 l Z a0 hw zc fm G b26 ob30 kb30 (.int 0) (.int (nar .byte ((c0 >>> ((0 : Int32) &&& 31)).toInt8.toInt32))) (.int (nar .byte ((c0 >>> ((8 : Int32) &&& 31)).toInt8.toInt32))) (.int (nar .byte ((c1 >>> ((0 : Int32) &&& 31)).toInt8.toInt32))) (.int (nar .byte ((c1 >>> ((8 : Int32) &&& 31)).toInt8.toInt32))) h30 n0 O E_b26 Fv30 Fc30 V_ob30) (ct_ch_2_0_1 l Z a0 hw zc fm G b26 ob30 kb30 c0 (.int (nar .byte ((c1 >>> ((0 : Int32) &&& 31)).toInt8.toInt32))) (.int (nar .byte ((c1 >>> ((8 : Int32) &&& 31)).toInt8.toInt32))) h30 n0 O E_b26 Fv30 Fc30 V_ob30 hr0) (ct_ch_2_1_1 l Z a0 hw zc fm G b26 ob30 kb30 c1 (.int (nar .byte ((c0 >>> ((0 : Int32) &&& 31)).toInt8.toInt32))) (.int (nar .byte ((c0 >>> ((8 : Int32) &&& 31)).toInt8.toInt32))) h30 n0 O E_b26 Fv30 Fc30 V_ob30 hr1)) e31 (by rw [hml]; rfl) (lenOf pd__Ljava_lang_String__Z_965 rfl) rfl rfl (hb hby at_248) ?_
        intro v33 T33 h33 L33 X33 e33 q33
        obtain ⟨rfl, N33, rfl⟩ := q33
        replace N33 := Fr.app N31 N33
        refine Go.st (g' := (mkF m 261 #[.val (.int p0), .val (.int p1), .val (.int p2), .val (.int p3), .val (.int 2), .val (.int c0), .val (.int c1), .val (.int c2), .val (.ref b26), .val (.int 0)] [(.int 1)])) (fun t k => ?_) ?_
        · refine XS.iload X33.here hx rfl (hb hby at_251) rfl ?_
          refine XS.icmpNo X33.here hx rfl (hb hby at_253) rfl (teq (own_f2_1 hy32)).2 ?_
          refine XS.iconst X33.here hx rfl (hb hby at_256) ?_
          refine XS.goto X33.here hx rfl (pc0 := 257) (pc' := 261) rfl (hb hby at_257) (by decide) (by decide) ?_
          exact k
        refine Go.retZW X33 hx hlk hret (Or.inr rfl) (hb hby at_261) (by decide) (by decide) e33 hS hk ?_
        exact ⟨rfl, N33⟩
      · skip
        refine Go.st (g' := (mkF m 201 #[.val (.int p0), .val (.int p1), .val (.int p2), .val (.int p3), .val (.int 2), .val (.int c0), .val (.int c1), .val (.int c2), .val (.ref b26), .val (.int 1)] [(.int c2), (.int 0), (.int c0), (.int 1), (.int c1)])) (fun t k => ?_) ?_
        · refine XS.ifNo X31.here hx rfl (hb hby at_162) rfl ((if0 _ _).trans (feq hy32).1) ?_
          refine XS.iconst X31.here hx rfl (hb hby at_165) ?_
          refine XS.goto X31.here hx rfl (pc0 := 166) (pc' := 170) rfl (hb hby at_166) (by decide) (by decide) ?_
          refine XS.istore X31.here hx rfl (hb hby at_170) rfl (l' := #[.val (.int p0), .val (.int p1), .val (.int p2), .val (.int p3), .val (.int 2), .val (.int c0), .val (.int c1), .val (.int c2), .val (.ref b26), .val (.int 1)]) rfl ?_
          refine XS.iload X31.here hx rfl (hb hby at_172) rfl ?_
          refine XS.iconst X31.here hx rfl (hb hby at_174) ?_
          refine XS.icmpNo X31.here hx rfl (hb hby at_175) rfl (flt (by decide : ¬ (2 : Int32) < (2 : Int32))).1 ?_
          refine XS.iload X31.here hx rfl (hb hby at_178) rfl ?_
          refine XS.ifNo X31.here hx rfl (hb hby at_180) rfl ((if0 _ _).trans (feq (by decide : ¬ (1 : Int32) = (0 : Int32))).1) ?_
          refine XS.iload X31.here hx rfl (hb hby at_183) rfl ?_
          refine XS.iconst X31.here hx rfl (hb hby at_185) ?_
          refine XS.iload X31.here hx rfl (hb hby at_186) rfl ?_
          refine XS.iload X31.here hx rfl (hb hby at_188) rfl ?_
          refine XS.iconst X31.here hx rfl (hb hby at_190) ?_
          refine XS.icmpYes X31.here hx rfl (pc0 := 191) (pc' := 198) rfl (hb hby at_191) rfl (flt (by decide : ¬ (2 : Int32) < (2 : Int32))).2.2.2 (by decide) (by decide) ?_
          refine XS.iconst X31.here hx rfl (hb hby at_198) ?_
          refine XS.iload X31.here hx rfl (hb hby at_199) rfl ?_
          exact k
        refine Go.callS X31 hx hZ (W := 0) (argsL := [(.int c1), (.int 1), (.int c0), (.int 0), (.int c2)]) (rest := []) hown (wd hw 36 rfl) (wd hw 37 rfl) (wd hw 2 rfl) (wd hw 38 rfl) (by decide) (ct_good_1_0 l Z a0 hw  c1 c0 c2 h30 n0 O ) e31 (by rw [hml]; rfl) (lenOf pd__CZCZC_Z_1117 rfl) rfl rfl (hb hby at_201) ?_
        intro v34 T34 h34 L34 X34 e34 q34
        obtain ⟨rfl, N34, rfl⟩ := q34
        replace N34 := Fr.app N31 N34
        show Go p e below _ T34 (mkF m 204 #[.val (.int p0), .val (.int p1), .val (.int p2), .val (.int p3), .val (.int 2), .val (.int c0), .val (.int c1), .val (.int c2), .val (.ref b26), .val (.int 1)] [(.int (goodF c1 true c0 false c2))])
        by_cases hy35 : (goodF c1 true c0 false c2) = (0 : Int32)
        · skip
          refine Go.st (g' := (mkF m 248 #[.val (.int p0), .val (.int p1), .val (.int p2), .val (.int p3), .val (.int 2), .val (.int c0), .val (.int c1), .val (.int c2), .val (.ref b26), .val (.int 0)] [(.ref b26)])) (fun t k => ?_) ?_
          · refine XS.ifYes X34.here hx rfl (pc0 := 204) (pc' := 211) rfl (hb hby at_204) rfl ((if0 _ _).trans (teq hy35).1) (by decide) (by decide) ?_
            refine XS.iconst X34.here hx rfl (hb hby at_211) ?_
            refine XS.istore X34.here hx rfl (hb hby at_212) rfl (l' := #[.val (.int p0), .val (.int p1), .val (.int p2), .val (.int p3), .val (.int 2), .val (.int c0), .val (.int c1), .val (.int c2), .val (.ref b26), .val (.int 0)]) rfl ?_
            refine XS.iload X34.here hx rfl (hb hby at_214) rfl ?_
            refine XS.iconst X34.here hx rfl (hb hby at_216) ?_
            refine XS.icmpYes X34.here hx rfl (pc0 := 217) (pc' := 246) rfl (hb hby at_217) rfl (tlt (by decide : (2 : Int32) < (3 : Int32))).1 (by decide) (by decide) ?_
            refine XS.aload X34.here hx rfl (hb hby at_246) rfl rfl ?_
            exact k
          refine Go.callS X34 hx hZ (W := 0) (argsL := [(.ref b26)]) (rest := []) hown (wd hw 39 rfl) (wd hw 40 rfl) (wd hw 41 rfl) (wd hw 42 rfl) (by decide) (ct_storable_2 l Z a0 hw  b26 c0 c1 h30 n0 O E_b26 (ct_len_2_1 l Z a0 hw zc fm G b26 ob30 kb30 (.int 0) (.int (nar .byte ((c0 >>> ((0 : Int32) &&& 31)).toInt8.toInt32))) (.int (nar .byte ((c0 >>> ((8 : Int32) &&& 31)).toInt8.toInt32))) (.int (nar .byte ((c1 >>> ((0 : Int32) &&& 31)).toInt8.toInt32))) (.int (nar .byte ((c1 >>> ((8 : Int32) &&& 31)).toInt8.toInt32))) h30 n0 O E_b26 Fv30 Fc30 V_ob30) (ct_ch_2_0_1 l Z a0 hw zc fm G b26 ob30 kb30 c0 (.int (nar .byte ((c1 >>> ((0 : Int32) &&& 31)).toInt8.toInt32))) (.int (nar .byte ((c1 >>> ((8 : Int32) &&& 31)).toInt8.toInt32))) h30 n0 O E_b26 Fv30 Fc30 V_ob30 hr0) (ct_ch_2_1_1 l Z a0 hw zc fm G b26 ob30 kb30 c1 (.int (nar .byte ((c0 >>> ((0 : Int32) &&& 31)).toInt8.toInt32))) (.int (nar .byte ((c0 >>> ((8 : Int32) &&& 31)).toInt8.toInt32))) h30 n0 O E_b26 Fv30 Fc30 V_ob30 hr1)) e34 (by rw [hml]; rfl) (lenOf pd__Ljava_lang_String__Z_965 rfl) rfl rfl (hb hby at_248) ?_
          intro v36 T36 h36 L36 X36 e36 q36
          obtain ⟨rfl, N36, rfl⟩ := q36
          replace N36 := Fr.app N34 N36
          refine Go.st (g' := (mkF m 261 #[.val (.int p0), .val (.int p1), .val (.int p2), .val (.int p3), .val (.int 2), .val (.int c0), .val (.int c1), .val (.int c2), .val (.ref b26), .val (.int 0)] [(.int 1)])) (fun t k => ?_) ?_
          · refine XS.iload X36.here hx rfl (hb hby at_251) rfl ?_
            refine XS.icmpNo X36.here hx rfl (hb hby at_253) rfl (teq (own_f2_2 hy32 hy35)).2 ?_
            refine XS.iconst X36.here hx rfl (hb hby at_256) ?_
            refine XS.goto X36.here hx rfl (pc0 := 257) (pc' := 261) rfl (hb hby at_257) (by decide) (by decide) ?_
            exact k
          refine Go.retZW X36 hx hlk hret (Or.inr rfl) (hb hby at_261) (by decide) (by decide) e36 hS hk ?_
          exact ⟨rfl, N36⟩
        · skip
          refine Go.st (g' := (mkF m 248 #[.val (.int p0), .val (.int p1), .val (.int p2), .val (.int p3), .val (.int 2), .val (.int c0), .val (.int c1), .val (.int c2), .val (.ref b26), .val (.int 1)] [(.ref b26)])) (fun t k => ?_) ?_
          · refine XS.ifNo X34.here hx rfl (hb hby at_204) rfl ((if0 _ _).trans (feq hy35).1) ?_
            refine XS.iconst X34.here hx rfl (hb hby at_207) ?_
            refine XS.goto X34.here hx rfl (pc0 := 208) (pc' := 212) rfl (hb hby at_208) (by decide) (by decide) ?_
            refine XS.istore X34.here hx rfl (hb hby at_212) rfl (l' := #[.val (.int p0), .val (.int p1), .val (.int p2), .val (.int p3), .val (.int 2), .val (.int c0), .val (.int c1), .val (.int c2), .val (.ref b26), .val (.int 1)]) rfl ?_
            refine XS.iload X34.here hx rfl (hb hby at_214) rfl ?_
            refine XS.iconst X34.here hx rfl (hb hby at_216) ?_
            refine XS.icmpYes X34.here hx rfl (pc0 := 217) (pc' := 246) rfl (hb hby at_217) rfl (tlt (by decide : (2 : Int32) < (3 : Int32))).1 (by decide) (by decide) ?_
            refine XS.aload X34.here hx rfl (hb hby at_246) rfl rfl ?_
            exact k
          refine Go.callS X34 hx hZ (W := 0) (argsL := [(.ref b26)]) (rest := []) hown (wd hw 39 rfl) (wd hw 40 rfl) (wd hw 41 rfl) (wd hw 42 rfl) (by decide) (ct_storable_2 l Z a0 hw  b26 c0 c1 h30 n0 O E_b26 (ct_len_2_1 l Z a0 hw zc fm G b26 ob30 kb30 (.int 0) (.int (nar .byte ((c0 >>> ((0 : Int32) &&& 31)).toInt8.toInt32))) (.int (nar .byte ((c0 >>> ((8 : Int32) &&& 31)).toInt8.toInt32))) (.int (nar .byte ((c1 >>> ((0 : Int32) &&& 31)).toInt8.toInt32))) (.int (nar .byte ((c1 >>> ((8 : Int32) &&& 31)).toInt8.toInt32))) h30 n0 O E_b26 Fv30 Fc30 V_ob30) (ct_ch_2_0_1 l Z a0 hw zc fm G b26 ob30 kb30 c0 (.int (nar .byte ((c1 >>> ((0 : Int32) &&& 31)).toInt8.toInt32))) (.int (nar .byte ((c1 >>> ((8 : Int32) &&& 31)).toInt8.toInt32))) h30 n0 O E_b26 Fv30 Fc30 V_ob30 hr0) (ct_ch_2_1_1 l Z a0 hw zc fm G b26 ob30 kb30 c1 (.int (nar .byte ((c0 >>> ((0 : Int32) &&& 31)).toInt8.toInt32))) (.int (nar .byte ((c0 >>> ((8 : Int32) &&& 31)).toInt8.toInt32))) h30 n0 O E_b26 Fv30 Fc30 V_ob30 hr1)) e34 (by rw [hml]; rfl) (lenOf pd__Ljava_lang_String__Z_965 rfl) rfl rfl (hb hby at_248) ?_
          intro v37 T37 h37 L37 X37 e37 q37
          obtain ⟨rfl, N37, rfl⟩ := q37
          replace N37 := Fr.app N34 N37
          refine Go.st (g' := (mkF m 261 #[.val (.int p0), .val (.int p1), .val (.int p2), .val (.int p3), .val (.int 2), .val (.int c0), .val (.int c1), .val (.int c2), .val (.ref b26), .val (.int 1)] [(.int 1)])) (fun t k => ?_) ?_
          · refine XS.iload X37.here hx rfl (hb hby at_251) rfl ?_
            refine XS.icmpNo X37.here hx rfl (hb hby at_253) rfl (teq (own_t2 hy32 hy35)).2 ?_
            refine XS.iconst X37.here hx rfl (hb hby at_256) ?_
            refine XS.goto X37.here hx rfl (pc0 := 257) (pc' := 261) rfl (hb hby at_257) (by decide) (by decide) ?_
            exact k
          refine Go.retZW X37 hx hlk hret (Or.inr rfl) (hb hby at_261) (by decide) (by decide) e37 hS hk ?_
          exact ⟨rfl, N37⟩
    · skip
      show Go p e below _ T3 (mkF m 75 #[.val (.int p0), .val (.int p1), .val (.int p2), .val (.int p3), .val (.int 2), .val (.int c0), .val (.int c1), .val (.int c2), .unset, .unset] [])
      by_cases hy38 : (255 : Int32) < c1
      · skip
        show Go p e below _ T3 (mkF m 75 #[.val (.int p0), .val (.int p1), .val (.int p2), .val (.int p3), .val (.int 2), .val (.int c0), .val (.int c1), .val (.int c2), .unset, .unset] [])
        refine Go.newO X3 hx hZ hown (wd hw 6 rfl) (wd hw 7 rfl) (wd hw 8 rfl) e3 (hb hby at_75) (by decide) (by decide) ?_
        intro T39 h39 b39 X39 e39 E39 g39 A39 D39
        have lb39 := Nat.le_of_eq g39.symm
        have g_b39 : n0 ≤ b39 := Nat.le_trans (OwnKit.Old.le O) lb39
        replace O := O.ext E39
        replace hk := Nat.le_trans hk E39.1
        have E_b39 := A39
        have F_b39_coder : Fld Z h39 b39 "java/lang/String" "coder" "B" (.int 0) := D39 (Or.inr (wd hw 33 rfl)) (ty := .byte) (by decide)
        have F_b39_value : Fld Z h39 b39 "java/lang/String" "value" "[B" .null := D39 (Or.inr (wd hw 35 rfl)) (ty := (.array .byte)) (by decide)
        refine Go.st (g' := (mkF m 80 #[.val (.int p0), .val (.int p1), .val (.int p2), .val (.int p3), .val (.int 2), .val (.int c0), .val (.int c1), .val (.int c2), .unset, .unset] [(.int 2), (.ref b39), (.ref b39)])) (fun t k => ?_) ?_
        · refine XS.dup X39.here hx rfl (hb hby at_78) rfl rfl ?_
          refine XS.iconst X39.here hx rfl (hb hby at_79) ?_
          exact k
        refine Go.newP X39 hx hZ (wd hw 9 rfl) e39 (hb hby at_80) (by decide) (cap := 2) (by decide) (by decide) (by decide) (by decide) ?_
        intro T40 h40 b40 k40 X40 e40 E40 g40 V_b40
        have lb40 := Nat.le_of_eq g40.symm
        have ne_b39_b40 : b39 ≠ b40 := Nat.ne_of_lt (Nat.lt_of_lt_of_le E_b39.lt lb40)
        have g_b40 : n0 ≤ b40 := Nat.le_trans (OwnKit.Old.le O) lb40
        replace E_b39 := E_b39.ext E40
        replace F_b39_coder := F_b39_coder.ext E40
        replace F_b39_value := F_b39_value.ext E40
        replace O := O.ext E40
        replace hk := Nat.le_trans hk E40.1
        replace V_b40 := V_b40.pad (pad_rep [] (.int 0) 2)
        replace V_b40 : Arv Z h40 b40 k40 .char (2 : Int32) [(.int 0), (.int 0)] (.int 0) := V_b40
        refine Go.st (g' := (mkF m 86 #[.val (.int p0), .val (.int p1), .val (.int p2), .val (.int p3), .val (.int 2), .val (.int c0), .val (.int c1), .val (.int c2), .unset, .unset] [(.int c0), (.int 0), (.ref b40), (.ref b40), (.ref b39), (.ref b39)])) (fun t k => ?_) ?_
        · refine XS.dup X40.here hx rfl (hb hby at_82) rfl rfl ?_
          refine XS.iconst X40.here hx rfl (hb hby at_83) ?_
          refine XS.iload X40.here hx rfl (hb hby at_84) rfl ?_
          exact k
        refine Go.nstV X40 hx hZ e40 V_b40 (j := (0 : Int32)) ⟨by decide, by decide⟩ 0 rfl (Nat.le_of_ble_eq_true rfl) (Or.inl ⟨rfl, rfl⟩) (hb hby at_86) ?_
        intro T41 h41 X41 e41 W41 Vn41
        replace E_b39 := E_b39.wr W41
        replace F_b39_coder := F_b39_coder.other W41 (Or.inl ne_b39_b40)
        replace F_b39_value := F_b39_value.other W41 (Or.inl ne_b39_b40)
        replace O := O.wr W41 g_b40
        have N41 := Fr.snoc X41 N3 g_b40
        replace hk := Nat.le_trans hk (Nat.le_of_eq W41.size.symm)
        replace V_b40 : Arv Z h41 b40 k40 .char (2 : Int32) [(.int (nar .char c0)), (.int 0)] (.int 0) := Vn41
        clear Vn41
        rw [own_nar hr0] at V_b40
        refine Go.st (g' := (mkF m 91 #[.val (.int p0), .val (.int p1), .val (.int p2), .val (.int p3), .val (.int 2), .val (.int c0), .val (.int c1), .val (.int c2), .unset, .unset] [(.int c1), (.int 1), (.ref b40), (.ref b40), (.ref b39), (.ref b39)])) (fun t k => ?_) ?_
        · refine XS.dup X41.here hx rfl (hb hby at_87) rfl rfl ?_
          refine XS.iconst X41.here hx rfl (hb hby at_88) ?_
          refine XS.iload X41.here hx rfl (hb hby at_89) rfl ?_
          exact k
        refine Go.nstV X41 hx hZ e41 V_b40 (j := (1 : Int32)) ⟨by decide, by decide⟩ 1 rfl (Nat.le_of_ble_eq_true rfl) (Or.inl ⟨rfl, rfl⟩) (hb hby at_91) ?_
        intro T42 h42 X42 e42 W42 Vn42
        replace E_b39 := E_b39.wr W42
        replace F_b39_coder := F_b39_coder.other W42 (Or.inl ne_b39_b40)
        replace F_b39_value := F_b39_value.other W42 (Or.inl ne_b39_b40)
        replace O := O.wr W42 g_b40
        have N42 := Fr.snoc X42 N41 g_b40
        replace hk := Nat.le_trans hk (Nat.le_of_eq W42.size.symm)
        replace V_b40 : Arv Z h42 b40 k40 .char (2 : Int32) [(.int c0), (.int (nar .char c1))] (.int 0) := Vn42
        clear Vn42
        rw [own_nar hr1] at V_b40
        show Go p e below _ T42 (mkF m 92 #[.val (.int p0), .val (.int p1), .val (.int p2), .val (.int p3), .val (.int 2), .val (.int c0), .val (.int c1), .val (.int c2), .unset, .unset] [(.ref b40), (.ref b39), (.ref b39)])
        refine Go.callC X42 hx hZ (W := 1) (argsL := [(.ref b40)]) (rest := [(.ref b39)]) hown rfl (wd hw 10 rfl) (wd hw 11 rfl) (wd hw 8 rfl) (wd hw 12 rfl) (by decide) (ct_si1_2_1 l Z a0 hw zc fm G b39 b40 k40 c0 c1 h42 n0 O E_b39 F_b39_value F_b39_coder g_b39 V_b40 ne_b39_b40 hr0 hr1 hy25 hy38) e42 (by rw [hml]; rfl) (lenOf pd___C_V_902 rfl) rfl rfl (hb hby at_92) ?_
        intro v43 T43 h43 L43 X43 e43 q43
        obtain ⟨ob43, kb43, rfl, N43, K43, Fv43, Fc43, V_ob43⟩ := q43
        replace N43 := Fr.app N42 N43
        replace E_b39 := E_b39.keep K43
        clear F_b39_coder
        clear F_b39_value
        replace V_b40 := V_b40.keep K43 (ninS (Ne.symm ne_b39_b40) nin0)
        replace O := O.keep K43 (allS g_b39 all0)
        replace hk := Nat.le_trans hk K43.1
        refine Go.st (g' := (mkF m 159 #[.val (.int p0), .val (.int p1), .val (.int p2), .val (.int p3), .val (.int 2), .val (.int c0), .val (.int c1), .val (.int c2), .val (.ref b39), .val (.int 1)] [(.int c1), (.int 1), (.int c0), (.int 0), (.int c0)])) (fun t k => ?_) ?_
        · refine XS.astore X43.here hx rfl (hb hby at_95) rfl rfl (l' := #[.val (.int p0), .val (.int p1), .val (.int p2), .val (.int p3), .val (.int 2), .val (.int c0), .val (.int c1), .val (.int c2), .val (.ref b39), .unset]) rfl ?_
          refine XS.goto X43.here hx rfl (pc0 := 97) (pc' := 127) rfl (hb hby at_97) (by decide) (by decide) ?_
          refine XS.iconst X43.here hx rfl (hb hby at_127) ?_
          refine XS.istore X43.here hx rfl (hb hby at_128) rfl (l' := #[.val (.int p0), .val (.int p1), .val (.int p2), .val (.int p3), .val (.int 2), .val (.int c0), .val (.int c1), .val (.int c2), .val (.ref b39), .val (.int 1)]) rfl ?_
          refine XS.iload X43.here hx rfl (hb hby at_130) rfl ?_
          refine XS.iconst X43.here hx rfl (hb hby at_132) ?_
          refine XS.icmpNo X43.here hx rfl (hb hby at_133) rfl (flt (by decide : ¬ (2 : Int32) < (1 : Int32))).1 ?_
          refine XS.iload X43.here hx rfl (hb hby at_136) rfl ?_
          refine XS.ifNo X43.here hx rfl (hb hby at_138) rfl ((if0 _ _).trans (feq (by decide : ¬ (1 : Int32) = (0 : Int32))).1) ?_
          refine XS.iload X43.here hx rfl (hb hby at_141) rfl ?_
          refine XS.iconst X43.here hx rfl (hb hby at_143) ?_
          refine XS.iload X43.here hx rfl (hb hby at_144) rfl ?_
          refine XS.iload X43.here hx rfl (hb hby at_146) rfl ?_
          refine XS.iconst X43.here hx rfl (hb hby at_148) ?_
          refine XS.icmpNo X43.here hx rfl (hb hby at_149) rfl (tlt (by decide : (1 : Int32) < (2 : Int32))).2.2.2 ?_
          refine XS.iconst X43.here hx rfl (hb hby at_152) ?_
          refine XS.goto X43.here hx rfl (pc0 := 153) (pc' := 157) rfl (hb hby at_153) (by decide) (by decide) ?_
          refine XS.iload X43.here hx rfl (hb hby at_157) rfl ?_
          exact k
        refine Go.callS X43 hx hZ (W := 0) (argsL := [(.int c0), (.int 0), (.int c0), (.int 1), (.int c1)]) (rest := []) hown (wd hw 36 rfl) (wd hw 37 rfl) (wd hw 2 rfl) (wd hw 38 rfl) (by decide) (ct_good_0_1 l Z a0 hw  c0 c0 c1 h43 n0 O ) e43 (by rw [hml]; rfl) (lenOf pd__CZCZC_Z_1117 rfl) rfl rfl (hb hby at_159) ?_
        intro v44 T44 h44 L44 X44 e44 q44
        obtain ⟨rfl, N44, rfl⟩ := q44
        replace N44 := Fr.app N43 N44
        show Go p e below _ T44 (mkF m 162 #[.val (.int p0), .val (.int p1), .val (.int p2), .val (.int p3), .val (.int 2), .val (.int c0), .val (.int c1), .val (.int c2), .val (.ref b39), .val (.int 1)] [(.int (goodF c0 false c0 true c1))])
        by_cases hy45 : (goodF c0 false c0 true c1) = (0 : Int32)
        · skip
          refine Go.st (g' := (mkF m 248 #[.val (.int p0), .val (.int p1), .val (.int p2), .val (.int p3), .val (.int 2), .val (.int c0), .val (.int c1), .val (.int c2), .val (.ref b39), .val (.int 0)] [(.ref b39)])) (fun t k => ?_) ?_
          · refine XS.ifYes X44.here hx rfl (pc0 := 162) (pc' := 169) rfl (hb hby at_162) rfl ((if0 _ _).trans (teq hy45).1) (by decide) (by decide) ?_
            refine XS.iconst X44.here hx rfl (hb hby at_169) ?_
            refine XS.istore X44.here hx rfl (hb hby at_170) rfl (l' := #[.val (.int p0), .val (.int p1), .val (.int p2), .val (.int p3), .val (.int 2), .val (.int c0), .val (.int c1), .val (.int c2), .val (.ref b39), .val (.int 0)]) rfl ?_
            refine XS.iload X44.here hx rfl (hb hby at_172) rfl ?_
            refine XS.iconst X44.here hx rfl (hb hby at_174) ?_
            refine XS.icmpNo X44.here hx rfl (hb hby at_175) rfl (flt (by decide : ¬ (2 : Int32) < (2 : Int32))).1 ?_
            refine XS.iload X44.here hx rfl (hb hby at_178) rfl ?_
            refine XS.ifYes X44.here hx rfl (pc0 := 180) (pc' := 211) rfl (hb hby at_180) rfl ((if0 _ _).trans (teq (by decide : (0 : Int32) = (0 : Int32))).1) (by decide) (by decide) ?_
            refine XS.iconst X44.here hx rfl (hb hby at_211) ?_
            refine XS.istore X44.here hx rfl (hb hby at_212) rfl (l' := #[.val (.int p0), .val (.int p1), .val (.int p2), .val (.int p3), .val (.int 2), .val (.int c0), .val (.int c1), .val (.int c2), .val (.ref b39), .val (.int 0)]) rfl ?_
            refine XS.iload X44.here hx rfl (hb hby at_214) rfl ?_
            refine XS.iconst X44.here hx rfl (hb hby at_216) ?_
            refine XS.icmpYes X44.here hx rfl (pc0 := 217) (pc' := 246) rfl (hb hby at_217) rfl (tlt (by decide : (2 : Int32) < (3 : Int32))).1 (by decide) (by decide) ?_
            refine XS.aload X44.here hx rfl (hb hby at_246) rfl rfl ?_
            exact k
          refine Go.callS X44 hx hZ (W := 0) (argsL := [(.ref b39)]) (rest := []) hown (wd hw 39 rfl) (wd hw 40 rfl) (wd hw 41 rfl) (wd hw 42 rfl) (by decide) (ct_storable_2 l Z a0 hw  b39 c0 c1 h43 n0 O E_b39 (ct_len_2_1 l Z a0 hw zc fm G b39 ob43 kb43 (.int 0) (.int (nar .byte ((c0 >>> ((0 : Int32) &&& 31)).toInt8.toInt32))) (.int (nar .byte ((c0 >>> ((8 : Int32) &&& 31)).toInt8.toInt32))) (.int (nar .byte ((c1 >>> ((0 : Int32) &&& 31)).toInt8.toInt32))) (.int (nar .byte ((c1 >>> ((8 : Int32) &&& 31)).toInt8.toInt32))) h43 n0 O E_b39 Fv43 Fc43 V_ob43) (ct_ch_2_0_1 l Z a0 hw zc fm G b39 ob43 kb43 c0 (.int (nar .byte ((c1 >>> ((0 : Int32) &&& 31)).toInt8.toInt32))) (.int (nar .byte ((c1 >>> ((8 : Int32) &&& 31)).toInt8.toInt32))) h43 n0 O E_b39 Fv43 Fc43 V_ob43 hr0) (ct_ch_2_1_1 l Z a0 hw zc fm G b39 ob43 kb43 c1 (.int (nar .byte ((c0 >>> ((0 : Int32) &&& 31)).toInt8.toInt32))) (.int (nar .byte ((c0 >>> ((8 : Int32) &&& 31)).toInt8.toInt32))) h43 n0 O E_b39 Fv43 Fc43 V_ob43 hr1)) e44 (by rw [hml]; rfl) (lenOf pd__Ljava_lang_String__Z_965 rfl) rfl rfl (hb hby at_248) ?_
          intro v46 T46 h46 L46 X46 e46 q46
          obtain ⟨rfl, N46, rfl⟩ := q46
          replace N46 := Fr.app N44 N46
          refine Go.st (g' := (mkF m 261 #[.val (.int p0), .val (.int p1), .val (.int p2), .val (.int p3), .val (.int 2), .val (.int c0), .val (.int c1), .val (.int c2), .val (.ref b39), .val (.int 0)] [(.int 1)])) (fun t k => ?_) ?_
          · refine XS.iload X46.here hx rfl (hb hby at_251) rfl ?_
            refine XS.icmpNo X46.here hx rfl (hb hby at_253) rfl (teq (own_f2_1 hy45)).2 ?_
            refine XS.iconst X46.here hx rfl (hb hby at_256) ?_
            refine XS.goto X46.here hx rfl (pc0 := 257) (pc' := 261) rfl (hb hby at_257) (by decide) (by decide) ?_
            exact k
          refine Go.retZW X46 hx hlk hret (Or.inr rfl) (hb hby at_261) (by decide) (by decide) e46 hS hk ?_
          exact ⟨rfl, N46⟩
        · skip
          refine Go.st (g' := (mkF m 201 #[.val (.int p0), .val (.int p1), .val (.int p2), .val (.int p3), .val (.int 2), .val (.int c0), .val (.int c1), .val (.int c2), .val (.ref b39), .val (.int 1)] [(.int c2), (.int 0), (.int c0), (.int 1), (.int c1)])) (fun t k => ?_) ?_
          · refine XS.ifNo X44.here hx rfl (hb hby at_162) rfl ((if0 _ _).trans (feq hy45).1) ?_
            refine XS.iconst X44.here hx rfl (hb hby at_165) ?_
            refine XS.goto X44.here hx rfl (pc0 := 166) (pc' := 170) rfl (hb hby at_166) (by decide) (by decide) ?_
            refine XS.istore X44.here hx rfl (hb hby at_170) rfl (l' := #[.val (.int p0), .val (.int p1), .val (.int p2), .val (.int p3), .val (.int 2), .val (.int c0), .val (.int c1), .val (.int c2), .val (.ref b39), .val (.int 1)]) rfl ?_
            refine XS.iload X44.here hx rfl (hb hby at_172) rfl ?_
            refine XS.iconst X44.here hx rfl (hb hby at_174) ?_
            refine XS.icmpNo X44.here hx rfl (hb hby at_175) rfl (flt (by decide : ¬ (2 : Int32) < (2 : Int32))).1 ?_
            refine XS.iload X44.here hx rfl (hb hby at_178) rfl ?_
            refine XS.ifNo X44.here hx rfl (hb hby at_180) rfl ((if0 _ _).trans (feq (by decide : ¬ (1 : Int32) = (0 : Int32))).1) ?_
            refine XS.iload X44.here hx rfl (hb hby at_183) rfl ?_
            refine XS.iconst X44.here hx rfl (hb hby at_185) ?_
            refine XS.iload X44.here hx rfl (hb hby at_186) rfl ?_
            refine XS.iload X44.here hx rfl (hb hby at_188) rfl ?_
            refine XS.iconst X44.here hx rfl (hb hby at_190) ?_
            refine XS.icmpYes X44.here hx rfl (pc0 := 191) (pc' := 198) rfl (hb hby at_191) rfl (flt (by decide : ¬ (2 : Int32) < (2 : Int32))).2.2.2 (by decide) (by decide) ?_
            refine XS.iconst X44.here hx rfl (hb hby at_198) ?_
            refine XS.iload X44.here hx rfl (hb hby at_199) rfl ?_
            exact k
          refine Go.callS X44 hx hZ (W := 0) (argsL := [(.int c1), (.int 1), (.int c0), (.int 0), (.int c2)]) (rest := []) hown (wd hw 36 rfl) (wd hw 37 rfl) (wd hw 2 rfl) (wd hw 38 rfl) (by decide) (ct_good_1_0 l Z a0 hw  c1 c0 c2 h43 n0 O ) e44 (by rw [hml]; rfl) (lenOf pd__CZCZC_Z_1117 rfl) rfl rfl (hb hby at_201) ?_
          intro v47 T47 h47 L47 X47 e47 q47
          obtain ⟨rfl, N47, rfl⟩ := q47
          replace N47 := Fr.app N44 N47
          show Go p e below _ T47 (mkF m 204 #[.val (.int p0), .val (.int p1), .val (.int p2), .val (.int p3), .val (.int 2), .val (.int c0), .val (.int c1), .val (.int c2), .val (.ref b39), .val (.int 1)] [(.int (goodF c1 true c0 false c2))])
          by_cases hy48 : (goodF c1 true c0 false c2) = (0 : Int32)
          · skip
            refine Go.st (g' := (mkF m 248 #[.val (.int p0), .val (.int p1), .val (.int p2), .val (.int p3), .val (.int 2), .val (.int c0), .val (.int c1), .val (.int c2), .val (.ref b39), .val (.int 0)] [(.ref b39)])) (fun t k => ?_) ?_
            · refine XS.ifYes X47.here hx rfl (pc0 := 204) (pc' := 211) rfl (hb hby at_204) rfl ((if0 _ _).trans (teq hy48).1) (by decide) (by decide) ?_
              refine XS.iconst X47.here hx rfl (hb hby at_211) ?_
              refine XS.istore X47.here hx rfl (hb hby at_212) rfl (l' := #[.val (.int p0), .val (.int p1), .val (.int p2), .val (.int p3), .val (.int 2), .val (.int c0), .val (.int c1), .val (.int c2), .val (.ref b39), .val (.int 0)]) rfl ?_
              refine XS.iload X47.here hx rfl (hb hby at_214) rfl ?_
              refine XS.iconst X47.here hx rfl (hb hby at_216) ?_
              refine XS.icmpYes X47.here hx rfl (pc0 := 217) (pc' := 246) rfl (hb hby at_217) rfl (tlt (by decide : (2 : Int32) < (3 : Int32))).1 (by decide) (by decide) ?_
              refine XS.aload X47.here hx rfl (hb hby at_246) rfl rfl ?_
              exact k
            refine Go.callS X47 hx hZ (W := 0) (argsL := [(.ref b39)]) (rest := []) hown (wd hw 39 rfl) (wd hw 40 rfl) (wd hw 41 rfl) (wd hw 42 rfl) (by decide) (ct_storable_2 l Z a0 hw  b39 c0 c1 h43 n0 O E_b39 (ct_len_2_1 l Z a0 hw zc fm G b39 ob43 kb43 (.int 0) (.int (nar .byte ((c0 >>> ((0 : Int32) &&& 31)).toInt8.toInt32))) (.int (nar .byte ((c0 >>> ((8 : Int32) &&& 31)).toInt8.toInt32))) (.int (nar .byte ((c1 >>> ((0 : Int32) &&& 31)).toInt8.toInt32))) (.int (nar .byte ((c1 >>> ((8 : Int32) &&& 31)).toInt8.toInt32))) h43 n0 O E_b39 Fv43 Fc43 V_ob43) (ct_ch_2_0_1 l Z a0 hw zc fm G b39 ob43 kb43 c0 (.int (nar .byte ((c1 >>> ((0 : Int32) &&& 31)).toInt8.toInt32))) (.int (nar .byte ((c1 >>> ((8 : Int32) &&& 31)).toInt8.toInt32))) h43 n0 O E_b39 Fv43 Fc43 V_ob43 hr0) (ct_ch_2_1_1 l Z a0 hw zc fm G b39 ob43 kb43 c1 (.int (nar .byte ((c0 >>> ((0 : Int32) &&& 31)).toInt8.toInt32))) (.int (nar .byte ((c0 >>> ((8 : Int32) &&& 31)).toInt8.toInt32))) h43 n0 O E_b39 Fv43 Fc43 V_ob43 hr1)) e47 (by rw [hml]; rfl) (lenOf pd__Ljava_lang_String__Z_965 rfl) rfl rfl (hb hby at_248) ?_
            intro v49 T49 h49 L49 X49 e49 q49
            obtain ⟨rfl, N49, rfl⟩ := q49
            replace N49 := Fr.app N47 N49
            refine Go.st (g' := (mkF m 261 #[.val (.int p0), .val (.int p1), .val (.int p2), .val (.int p3), .val (.int 2), .val (.int c0), .val (.int c1), .val (.int c2), .val (.ref b39), .val (.int 0)] [(.int 1)])) (fun t k => ?_) ?_
            · refine XS.iload X49.here hx rfl (hb hby at_251) rfl ?_
              refine XS.icmpNo X49.here hx rfl (hb hby at_253) rfl (teq (own_f2_2 hy45 hy48)).2 ?_
              refine XS.iconst X49.here hx rfl (hb hby at_256) ?_
              refine XS.goto X49.here hx rfl (pc0 := 257) (pc' := 261) rfl (hb hby at_257) (by decide) (by decide) ?_
              exact k
            refine Go.retZW X49 hx hlk hret (Or.inr rfl) (hb hby at_261) (by decide) (by decide) e49 hS hk ?_
            exact ⟨rfl, N49⟩
          · skip
            refine Go.st (g' := (mkF m 248 #[.val (.int p0), .val (.int p1), .val (.int p2), .val (.int p3), .val (.int 2), .val (.int c0), .val (.int c1), .val (.int c2), .val (.ref b39), .val (.int 1)] [(.ref b39)])) (fun t k => ?_) ?_
            · refine XS.ifNo X47.here hx rfl (hb hby at_204) rfl ((if0 _ _).trans (feq hy48).1) ?_
              refine XS.iconst X47.here hx rfl (hb hby at_207) ?_
              refine XS.goto X47.here hx rfl (pc0 := 208) (pc' := 212) rfl (hb hby at_208) (by decide) (by decide) ?_
              refine XS.istore X47.here hx rfl (hb hby at_212) rfl (l' := #[.val (.int p0), .val (.int p1), .val (.int p2), .val (.int p3), .val (.int 2), .val (.int c0), .val (.int c1), .val (.int c2), .val (.ref b39), .val (.int 1)]) rfl ?_
              refine XS.iload X47.here hx rfl (hb hby at_214) rfl ?_
              refine XS.iconst X47.here hx rfl (hb hby at_216) ?_
              refine XS.icmpYes X47.here hx rfl (pc0 := 217) (pc' := 246) rfl (hb hby at_217) rfl (tlt (by decide : (2 : Int32) < (3 : Int32))).1 (by decide) (by decide) ?_
              refine XS.aload X47.here hx rfl (hb hby at_246) rfl rfl ?_
              exact k
            refine Go.callS X47 hx hZ (W := 0) (argsL := [(.ref b39)]) (rest := []) hown (wd hw 39 rfl) (wd hw 40 rfl) (wd hw 41 rfl) (wd hw 42 rfl) (by decide) (ct_storable_2 l Z a0 hw  b39 c0 c1 h43 n0 O E_b39 (ct_len_2_1 l Z a0 hw zc fm G b39 ob43 kb43 (.int 0) (.int (nar .byte ((c0 >>> ((0 : Int32) &&& 31)).toInt8.toInt32))) (.int (nar .byte ((c0 >>> ((8 : Int32) &&& 31)).toInt8.toInt32))) (.int (nar .byte ((c1 >>> ((0 : Int32) &&& 31)).toInt8.toInt32))) (.int (nar .byte ((c1 >>> ((8 : Int32) &&& 31)).toInt8.toInt32))) h43 n0 O E_b39 Fv43 Fc43 V_ob43) (ct_ch_2_0_1 l Z a0 hw zc fm G b39 ob43 kb43 c0 (.int (nar .byte ((c1 >>> ((0 : Int32) &&& 31)).toInt8.toInt32))) (.int (nar .byte ((c1 >>> ((8 : Int32) &&& 31)).toInt8.toInt32))) h43 n0 O E_b39 Fv43 Fc43 V_ob43 hr0) (ct_ch_2_1_1 l Z a0 hw zc fm G b39 ob43 kb43 c1 (.int (nar .byte ((c0 >>> ((0 : Int32) &&& 31)).toInt8.toInt32))) (.int (nar .byte ((c0 >>> ((8 : Int32) &&& 31)).toInt8.toInt32))) h43 n0 O E_b39 Fv43 Fc43 V_ob43 hr1)) e47 (by rw [hml]; rfl) (lenOf pd__Ljava_lang_String__Z_965 rfl) rfl rfl (hb hby at_248) ?_
            intro v50 T50 h50 L50 X50 e50 q50
            obtain ⟨rfl, N50, rfl⟩ := q50
            replace N50 := Fr.app N47 N50
            refine Go.st (g' := (mkF m 261 #[.val (.int p0), .val (.int p1), .val (.int p2), .val (.int p3), .val (.int 2), .val (.int c0), .val (.int c1), .val (.int c2), .val (.ref b39), .val (.int 1)] [(.int 1)])) (fun t k => ?_) ?_
            · refine XS.iload X50.here hx rfl (hb hby at_251) rfl ?_
              refine XS.icmpNo X50.here hx rfl (hb hby at_253) rfl (teq (own_t2 hy45 hy48)).2 ?_
              refine XS.iconst X50.here hx rfl (hb hby at_256) ?_
              refine XS.goto X50.here hx rfl (pc0 := 257) (pc' := 261) rfl (hb hby at_257) (by decide) (by decide) ?_
              exact k
            refine Go.retZW X50 hx hlk hret (Or.inr rfl) (hb hby at_261) (by decide) (by decide) e50 hS hk ?_
            exact ⟨rfl, N50⟩
      · skip
        show Go p e below _ T3 (mkF m 75 #[.val (.int p0), .val (.int p1), .val (.int p2), .val (.int p3), .val (.int 2), .val (.int c0), .val (.int c1), .val (.int c2), .unset, .unset] [])
        refine Go.newO X3 hx hZ hown (wd hw 6 rfl) (wd hw 7 rfl) (wd hw 8 rfl) e3 (hb hby at_75) (by decide) (by decide) ?_
        intro T51 h51 b51 X51 e51 E51 g51 A51 D51
        have lb51 := Nat.le_of_eq g51.symm
        have g_b51 : n0 ≤ b51 := Nat.le_trans (OwnKit.Old.le O) lb51
        replace O := O.ext E51
        replace hk := Nat.le_trans hk E51.1
        have E_b51 := A51
        have F_b51_coder : Fld Z h51 b51 "java/lang/String" "coder" "B" (.int 0) := D51 (Or.inr (wd hw 33 rfl)) (ty := .byte) (by decide)
        have F_b51_value : Fld Z h51 b51 "java/lang/String" "value" "[B" .null := D51 (Or.inr (wd hw 35 rfl)) (ty := (.array .byte)) (by decide)
        refine Go.st (g' := (mkF m 80 #[.val (.int p0), .val (.int p1), .val (.int p2), .val (.int p3), .val (.int 2), .val (.int c0), .val (.int c1), .val (.int c2), .unset, .unset] [(.int 2), (.ref b51), (.ref b51)])) (fun t k => ?_) ?_
        · refine XS.dup X51.here hx rfl (hb hby at_78) rfl rfl ?_
          refine XS.iconst X51.here hx rfl (hb hby at_79) ?_
          exact k
        refine Go.newP X51 hx hZ (wd hw 9 rfl) e51 (hb hby at_80) (by decide) (cap := 2) (by decide) (by decide) (by decide) (by decide) ?_
        intro T52 h52 b52 k52 X52 e52 E52 g52 V_b52
        have lb52 := Nat.le_of_eq g52.symm
        have ne_b51_b52 : b51 ≠ b52 := Nat.ne_of_lt (Nat.lt_of_lt_of_le E_b51.lt lb52)
        have g_b52 : n0 ≤ b52 := Nat.le_trans (OwnKit.Old.le O) lb52
        replace E_b51 := E_b51.ext E52
        replace F_b51_coder := F_b51_coder.ext E52
        replace F_b51_value := F_b51_value.ext E52
        replace O := O.ext E52
        replace hk := Nat.le_trans hk E52.1
        replace V_b52 := V_b52.pad (pad_rep [] (.int 0) 2)
        replace V_b52 : Arv Z h52 b52 k52 .char (2 : Int32) [(.int 0), (.int 0)] (.int 0) := V_b52
        refine Go.st (g' := (mkF m 86 #[.val (.int p0), .val (.int p1), .val (.int p2), .val (.int p3), .val (.int 2), .val (.int c0), .val (.int c1), .val (.int c2), .unset, .unset] [(.int c0), (.int 0), (.ref b52), (.ref b52), (.ref b51), (.ref b51)])) (fun t k => ?_) ?_
        · refine XS.dup X52.here hx rfl (hb hby at_82) rfl rfl ?_
          refine XS.iconst X52.here hx rfl (hb hby at_83) ?_
          refine XS.iload X52.here hx rfl (hb hby at_84) rfl ?_
          exact k
        refine Go.nstV X52 hx hZ e52 V_b52 (j := (0 : Int32)) ⟨by decide, by decide⟩ 0 rfl (Nat.le_of_ble_eq_true rfl) (Or.inl ⟨rfl, rfl⟩) (hb hby at_86) ?_
        intro T53 h53 X53 e53 W53 Vn53
        replace E_b51 := E_b51.wr W53
        replace F_b51_coder := F_b51_coder.other W53 (Or.inl ne_b51_b52)
        replace F_b51_value := F_b51_value.other W53 (Or.inl ne_b51_b52)
        replace O := O.wr W53 g_b52
        have N53 := Fr.snoc X53 N3 g_b52
        replace hk := Nat.le_trans hk (Nat.le_of_eq W53.size.symm)
        replace V_b52 : Arv Z h53 b52 k52 .char (2 : Int32) [(.int (nar .char c0)), (.int 0)] (.int 0) := Vn53
        clear Vn53
        rw [own_nar hr0] at V_b52
        refine Go.st (g' := (mkF m 91 #[.val (.int p0), .val (.int p1), .val (.int p2), .val (.int p3), .val (.int 2), .val (.int c0), .val (.int c1), .val (.int c2), .unset, .unset] [(.int c1), (.int 1), (.ref b52), (.ref b52), (.ref b51), (.ref b51)])) (fun t k => ?_) ?_
        · refine XS.dup X53.here hx rfl (hb hby at_87) rfl rfl ?_
          refine XS.iconst X53.here hx rfl (hb hby at_88) ?_
          refine XS.iload X53.here hx rfl (hb hby at_89) rfl ?_
          exact k
        refine Go.nstV X53 hx hZ e53 V_b52 (j := (1 : Int32)) ⟨by decide, by decide⟩ 1 rfl (Nat.le_of_ble_eq_true rfl) (Or.inl ⟨rfl, rfl⟩) (hb hby at_91) ?_
        intro T54 h54 X54 e54 W54 Vn54
        replace E_b51 := E_b51.wr W54
        replace F_b51_coder := F_b51_coder.other W54 (Or.inl ne_b51_b52)
        replace F_b51_value := F_b51_value.other W54 (Or.inl ne_b51_b52)
        replace O := O.wr W54 g_b52
        have N54 := Fr.snoc X54 N53 g_b52
        replace hk := Nat.le_trans hk (Nat.le_of_eq W54.size.symm)
        replace V_b52 : Arv Z h54 b52 k52 .char (2 : Int32) [(.int c0), (.int (nar .char c1))] (.int 0) := Vn54
        clear Vn54
        rw [own_nar hr1] at V_b52
        show Go p e below _ T54 (mkF m 92 #[.val (.int p0), .val (.int p1), .val (.int p2), .val (.int p3), .val (.int 2), .val (.int c0), .val (.int c1), .val (.int c2), .unset, .unset] [(.ref b52), (.ref b51), (.ref b51)])
        refine Go.callC X54 hx hZ (W := 1) (argsL := [(.ref b52)]) (rest := [(.ref b51)]) hown rfl (wd hw 10 rfl) (wd hw 11 rfl) (wd hw 8 rfl) (wd hw 12 rfl) (by decide) (ct_si1_2_L l Z a0 hw zc fm G b51 b52 k52 c0 c1 h54 n0 O E_b51 F_b51_value F_b51_coder g_b51 V_b52 ne_b51_b52 hr0 hr1 hy25 hy38) e54 (by rw [hml]; rfl) (lenOf pd___C_V_902 rfl) rfl rfl (hb hby at_92) ?_
        intro v55 T55 h55 L55 X55 e55 q55
        obtain ⟨ob55, kb55, rfl, N55, K55, Fv55, Fc55, V_ob55⟩ := q55
        replace N55 := Fr.app N54 N55
        replace E_b51 := E_b51.keep K55
        clear F_b51_coder
        clear F_b51_value
        replace V_b52 := V_b52.keep K55 (ninS (Ne.symm ne_b51_b52) nin0)
        replace O := O.keep K55 (allS g_b51 all0)
        replace hk := Nat.le_trans hk K55.1
        refine Go.st (g' := (mkF m 159 #[.val (.int p0), .val (.int p1), .val (.int p2), .val (.int p3), .val (.int 2), .val (.int c0), .val (.int c1), .val (.int c2), .val (.ref b51), .val (.int 1)] [(.int c1), (.int 1), (.int c0), (.int 0), (.int c0)])) (fun t k => ?_) ?_
        · refine XS.astore X55.here hx rfl (hb hby at_95) rfl rfl (l' := #[.val (.int p0), .val (.int p1), .val (.int p2), .val (.int p3), .val (.int 2), .val (.int c0), .val (.int c1), .val (.int c2), .val (.ref b51), .unset]) rfl ?_
          refine XS.goto X55.here hx rfl (pc0 := 97) (pc' := 127) rfl (hb hby at_97) (by decide) (by decide) ?_
          refine XS.iconst X55.here hx rfl (hb hby at_127) ?_
          refine XS.istore X55.here hx rfl (hb hby at_128) rfl (l' := #[.val (.int p0), .val (.int p1), .val (.int p2), .val (.int p3), .val (.int 2), .val (.int c0), .val (.int c1), .val (.int c2), .val (.ref b51), .val (.int 1)]) rfl ?_
          refine XS.iload X55.here hx rfl (hb hby at_130) rfl ?_
          refine XS.iconst X55.here hx rfl (hb hby at_132) ?_
          refine XS.icmpNo X55.here hx rfl (hb hby at_133) rfl (flt (by decide : ¬ (2 : Int32) < (1 : Int32))).1 ?_
          refine XS.iload X55.here hx rfl (hb hby at_136) rfl ?_
          refine XS.ifNo X55.here hx rfl (hb hby at_138) rfl ((if0 _ _).trans (feq (by decide : ¬ (1 : Int32) = (0 : Int32))).1) ?_
          refine XS.iload X55.here hx rfl (hb hby at_141) rfl ?_
          refine XS.iconst X55.here hx rfl (hb hby at_143) ?_
          refine XS.iload X55.here hx rfl (hb hby at_144) rfl ?_
          refine XS.iload X55.here hx rfl (hb hby at_146) rfl ?_
          refine XS.iconst X55.here hx rfl (hb hby at_148) ?_
          refine XS.icmpNo X55.here hx rfl (hb hby at_149) rfl (tlt (by decide : (1 : Int32) < (2 : Int32))).2.2.2 ?_
          refine XS.iconst X55.here hx rfl (hb hby at_152) ?_
          refine XS.goto X55.here hx rfl (pc0 := 153) (pc' := 157) rfl (hb hby at_153) (by decide) (by decide) ?_
          refine XS.iload X55.here hx rfl (hb hby at_157) rfl ?_
          exact k
        refine Go.callS X55 hx hZ (W := 0) (argsL := [(.int c0), (.int 0), (.int c0), (.int 1), (.int c1)]) (rest := []) hown (wd hw 36 rfl) (wd hw 37 rfl) (wd hw 2 rfl) (wd hw 38 rfl) (by decide) (ct_good_0_1 l Z a0 hw  c0 c0 c1 h55 n0 O ) e55 (by rw [hml]; rfl) (lenOf pd__CZCZC_Z_1117 rfl) rfl rfl (hb hby at_159) ?_
        intro v56 T56 h56 L56 X56 e56 q56
        obtain ⟨rfl, N56, rfl⟩ := q56
        replace N56 := Fr.app N55 N56
        show Go p e below _ T56 (mkF m 162 #[.val (.int p0), .val (.int p1), .val (.int p2), .val (.int p3), .val (.int 2), .val (.int c0), .val (.int c1), .val (.int c2), .val (.ref b51), .val (.int 1)] [(.int (goodF c0 false c0 true c1))])
        by_cases hy57 : (goodF c0 false c0 true c1) = (0 : Int32)
        · skip
          refine Go.st (g' := (mkF m 248 #[.val (.int p0), .val (.int p1), .val (.int p2), .val (.int p3), .val (.int 2), .val (.int c0), .val (.int c1), .val (.int c2), .val (.ref b51), .val (.int 0)] [(.ref b51)])) (fun t k => ?_) ?_
          · refine XS.ifYes X56.here hx rfl (pc0 := 162) (pc' := 169) rfl (hb hby at_162) rfl ((if0 _ _).trans (teq hy57).1) (by decide) (by decide) ?_
            refine XS.iconst X56.here hx rfl (hb hby at_169) ?_
            refine XS.istore X56.here hx rfl (hb hby at_170) rfl (l' := #[.val (.int p0), .val (.int p1), .val (.int p2), .val (.int p3), .val (.int 2), .val (.int c0), .val (.int c1), .val (.int c2), .val (.ref b51), .val (.int 0)]) rfl ?_
            refine XS.iload X56.here hx rfl (hb hby at_172) rfl ?_
            refine XS.iconst X56.here hx rfl (hb hby at_174) ?_
            refine XS.icmpNo X56.here hx rfl (hb hby at_175) rfl (flt (by decide : ¬ (2 : Int32) < (2 : Int32))).1 ?_
            refine XS.iload X56.here hx rfl (hb hby at_178) rfl ?_
            refine XS.ifYes X56.here hx rfl (pc0 := 180) (pc' := 211) rfl (hb hby at_180) rfl ((if0 _ _).trans (teq (by decide : (0 : Int32) = (0 : Int32))).1) (by decide) (by decide) ?_
            refine XS.iconst X56.here hx rfl (hb hby at_211) ?_
            refine XS.istore X56.here hx rfl (hb hby at_212) rfl (l' := #[.val (.int p0), .val (.int p1), .val (.int p2), .val (.int p3), .val (.int 2), .val (.int c0), .val (.int c1), .val (.int c2), .val (.ref b51), .val (.int 0)]) rfl ?_
            refine XS.iload X56.here hx rfl (hb hby at_214) rfl ?_
            refine XS.iconst X56.here hx rfl (hb hby at_216) ?_
            refine XS.icmpYes X56.here hx rfl (pc0 := 217) (pc' := 246) rfl (hb hby at_217) rfl (tlt (by decide : (2 : Int32) < (3 : Int32))).1 (by decide) (by decide) ?_
            refine XS.aload X56.here hx rfl (hb hby at_246) rfl rfl ?_
            exact k
          refine Go.callS X56 hx hZ (W := 0) (argsL := [(.ref b51)]) (rest := []) hown (wd hw 39 rfl) (wd hw 40 rfl) (wd hw 41 rfl) (wd hw 42 rfl) (by decide) (ct_storable_2 l Z a0 hw  b51 c0 c1 h55 n0 O E_b51 (ct_len_2_0 l Z a0 hw zc fm G b51 ob55 kb55 (.int 0) (.int (nar .byte (c0.toInt8.toInt32))) (.int (nar .byte (c1.toInt8.toInt32))) h55 n0 O E_b51 Fv55 Fc55 V_ob55) (ct_ch_2_0_0 l Z a0 hw zc fm G b51 ob55 kb55 c0 (.int (nar .byte (c1.toInt8.toInt32))) h55 n0 O E_b51 Fv55 Fc55 V_ob55 hr0 hy25) (ct_ch_2_1_0 l Z a0 hw zc fm G b51 ob55 kb55 c1 (.int (nar .byte (c0.toInt8.toInt32))) h55 n0 O E_b51 Fv55 Fc55 V_ob55 hr1 hy38)) e56 (by rw [hml]; rfl) (lenOf pd__Ljava_lang_String__Z_965 rfl) rfl rfl (hb hby at_248) ?_
          intro v58 T58 h58 L58 X58 e58 q58
          obtain ⟨rfl, N58, rfl⟩ := q58
          replace N58 := Fr.app N56 N58
          refine Go.st (g' := (mkF m 261 #[.val (.int p0), .val (.int p1), .val (.int p2), .val (.int p3), .val (.int 2), .val (.int c0), .val (.int c1), .val (.int c2), .val (.ref b51), .val (.int 0)] [(.int 1)])) (fun t k => ?_) ?_
          · refine XS.iload X58.here hx rfl (hb hby at_251) rfl ?_
            refine XS.icmpNo X58.here hx rfl (hb hby at_253) rfl (teq (own_f2_1 hy57)).2 ?_
            refine XS.iconst X58.here hx rfl (hb hby at_256) ?_
            refine XS.goto X58.here hx rfl (pc0 := 257) (pc' := 261) rfl (hb hby at_257) (by decide) (by decide) ?_
            exact k
          refine Go.retZW X58 hx hlk hret (Or.inr rfl) (hb hby at_261) (by decide) (by decide) e58 hS hk ?_
          exact ⟨rfl, N58⟩
        · skip
          refine Go.st (g' := (mkF m 201 #[.val (.int p0), .val (.int p1), .val (.int p2), .val (.int p3), .val (.int 2), .val (.int c0), .val (.int c1), .val (.int c2), .val (.ref b51), .val (.int 1)] [(.int c2), (.int 0), (.int c0), (.int 1), (.int c1)])) (fun t k => ?_) ?_
          · refine XS.ifNo X56.here hx rfl (hb hby at_162) rfl ((if0 _ _).trans (feq hy57).1) ?_
            refine XS.iconst X56.here hx rfl (hb hby at_165) ?_
            refine XS.goto X56.here hx rfl (pc0 := 166) (pc' := 170) rfl (hb hby at_166) (by decide) (by decide) ?_
            refine XS.istore X56.here hx rfl (hb hby at_170) rfl (l' := #[.val (.int p0), .val (.int p1), .val (.int p2), .val (.int p3), .val (.int 2), .val (.int c0), .val (.int c1), .val (.int c2), .val (.ref b51), .val (.int 1)]) rfl ?_
            refine XS.iload X56.here hx rfl (hb hby at_172) rfl ?_
            refine XS.iconst X56.here hx rfl (hb hby at_174) ?_
            refine XS.icmpNo X56.here hx rfl (hb hby at_175) rfl (flt (by decide : ¬ (2 : Int32) < (2 : Int32))).1 ?_
            refine XS.iload X56.here hx rfl (hb hby at_178) rfl ?_
            refine XS.ifNo X56.here hx rfl (hb hby at_180) rfl ((if0 _ _).trans (feq (by decide : ¬ (1 : Int32) = (0 : Int32))).1) ?_
            refine XS.iload X56.here hx rfl (hb hby at_183) rfl ?_
            refine XS.iconst X56.here hx rfl (hb hby at_185) ?_
            refine XS.iload X56.here hx rfl (hb hby at_186) rfl ?_
            refine XS.iload X56.here hx rfl (hb hby at_188) rfl ?_
            refine XS.iconst X56.here hx rfl (hb hby at_190) ?_
            refine XS.icmpYes X56.here hx rfl (pc0 := 191) (pc' := 198) rfl (hb hby at_191) rfl (flt (by decide : ¬ (2 : Int32) < (2 : Int32))).2.2.2 (by decide) (by decide) ?_
            refine XS.iconst X56.here hx rfl (hb hby at_198) ?_
            refine XS.iload X56.here hx rfl (hb hby at_199) rfl ?_
            exact k
          refine Go.callS X56 hx hZ (W := 0) (argsL := [(.int c1), (.int 1), (.int c0), (.int 0), (.int c2)]) (rest := []) hown (wd hw 36 rfl) (wd hw 37 rfl) (wd hw 2 rfl) (wd hw 38 rfl) (by decide) (ct_good_1_0 l Z a0 hw  c1 c0 c2 h55 n0 O ) e56 (by rw [hml]; rfl) (lenOf pd__CZCZC_Z_1117 rfl) rfl rfl (hb hby at_201) ?_
          intro v59 T59 h59 L59 X59 e59 q59
          obtain ⟨rfl, N59, rfl⟩ := q59
          replace N59 := Fr.app N56 N59
          show Go p e below _ T59 (mkF m 204 #[.val (.int p0), .val (.int p1), .val (.int p2), .val (.int p3), .val (.int 2), .val (.int c0), .val (.int c1), .val (.int c2), .val (.ref b51), .val (.int 1)] [(.int (goodF c1 true c0 false c2))])
          by_cases hy60 : (goodF c1 true c0 false c2) = (0 : Int32)
          · skip
            refine Go.st (g' := (mkF m 248 #[.val (.int p0), .val (.int p1), .val (.int p2), .val (.int p3), .val (.int 2), .val (.int c0), .val (.int c1), .val (.int c2), .val (.ref b51), .val (.int 0)] [(.ref b51)])) (fun t k => ?_) ?_
            · refine XS.ifYes X59.here hx rfl (pc0 := 204) (pc' := 211) rfl (hb hby at_204) rfl ((if0 _ _).trans (teq hy60).1) (by decide) (by decide) ?_
              refine XS.iconst X59.here hx rfl (hb hby at_211) ?_
              refine XS.istore X59.here hx rfl (hb hby at_212) rfl (l' := #[.val (.int p0), .val (.int p1), .val (.int p2), .val (.int p3), .val (.int 2), .val (.int c0), .val (.int c1), .val (.int c2), .val (.ref b51), .val (.int 0)]) rfl ?_
              refine XS.iload X59.here hx rfl (hb hby at_214) rfl ?_
              refine XS.iconst X59.here hx rfl (hb hby at_216) ?_
              refine XS.icmpYes X59.here hx rfl (pc0 := 217) (pc' := 246) rfl (hb hby at_217) rfl (tlt (by decide : (2 : Int32) < (3 : Int32))).1 (by decide) (by decide) ?_
              refine XS.aload X59.here hx rfl (hb hby at_246) rfl rfl ?_
              exact k
            refine Go.callS X59 hx hZ (W := 0) (argsL := [(.ref b51)]) (rest := []) hown (wd hw 39 rfl) (wd hw 40 rfl) (wd hw 41 rfl) (wd hw 42 rfl) (by decide) (ct_storable_2 l Z a0 hw  b51 c0 c1 h55 n0 O E_b51 (ct_len_2_0 l Z a0 hw zc fm G b51 ob55 kb55 (.int 0) (.int (nar .byte (c0.toInt8.toInt32))) (.int (nar .byte (c1.toInt8.toInt32))) h55 n0 O E_b51 Fv55 Fc55 V_ob55) (ct_ch_2_0_0 l Z a0 hw zc fm G b51 ob55 kb55 c0 (.int (nar .byte (c1.toInt8.toInt32))) h55 n0 O E_b51 Fv55 Fc55 V_ob55 hr0 hy25) (ct_ch_2_1_0 l Z a0 hw zc fm G b51 ob55 kb55 c1 (.int (nar .byte (c0.toInt8.toInt32))) h55 n0 O E_b51 Fv55 Fc55 V_ob55 hr1 hy38)) e59 (by rw [hml]; rfl) (lenOf pd__Ljava_lang_String__Z_965 rfl) rfl rfl (hb hby at_248) ?_
            intro v61 T61 h61 L61 X61 e61 q61
            obtain ⟨rfl, N61, rfl⟩ := q61
            replace N61 := Fr.app N59 N61
            refine Go.st (g' := (mkF m 261 #[.val (.int p0), .val (.int p1), .val (.int p2), .val (.int p3), .val (.int 2), .val (.int c0), .val (.int c1), .val (.int c2), .val (.ref b51), .val (.int 0)] [(.int 1)])) (fun t k => ?_) ?_
            · refine XS.iload X61.here hx rfl (hb hby at_251) rfl ?_
              refine XS.icmpNo X61.here hx rfl (hb hby at_253) rfl (teq (own_f2_2 hy57 hy60)).2 ?_
              refine XS.iconst X61.here hx rfl (hb hby at_256) ?_
              refine XS.goto X61.here hx rfl (pc0 := 257) (pc' := 261) rfl (hb hby at_257) (by decide) (by decide) ?_
              exact k
            refine Go.retZW X61 hx hlk hret (Or.inr rfl) (hb hby at_261) (by decide) (by decide) e61 hS hk ?_
            exact ⟨rfl, N61⟩
          · skip
            refine Go.st (g' := (mkF m 248 #[.val (.int p0), .val (.int p1), .val (.int p2), .val (.int p3), .val (.int 2), .val (.int c0), .val (.int c1), .val (.int c2), .val (.ref b51), .val (.int 1)] [(.ref b51)])) (fun t k => ?_) ?_
            · refine XS.ifNo X59.here hx rfl (hb hby at_204) rfl ((if0 _ _).trans (feq hy60).1) ?_
              refine XS.iconst X59.here hx rfl (hb hby at_207) ?_
              refine XS.goto X59.here hx rfl (pc0 := 208) (pc' := 212) rfl (hb hby at_208) (by decide) (by decide) ?_
              refine XS.istore X59.here hx rfl (hb hby at_212) rfl (l' := #[.val (.int p0), .val (.int p1), .val (.int p2), .val (.int p3), .val (.int 2), .val (.int c0), .val (.int c1), .val (.int c2), .val (.ref b51), .val (.int 1)]) rfl ?_
              refine XS.iload X59.here hx rfl (hb hby at_214) rfl ?_
              refine XS.iconst X59.here hx rfl (hb hby at_216) ?_
              refine XS.icmpYes X59.here hx rfl (pc0 := 217) (pc' := 246) rfl (hb hby at_217) rfl (tlt (by decide : (2 : Int32) < (3 : Int32))).1 (by decide) (by decide) ?_
              refine XS.aload X59.here hx rfl (hb hby at_246) rfl rfl ?_
              exact k
            refine Go.callS X59 hx hZ (W := 0) (argsL := [(.ref b51)]) (rest := []) hown (wd hw 39 rfl) (wd hw 40 rfl) (wd hw 41 rfl) (wd hw 42 rfl) (by decide) (ct_storable_2 l Z a0 hw  b51 c0 c1 h55 n0 O E_b51 (ct_len_2_0 l Z a0 hw zc fm G b51 ob55 kb55 (.int 0) (.int (nar .byte (c0.toInt8.toInt32))) (.int (nar .byte (c1.toInt8.toInt32))) h55 n0 O E_b51 Fv55 Fc55 V_ob55) (ct_ch_2_0_0 l Z a0 hw zc fm G b51 ob55 kb55 c0 (.int (nar .byte (c1.toInt8.toInt32))) h55 n0 O E_b51 Fv55 Fc55 V_ob55 hr0 hy25) (ct_ch_2_1_0 l Z a0 hw zc fm G b51 ob55 kb55 c1 (.int (nar .byte (c0.toInt8.toInt32))) h55 n0 O E_b51 Fv55 Fc55 V_ob55 hr1 hy38)) e59 (by rw [hml]; rfl) (lenOf pd__Ljava_lang_String__Z_965 rfl) rfl rfl (hb hby at_248) ?_
            intro v62 T62 h62 L62 X62 e62 q62
            obtain ⟨rfl, N62, rfl⟩ := q62
            replace N62 := Fr.app N59 N62
            refine Go.st (g' := (mkF m 261 #[.val (.int p0), .val (.int p1), .val (.int p2), .val (.int p3), .val (.int 2), .val (.int c0), .val (.int c1), .val (.int c2), .val (.ref b51), .val (.int 1)] [(.int 1)])) (fun t k => ?_) ?_
            · refine XS.iload X62.here hx rfl (hb hby at_251) rfl ?_
              refine XS.icmpNo X62.here hx rfl (hb hby at_253) rfl (teq (own_t2 hy57 hy60)).2 ?_
              refine XS.iconst X62.here hx rfl (hb hby at_256) ?_
              refine XS.goto X62.here hx rfl (pc0 := 257) (pc' := 261) rfl (hb hby at_257) (by decide) (by decide) ?_
              exact k
            refine Go.retZW X62 hx hlk hret (Or.inr rfl) (hb hby at_261) (by decide) (by decide) e62 hS hk ?_
            exact ⟨rfl, N62⟩
  · skip
    rw [cc]
    refine Go.st (g' := (mkF m 100 #[.val (.int p0), .val (.int p1), .val (.int p2), .val (.int p3), .val (.int 3), .val (.int c0), .val (.int c1), .val (.int c2), .unset, .unset] [])) (fun t k => ?_) ?_
    · refine XS.iload X3.here hx rfl (hb hby at_23) rfl ?_
      refine XS.ifYes X3.here hx rfl (pc0 := 25) (pc' := 43) rfl (hb hby at_25) rfl ((if0 _ _).trans (feq (by decide : ¬ (3 : Int32) = (0 : Int32))).2) (by decide) (by decide) ?_
      refine XS.iload X3.here hx rfl (hb hby at_43) rfl ?_
      refine XS.iconst X3.here hx rfl (hb hby at_45) ?_
      refine XS.icmpYes X3.here hx rfl (pc0 := 46) (pc' := 69) rfl (hb hby at_46) rfl (feq (by decide : ¬ (3 : Int32) = (1 : Int32))).2 (by decide) (by decide) ?_
      refine XS.iload X3.here hx rfl (hb hby at_69) rfl ?_
      refine XS.iconst X3.here hx rfl (hb hby at_71) ?_
      refine XS.icmpYes X3.here hx rfl (pc0 := 72) (pc' := 100) rfl (hb hby at_72) rfl (feq (by decide : ¬ (3 : Int32) = (2 : Int32))).2 (by decide) (by decide) ?_
      exact k
    by_cases hy63 : (255 : Int32) < c0
    · skip
      show Go p e below _ T3 (mkF m 100 #[.val (.int p0), .val (.int p1), .val (.int p2), .val (.int p3), .val (.int 3), .val (.int c0), .val (.int c1), .val (.int c2), .unset, .unset] [])
      refine Go.newO X3 hx hZ hown (wd hw 6 rfl) (wd hw 7 rfl) (wd hw 8 rfl) e3 (hb hby at_100) (by decide) (by decide) ?_
      intro T64 h64 b64 X64 e64 E64 g64 A64 D64
      have lb64 := Nat.le_of_eq g64.symm
      have g_b64 : n0 ≤ b64 := Nat.le_trans (OwnKit.Old.le O) lb64
      replace O := O.ext E64
      replace hk := Nat.le_trans hk E64.1
      have E_b64 := A64
      have F_b64_coder : Fld Z h64 b64 "java/lang/String" "coder" "B" (.int 0) := D64 (Or.inr (wd hw 33 rfl)) (ty := .byte) (by decide)
      have F_b64_value : Fld Z h64 b64 "java/lang/String" "value" "[B" .null := D64 (Or.inr (wd hw 35 rfl)) (ty := (.array .byte)) (by decide)
      refine Go.st (g' := (mkF m 105 #[.val (.int p0), .val (.int p1), .val (.int p2), .val (.int p3), .val (.int 3), .val (.int c0), .val (.int c1), .val (.int c2), .unset, .unset] [(.int 3), (.ref b64), (.ref b64)])) (fun t k => ?_) ?_
      · refine XS.dup X64.here hx rfl (hb hby at_103) rfl rfl ?_
        refine XS.iconst X64.here hx rfl (hb hby at_104) ?_
        exact k
      refine Go.newP X64 hx hZ (wd hw 9 rfl) e64 (hb hby at_105) (by decide) (cap := 3) (by decide) (by decide) (by decide) (by decide) ?_
      intro T65 h65 b65 k65 X65 e65 E65 g65 V_b65
      have lb65 := Nat.le_of_eq g65.symm
      have ne_b64_b65 : b64 ≠ b65 := Nat.ne_of_lt (Nat.lt_of_lt_of_le E_b64.lt lb65)
      have g_b65 : n0 ≤ b65 := Nat.le_trans (OwnKit.Old.le O) lb65
      replace E_b64 := E_b64.ext E65
      replace F_b64_coder := F_b64_coder.ext E65
      replace F_b64_value := F_b64_value.ext E65
      replace O := O.ext E65
      replace hk := Nat.le_trans hk E65.1
      replace V_b65 := V_b65.pad (pad_rep [] (.int 0) 3)
      replace V_b65 : Arv Z h65 b65 k65 .char (3 : Int32) [(.int 0), (.int 0), (.int 0)] (.int 0) := V_b65
      refine Go.st (g' := (mkF m 111 #[.val (.int p0), .val (.int p1), .val (.int p2), .val (.int p3), .val (.int 3), .val (.int c0), .val (.int c1), .val (.int c2), .unset, .unset] [(.int c0), (.int 0), (.ref b65), (.ref b65), (.ref b64), (.ref b64)])) (fun t k => ?_) ?_
      · refine XS.dup X65.here hx rfl (hb hby at_107) rfl rfl ?_
        refine XS.iconst X65.here hx rfl (hb hby at_108) ?_
        refine XS.iload X65.here hx rfl (hb hby at_109) rfl ?_
        exact k
      refine Go.nstV X65 hx hZ e65 V_b65 (j := (0 : Int32)) ⟨by decide, by decide⟩ 0 rfl (Nat.le_of_ble_eq_true rfl) (Or.inl ⟨rfl, rfl⟩) (hb hby at_111) ?_
      intro T66 h66 X66 e66 W66 Vn66
      replace E_b64 := E_b64.wr W66
      replace F_b64_coder := F_b64_coder.other W66 (Or.inl ne_b64_b65)
      replace F_b64_value := F_b64_value.other W66 (Or.inl ne_b64_b65)
      replace O := O.wr W66 g_b65
      have N66 := Fr.snoc X66 N3 g_b65
      replace hk := Nat.le_trans hk (Nat.le_of_eq W66.size.symm)
      replace V_b65 : Arv Z h66 b65 k65 .char (3 : Int32) [(.int (nar .char c0)), (.int 0), (.int 0)] (.int 0) := Vn66
      clear Vn66
      rw [own_nar hr0] at V_b65
      refine Go.st (g' := (mkF m 116 #[.val (.int p0), .val (.int p1), .val (.int p2), .val (.int p3), .val (.int 3), .val (.int c0), .val (.int c1), .val (.int c2), .unset, .unset] [(.int c1), (.int 1), (.ref b65), (.ref b65), (.ref b64), (.ref b64)])) (fun t k => ?_) ?_
      · refine XS.dup X66.here hx rfl (hb hby at_112) rfl rfl ?_
        refine XS.iconst X66.here hx rfl (hb hby at_113) ?_
        refine XS.iload X66.here hx rfl (hb hby at_114) rfl ?_
        exact k
      refine Go.nstV X66 hx hZ e66 V_b65 (j := (1 : Int32)) ⟨by decide, by decide⟩ 1 rfl (Nat.le_of_ble_eq_true rfl) (Or.inl ⟨rfl, rfl⟩) (hb hby at_116) ?_
      intro T67 h67 X67 e67 W67 Vn67
      replace E_b64 := E_b64.wr W67
      replace F_b64_coder := F_b64_coder.other W67 (Or.inl ne_b64_b65)
      replace F_b64_value := F_b64_value.other W67 (Or.inl ne_b64_b65)
      replace O := O.wr W67 g_b65
      have N67 := Fr.snoc X67 N66 g_b65
      replace hk := Nat.le_trans hk (Nat.le_of_eq W67.size.symm)
      replace V_b65 : Arv Z h67 b65 k65 .char (3 : Int32) [(.int c0), (.int (nar .char c1)), (.int 0)] (.int 0) := Vn67
      clear Vn67
      rw [own_nar hr1] at V_b65
      refine Go.st (g' := (mkF m 121 #[.val (.int p0), .val (.int p1), .val (.int p2), .val (.int p3), .val (.int 3), .val (.int c0), .val (.int c1), .val (.int c2), .unset, .unset] [(.int c2), (.int 2), (.ref b65), (.ref b65), (.ref b64), (.ref b64)])) (fun t k => ?_) ?_
      · refine XS.dup X67.here hx rfl (hb hby at_117) rfl rfl ?_
        refine XS.iconst X67.here hx rfl (hb hby at_118) ?_
        refine XS.iload X67.here hx rfl (hb hby at_119) rfl ?_
        exact k
      refine Go.nstV X67 hx hZ e67 V_b65 (j := (2 : Int32)) ⟨by decide, by decide⟩ 2 rfl (Nat.le_of_ble_eq_true rfl) (Or.inl ⟨rfl, rfl⟩) (hb hby at_121) ?_
      intro T68 h68 X68 e68 W68 Vn68
      replace E_b64 := E_b64.wr W68
      replace F_b64_coder := F_b64_coder.other W68 (Or.inl ne_b64_b65)
      replace F_b64_value := F_b64_value.other W68 (Or.inl ne_b64_b65)
      replace O := O.wr W68 g_b65
      have N68 := Fr.snoc X68 N67 g_b65
      replace hk := Nat.le_trans hk (Nat.le_of_eq W68.size.symm)
      replace V_b65 : Arv Z h68 b65 k65 .char (3 : Int32) [(.int c0), (.int c1), (.int (nar .char c2))] (.int 0) := Vn68
      clear Vn68
      rw [own_nar hr2] at V_b65
      show Go p e below _ T68 (mkF m 122 #[.val (.int p0), .val (.int p1), .val (.int p2), .val (.int p3), .val (.int 3), .val (.int c0), .val (.int c1), .val (.int c2), .unset, .unset] [(.ref b65), (.ref b64), (.ref b64)])
      refine Go.callC X68 hx hZ (W := 1) (argsL := [(.ref b65)]) (rest := [(.ref b64)]) hown rfl (wd hw 10 rfl) (wd hw 11 rfl) (wd hw 8 rfl) (wd hw 12 rfl) (by decide) (ct_si1_3_0 l Z a0 hw zc fm G b64 b65 k65 c0 c1 c2 h68 n0 O E_b64 F_b64_value F_b64_coder g_b64 V_b65 ne_b64_b65 hr0 hr1 hr2 hy63) e68 (by rw [hml]; rfl) (lenOf pd___C_V_902 rfl) rfl rfl (hb hby at_122) ?_
      intro v69 T69 h69 L69 X69 e69 q69
      obtain ⟨ob69, kb69, rfl, N69, K69, Fv69, Fc69, V_ob69⟩ := q69
      replace N69 := Fr.app N68 N69
      replace E_b64 := E_b64.keep K69
      clear F_b64_coder
      clear F_b64_value
      replace V_b65 := V_b65.keep K69 (ninS (Ne.symm ne_b64_b65) nin0)
      replace O := O.keep K69 (allS g_b64 all0)
      replace hk := Nat.le_trans hk K69.1
      refine Go.st (g' := (mkF m 159 #[.val (.int p0), .val (.int p1), .val (.int p2), .val (.int p3), .val (.int 3), .val (.int c0), .val (.int c1), .val (.int c2), .val (.ref b64), .val (.int 1)] [(.int c1), (.int 1), (.int c0), (.int 0), (.int c0)])) (fun t k => ?_) ?_
      · refine XS.astore X69.here hx rfl (hb hby at_125) rfl rfl (l' := #[.val (.int p0), .val (.int p1), .val (.int p2), .val (.int p3), .val (.int 3), .val (.int c0), .val (.int c1), .val (.int c2), .val (.ref b64), .unset]) rfl ?_
        refine XS.iconst X69.here hx rfl (hb hby at_127) ?_
        refine XS.istore X69.here hx rfl (hb hby at_128) rfl (l' := #[.val (.int p0), .val (.int p1), .val (.int p2), .val (.int p3), .val (.int 3), .val (.int c0), .val (.int c1), .val (.int c2), .val (.ref b64), .val (.int 1)]) rfl ?_
        refine XS.iload X69.here hx rfl (hb hby at_130) rfl ?_
        refine XS.iconst X69.here hx rfl (hb hby at_132) ?_
        refine XS.icmpNo X69.here hx rfl (hb hby at_133) rfl (flt (by decide : ¬ (3 : Int32) < (1 : Int32))).1 ?_
        refine XS.iload X69.here hx rfl (hb hby at_136) rfl ?_
        refine XS.ifNo X69.here hx rfl (hb hby at_138) rfl ((if0 _ _).trans (feq (by decide : ¬ (1 : Int32) = (0 : Int32))).1) ?_
        refine XS.iload X69.here hx rfl (hb hby at_141) rfl ?_
        refine XS.iconst X69.here hx rfl (hb hby at_143) ?_
        refine XS.iload X69.here hx rfl (hb hby at_144) rfl ?_
        refine XS.iload X69.here hx rfl (hb hby at_146) rfl ?_
        refine XS.iconst X69.here hx rfl (hb hby at_148) ?_
        refine XS.icmpNo X69.here hx rfl (hb hby at_149) rfl (tlt (by decide : (1 : Int32) < (3 : Int32))).2.2.2 ?_
        refine XS.iconst X69.here hx rfl (hb hby at_152) ?_
        refine XS.goto X69.here hx rfl (pc0 := 153) (pc' := 157) rfl (hb hby at_153) (by decide) (by decide) ?_
        refine XS.iload X69.here hx rfl (hb hby at_157) rfl ?_
        exact k
      refine Go.callS X69 hx hZ (W := 0) (argsL := [(.int c0), (.int 0), (.int c0), (.int 1), (.int c1)]) (rest := []) hown (wd hw 36 rfl) (wd hw 37 rfl) (wd hw 2 rfl) (wd hw 38 rfl) (by decide) (ct_good_0_1 l Z a0 hw  c0 c0 c1 h69 n0 O ) e69 (by rw [hml]; rfl) (lenOf pd__CZCZC_Z_1117 rfl) rfl rfl (hb hby at_159) ?_
      intro v70 T70 h70 L70 X70 e70 q70
      obtain ⟨rfl, N70, rfl⟩ := q70
      replace N70 := Fr.app N69 N70
      show Go p e below _ T70 (mkF m 162 #[.val (.int p0), .val (.int p1), .val (.int p2), .val (.int p3), .val (.int 3), .val (.int c0), .val (.int c1), .val (.int c2), .val (.ref b64), .val (.int 1)] [(.int (goodF c0 false c0 true c1))])
      by_cases hy71 : (goodF c0 false c0 true c1) = (0 : Int32)
      · skip
        refine Go.st (g' := (mkF m 248 #[.val (.int p0), .val (.int p1), .val (.int p2), .val (.int p3), .val (.int 3), .val (.int c0), .val (.int c1), .val (.int c2), .val (.ref b64), .val (.int 0)] [(.ref b64)])) (fun t k => ?_) ?_
        · refine XS.ifYes X70.here hx rfl (pc0 := 162) (pc' := 169) rfl (hb hby at_162) rfl ((if0 _ _).trans (teq hy71).1) (by decide) (by decide) ?_
          refine XS.iconst X70.here hx rfl (hb hby at_169) ?_
          refine XS.istore X70.here hx rfl (hb hby at_170) rfl (l' := #[.val (.int p0), .val (.int p1), .val (.int p2), .val (.int p3), .val (.int 3), .val (.int c0), .val (.int c1), .val (.int c2), .val (.ref b64), .val (.int 0)]) rfl ?_
          refine XS.iload X70.here hx rfl (hb hby at_172) rfl ?_
          refine XS.iconst X70.here hx rfl (hb hby at_174) ?_
          refine XS.icmpNo X70.here hx rfl (hb hby at_175) rfl (flt (by decide : ¬ (3 : Int32) < (2 : Int32))).1 ?_
          refine XS.iload X70.here hx rfl (hb hby at_178) rfl ?_
          refine XS.ifYes X70.here hx rfl (pc0 := 180) (pc' := 211) rfl (hb hby at_180) rfl ((if0 _ _).trans (teq (by decide : (0 : Int32) = (0 : Int32))).1) (by decide) (by decide) ?_
          refine XS.iconst X70.here hx rfl (hb hby at_211) ?_
          refine XS.istore X70.here hx rfl (hb hby at_212) rfl (l' := #[.val (.int p0), .val (.int p1), .val (.int p2), .val (.int p3), .val (.int 3), .val (.int c0), .val (.int c1), .val (.int c2), .val (.ref b64), .val (.int 0)]) rfl ?_
          refine XS.iload X70.here hx rfl (hb hby at_214) rfl ?_
          refine XS.iconst X70.here hx rfl (hb hby at_216) ?_
          refine XS.icmpNo X70.here hx rfl (hb hby at_217) rfl (flt (by decide : ¬ (3 : Int32) < (3 : Int32))).1 ?_
          refine XS.iload X70.here hx rfl (hb hby at_220) rfl ?_
          refine XS.ifYes X70.here hx rfl (pc0 := 222) (pc' := 243) rfl (hb hby at_222) rfl ((if0 _ _).trans (teq (by decide : (0 : Int32) = (0 : Int32))).1) (by decide) (by decide) ?_
          refine XS.iconst X70.here hx rfl (hb hby at_243) ?_
          refine XS.istore X70.here hx rfl (hb hby at_244) rfl (l' := #[.val (.int p0), .val (.int p1), .val (.int p2), .val (.int p3), .val (.int 3), .val (.int c0), .val (.int c1), .val (.int c2), .val (.ref b64), .val (.int 0)]) rfl ?_
          refine XS.aload X70.here hx rfl (hb hby at_246) rfl rfl ?_
          exact k
        refine Go.callS X70 hx hZ (W := 0) (argsL := [(.ref b64)]) (rest := []) hown (wd hw 39 rfl) (wd hw 40 rfl) (wd hw 41 rfl) (wd hw 42 rfl) (by decide) (ct_storable_3 l Z a0 hw  b64 c0 c1 c2 h69 n0 O E_b64 (ct_len_3_1 l Z a0 hw zc fm G b64 ob69 kb69 (.int 0) (.int (nar .byte ((c0 >>> ((0 : Int32) &&& 31)).toInt8.toInt32))) (.int (nar .byte ((c0 >>> ((8 : Int32) &&& 31)).toInt8.toInt32))) (.int (nar .byte ((c1 >>> ((0 : Int32) &&& 31)).toInt8.toInt32))) (.int (nar .byte ((c1 >>> ((8 : Int32) &&& 31)).toInt8.toInt32))) (.int (nar .byte ((c2 >>> ((0 : Int32) &&& 31)).toInt8.toInt32))) (.int (nar .byte ((c2 >>> ((8 : Int32) &&& 31)).toInt8.toInt32))) h69 n0 O E_b64 Fv69 Fc69 V_ob69) (ct_ch_3_0_1 l Z a0 hw zc fm G b64 ob69 kb69 c0 (.int (nar .byte ((c1 >>> ((0 : Int32) &&& 31)).toInt8.toInt32))) (.int (nar .byte ((c1 >>> ((8 : Int32) &&& 31)).toInt8.toInt32))) (.int (nar .byte ((c2 >>> ((0 : Int32) &&& 31)).toInt8.toInt32))) (.int (nar .byte ((c2 >>> ((8 : Int32) &&& 31)).toInt8.toInt32))) h69 n0 O E_b64 Fv69 Fc69 V_ob69 hr0) (ct_ch_3_1_1 l Z a0 hw zc fm G b64 ob69 kb69 c1 (.int (nar .byte ((c0 >>> ((0 : Int32) &&& 31)).toInt8.toInt32))) (.int (nar .byte ((c0 >>> ((8 : Int32) &&& 31)).toInt8.toInt32))) (.int (nar .byte ((c2 >>> ((0 : Int32) &&& 31)).toInt8.toInt32))) (.int (nar .byte ((c2 >>> ((8 : Int32) &&& 31)).toInt8.toInt32))) h69 n0 O E_b64 Fv69 Fc69 V_ob69 hr1) (ct_ch_3_2_1 l Z a0 hw zc fm G b64 ob69 kb69 c2 (.int (nar .byte ((c0 >>> ((0 : Int32) &&& 31)).toInt8.toInt32))) (.int (nar .byte ((c0 >>> ((8 : Int32) &&& 31)).toInt8.toInt32))) (.int (nar .byte ((c1 >>> ((0 : Int32) &&& 31)).toInt8.toInt32))) (.int (nar .byte ((c1 >>> ((8 : Int32) &&& 31)).toInt8.toInt32))) h69 n0 O E_b64 Fv69 Fc69 V_ob69 hr2)) e70 (by rw [hml]; rfl) (lenOf pd__Ljava_lang_String__Z_965 rfl) rfl rfl (hb hby at_248) ?_
        intro v72 T72 h72 L72 X72 e72 q72
        obtain ⟨rfl, N72, rfl⟩ := q72
        replace N72 := Fr.app N70 N72
        refine Go.st (g' := (mkF m 261 #[.val (.int p0), .val (.int p1), .val (.int p2), .val (.int p3), .val (.int 3), .val (.int c0), .val (.int c1), .val (.int c2), .val (.ref b64), .val (.int 0)] [(.int 1)])) (fun t k => ?_) ?_
        · refine XS.iload X72.here hx rfl (hb hby at_251) rfl ?_
          refine XS.icmpNo X72.here hx rfl (hb hby at_253) rfl (teq (own_f3_1 hy71)).2 ?_
          refine XS.iconst X72.here hx rfl (hb hby at_256) ?_
          refine XS.goto X72.here hx rfl (pc0 := 257) (pc' := 261) rfl (hb hby at_257) (by decide) (by decide) ?_
          exact k
        refine Go.retZW X72 hx hlk hret (Or.inr rfl) (hb hby at_261) (by decide) (by decide) e72 hS hk ?_
        exact ⟨rfl, N72⟩
      · skip
        refine Go.st (g' := (mkF m 201 #[.val (.int p0), .val (.int p1), .val (.int p2), .val (.int p3), .val (.int 3), .val (.int c0), .val (.int c1), .val (.int c2), .val (.ref b64), .val (.int 1)] [(.int c2), (.int 1), (.int c0), (.int 1), (.int c1)])) (fun t k => ?_) ?_
        · refine XS.ifNo X70.here hx rfl (hb hby at_162) rfl ((if0 _ _).trans (feq hy71).1) ?_
          refine XS.iconst X70.here hx rfl (hb hby at_165) ?_
          refine XS.goto X70.here hx rfl (pc0 := 166) (pc' := 170) rfl (hb hby at_166) (by decide) (by decide) ?_
          refine XS.istore X70.here hx rfl (hb hby at_170) rfl (l' := #[.val (.int p0), .val (.int p1), .val (.int p2), .val (.int p3), .val (.int 3), .val (.int c0), .val (.int c1), .val (.int c2), .val (.ref b64), .val (.int 1)]) rfl ?_
          refine XS.iload X70.here hx rfl (hb hby at_172) rfl ?_
          refine XS.iconst X70.here hx rfl (hb hby at_174) ?_
          refine XS.icmpNo X70.here hx rfl (hb hby at_175) rfl (flt (by decide : ¬ (3 : Int32) < (2 : Int32))).1 ?_
          refine XS.iload X70.here hx rfl (hb hby at_178) rfl ?_
          refine XS.ifNo X70.here hx rfl (hb hby at_180) rfl ((if0 _ _).trans (feq (by decide : ¬ (1 : Int32) = (0 : Int32))).1) ?_
          refine XS.iload X70.here hx rfl (hb hby at_183) rfl ?_
          refine XS.iconst X70.here hx rfl (hb hby at_185) ?_
          refine XS.iload X70.here hx rfl (hb hby at_186) rfl ?_
          refine XS.iload X70.here hx rfl (hb hby at_188) rfl ?_
          refine XS.iconst X70.here hx rfl (hb hby at_190) ?_
          refine XS.icmpNo X70.here hx rfl (hb hby at_191) rfl (tlt (by decide : (2 : Int32) < (3 : Int32))).2.2.2 ?_
          refine XS.iconst X70.here hx rfl (hb hby at_194) ?_
          refine XS.goto X70.here hx rfl (pc0 := 195) (pc' := 199) rfl (hb hby at_195) (by decide) (by decide) ?_
          refine XS.iload X70.here hx rfl (hb hby at_199) rfl ?_
          exact k
        refine Go.callS X70 hx hZ (W := 0) (argsL := [(.int c1), (.int 1), (.int c0), (.int 1), (.int c2)]) (rest := []) hown (wd hw 36 rfl) (wd hw 37 rfl) (wd hw 2 rfl) (wd hw 38 rfl) (by decide) (ct_good_1_1 l Z a0 hw  c1 c0 c2 h69 n0 O ) e70 (by rw [hml]; rfl) (lenOf pd__CZCZC_Z_1117 rfl) rfl rfl (hb hby at_201) ?_
        intro v73 T73 h73 L73 X73 e73 q73
        obtain ⟨rfl, N73, rfl⟩ := q73
        replace N73 := Fr.app N70 N73
        show Go p e below _ T73 (mkF m 204 #[.val (.int p0), .val (.int p1), .val (.int p2), .val (.int p3), .val (.int 3), .val (.int c0), .val (.int c1), .val (.int c2), .val (.ref b64), .val (.int 1)] [(.int (goodF c1 true c0 true c2))])
        by_cases hy74 : (goodF c1 true c0 true c2) = (0 : Int32)
        · skip
          refine Go.st (g' := (mkF m 248 #[.val (.int p0), .val (.int p1), .val (.int p2), .val (.int p3), .val (.int 3), .val (.int c0), .val (.int c1), .val (.int c2), .val (.ref b64), .val (.int 0)] [(.ref b64)])) (fun t k => ?_) ?_
          · refine XS.ifYes X73.here hx rfl (pc0 := 204) (pc' := 211) rfl (hb hby at_204) rfl ((if0 _ _).trans (teq hy74).1) (by decide) (by decide) ?_
            refine XS.iconst X73.here hx rfl (hb hby at_211) ?_
            refine XS.istore X73.here hx rfl (hb hby at_212) rfl (l' := #[.val (.int p0), .val (.int p1), .val (.int p2), .val (.int p3), .val (.int 3), .val (.int c0), .val (.int c1), .val (.int c2), .val (.ref b64), .val (.int 0)]) rfl ?_
            refine XS.iload X73.here hx rfl (hb hby at_214) rfl ?_
            refine XS.iconst X73.here hx rfl (hb hby at_216) ?_
            refine XS.icmpNo X73.here hx rfl (hb hby at_217) rfl (flt (by decide : ¬ (3 : Int32) < (3 : Int32))).1 ?_
            refine XS.iload X73.here hx rfl (hb hby at_220) rfl ?_
            refine XS.ifYes X73.here hx rfl (pc0 := 222) (pc' := 243) rfl (hb hby at_222) rfl ((if0 _ _).trans (teq (by decide : (0 : Int32) = (0 : Int32))).1) (by decide) (by decide) ?_
            refine XS.iconst X73.here hx rfl (hb hby at_243) ?_
            refine XS.istore X73.here hx rfl (hb hby at_244) rfl (l' := #[.val (.int p0), .val (.int p1), .val (.int p2), .val (.int p3), .val (.int 3), .val (.int c0), .val (.int c1), .val (.int c2), .val (.ref b64), .val (.int 0)]) rfl ?_
            refine XS.aload X73.here hx rfl (hb hby at_246) rfl rfl ?_
            exact k
          refine Go.callS X73 hx hZ (W := 0) (argsL := [(.ref b64)]) (rest := []) hown (wd hw 39 rfl) (wd hw 40 rfl) (wd hw 41 rfl) (wd hw 42 rfl) (by decide) (ct_storable_3 l Z a0 hw  b64 c0 c1 c2 h69 n0 O E_b64 (ct_len_3_1 l Z a0 hw zc fm G b64 ob69 kb69 (.int 0) (.int (nar .byte ((c0 >>> ((0 : Int32) &&& 31)).toInt8.toInt32))) (.int (nar .byte ((c0 >>> ((8 : Int32) &&& 31)).toInt8.toInt32))) (.int (nar .byte ((c1 >>> ((0 : Int32) &&& 31)).toInt8.toInt32))) (.int (nar .byte ((c1 >>> ((8 : Int32) &&& 31)).toInt8.toInt32))) (.int (nar .byte ((c2 >>> ((0 : Int32) &&& 31)).toInt8.toInt32))) (.int (nar .byte ((c2 >>> ((8 : Int32) &&& 31)).toInt8.toInt32))) h69 n0 O E_b64 Fv69 Fc69 V_ob69) (ct_ch_3_0_1 l Z a0 hw zc fm G b64 ob69 kb69 c0 (.int (nar .byte ((c1 >>> ((0 : Int32) &&& 31)).toInt8.toInt32))) (.int (nar .byte ((c1 >>> ((8 : Int32) &&& 31)).toInt8.toInt32))) (.int (nar .byte ((c2 >>> ((0 : Int32) &&& 31)).toInt8.toInt32))) (.int (nar .byte ((c2 >>> ((8 : Int32) &&& 31)).toInt8.toInt32))) h69 n0 O E_b64 Fv69 Fc69 V_ob69 hr0) (ct_ch_3_1_1 l Z a0 hw zc fm G b64 ob69 kb69 c1 (.int (nar .byte ((c0 >>> ((0 : Int32) &&& 31)).toInt8.toInt32))) (.int (nar .byte ((c0 >>> ((8 : Int32) &&& 31)).toInt8.toInt32))) (.int (nar .byte ((c2 >>> ((0 : Int32) &&& 31)).toInt8.toInt32))) (.int (nar .byte ((c2 >>> ((8 : Int32) &&& 31)).toInt8.toInt32))) h69 n0 O E_b64 Fv69 Fc69 V_ob69 hr1) (ct_ch_3_2_1 l Z a0 hw zc fm G b64 ob69 kb69 c2 (.int (nar .byte ((c0 >>> ((0 : Int32) &&& 31)).toInt8.toInt32))) (.int (nar .byte ((c0 >>> ((8 : Int32) &&& 31)).toInt8.toInt32))) (.int (nar .byte ((c1 >>> ((0 : Int32) &&& 31)).toInt8.toInt32))) (.int (nar .byte ((c1 >>> ((8 : Int32) &&& 31)).toInt8.toInt32))) h69 n0 O E_b64 Fv69 Fc69 V_ob69 hr2)) e73 (by rw [hml]; rfl) (lenOf pd__Ljava_lang_String__Z_965 rfl) rfl rfl (hb hby at_248) ?_
          intro v75 T75 h75 L75 X75 e75 q75
          obtain ⟨rfl, N75, rfl⟩ := q75
          replace N75 := Fr.app N73 N75
          refine Go.st (g' := (mkF m 261 #[.val (.int p0), .val (.int p1), .val (.int p2), .val (.int p3), .val (.int 3), .val (.int c0), .val (.int c1), .val (.int c2), .val (.ref b64), .val (.int 0)] [(.int 1)])) (fun t k => ?_) ?_
          · refine XS.iload X75.here hx rfl (hb hby at_251) rfl ?_
            refine XS.icmpNo X75.here hx rfl (hb hby at_253) rfl (teq (own_f3_2 hy71 hy74)).2 ?_
            refine XS.iconst X75.here hx rfl (hb hby at_256) ?_
            refine XS.goto X75.here hx rfl (pc0 := 257) (pc' := 261) rfl (hb hby at_257) (by decide) (by decide) ?_
            exact k
          refine Go.retZW X75 hx hlk hret (Or.inr rfl) (hb hby at_261) (by decide) (by decide) e75 hS hk ?_
          exact ⟨rfl, N75⟩
        · skip
          refine Go.st (g' := (mkF m 233 #[.val (.int p0), .val (.int p1), .val (.int p2), .val (.int p3), .val (.int 3), .val (.int c0), .val (.int c1), .val (.int c2), .val (.ref b64), .val (.int 1)] [(.int c2), (.int 0), (.int c1), (.int 1), (.int c2)])) (fun t k => ?_) ?_
          · refine XS.ifNo X73.here hx rfl (hb hby at_204) rfl ((if0 _ _).trans (feq hy74).1) ?_
            refine XS.iconst X73.here hx rfl (hb hby at_207) ?_
            refine XS.goto X73.here hx rfl (pc0 := 208) (pc' := 212) rfl (hb hby at_208) (by decide) (by decide) ?_
            refine XS.istore X73.here hx rfl (hb hby at_212) rfl (l' := #[.val (.int p0), .val (.int p1), .val (.int p2), .val (.int p3), .val (.int 3), .val (.int c0), .val (.int c1), .val (.int c2), .val (.ref b64), .val (.int 1)]) rfl ?_
            refine XS.iload X73.here hx rfl (hb hby at_214) rfl ?_
            refine XS.iconst X73.here hx rfl (hb hby at_216) ?_
            refine XS.icmpNo X73.here hx rfl (hb hby at_217) rfl (flt (by decide : ¬ (3 : Int32) < (3 : Int32))).1 ?_
            refine XS.iload X73.here hx rfl (hb hby at_220) rfl ?_
            refine XS.ifNo X73.here hx rfl (hb hby at_222) rfl ((if0 _ _).trans (feq (by decide : ¬ (1 : Int32) = (0 : Int32))).1) ?_
            refine XS.iload X73.here hx rfl (hb hby at_225) rfl ?_
            refine XS.iconst X73.here hx rfl (hb hby at_227) ?_
            refine XS.iload X73.here hx rfl (hb hby at_228) rfl ?_
            refine XS.iconst X73.here hx rfl (hb hby at_230) ?_
            refine XS.iload X73.here hx rfl (hb hby at_231) rfl ?_
            exact k
          refine Go.callS X73 hx hZ (W := 0) (argsL := [(.int c2), (.int 1), (.int c1), (.int 0), (.int c2)]) (rest := []) hown (wd hw 36 rfl) (wd hw 37 rfl) (wd hw 2 rfl) (wd hw 38 rfl) (by decide) (ct_good_1_0 l Z a0 hw  c2 c1 c2 h69 n0 O ) e73 (by rw [hml]; rfl) (lenOf pd__CZCZC_Z_1117 rfl) rfl rfl (hb hby at_233) ?_
          intro v76 T76 h76 L76 X76 e76 q76
          obtain ⟨rfl, N76, rfl⟩ := q76
          replace N76 := Fr.app N73 N76
          show Go p e below _ T76 (mkF m 236 #[.val (.int p0), .val (.int p1), .val (.int p2), .val (.int p3), .val (.int 3), .val (.int c0), .val (.int c1), .val (.int c2), .val (.ref b64), .val (.int 1)] [(.int (goodF c2 true c1 false c2))])
          by_cases hy77 : (goodF c2 true c1 false c2) = (0 : Int32)
          · skip
            refine Go.st (g' := (mkF m 248 #[.val (.int p0), .val (.int p1), .val (.int p2), .val (.int p3), .val (.int 3), .val (.int c0), .val (.int c1), .val (.int c2), .val (.ref b64), .val (.int 0)] [(.ref b64)])) (fun t k => ?_) ?_
            · refine XS.ifYes X76.here hx rfl (pc0 := 236) (pc' := 243) rfl (hb hby at_236) rfl ((if0 _ _).trans (teq hy77).1) (by decide) (by decide) ?_
              refine XS.iconst X76.here hx rfl (hb hby at_243) ?_
              refine XS.istore X76.here hx rfl (hb hby at_244) rfl (l' := #[.val (.int p0), .val (.int p1), .val (.int p2), .val (.int p3), .val (.int 3), .val (.int c0), .val (.int c1), .val (.int c2), .val (.ref b64), .val (.int 0)]) rfl ?_
              refine XS.aload X76.here hx rfl (hb hby at_246) rfl rfl ?_
              exact k
            refine Go.callS X76 hx hZ (W := 0) (argsL := [(.ref b64)]) (rest := []) hown (wd hw 39 rfl) (wd hw 40 rfl) (wd hw 41 rfl) (wd hw 42 rfl) (by decide) (ct_storable_3 l Z a0 hw  b64 c0 c1 c2 h69 n0 O E_b64 (ct_len_3_1 l Z a0 hw zc fm G b64 ob69 kb69 (.int 0) (.int (nar .byte ((c0 >>> ((0 : Int32) &&& 31)).toInt8.toInt32))) (.int (nar .byte ((c0 >>> ((8 : Int32) &&& 31)).toInt8.toInt32))) (.int (nar .byte ((c1 >>> ((0 : Int32) &&& 31)).toInt8.toInt32))) (.int (nar .byte ((c1 >>> ((8 : Int32) &&& 31)).toInt8.toInt32))) (.int (nar .byte ((c2 >>> ((0 : Int32) &&& 31)).toInt8.toInt32))) (.int (nar .byte ((c2 >>> ((8 : Int32) &&& 31)).toInt8.toInt32))) h69 n0 O E_b64 Fv69 Fc69 V_ob69) (ct_ch_3_0_1 l Z a0 hw zc fm G b64 ob69 kb69 c0 (.int (nar .byte ((c1 >>> ((0 : Int32) &&& 31)).toInt8.toInt32))) (.int (nar .byte ((c1 >>> ((8 : Int32) &&& 31)).toInt8.toInt32))) (.int (nar .byte ((c2 >>> ((0 : Int32) &&& 31)).toInt8.toInt32))) (.int (nar .byte ((c2 >>> ((8 : Int32) &&& 31)).toInt8.toInt32))) h69 n0 O E_b64 Fv69 Fc69 V_ob69 hr0) (ct_ch_3_1_1 l Z a0 hw zc fm G b64 ob69 kb69 c1 (.int (nar .byte ((c0 >>> ((0 : Int32) &&& 31)).toInt8.toInt32))) (.int (nar .byte ((c0 >>> ((8 : Int32) &&& 31)).toInt8.toInt32))) (.int (nar .byte ((c2 >>> ((0 : Int32) &&& 31)).toInt8.toInt32))) (.int (nar .byte ((c2 >>> ((8 : Int32) &&& 31)).toInt8.toInt32))) h69 n0 O E_b64 Fv69 Fc69 V_ob69 hr1) (ct_ch_3_2_1 l Z a0 hw zc fm G b64 ob69 kb69 c2 (.int (nar .byte ((c0 >>> ((0 : Int32) &&& 31)).toInt8.toInt32))) (.int (nar .byte ((c0 >>> ((8 : Int32) &&& 31)).toInt8.toInt32))) (.int (nar .byte ((c1 >>> ((0 : Int32) &&& 31)).toInt8.toInt32))) (.int (nar .byte ((c1 >>> ((8 : Int32) &&& 31)).toInt8.toInt32))) h69 n0 O E_b64 Fv69 Fc69 V_ob69 hr2)) e76 (by rw [hml]; rfl) (lenOf pd__Ljava_lang_String__Z_965 rfl) rfl rfl (hb hby at_248) ?_
            intro v78 T78 h78 L78 X78 e78 q78
            obtain ⟨rfl, N78, rfl⟩ := q78
            replace N78 := Fr.app N76 N78
            refine Go.st (g' := (mkF m 261 #[.val (.int p0), .val (.int p1), .val (.int p2), .val (.int p3), .val (.int 3), .val (.int c0), .val (.int c1), .val (.int c2), .val (.ref b64), .val (.int 0)] [(.int 1)])) (fun t k => ?_) ?_
            · refine XS.iload X78.here hx rfl (hb hby at_251) rfl ?_
              refine XS.icmpNo X78.here hx rfl (hb hby at_253) rfl (teq (own_f3_3 hy71 hy74 hy77)).2 ?_
              refine XS.iconst X78.here hx rfl (hb hby at_256) ?_
              refine XS.goto X78.here hx rfl (pc0 := 257) (pc' := 261) rfl (hb hby at_257) (by decide) (by decide) ?_
              exact k
            refine Go.retZW X78 hx hlk hret (Or.inr rfl) (hb hby at_261) (by decide) (by decide) e78 hS hk ?_
            exact ⟨rfl, N78⟩
          · skip
            refine Go.st (g' := (mkF m 248 #[.val (.int p0), .val (.int p1), .val (.int p2), .val (.int p3), .val (.int 3), .val (.int c0), .val (.int c1), .val (.int c2), .val (.ref b64), .val (.int 1)] [(.ref b64)])) (fun t k => ?_) ?_
            · refine XS.ifNo X76.here hx rfl (hb hby at_236) rfl ((if0 _ _).trans (feq hy77).1) ?_
              refine XS.iconst X76.here hx rfl (hb hby at_239) ?_
              refine XS.goto X76.here hx rfl (pc0 := 240) (pc' := 244) rfl (hb hby at_240) (by decide) (by decide) ?_
              refine XS.istore X76.here hx rfl (hb hby at_244) rfl (l' := #[.val (.int p0), .val (.int p1), .val (.int p2), .val (.int p3), .val (.int 3), .val (.int c0), .val (.int c1), .val (.int c2), .val (.ref b64), .val (.int 1)]) rfl ?_
              refine XS.aload X76.here hx rfl (hb hby at_246) rfl rfl ?_
              exact k
            refine Go.callS X76 hx hZ (W := 0) (argsL := [(.ref b64)]) (rest := []) hown (wd hw 39 rfl) (wd hw 40 rfl) (wd hw 41 rfl) (wd hw 42 rfl) (by decide) (ct_storable_3 l Z a0 hw  b64 c0 c1 c2 h69 n0 O E_b64 (ct_len_3_1 l Z a0 hw zc fm G b64 ob69 kb69 (.int 0) (.int (nar .byte ((c0 >>> ((0 : Int32) &&& 31)).toInt8.toInt32))) (.int (nar .byte ((c0 >>> ((8 : Int32) &&& 31)).toInt8.toInt32))) (.int (nar .byte ((c1 >>> ((0 : Int32) &&& 31)).toInt8.toInt32))) (.int (nar .byte ((c1 >>> ((8 : Int32) &&& 31)).toInt8.toInt32))) (.int (nar .byte ((c2 >>> ((0 : Int32) &&& 31)).toInt8.toInt32))) (.int (nar .byte ((c2 >>> ((8 : Int32) &&& 31)).toInt8.toInt32))) h69 n0 O E_b64 Fv69 Fc69 V_ob69) (ct_ch_3_0_1 l Z a0 hw zc fm G b64 ob69 kb69 c0 (.int (nar .byte ((c1 >>> ((0 : Int32) &&& 31)).toInt8.toInt32))) (.int (nar .byte ((c1 >>> ((8 : Int32) &&& 31)).toInt8.toInt32))) (.int (nar .byte ((c2 >>> ((0 : Int32) &&& 31)).toInt8.toInt32))) (.int (nar .byte ((c2 >>> ((8 : Int32) &&& 31)).toInt8.toInt32))) h69 n0 O E_b64 Fv69 Fc69 V_ob69 hr0) (ct_ch_3_1_1 l Z a0 hw zc fm G b64 ob69 kb69 c1 (.int (nar .byte ((c0 >>> ((0 : Int32) &&& 31)).toInt8.toInt32))) (.int (nar .byte ((c0 >>> ((8 : Int32) &&& 31)).toInt8.toInt32))) (.int (nar .byte ((c2 >>> ((0 : Int32) &&& 31)).toInt8.toInt32))) (.int (nar .byte ((c2 >>> ((8 : Int32) &&& 31)).toInt8.toInt32))) h69 n0 O E_b64 Fv69 Fc69 V_ob69 hr1) (ct_ch_3_2_1 l Z a0 hw zc fm G b64 ob69 kb69 c2 (.int (nar .byte ((c0 >>> ((0 : Int32) &&& 31)).toInt8.toInt32))) (.int (nar .byte ((c0 >>> ((8 : Int32) &&& 31)).toInt8.toInt32))) (.int (nar .byte ((c1 >>> ((0 : Int32) &&& 31)).toInt8.toInt32))) (.int (nar .byte ((c1 >>> ((8 : Int32) &&& 31)).toInt8.toInt32))) h69 n0 O E_b64 Fv69 Fc69 V_ob69 hr2)) e76 (by rw [hml]; rfl) (lenOf pd__Ljava_lang_String__Z_965 rfl) rfl rfl (hb hby at_248) ?_
            intro v79 T79 h79 L79 X79 e79 q79
            obtain ⟨rfl, N79, rfl⟩ := q79
            replace N79 := Fr.app N76 N79
            refine Go.st (g' := (mkF m 261 #[.val (.int p0), .val (.int p1), .val (.int p2), .val (.int p3), .val (.int 3), .val (.int c0), .val (.int c1), .val (.int c2), .val (.ref b64), .val (.int 1)] [(.int 1)])) (fun t k => ?_) ?_
            · refine XS.iload X79.here hx rfl (hb hby at_251) rfl ?_
              refine XS.icmpNo X79.here hx rfl (hb hby at_253) rfl (teq (own_t3 hy71 hy74 hy77)).2 ?_
              refine XS.iconst X79.here hx rfl (hb hby at_256) ?_
              refine XS.goto X79.here hx rfl (pc0 := 257) (pc' := 261) rfl (hb hby at_257) (by decide) (by decide) ?_
              exact k
            refine Go.retZW X79 hx hlk hret (Or.inr rfl) (hb hby at_261) (by decide) (by decide) e79 hS hk ?_
            exact ⟨rfl, N79⟩
    · skip
      show Go p e below _ T3 (mkF m 100 #[.val (.int p0), .val (.int p1), .val (.int p2), .val (.int p3), .val (.int 3), .val (.int c0), .val (.int c1), .val (.int c2), .unset, .unset] [])
      by_cases hy80 : (255 : Int32) < c1
      · skip
        show Go p e below _ T3 (mkF m 100 #[.val (.int p0), .val (.int p1), .val (.int p2), .val (.int p3), .val (.int 3), .val (.int c0), .val (.int c1), .val (.int c2), .unset, .unset] [])
        refine Go.newO X3 hx hZ hown (wd hw 6 rfl) (wd hw 7 rfl) (wd hw 8 rfl) e3 (hb hby at_100) (by decide) (by decide) ?_
        intro T81 h81 b81 X81 e81 E81 g81 A81 D81
        have lb81 := Nat.le_of_eq g81.symm
        have g_b81 : n0 ≤ b81 := Nat.le_trans (OwnKit.Old.le O) lb81
        replace O := O.ext E81
        replace hk := Nat.le_trans hk E81.1
        have E_b81 := A81
        have F_b81_coder : Fld Z h81 b81 "java/lang/String" "coder" "B" (.int 0) := D81 (Or.inr (wd hw 33 rfl)) (ty := .byte) (by decide)
        have F_b81_value : Fld Z h81 b81 "java/lang/String" "value" "[B" .null := D81 (Or.inr (wd hw 35 rfl)) (ty := (.array .byte)) (by decide)
        refine Go.st (g' := (mkF m 105 #[.val (.int p0), .val (.int p1), .val (.int p2), .val (.int p3), .val (.int 3), .val (.int c0), .val (.int c1), .val (.int c2), .unset, .unset] [(.int 3), (.ref b81), (.ref b81)])) (fun t k => ?_) ?_
        · refine XS.dup X81.here hx rfl (hb hby at_103) rfl rfl ?_
          refine XS.iconst X81.here hx rfl (hb hby at_104) ?_
          exact k
        refine Go.newP X81 hx hZ (wd hw 9 rfl) e81 (hb hby at_105) (by decide) (cap := 3) (by decide) (by decide) (by decide) (by decide) ?_
        intro T82 h82 b82 k82 X82 e82 E82 g82 V_b82
        have lb82 := Nat.le_of_eq g82.symm
        have ne_b81_b82 : b81 ≠ b82 := Nat.ne_of_lt (Nat.lt_of_lt_of_le E_b81.lt lb82)
        have g_b82 : n0 ≤ b82 := Nat.le_trans (OwnKit.Old.le O) lb82
        replace E_b81 := E_b81.ext E82
        replace F_b81_coder := F_b81_coder.ext E82
        replace F_b81_value := F_b81_value.ext E82
        replace O := O.ext E82
        replace hk := Nat.le_trans hk E82.1
        replace V_b82 := V_b82.pad (pad_rep [] (.int 0) 3)
        replace V_b82 : Arv Z h82 b82 k82 .char (3 : Int32) [(.int 0), (.int 0), (.int 0)] (.int 0) := V_b82
        refine Go.st (g' := (mkF m 111 #[.val (.int p0), .val (.int p1), .val (.int p2), .val (.int p3), .val (.int 3), .val (.int c0), .val (.int c1), .val (.int c2), .unset, .unset] [(.int c0), (.int 0), (.ref b82), (.ref b82), (.ref b81), (.ref b81)])) (fun t k => ?_) ?_
        · refine XS.dup X82.here hx rfl (hb hby at_107) rfl rfl ?_
          refine XS.iconst X82.here hx rfl (hb hby at_108) ?_
          refine XS.iload X82.here hx rfl (hb hby at_109) rfl ?_
          exact k
        refine Go.nstV X82 hx hZ e82 V_b82 (j := (0 : Int32)) ⟨by decide, by decide⟩ 0 rfl (Nat.le_of_ble_eq_true rfl) (Or.inl ⟨rfl, rfl⟩) (hb hby at_111) ?_
        intro T83 h83 X83 e83 W83 Vn83
        replace E_b81 := E_b81.wr W83
        replace F_b81_coder := F_b81_coder.other W83 (Or.inl ne_b81_b82)
        replace F_b81_value := F_b81_value.other W83 (Or.inl ne_b81_b82)
        replace O := O.wr W83 g_b82
        have N83 := Fr.snoc X83 N3 g_b82
        replace hk := Nat.le_trans hk (Nat.le_of_eq W83.size.symm)
        replace V_b82 : Arv Z h83 b82 k82 .char (3 : Int32) [(.int (nar .char c0)), (.int 0), (.int 0)] (.int 0) := Vn83
        clear Vn83
        rw [own_nar hr0] at V_b82
        refine Go.st (g' := (mkF m 116 #[.val (.int p0), .val (.int p1), .val (.int p2), .val (.int p3), .val (.int 3), .val (.int c0), .val (.int c1), .val (.int c2), .unset, .unset] [(.int c1), (.int 1), (.ref b82), (.ref b82), (.ref b81), (.ref b81)])) (fun t k => ?_) ?_
        · refine XS.dup X83.here hx rfl (hb hby at_112) rfl rfl ?_
          refine XS.iconst X83.here hx rfl (hb hby at_113) ?_
          refine XS.iload X83.here hx rfl (hb hby at_114) rfl ?_
          exact k
        refine Go.nstV X83 hx hZ e83 V_b82 (j := (1 : Int32)) ⟨by decide, by decide⟩ 1 rfl (Nat.le_of_ble_eq_true rfl) (Or.inl ⟨rfl, rfl⟩) (hb hby at_116) ?_
        intro T84 h84 X84 e84 W84 Vn84
        replace E_b81 := E_b81.wr W84
        replace F_b81_coder := F_b81_coder.other W84 (Or.inl ne_b81_b82)
        replace F_b81_value := F_b81_value.other W84 (Or.inl ne_b81_b82)
        replace O := O.wr W84 g_b82
        have N84 := Fr.snoc X84 N83 g_b82
        replace hk := Nat.le_trans hk (Nat.le_of_eq W84.size.symm)
        replace V_b82 : Arv Z h84 b82 k82 .char (3 : Int32) [(.int c0), (.int (nar .char c1)), (.int 0)] (.int 0) := Vn84
        clear Vn84
        rw [own_nar hr1] at V_b82
        refine Go.st (g' := (mkF m 121 #[.val (.int p0), .val (.int p1), .val (.int p2), .val (.int p3), .val (.int 3), .val (.int c0), .val (.int c1), .val (.int c2), .unset, .unset] [(.int c2), (.int 2), (.ref b82), (.ref b82), (.ref b81), (.ref b81)])) (fun t k => ?_) ?_
        · refine XS.dup X84.here hx rfl (hb hby at_117) rfl rfl ?_
          refine XS.iconst X84.here hx rfl (hb hby at_118) ?_
          refine XS.iload X84.here hx rfl (hb hby at_119) rfl ?_
          exact k
        refine Go.nstV X84 hx hZ e84 V_b82 (j := (2 : Int32)) ⟨by decide, by decide⟩ 2 rfl (Nat.le_of_ble_eq_true rfl) (Or.inl ⟨rfl, rfl⟩) (hb hby at_121) ?_
        intro T85 h85 X85 e85 W85 Vn85
        replace E_b81 := E_b81.wr W85
        replace F_b81_coder := F_b81_coder.other W85 (Or.inl ne_b81_b82)
        replace F_b81_value := F_b81_value.other W85 (Or.inl ne_b81_b82)
        replace O := O.wr W85 g_b82
        have N85 := Fr.snoc X85 N84 g_b82
        replace hk := Nat.le_trans hk (Nat.le_of_eq W85.size.symm)
        replace V_b82 : Arv Z h85 b82 k82 .char (3 : Int32) [(.int c0), (.int c1), (.int (nar .char c2))] (.int 0) := Vn85
        clear Vn85
        rw [own_nar hr2] at V_b82
        show Go p e below _ T85 (mkF m 122 #[.val (.int p0), .val (.int p1), .val (.int p2), .val (.int p3), .val (.int 3), .val (.int c0), .val (.int c1), .val (.int c2), .unset, .unset] [(.ref b82), (.ref b81), (.ref b81)])
        refine Go.callC X85 hx hZ (W := 1) (argsL := [(.ref b82)]) (rest := [(.ref b81)]) hown rfl (wd hw 10 rfl) (wd hw 11 rfl) (wd hw 8 rfl) (wd hw 12 rfl) (by decide) (ct_si1_3_1 l Z a0 hw zc fm G b81 b82 k82 c0 c1 c2 h85 n0 O E_b81 F_b81_value F_b81_coder g_b81 V_b82 ne_b81_b82 hr0 hr1 hr2 hy63 hy80) e85 (by rw [hml]; rfl) (lenOf pd___C_V_902 rfl) rfl rfl (hb hby at_122) ?_
        intro v86 T86 h86 L86 X86 e86 q86
        obtain ⟨ob86, kb86, rfl, N86, K86, Fv86, Fc86, V_ob86⟩ := q86
        replace N86 := Fr.app N85 N86
        replace E_b81 := E_b81.keep K86
        clear F_b81_coder
        clear F_b81_value
        replace V_b82 := V_b82.keep K86 (ninS (Ne.symm ne_b81_b82) nin0)
        replace O := O.keep K86 (allS g_b81 all0)
        replace hk := Nat.le_trans hk K86.1
        refine Go.st (g' := (mkF m 159 #[.val (.int p0), .val (.int p1), .val (.int p2), .val (.int p3), .val (.int 3), .val (.int c0), .val (.int c1), .val (.int c2), .val (.ref b81), .val (.int 1)] [(.int c1), (.int 1), (.int c0), (.int 0), (.int c0)])) (fun t k => ?_) ?_
        · refine XS.astore X86.here hx rfl (hb hby at_125) rfl rfl (l' := #[.val (.int p0), .val (.int p1), .val (.int p2), .val (.int p3), .val (.int 3), .val (.int c0), .val (.int c1), .val (.int c2), .val (.ref b81), .unset]) rfl ?_
          refine XS.iconst X86.here hx rfl (hb hby at_127) ?_
          refine XS.istore X86.here hx rfl (hb hby at_128) rfl (l' := #[.val (.int p0), .val (.int p1), .val (.int p2), .val (.int p3), .val (.int 3), .val (.int c0), .val (.int c1), .val (.int c2), .val (.ref b81), .val (.int 1)]) rfl ?_
          refine XS.iload X86.here hx rfl (hb hby at_130) rfl ?_
          refine XS.iconst X86.here hx rfl (hb hby at_132) ?_
          refine XS.icmpNo X86.here hx rfl (hb hby at_133) rfl (flt (by decide : ¬ (3 : Int32) < (1 : Int32))).1 ?_
          refine XS.iload X86.here hx rfl (hb hby at_136) rfl ?_
          refine XS.ifNo X86.here hx rfl (hb hby at_138) rfl ((if0 _ _).trans (feq (by decide : ¬ (1 : Int32) = (0 : Int32))).1) ?_
          refine XS.iload X86.here hx rfl (hb hby at_141) rfl ?_
          refine XS.iconst X86.here hx rfl (hb hby at_143) ?_
          refine XS.iload X86.here hx rfl (hb hby at_144) rfl ?_
          refine XS.iload X86.here hx rfl (hb hby at_146) rfl ?_
          refine XS.iconst X86.here hx rfl (hb hby at_148) ?_
          refine XS.icmpNo X86.here hx rfl (hb hby at_149) rfl (tlt (by decide : (1 : Int32) < (3 : Int32))).2.2.2 ?_
          refine XS.iconst X86.here hx rfl (hb hby at_152) ?_
          refine XS.goto X86.here hx rfl (pc0 := 153) (pc' := 157) rfl (hb hby at_153) (by decide) (by decide) ?_
          refine XS.iload X86.here hx rfl (hb hby at_157) rfl ?_
          exact k
        refine Go.callS X86 hx hZ (W := 0) (argsL := [(.int c0), (.int 0), (.int c0), (.int 1), (.int c1)]) (rest := []) hown (wd hw 36 rfl) (wd hw 37 rfl) (wd hw 2 rfl) (wd hw 38 rfl) (by decide) (ct_good_0_1 l Z a0 hw  c0 c0 c1 h86 n0 O ) e86 (by rw [hml]; rfl) (lenOf pd__CZCZC_Z_1117 rfl) rfl rfl (hb hby at_159) ?_
        intro v87 T87 h87 L87 X87 e87 q87
        obtain ⟨rfl, N87, rfl⟩ := q87
        replace N87 := Fr.app N86 N87
        show Go p e below _ T87 (mkF m 162 #[.val (.int p0), .val (.int p1), .val (.int p2), .val (.int p3), .val (.int 3), .val (.int c0), .val (.int c1), .val (.int c2), .val (.ref b81), .val (.int 1)] [(.int (goodF c0 false c0 true c1))])
        by_cases hy88 : (goodF c0 false c0 true c1) = (0 : Int32)
        · skip
          refine Go.st (g' := (mkF m 248 #[.val (.int p0), .val (.int p1), .val (.int p2), .val (.int p3), .val (.int 3), .val (.int c0), .val (.int c1), .val (.int c2), .val (.ref b81), .val (.int 0)] [(.ref b81)])) (fun t k => ?_) ?_
          · refine XS.ifYes X87.here hx rfl (pc0 := 162) (pc' := 169) rfl (hb hby at_162) rfl ((if0 _ _).trans (teq hy88).1) (by decide) (by decide) ?_
            refine XS.iconst X87.here hx rfl (hb hby at_169) ?_
            refine XS.istore X87.here hx rfl (hb hby at_170) rfl (l' := #[.val (.int p0), .val (.int p1), .val (.int p2), .val (.int p3), .val (.int 3), .val (.int c0), .val (.int c1), .val (.int c2), .val (.ref b81), .val (.int 0)]) rfl ?_
            refine XS.iload X87.here hx rfl (hb hby at_172) rfl ?_
            refine XS.iconst X87.here hx rfl (hb hby at_174) ?_
            refine XS.icmpNo X87.here hx rfl (hb hby at_175) rfl (flt (by decide : ¬ (3 : Int32) < (2 : Int32))).1 ?_
            refine XS.iload X87.here hx rfl (hb hby at_178) rfl ?_
            refine XS.ifYes X87.here hx rfl (pc0 := 180) (pc' := 211) rfl (hb hby at_180) rfl ((if0 _ _).trans (teq (by decide : (0 : Int32) = (0 : Int32))).1) (by decide) (by decide) ?_
            refine XS.iconst X87.here hx rfl (hb hby at_211) ?_
            refine XS.istore X87.here hx rfl (hb hby at_212) rfl (l' := #[.val (.int p0), .val (.int p1), .val (.int p2), .val (.int p3), .val (.int 3), .val (.int c0), .val (.int c1), .val (.int c2), .val (.ref b81), .val (.int 0)]) rfl ?_
            refine XS.iload X87.here hx rfl (hb hby at_214) rfl ?_
            refine XS.iconst X87.here hx rfl (hb hby at_216) ?_
            refine XS.icmpNo X87.here hx rfl (hb hby at_217) rfl (flt (by decide : ¬ (3 : Int32) < (3 : Int32))).1 ?_
            refine XS.iload X87.here hx rfl (hb hby at_220) rfl ?_
            refine XS.ifYes X87.here hx rfl (pc0 := 222) (pc' := 243) rfl (hb hby at_222) rfl ((if0 _ _).trans (teq (by decide : (0 : Int32) = (0 : Int32))).1) (by decide) (by decide) ?_
            refine XS.iconst X87.here hx rfl (hb hby at_243) ?_
            refine XS.istore X87.here hx rfl (hb hby at_244) rfl (l' := #[.val (.int p0), .val (.int p1), .val (.int p2), .val (.int p3), .val (.int 3), .val (.int c0), .val (.int c1), .val (.int c2), .val (.ref b81), .val (.int 0)]) rfl ?_
            refine XS.aload X87.here hx rfl (hb hby at_246) rfl rfl ?_
            exact k
          refine Go.callS X87 hx hZ (W := 0) (argsL := [(.ref b81)]) (rest := []) hown (wd hw 39 rfl) (wd hw 40 rfl) (wd hw 41 rfl) (wd hw 42 rfl) (by decide) (ct_storable_3 l Z a0 hw  b81 c0 c1 c2 h86 n0 O E_b81 (ct_len_3_1 l Z a0 hw zc fm G b81 ob86 kb86 (.int 0) (.int (nar .byte ((c0 >>> ((0 : Int32) &&& 31)).toInt8.toInt32))) (.int (nar .byte ((c0 >>> ((8 : Int32) &&& 31)).toInt8.toInt32))) (.int (nar .byte ((c1 >>> ((0 : Int32) &&& 31)).toInt8.toInt32))) (.int (nar .byte ((c1 >>> ((8 : Int32) &&& 31)).toInt8.toInt32))) (.int (nar .byte ((c2 >>> ((0 : Int32) &&& 31)).toInt8.toInt32))) (.int (nar .byte ((c2 >>> ((8 : Int32) &&& 31)).toInt8.toInt32))) h86 n0 O E_b81 Fv86 Fc86 V_ob86) (ct_ch_3_0_1 l Z a0 hw zc fm G b81 ob86 kb86 c0 (.int (nar .byte ((c1 >>> ((0 : Int32) &&& 31)).toInt8.toInt32))) (.int (nar .byte ((c1 >>> ((8 : Int32) &&& 31)).toInt8.toInt32))) (.int (nar .byte ((c2 >>> ((0 : Int32) &&& 31)).toInt8.toInt32))) (.int (nar .byte ((c2 >>> ((8 : Int32) &&& 31)).toInt8.toInt32))) h86 n0 O E_b81 Fv86 Fc86 V_ob86 hr0) (ct_ch_3_1_1 l Z a0 hw zc fm G b81 ob86 kb86 c1 (.int (nar .byte ((c0 >>> ((0 : Int32) &&& 31)).toInt8.toInt32))) (.int (nar .byte ((c0 >>> ((8 : Int32) &&& 31)).toInt8.toInt32))) (.int (nar .byte ((c2 >>> ((0 : Int32) &&& 31)).toInt8.toInt32))) (.int (nar .byte ((c2 >>> ((8 : Int32) &&& 31)).toInt8.toInt32))) h86 n0 O E_b81 Fv86 Fc86 V_ob86 hr1) (ct_ch_3_2_1 l Z a0 hw zc fm G b81 ob86 kb86 c2 (.int (nar .byte ((c0 >>> ((0 : Int32) &&& 31)).toInt8.toInt32))) (.int (nar .byte ((c0 >>> ((8 : Int32) &&& 31)).toInt8.toInt32))) (.int (nar .byte ((c1 >>> ((0 : Int32) &&& 31)).toInt8.toInt32))) (.int (nar .byte ((c1 >>> ((8 : Int32) &&& 31)).toInt8.toInt32))) h86 n0 O E_b81 Fv86 Fc86 V_ob86 hr2)) e87 (by rw [hml]; rfl) (lenOf pd__Ljava_lang_String__Z_965 rfl) rfl rfl (hb hby at_248) ?_
          intro v89 T89 h89 L89 X89 e89 q89
          obtain ⟨rfl, N89, rfl⟩ := q89
          replace N89 := Fr.app N87 N89
          refine Go.st (g' := (mkF m 261 #[.val (.int p0), .val (.int p1), .val (.int p2), .val (.int p3), .val (.int 3), .val (.int c0), .val (.int c1), .val (.int c2), .val (.ref b81), .val (.int 0)] [(.int 1)])) (fun t k => ?_) ?_
          · refine XS.iload X89.here hx rfl (hb hby at_251) rfl ?_
            refine XS.icmpNo X89.here hx rfl (hb hby at_253) rfl (teq (own_f3_1 hy88)).2 ?_
            refine XS.iconst X89.here hx rfl (hb hby at_256) ?_
            refine XS.goto X89.here hx rfl (pc0 := 257) (pc' := 261) rfl (hb hby at_257) (by decide) (by decide) ?_
            exact k
          refine Go.retZW X89 hx hlk hret (Or.inr rfl) (hb hby at_261) (by decide) (by decide) e89 hS hk ?_
          exact ⟨rfl, N89⟩
        · skip
          refine Go.st (g' := (mkF m 201 #[.val (.int p0), .val (.int p1), .val (.int p2), .val (.int p3), .val (.int 3), .val (.int c0), .val (.int c1), .val (.int c2), .val (.ref b81), .val (.int 1)] [(.int c2), (.int 1), (.int c0), (.int 1), (.int c1)])) (fun t k => ?_) ?_
          · refine XS.ifNo X87.here hx rfl (hb hby at_162) rfl ((if0 _ _).trans (feq hy88).1) ?_
            refine XS.iconst X87.here hx rfl (hb hby at_165) ?_
            refine XS.goto X87.here hx rfl (pc0 := 166) (pc' := 170) rfl (hb hby at_166) (by decide) (by decide) ?_
            refine XS.istore X87.here hx rfl (hb hby at_170) rfl (l' := #[.val (.int p0), .val (.int p1), .val (.int p2), .val (.int p3), .val (.int 3), .val (.int c0), .val (.int c1), .val (.int c2), .val (.ref b81), .val (.int 1)]) rfl ?_
            refine XS.iload X87.here hx rfl (hb hby at_172) rfl ?_
            refine XS.iconst X87.here hx rfl (hb hby at_174) ?_
            refine XS.icmpNo X87.here hx rfl (hb hby at_175) rfl (flt (by decide : ¬ (3 : Int32) < (2 : Int32))).1 ?_
            refine XS.iload X87.here hx rfl (hb hby at_178) rfl ?_
            refine XS.ifNo X87.here hx rfl (hb hby at_180) rfl ((if0 _ _).trans (feq (by decide : ¬ (1 : Int32) = (0 : Int32))).1) ?_
            refine XS.iload X87.here hx rfl (hb hby at_183) rfl ?_
            refine XS.iconst X87.here hx rfl (hb hby at_185) ?_
            refine XS.iload X87.here hx rfl (hb hby at_186) rfl ?_
            refine XS.iload X87.here hx rfl (hb hby at_188) rfl ?_
            refine XS.iconst X87.here hx rfl (hb hby at_190) ?_
            refine XS.icmpNo X87.here hx rfl (hb hby at_191) rfl (tlt (by decide : (2 : Int32) < (3 : Int32))).2.2.2 ?_
            refine XS.iconst X87.here hx rfl (hb hby at_194) ?_
            refine XS.goto X87.here hx rfl (pc0 := 195) (pc' := 199) rfl (hb hby at_195) (by decide) (by decide) ?_
            refine XS.iload X87.here hx rfl (hb hby at_199) rfl ?_
            exact k
          refine Go.callS X87 hx hZ (W := 0) (argsL := [(.int c1), (.int 1), (.int c0), (.int 1), (.int c2)]) (rest := []) hown (wd hw 36 rfl) (wd hw 37 rfl) (wd hw 2 rfl) (wd hw 38 rfl) (by decide) (ct_good_1_1 l Z a0 hw  c1 c0 c2 h86 n0 O ) e87 (by rw [hml]; rfl) (lenOf pd__CZCZC_Z_1117 rfl) rfl rfl (hb hby at_201) ?_
          intro v90 T90 h90 L90 X90 e90 q90
          obtain ⟨rfl, N90, rfl⟩ := q90
          replace N90 := Fr.app N87 N90
          show Go p e below _ T90 (mkF m 204 #[.val (.int p0), .val (.int p1), .val (.int p2), .val (.int p3), .val (.int 3), .val (.int c0), .val (.int c1), .val (.int c2), .val (.ref b81), .val (.int 1)] [(.int (goodF c1 true c0 true c2))])
          by_cases hy91 : (goodF c1 true c0 true c2) = (0 : Int32)
          · skip
            refine Go.st (g' := (mkF m 248 #[.val (.int p0), .val (.int p1), .val (.int p2), .val (.int p3), .val (.int 3), .val (.int c0), .val (.int c1), .val (.int c2), .val (.ref b81), .val (.int 0)] [(.ref b81)])) (fun t k => ?_) ?_
            · refine XS.ifYes X90.here hx rfl (pc0 := 204) (pc' := 211) rfl (hb hby at_204) rfl ((if0 _ _).trans (teq hy91).1) (by decide) (by decide) ?_
              refine XS.iconst X90.here hx rfl (hb hby at_211) ?_
              refine XS.istore X90.here hx rfl (hb hby at_212) rfl (l' := #[.val (.int p0), .val (.int p1), .val (.int p2), .val (.int p3), .val (.int 3), .val (.int c0), .val (.int c1), .val (.int c2), .val (.ref b81), .val (.int 0)]) rfl ?_
              refine XS.iload X90.here hx rfl (hb hby at_214) rfl ?_
              refine XS.iconst X90.here hx rfl (hb hby at_216) ?_
              refine XS.icmpNo X90.here hx rfl (hb hby at_217) rfl (flt (by decide : ¬ (3 : Int32) < (3 : Int32))).1 ?_
              refine XS.iload X90.here hx rfl (hb hby at_220) rfl ?_
              refine XS.ifYes X90.here hx rfl (pc0 := 222) (pc' := 243) rfl (hb hby at_222) rfl ((if0 _ _).trans (teq (by decide : (0 : Int32) = (0 : Int32))).1) (by decide) (by decide) ?_
              refine XS.iconst X90.here hx rfl (hb hby at_243) ?_
              refine XS.istore X90.here hx rfl (hb hby at_244) rfl (l' := #[.val (.int p0), .val (.int p1), .val (.int p2), .val (.int p3), .val (.int 3), .val (.int c0), .val (.int c1), .val (.int c2), .val (.ref b81), .val (.int 0)]) rfl ?_
              refine XS.aload X90.here hx rfl (hb hby at_246) rfl rfl ?_
              exact k
            refine Go.callS X90 hx hZ (W := 0) (argsL := [(.ref b81)]) (rest := []) hown (wd hw 39 rfl) (wd hw 40 rfl) (wd hw 41 rfl) (wd hw 42 rfl) (by decide) (ct_storable_3 l Z a0 hw  b81 c0 c1 c2 h86 n0 O E_b81 (ct_len_3_1 l Z a0 hw zc fm G b81 ob86 kb86 (.int 0) (.int (nar .byte ((c0 >>> ((0 : Int32) &&& 31)).toInt8.toInt32))) (.int (nar .byte ((c0 >>> ((8 : Int32) &&& 31)).toInt8.toInt32))) (.int (nar .byte ((c1 >>> ((0 : Int32) &&& 31)).toInt8.toInt32))) (.int (nar .byte ((c1 >>> ((8 : Int32) &&& 31)).toInt8.toInt32))) (.int (nar .byte ((c2 >>> ((0 : Int32) &&& 31)).toInt8.toInt32))) (.int (nar .byte ((c2 >>> ((8 : Int32) &&& 31)).toInt8.toInt32))) h86 n0 O E_b81 Fv86 Fc86 V_ob86) (ct_ch_3_0_1 l Z a0 hw zc fm G b81 ob86 kb86 c0 (.int (nar .byte ((c1 >>> ((0 : Int32) &&& 31)).toInt8.toInt32))) (.int (nar .byte ((c1 >>> ((8 : Int32) &&& 31)).toInt8.toInt32))) (.int (nar .byte ((c2 >>> ((0 : Int32) &&& 31)).toInt8.toInt32))) (.int (nar .byte ((c2 >>> ((8 : Int32) &&& 31)).toInt8.toInt32))) h86 n0 O E_b81 Fv86 Fc86 V_ob86 hr0) (ct_ch_3_1_1 l Z a0 hw zc fm G b81 ob86 kb86 c1 (.int (nar .byte ((c0 >>> ((0 : Int32) &&& 31)).toInt8.toInt32))) (.int (nar .byte ((c0 >>> ((8 : Int32) &&& 31)).toInt8.toInt32))) (.int (nar .byte ((c2 >>> ((0 : Int32) &&& 31)).toInt8.toInt32))) (.int (nar .byte ((c2 >>> ((8 : Int32) &&& 31)).toInt8.toInt32))) h86 n0 O E_b81 Fv86 Fc86 V_ob86 hr1) (ct_ch_3_2_1 l Z a0 hw zc fm G b81 ob86 kb86 c2 (.int (nar .byte ((c0 >>> ((0 : Int32) &&& 31)).toInt8.toInt32))) (.int (nar .byte ((c0 >>> ((8 : Int32) &&& 31)).toInt8.toInt32))) (.int (nar .byte ((c1 >>> ((0 : Int32) &&& 31)).toInt8.toInt32))) (.int (nar .byte ((c1 >>> ((8 : Int32) &&& 31)).toInt8.toInt32))) h86 n0 O E_b81 Fv86 Fc86 V_ob86 hr2)) e90 (by rw [hml]; rfl) (lenOf pd__Ljava_lang_String__Z_965 rfl) rfl rfl (hb hby at_248) ?_
            intro v92 T92 h92 L92 X92 e92 q92
            obtain ⟨rfl, N92, rfl⟩ := q92
            replace N92 := Fr.app N90 N92
            refine Go.st (g' := (mkF m 261 #[.val (.int p0), .val (.int p1), .val (.int p2), .val (.int p3), .val (.int 3), .val (.int c0), .val (.int c1), .val (.int c2), .val (.ref b81), .val (.int 0)] [(.int 1)])) (fun t k => ?_) ?_
            · refine XS.iload X92.here hx rfl (hb hby at_251) rfl ?_
              refine XS.icmpNo X92.here hx rfl (hb hby at_253) rfl (teq (own_f3_2 hy88 hy91)).2 ?_
              refine XS.iconst X92.here hx rfl (hb hby at_256) ?_
              refine XS.goto X92.here hx rfl (pc0 := 257) (pc' := 261) rfl (hb hby at_257) (by decide) (by decide) ?_
              exact k
            refine Go.retZW X92 hx hlk hret (Or.inr rfl) (hb hby at_261) (by decide) (by decide) e92 hS hk ?_
            exact ⟨rfl, N92⟩
          · skip
            refine Go.st (g' := (mkF m 233 #[.val (.int p0), .val (.int p1), .val (.int p2), .val (.int p3), .val (.int 3), .val (.int c0), .val (.int c1), .val (.int c2), .val (.ref b81), .val (.int 1)] [(.int c2), (.int 0), (.int c1), (.int 1), (.int c2)])) (fun t k => ?_) ?_
            · refine XS.ifNo X90.here hx rfl (hb hby at_204) rfl ((if0 _ _).trans (feq hy91).1) ?_
              refine XS.iconst X90.here hx rfl (hb hby at_207) ?_
              refine XS.goto X90.here hx rfl (pc0 := 208) (pc' := 212) rfl (hb hby at_208) (by decide) (by decide) ?_
              refine XS.istore X90.here hx rfl (hb hby at_212) rfl (l' := #[.val (.int p0), .val (.int p1), .val (.int p2), .val (.int p3), .val (.int 3), .val (.int c0), .val (.int c1), .val (.int c2), .val (.ref b81), .val (.int 1)]) rfl ?_
              refine XS.iload X90.here hx rfl (hb hby at_214) rfl ?_
              refine XS.iconst X90.here hx rfl (hb hby at_216) ?_
              refine XS.icmpNo X90.here hx rfl (hb hby at_217) rfl (flt (by decide : ¬ (3 : Int32) < (3 : Int32))).1 ?_
              refine XS.iload X90.here hx rfl (hb hby at_220) rfl ?_
              refine XS.ifNo X90.here hx rfl (hb hby at_222) rfl ((if0 _ _).trans (feq (by decide : ¬ (1 : Int32) = (0 : Int32))).1) ?_
              refine XS.iload X90.here hx rfl (hb hby at_225) rfl ?_
              refine XS.iconst X90.here hx rfl (hb hby at_227) ?_
              refine XS.iload X90.here hx rfl (hb hby at_228) rfl ?_
              refine XS.iconst X90.here hx rfl (hb hby at_230) ?_
              refine XS.iload X90.here hx rfl (hb hby at_231) rfl ?_
              exact k
            refine Go.callS X90 hx hZ (W := 0) (argsL := [(.int c2), (.int 1), (.int c1), (.int 0), (.int c2)]) (rest := []) hown (wd hw 36 rfl) (wd hw 37 rfl) (wd hw 2 rfl) (wd hw 38 rfl) (by decide) (ct_good_1_0 l Z a0 hw  c2 c1 c2 h86 n0 O ) e90 (by rw [hml]; rfl) (lenOf pd__CZCZC_Z_1117 rfl) rfl rfl (hb hby at_233) ?_
            intro v93 T93 h93 L93 X93 e93 q93
            obtain ⟨rfl, N93, rfl⟩ := q93
            replace N93 := Fr.app N90 N93
            show Go p e below _ T93 (mkF m 236 #[.val (.int p0), .val (.int p1), .val (.int p2), .val (.int p3), .val (.int 3), .val (.int c0), .val (.int c1), .val (.int c2), .val (.ref b81), .val (.int 1)] [(.int (goodF c2 true c1 false c2))])
            by_cases hy94 : (goodF c2 true c1 false c2) = (0 : Int32)
            · skip
              refine Go.st (g' := (mkF m 248 #[.val (.int p0), .val (.int p1), .val (.int p2), .val (.int p3), .val (.int 3), .val (.int c0), .val (.int c1), .val (.int c2), .val (.ref b81), .val (.int 0)] [(.ref b81)])) (fun t k => ?_) ?_
              · refine XS.ifYes X93.here hx rfl (pc0 := 236) (pc' := 243) rfl (hb hby at_236) rfl ((if0 _ _).trans (teq hy94).1) (by decide) (by decide) ?_
                refine XS.iconst X93.here hx rfl (hb hby at_243) ?_
                refine XS.istore X93.here hx rfl (hb hby at_244) rfl (l' := #[.val (.int p0), .val (.int p1), .val (.int p2), .val (.int p3), .val (.int 3), .val (.int c0), .val (.int c1), .val (.int c2), .val (.ref b81), .val (.int 0)]) rfl ?_
                refine XS.aload X93.here hx rfl (hb hby at_246) rfl rfl ?_
                exact k
              refine Go.callS X93 hx hZ (W := 0) (argsL := [(.ref b81)]) (rest := []) hown (wd hw 39 rfl) (wd hw 40 rfl) (wd hw 41 rfl) (wd hw 42 rfl) (by decide) (ct_storable_3 l Z a0 hw  b81 c0 c1 c2 h86 n0 O E_b81 (ct_len_3_1 l Z a0 hw zc fm G b81 ob86 kb86 (.int 0) (.int (nar .byte ((c0 >>> ((0 : Int32) &&& 31)).toInt8.toInt32))) (.int (nar .byte ((c0 >>> ((8 : Int32) &&& 31)).toInt8.toInt32))) (.int (nar .byte ((c1 >>> ((0 : Int32) &&& 31)).toInt8.toInt32))) (.int (nar .byte ((c1 >>> ((8 : Int32) &&& 31)).toInt8.toInt32))) (.int (nar .byte ((c2 >>> ((0 : Int32) &&& 31)).toInt8.toInt32))) (.int (nar .byte ((c2 >>> ((8 : Int32) &&& 31)).toInt8.toInt32))) h86 n0 O E_b81 Fv86 Fc86 V_ob86) (ct_ch_3_0_1 l Z a0 hw zc fm G b81 ob86 kb86 c0 (.int (nar .byte ((c1 >>> ((0 : Int32) &&& 31)).toInt8.toInt32))) (.int (nar .byte ((c1 >>> ((8 : Int32) &&& 31)).toInt8.toInt32))) (.int (nar .byte ((c2 >>> ((0 : Int32) &&& 31)).toInt8.toInt32))) (.int (nar .byte ((c2 >>> ((8 : Int32) &&& 31)).toInt8.toInt32))) h86 n0 O E_b81 Fv86 Fc86 V_ob86 hr0) (ct_ch_3_1_1 l Z a0 hw zc fm G b81 ob86 kb86 c1 (.int (nar .byte ((c0 >>> ((0 : Int32) &&& 31)).toInt8.toInt32))) (.int (nar .byte ((c0 >>> ((8 : Int32) &&& 31)).toInt8.toInt32))) (.int (nar .byte ((c2 >>> ((0 : Int32) &&& 31)).toInt8.toInt32))) (.int (nar .byte ((c2 >>> ((8 : Int32) &&& 31)).toInt8.toInt32))) h86 n0 O E_b81 Fv86 Fc86 V_ob86 hr1) (ct_ch_3_2_1 l Z a0 hw zc fm G b81 ob86 kb86 c2 (.int (nar .byte ((c0 >>> ((0 : Int32) &&& 31)).toInt8.toInt32))) (.int (nar .byte ((c0 >>> ((8 : Int32) &&& 31)).toInt8.toInt32))) (.int (nar .byte ((c1 >>> ((0 : Int32) &&& 31)).toInt8.toInt32))) (.int (nar .byte ((c1 >>> ((8 : Int32) &&& 31)).toInt8.toInt32))) h86 n0 O E_b81 Fv86 Fc86 V_ob86 hr2)) e93 (by rw [hml]; rfl) (lenOf pd__Ljava_lang_String__Z_965 rfl) rfl rfl (hb hby at_248) ?_
              intro v95 T95 h95 L95 X95 e95 q95
              obtain ⟨rfl, N95, rfl⟩ := q95
              replace N95 := Fr.app N93 N95
              refine Go.st (g' := (mkF m 261 #[.val (.int p0), .val (.int p1), .val (.int p2), .val (.int p3), .val (.int 3), .val (.int c0), .val (.int c1), .val (.int c2), .val (.ref b81), .val (.int 0)] [(.int 1)])) (fun t k => ?_) ?_
              · refine XS.iload X95.here hx rfl (hb hby at_251) rfl ?_
                refine XS.icmpNo X95.here hx rfl (hb hby at_253) rfl (teq (own_f3_3 hy88 hy91 hy94)).2 ?_
                refine XS.iconst X95.here hx rfl (hb hby at_256) ?_
                refine XS.goto X95.here hx rfl (pc0 := 257) (pc' := 261) rfl (hb hby at_257) (by decide) (by decide) ?_
                exact k
              refine Go.retZW X95 hx hlk hret (Or.inr rfl) (hb hby at_261) (by decide) (by decide) e95 hS hk ?_
              exact ⟨rfl, N95⟩
            · skip
              refine Go.st (g' := (mkF m 248 #[.val (.int p0), .val (.int p1), .val (.int p2), .val (.int p3), .val (.int 3), .val (.int c0), .val (.int c1), .val (.int c2), .val (.ref b81), .val (.int 1)] [(.ref b81)])) (fun t k => ?_) ?_
              · refine XS.ifNo X93.here hx rfl (hb hby at_236) rfl ((if0 _ _).trans (feq hy94).1) ?_
                refine XS.iconst X93.here hx rfl (hb hby at_239) ?_
                refine XS.goto X93.here hx rfl (pc0 := 240) (pc' := 244) rfl (hb hby at_240) (by decide) (by decide) ?_
                refine XS.istore X93.here hx rfl (hb hby at_244) rfl (l' := #[.val (.int p0), .val (.int p1), .val (.int p2), .val (.int p3), .val (.int 3), .val (.int c0), .val (.int c1), .val (.int c2), .val (.ref b81), .val (.int 1)]) rfl ?_
                refine XS.aload X93.here hx rfl (hb hby at_246) rfl rfl ?_
                exact k
              refine Go.callS X93 hx hZ (W := 0) (argsL := [(.ref b81)]) (rest := []) hown (wd hw 39 rfl) (wd hw 40 rfl) (wd hw 41 rfl) (wd hw 42 rfl) (by decide) (ct_storable_3 l Z a0 hw  b81 c0 c1 c2 h86 n0 O E_b81 (ct_len_3_1 l Z a0 hw zc fm G b81 ob86 kb86 (.int 0) (.int (nar .byte ((c0 >>> ((0 : Int32) &&& 31)).toInt8.toInt32))) (.int (nar .byte ((c0 >>> ((8 : Int32) &&& 31)).toInt8.toInt32))) (.int (nar .byte ((c1 >>> ((0 : Int32) &&& 31)).toInt8.toInt32))) (.int (nar .byte ((c1 >>> ((8 : Int32) &&& 31)).toInt8.toInt32))) (.int (nar .byte ((c2 >>> ((0 : Int32) &&& 31)).toInt8.toInt32))) (.int (nar .byte ((c2 >>> ((8 : Int32) &&& 31)).toInt8.toInt32))) h86 n0 O E_b81 Fv86 Fc86 V_ob86) (ct_ch_3_0_1 l Z a0 hw zc fm G b81 ob86 kb86 c0 (.int (nar .byte ((c1 >>> ((0 : Int32) &&& 31)).toInt8.toInt32))) (.int (nar .byte ((c1 >>> ((8 : Int32) &&& 31)).toInt8.toInt32))) (.int (nar .byte ((c2 >>> ((0 : Int32) &&& 31)).toInt8.toInt32))) (.int (nar .byte ((c2 >>> ((8 : Int32) &&& 31)).toInt8.toInt32))) h86 n0 O E_b81 Fv86 Fc86 V_ob86 hr0) (ct_ch_3_1_1 l Z a0 hw zc fm G b81 ob86 kb86 c1 (.int (nar .byte ((c0 >>> ((0 : Int32) &&& 31)).toInt8.toInt32))) (.int (nar .byte ((c0 >>> ((8 : Int32) &&& 31)).toInt8.toInt32))) (.int (nar .byte ((c2 >>> ((0 : Int32) &&& 31)).toInt8.toInt32))) (.int (nar .byte ((c2 >>> ((8 : Int32) &&& 31)).toInt8.toInt32))) h86 n0 O E_b81 Fv86 Fc86 V_ob86 hr1) (ct_ch_3_2_1 l Z a0 hw zc fm G b81 ob86 kb86 c2 (.int (nar .byte ((c0 >>> ((0 : Int32) &&& 31)).toInt8.toInt32))) (.int (nar .byte ((c0 >>> ((8 : Int32) &&& 31)).toInt8.toInt32))) (.int (nar .byte ((c1 >>> ((0 : Int32) &&& 31)).toInt8.toInt32))) (.int (nar .byte ((c1 >>> ((8 : Int32) &&& 31)).toInt8.toInt32))) h86 n0 O E_b81 Fv86 Fc86 V_ob86 hr2)) e93 (by rw [hml]; rfl) (lenOf pd__Ljava_lang_String__Z_965 rfl) rfl rfl (hb hby at_248) ?_
              intro v96 T96 h96 L96 X96 e96 q96
              obtain ⟨rfl, N96, rfl⟩ := q96
              replace N96 := Fr.app N93 N96
              refine Go.st (g' := (mkF m 261 #[.val (.int p0), .val (.int p1), .val (.int p2), .val (.int p3), .val (.int 3), .val (.int c0), .val (.int c1), .val (.int c2), .val (.ref b81), .val (.int 1)] [(.int 1)])) (fun t k => ?_) ?_
              · refine XS.iload X96.here hx rfl (hb hby at_251) rfl ?_
                refine XS.icmpNo X96.here hx rfl (hb hby at_253) rfl (teq (own_t3 hy88 hy91 hy94)).2 ?_
                refine XS.iconst X96.here hx rfl (hb hby at_256) ?_
                refine XS.goto X96.here hx rfl (pc0 := 257) (pc' := 261) rfl (hb hby at_257) (by decide) (by decide) ?_
                exact k
              refine Go.retZW X96 hx hlk hret (Or.inr rfl) (hb hby at_261) (by decide) (by decide) e96 hS hk ?_
              exact ⟨rfl, N96⟩
      · skip
        show Go p e below _ T3 (mkF m 100 #[.val (.int p0), .val (.int p1), .val (.int p2), .val (.int p3), .val (.int 3), .val (.int c0), .val (.int c1), .val (.int c2), .unset, .unset] [])
        by_cases hy97 : (255 : Int32) < c2
        · skip
          show Go p e below _ T3 (mkF m 100 #[.val (.int p0), .val (.int p1), .val (.int p2), .val (.int p3), .val (.int 3), .val (.int c0), .val (.int c1), .val (.int c2), .unset, .unset] [])
          refine Go.newO X3 hx hZ hown (wd hw 6 rfl) (wd hw 7 rfl) (wd hw 8 rfl) e3 (hb hby at_100) (by decide) (by decide) ?_
          intro T98 h98 b98 X98 e98 E98 g98 A98 D98
          have lb98 := Nat.le_of_eq g98.symm
          have g_b98 : n0 ≤ b98 := Nat.le_trans (OwnKit.Old.le O) lb98
          replace O := O.ext E98
          replace hk := Nat.le_trans hk E98.1
          have E_b98 := A98
          have F_b98_coder : Fld Z h98 b98 "java/lang/String" "coder" "B" (.int 0) := D98 (Or.inr (wd hw 33 rfl)) (ty := .byte) (by decide)
          have F_b98_value : Fld Z h98 b98 "java/lang/String" "value" "[B" .null := D98 (Or.inr (wd hw 35 rfl)) (ty := (.array .byte)) (by decide)
          refine Go.st (g' := (mkF m 105 #[.val (.int p0), .val (.int p1), .val (.int p2), .val (.int p3), .val (.int 3), .val (.int c0), .val (.int c1), .val (.int c2), .unset, .unset] [(.int 3), (.ref b98), (.ref b98)])) (fun t k => ?_) ?_
          · refine XS.dup X98.here hx rfl (hb hby at_103) rfl rfl ?_
            refine XS.iconst X98.here hx rfl (hb hby at_104) ?_
            exact k
          refine Go.newP X98 hx hZ (wd hw 9 rfl) e98 (hb hby at_105) (by decide) (cap := 3) (by decide) (by decide) (by decide) (by decide) ?_
          intro T99 h99 b99 k99 X99 e99 E99 g99 V_b99
          have lb99 := Nat.le_of_eq g99.symm
          have ne_b98_b99 : b98 ≠ b99 := Nat.ne_of_lt (Nat.lt_of_lt_of_le E_b98.lt lb99)
          have g_b99 : n0 ≤ b99 := Nat.le_trans (OwnKit.Old.le O) lb99
          replace E_b98 := E_b98.ext E99
          replace F_b98_coder := F_b98_coder.ext E99
          replace F_b98_value := F_b98_value.ext E99
          replace O := O.ext E99
          replace hk := Nat.le_trans hk E99.1
          replace V_b99 := V_b99.pad (pad_rep [] (.int 0) 3)
          replace V_b99 : Arv Z h99 b99 k99 .char (3 : Int32) [(.int 0), (.int 0), (.int 0)] (.int 0) := V_b99
          refine Go.st (g' := (mkF m 111 #[.val (.int p0), .val (.int p1), .val (.int p2), .val (.int p3), .val (.int 3), .val (.int c0), .val (.int c1), .val (.int c2), .unset, .unset] [(.int c0), (.int 0), (.ref b99), (.ref b99), (.ref b98), (.ref b98)])) (fun t k => ?_) ?_
          · refine XS.dup X99.here hx rfl (hb hby at_107) rfl rfl ?_
            refine XS.iconst X99.here hx rfl (hb hby at_108) ?_
            refine XS.iload X99.here hx rfl (hb hby at_109) rfl ?_
            exact k
          refine Go.nstV X99 hx hZ e99 V_b99 (j := (0 : Int32)) ⟨by decide, by decide⟩ 0 rfl (Nat.le_of_ble_eq_true rfl) (Or.inl ⟨rfl, rfl⟩) (hb hby at_111) ?_
          intro T100 h100 X100 e100 W100 Vn100
          replace E_b98 := E_b98.wr W100
          replace F_b98_coder := F_b98_coder.other W100 (Or.inl ne_b98_b99)
          replace F_b98_value := F_b98_value.other W100 (Or.inl ne_b98_b99)
          replace O := O.wr W100 g_b99
          have N100 := Fr.snoc X100 N3 g_b99
          replace hk := Nat.le_trans hk (Nat.le_of_eq W100.size.symm)
          replace V_b99 : Arv Z h100 b99 k99 .char (3 : Int32) [(.int (nar .char c0)), (.int 0), (.int 0)] (.int 0) := Vn100
          clear Vn100
          rw [own_nar hr0] at V_b99
          refine Go.st (g' := (mkF m 116 #[.val (.int p0), .val (.int p1), .val (.int p2), .val (.int p3), .val (.int 3), .val (.int c0), .val (.int c1), .val (.int c2), .unset, .unset] [(.int c1), (.int 1), (.ref b99), (.ref b99), (.ref b98), (.ref b98)])) (fun t k => ?_) ?_
          · refine XS.dup X100.here hx rfl (hb hby at_112) rfl rfl ?_
            refine XS.iconst X100.here hx rfl (hb hby at_113) ?_
            refine XS.iload X100.here hx rfl (hb hby at_114) rfl ?_
            exact k
          refine Go.nstV X100 hx hZ e100 V_b99 (j := (1 : Int32)) ⟨by decide, by decide⟩ 1 rfl (Nat.le_of_ble_eq_true rfl) (Or.inl ⟨rfl, rfl⟩) (hb hby at_116) ?_
          intro T101 h101 X101 e101 W101 Vn101
          replace E_b98 := E_b98.wr W101
          replace F_b98_coder := F_b98_coder.other W101 (Or.inl ne_b98_b99)
          replace F_b98_value := F_b98_value.other W101 (Or.inl ne_b98_b99)
          replace O := O.wr W101 g_b99
          have N101 := Fr.snoc X101 N100 g_b99
          replace hk := Nat.le_trans hk (Nat.le_of_eq W101.size.symm)
          replace V_b99 : Arv Z h101 b99 k99 .char (3 : Int32) [(.int c0), (.int (nar .char c1)), (.int 0)] (.int 0) := Vn101
          clear Vn101
          rw [own_nar hr1] at V_b99
          refine Go.st (g' := (mkF m 121 #[.val (.int p0), .val (.int p1), .val (.int p2), .val (.int p3), .val (.int 3), .val (.int c0), .val (.int c1), .val (.int c2), .unset, .unset] [(.int c2), (.int 2), (.ref b99), (.ref b99), (.ref b98), (.ref b98)])) (fun t k => ?_) ?_
          · refine XS.dup X101.here hx rfl (hb hby at_117) rfl rfl ?_
            refine XS.iconst X101.here hx rfl (hb hby at_118) ?_
            refine XS.iload X101.here hx rfl (hb hby at_119) rfl ?_
            exact k
          refine Go.nstV X101 hx hZ e101 V_b99 (j := (2 : Int32)) ⟨by decide, by decide⟩ 2 rfl (Nat.le_of_ble_eq_true rfl) (Or.inl ⟨rfl, rfl⟩) (hb hby at_121) ?_
          intro T102 h102 X102 e102 W102 Vn102
          replace E_b98 := E_b98.wr W102
          replace F_b98_coder := F_b98_coder.other W102 (Or.inl ne_b98_b99)
          replace F_b98_value := F_b98_value.other W102 (Or.inl ne_b98_b99)
          replace O := O.wr W102 g_b99
          have N102 := Fr.snoc X102 N101 g_b99
          replace hk := Nat.le_trans hk (Nat.le_of_eq W102.size.symm)
          replace V_b99 : Arv Z h102 b99 k99 .char (3 : Int32) [(.int c0), (.int c1), (.int (nar .char c2))] (.int 0) := Vn102
          clear Vn102
          rw [own_nar hr2] at V_b99
          show Go p e below _ T102 (mkF m 122 #[.val (.int p0), .val (.int p1), .val (.int p2), .val (.int p3), .val (.int 3), .val (.int c0), .val (.int c1), .val (.int c2), .unset, .unset] [(.ref b99), (.ref b98), (.ref b98)])
          refine Go.callC X102 hx hZ (W := 1) (argsL := [(.ref b99)]) (rest := [(.ref b98)]) hown rfl (wd hw 10 rfl) (wd hw 11 rfl) (wd hw 8 rfl) (wd hw 12 rfl) (by decide) (ct_si1_3_2 l Z a0 hw zc fm G b98 b99 k99 c0 c1 c2 h102 n0 O E_b98 F_b98_value F_b98_coder g_b98 V_b99 ne_b98_b99 hr0 hr1 hr2 hy63 hy80 hy97) e102 (by rw [hml]; rfl) (lenOf pd___C_V_902 rfl) rfl rfl (hb hby at_122) ?_
          intro v103 T103 h103 L103 X103 e103 q103
          obtain ⟨ob103, kb103, rfl, N103, K103, Fv103, Fc103, V_ob103⟩ := q103
          replace N103 := Fr.app N102 N103
          replace E_b98 := E_b98.keep K103
          clear F_b98_coder
          clear F_b98_value
          replace V_b99 := V_b99.keep K103 (ninS (Ne.symm ne_b98_b99) nin0)
          replace O := O.keep K103 (allS g_b98 all0)
          replace hk := Nat.le_trans hk K103.1
          refine Go.st (g' := (mkF m 159 #[.val (.int p0), .val (.int p1), .val (.int p2), .val (.int p3), .val (.int 3), .val (.int c0), .val (.int c1), .val (.int c2), .val (.ref b98), .val (.int 1)] [(.int c1), (.int 1), (.int c0), (.int 0), (.int c0)])) (fun t k => ?_) ?_
          · refine XS.astore X103.here hx rfl (hb hby at_125) rfl rfl (l' := #[.val (.int p0), .val (.int p1), .val (.int p2), .val (.int p3), .val (.int 3), .val (.int c0), .val (.int c1), .val (.int c2), .val (.ref b98), .unset]) rfl ?_
            refine XS.iconst X103.here hx rfl (hb hby at_127) ?_
            refine XS.istore X103.here hx rfl (hb hby at_128) rfl (l' := #[.val (.int p0), .val (.int p1), .val (.int p2), .val (.int p3), .val (.int 3), .val (.int c0), .val (.int c1), .val (.int c2), .val (.ref b98), .val (.int 1)]) rfl ?_
            refine XS.iload X103.here hx rfl (hb hby at_130) rfl ?_
            refine XS.iconst X103.here hx rfl (hb hby at_132) ?_
            refine XS.icmpNo X103.here hx rfl (hb hby at_133) rfl (flt (by decide : ¬ (3 : Int32) < (1 : Int32))).1 ?_
            refine XS.iload X103.here hx rfl (hb hby at_136) rfl ?_
            refine XS.ifNo X103.here hx rfl (hb hby at_138) rfl ((if0 _ _).trans (feq (by decide : ¬ (1 : Int32) = (0 : Int32))).1) ?_
            refine XS.iload X103.here hx rfl (hb hby at_141) rfl ?_
            refine XS.iconst X103.here hx rfl (hb hby at_143) ?_
            refine XS.iload X103.here hx rfl (hb hby at_144) rfl ?_
            refine XS.iload X103.here hx rfl (hb hby at_146) rfl ?_
            refine XS.iconst X103.here hx rfl (hb hby at_148) ?_
            refine XS.icmpNo X103.here hx rfl (hb hby at_149) rfl (tlt (by decide : (1 : Int32) < (3 : Int32))).2.2.2 ?_
            refine XS.iconst X103.here hx rfl (hb hby at_152) ?_
            refine XS.goto X103.here hx rfl (pc0 := 153) (pc' := 157) rfl (hb hby at_153) (by decide) (by decide) ?_
            refine XS.iload X103.here hx rfl (hb hby at_157) rfl ?_
            exact k
          refine Go.callS X103 hx hZ (W := 0) (argsL := [(.int c0), (.int 0), (.int c0), (.int 1), (.int c1)]) (rest := []) hown (wd hw 36 rfl) (wd hw 37 rfl) (wd hw 2 rfl) (wd hw 38 rfl) (by decide) (ct_good_0_1 l Z a0 hw  c0 c0 c1 h103 n0 O ) e103 (by rw [hml]; rfl) (lenOf pd__CZCZC_Z_1117 rfl) rfl rfl (hb hby at_159) ?_
          intro v104 T104 h104 L104 X104 e104 q104
          obtain ⟨rfl, N104, rfl⟩ := q104
          replace N104 := Fr.app N103 N104
          show Go p e below _ T104 (mkF m 162 #[.val (.int p0), .val (.int p1), .val (.int p2), .val (.int p3), .val (.int 3), .val (.int c0), .val (.int c1), .val (.int c2), .val (.ref b98), .val (.int 1)] [(.int (goodF c0 false c0 true c1))])
          by_cases hy105 : (goodF c0 false c0 true c1) = (0 : Int32)
          · skip
            refine Go.st (g' := (mkF m 248 #[.val (.int p0), .val (.int p1), .val (.int p2), .val (.int p3), .val (.int 3), .val (.int c0), .val (.int c1), .val (.int c2), .val (.ref b98), .val (.int 0)] [(.ref b98)])) (fun t k => ?_) ?_
            · refine XS.ifYes X104.here hx rfl (pc0 := 162) (pc' := 169) rfl (hb hby at_162) rfl ((if0 _ _).trans (teq hy105).1) (by decide) (by decide) ?_
              refine XS.iconst X104.here hx rfl (hb hby at_169) ?_
              refine XS.istore X104.here hx rfl (hb hby at_170) rfl (l' := #[.val (.int p0), .val (.int p1), .val (.int p2), .val (.int p3), .val (.int 3), .val (.int c0), .val (.int c1), .val (.int c2), .val (.ref b98), .val (.int 0)]) rfl ?_
              refine XS.iload X104.here hx rfl (hb hby at_172) rfl ?_
              refine XS.iconst X104.here hx rfl (hb hby at_174) ?_
              refine XS.icmpNo X104.here hx rfl (hb hby at_175) rfl (flt (by decide : ¬ (3 : Int32) < (2 : Int32))).1 ?_
              refine XS.iload X104.here hx rfl (hb hby at_178) rfl ?_
              refine XS.ifYes X104.here hx rfl (pc0 := 180) (pc' := 211) rfl (hb hby at_180) rfl ((if0 _ _).trans (teq (by decide : (0 : Int32) = (0 : Int32))).1) (by decide) (by decide) ?_
              refine XS.iconst X104.here hx rfl (hb hby at_211) ?_
              refine XS.istore X104.here hx rfl (hb hby at_212) rfl (l' := #[.val (.int p0), .val (.int p1), .val (.int p2), .val (.int p3), .val (.int 3), .val (.int c0), .val (.int c1), .val (.int c2), .val (.ref b98), .val (.int 0)]) rfl ?_
              refine XS.iload X104.here hx rfl (hb hby at_214) rfl ?_
              refine XS.iconst X104.here hx rfl (hb hby at_216) ?_
              refine XS.icmpNo X104.here hx rfl (hb hby at_217) rfl (flt (by decide : ¬ (3 : Int32) < (3 : Int32))).1 ?_
              refine XS.iload X104.here hx rfl (hb hby at_220) rfl ?_
              refine XS.ifYes X104.here hx rfl (pc0 := 222) (pc' := 243) rfl (hb hby at_222) rfl ((if0 _ _).trans (teq (by decide : (0 : Int32) = (0 : Int32))).1) (by decide) (by decide) ?_
              refine XS.iconst X104.here hx rfl (hb hby at_243) ?_
              refine XS.istore X104.here hx rfl (hb hby at_244) rfl (l' := #[.val (.int p0), .val (.int p1), .val (.int p2), .val (.int p3), .val (.int 3), .val (.int c0), .val (.int c1), .val (.int c2), .val (.ref b98), .val (.int 0)]) rfl ?_
              refine XS.aload X104.here hx rfl (hb hby at_246) rfl rfl ?_
              exact k
            refine Go.callS X104 hx hZ (W := 0) (argsL := [(.ref b98)]) (rest := []) hown (wd hw 39 rfl) (wd hw 40 rfl) (wd hw 41 rfl) (wd hw 42 rfl) (by decide) (ct_storable_3 l Z a0 hw  b98 c0 c1 c2 h103 n0 O E_b98 (ct_len_3_1 l Z a0 hw zc fm G b98 ob103 kb103 (.int 0) (.int (nar .byte ((c0 >>> ((0 : Int32) &&& 31)).toInt8.toInt32))) (.int (nar .byte ((c0 >>> ((8 : Int32) &&& 31)).toInt8.toInt32))) (.int (nar .byte ((c1 >>> ((0 : Int32) &&& 31)).toInt8.toInt32))) (.int (nar .byte ((c1 >>> ((8 : Int32) &&& 31)).toInt8.toInt32))) (.int (nar .byte ((c2 >>> ((0 : Int32) &&& 31)).toInt8.toInt32))) (.int (nar .byte ((c2 >>> ((8 : Int32) &&& 31)).toInt8.toInt32))) h103 n0 O E_b98 Fv103 Fc103 V_ob103) (ct_ch_3_0_1 l Z a0 hw zc fm G b98 ob103 kb103 c0 (.int (nar .byte ((c1 >>> ((0 : Int32) &&& 31)).toInt8.toInt32))) (.int (nar .byte ((c1 >>> ((8 : Int32) &&& 31)).toInt8.toInt32))) (.int (nar .byte ((c2 >>> ((0 : Int32) &&& 31)).toInt8.toInt32))) (.int (nar .byte ((c2 >>> ((8 : Int32) &&& 31)).toInt8.toInt32))) h103 n0 O E_b98 Fv103 Fc103 V_ob103 hr0) (ct_ch_3_1_1 l Z a0 hw zc fm G b98 ob103 kb103 c1 (.int (nar .byte ((c0 >>> ((0 : Int32) &&& 31)).toInt8.toInt32))) (.int (nar .byte ((c0 >>> ((8 : Int32) &&& 31)).toInt8.toInt32))) (.int (nar .byte ((c2 >>> ((0 : Int32) &&& 31)).toInt8.toInt32))) (.int (nar .byte ((c2 >>> ((8 : Int32) &&& 31)).toInt8.toInt32))) h103 n0 O E_b98 Fv103 Fc103 V_ob103 hr1) (ct_ch_3_2_1 l Z a0 hw zc fm G b98 ob103 kb103 c2 (.int (nar .byte ((c0 >>> ((0 : Int32) &&& 31)).toInt8.toInt32))) (.int (nar .byte ((c0 >>> ((8 : Int32) &&& 31)).toInt8.toInt32))) (.int (nar .byte ((c1 >>> ((0 : Int32) &&& 31)).toInt8.toInt32))) (.int (nar .byte ((c1 >>> ((8 : Int32) &&& 31)).toInt8.toInt32))) h103 n0 O E_b98 Fv103 Fc103 V_ob103 hr2)) e104 (by rw [hml]; rfl) (lenOf pd__Ljava_lang_String__Z_965 rfl) rfl rfl (hb hby at_248) ?_
            intro v106 T106 h106 L106 X106 e106 q106
            obtain ⟨rfl, N106, rfl⟩ := q106
            replace N106 := Fr.app N104 N106
            refine Go.st (g' := (mkF m 261 #[.val (.int p0), .val (.int p1), .val (.int p2), .val (.int p3), .val (.int 3), .val (.int c0), .val (.int c1), .val (.int c2), .val (.ref b98), .val (.int 0)] [(.int 1)])) (fun t k => ?_) ?_
            · refine XS.iload X106.here hx rfl (hb hby at_251) rfl ?_
              refine XS.icmpNo X106.here hx rfl (hb hby at_253) rfl (teq (own_f3_1 hy105)).2 ?_
              refine XS.iconst X106.here hx rfl (hb hby at_256) ?_
              refine XS.goto X106.here hx rfl (pc0 := 257) (pc' := 261) rfl (hb hby at_257) (by decide) (by decide) ?_
              exact k
            refine Go.retZW X106 hx hlk hret (Or.inr rfl) (hb hby at_261) (by decide) (by decide) e106 hS hk ?_
            exact ⟨rfl, N106⟩
          · skip
            refine Go.st (g' := (mkF m 201 #[.val (.int p0), .val (.int p1), .val (.int p2), .val (.int p3), .val (.int 3), .val (.int c0), .val (.int c1), .val (.int c2), .val (.ref b98), .val (.int 1)] [(.int c2), (.int 1), (.int c0), (.int 1), (.int c1)])) (fun t k => ?_) ?_
            · refine XS.ifNo X104.here hx rfl (hb hby at_162) rfl ((if0 _ _).trans (feq hy105).1) ?_
              refine XS.iconst X104.here hx rfl (hb hby at_165) ?_
              refine XS.goto X104.here hx rfl (pc0 := 166) (pc' := 170) rfl (hb hby at_166) (by decide) (by decide) ?_
              refine XS.istore X104.here hx rfl (hb hby at_170) rfl (l' := #[.val (.int p0), .val (.int p1), .val (.int p2), .val (.int p3), .val (.int 3), .val (.int c0), .val (.int c1), .val (.int c2), .val (.ref b98), .val (.int 1)]) rfl ?_
              refine XS.iload X104.here hx rfl (hb hby at_172) rfl ?_
              refine XS.iconst X104.here hx rfl (hb hby at_174) ?_
              refine XS.icmpNo X104.here hx rfl (hb hby at_175) rfl (flt (by decide : ¬ (3 : Int32) < (2 : Int32))).1 ?_
              refine XS.iload X104.here hx rfl (hb hby at_178) rfl ?_
              refine XS.ifNo X104.here hx rfl (hb hby at_180) rfl ((if0 _ _).trans (feq (by decide : ¬ (1 : Int32) = (0 : Int32))).1) ?_
              refine XS.iload X104.here hx rfl (hb hby at_183) rfl ?_
              refine XS.iconst X104.here hx rfl (hb hby at_185) ?_
              refine XS.iload X104.here hx rfl (hb hby at_186) rfl ?_
              refine XS.iload X104.here hx rfl (hb hby at_188) rfl ?_
              refine XS.iconst X104.here hx rfl (hb hby at_190) ?_
              refine XS.icmpNo X104.here hx rfl (hb hby at_191) rfl (tlt (by decide : (2 : Int32) < (3 : Int32))).2.2.2 ?_
              refine XS.iconst X104.here hx rfl (hb hby at_194) ?_
              refine XS.goto X104.here hx rfl (pc0 := 195) (pc' := 199) rfl (hb hby at_195) (by decide) (by decide) ?_
              refine XS.iload X104.here hx rfl (hb hby at_199) rfl ?_
              exact k
            refine Go.callS X104 hx hZ (W := 0) (argsL := [(.int c1), (.int 1), (.int c0), (.int 1), (.int c2)]) (rest := []) hown (wd hw 36 rfl) (wd hw 37 rfl) (wd hw 2 rfl) (wd hw 38 rfl) (by decide) (ct_good_1_1 l Z a0 hw  c1 c0 c2 h103 n0 O ) e104 (by rw [hml]; rfl) (lenOf pd__CZCZC_Z_1117 rfl) rfl rfl (hb hby at_201) ?_
            intro v107 T107 h107 L107 X107 e107 q107
            obtain ⟨rfl, N107, rfl⟩ := q107
            replace N107 := Fr.app N104 N107
            show Go p e below _ T107 (mkF m 204 #[.val (.int p0), .val (.int p1), .val (.int p2), .val (.int p3), .val (.int 3), .val (.int c0), .val (.int c1), .val (.int c2), .val (.ref b98), .val (.int 1)] [(.int (goodF c1 true c0 true c2))])
            by_cases hy108 : (goodF c1 true c0 true c2) = (0 : Int32)
            · skip
              refine Go.st (g' := (mkF m 248 #[.val (.int p0), .val (.int p1), .val (.int p2), .val (.int p3), .val (.int 3), .val (.int c0), .val (.int c1), .val (.int c2), .val (.ref b98), .val (.int 0)] [(.ref b98)])) (fun t k => ?_) ?_
              · refine XS.ifYes X107.here hx rfl (pc0 := 204) (pc' := 211) rfl (hb hby at_204) rfl ((if0 _ _).trans (teq hy108).1) (by decide) (by decide) ?_
                refine XS.iconst X107.here hx rfl (hb hby at_211) ?_
                refine XS.istore X107.here hx rfl (hb hby at_212) rfl (l' := #[.val (.int p0), .val (.int p1), .val (.int p2), .val (.int p3), .val (.int 3), .val (.int c0), .val (.int c1), .val (.int c2), .val (.ref b98), .val (.int 0)]) rfl ?_
                refine XS.iload X107.here hx rfl (hb hby at_214) rfl ?_
                refine XS.iconst X107.here hx rfl (hb hby at_216) ?_
                refine XS.icmpNo X107.here hx rfl (hb hby at_217) rfl (flt (by decide : ¬ (3 : Int32) < (3 : Int32))).1 ?_
                refine XS.iload X107.here hx rfl (hb hby at_220) rfl ?_
                refine XS.ifYes X107.here hx rfl (pc0 := 222) (pc' := 243) rfl (hb hby at_222) rfl ((if0 _ _).trans (teq (by decide : (0 : Int32) = (0 : Int32))).1) (by decide) (by decide) ?_
                refine XS.iconst X107.here hx rfl (hb hby at_243) ?_
                refine XS.istore X107.here hx rfl (hb hby at_244) rfl (l' := #[.val (.int p0), .val (.int p1), .val (.int p2), .val (.int p3), .val (.int 3), .val (.int c0), .val (.int c1), .val (.int c2), .val (.ref b98), .val (.int 0)]) rfl ?_
                refine XS.aload X107.here hx rfl (hb hby at_246) rfl rfl ?_
                exact k
              refine Go.callS X107 hx hZ (W := 0) (argsL := [(.ref b98)]) (rest := []) hown (wd hw 39 rfl) (wd hw 40 rfl) (wd hw 41 rfl) (wd hw 42 rfl) (by decide) (ct_storable_3 l Z a0 hw  b98 c0 c1 c2 h103 n0 O E_b98 (ct_len_3_1 l Z a0 hw zc fm G b98 ob103 kb103 (.int 0) (.int (nar .byte ((c0 >>> ((0 : Int32) &&& 31)).toInt8.toInt32))) (.int (nar .byte ((c0 >>> ((8 : Int32) &&& 31)).toInt8.toInt32))) (.int (nar .byte ((c1 >>> ((0 : Int32) &&& 31)).toInt8.toInt32))) (.int (nar .byte ((c1 >>> ((8 : Int32) &&& 31)).toInt8.toInt32))) (.int (nar .byte ((c2 >>> ((0 : Int32) &&& 31)).toInt8.toInt32))) (.int (nar .byte ((c2 >>> ((8 : Int32) &&& 31)).toInt8.toInt32))) h103 n0 O E_b98 Fv103 Fc103 V_ob103) (ct_ch_3_0_1 l Z a0 hw zc fm G b98 ob103 kb103 c0 (.int (nar .byte ((c1 >>> ((0 : Int32) &&& 31)).toInt8.toInt32))) (.int (nar .byte ((c1 >>> ((8 : Int32) &&& 31)).toInt8.toInt32))) (.int (nar .byte ((c2 >>> ((0 : Int32) &&& 31)).toInt8.toInt32))) (.int (nar .byte ((c2 >>> ((8 : Int32) &&& 31)).toInt8.toInt32))) h103 n0 O E_b98 Fv103 Fc103 V_ob103 hr0) (ct_ch_3_1_1 l Z a0 hw zc fm G b98 ob103 kb103 c1 (.int (nar .byte ((c0 >>> ((0 : Int32) &&& 31)).toInt8.toInt32))) (.int (nar .byte ((c0 >>> ((8 : Int32) &&& 31)).toInt8.toInt32))) (.int (nar .byte ((c2 >>> ((0 : Int32) &&& 31)).toInt8.toInt32))) (.int (nar .byte ((c2 >>> ((8 : Int32) &&& 31)).toInt8.toInt32))) h103 n0 O E_b98 Fv103 Fc103 V_ob103 hr1) (ct_ch_3_2_1 l Z a0 hw zc fm G b98 ob103 kb103 c2 (.int (nar .byte ((c0 >>> ((0 : Int32) &&& 31)).toInt8.toInt32))) (.int (nar .byte ((c0 >>> ((8 : Int32) &&& 31)).toInt8.toInt32))) (.int (nar .byte ((c1 >>> ((0 : Int32) &&& 31)).toInt8.toInt32))) (.int (nar .byte ((c1 >>> ((8 : Int32) &&& 31)).toInt8.toInt32))) h103 n0 O E_b98 Fv103 Fc103 V_ob103 hr2)) e107 (by rw [hml]; rfl) (lenOf pd__Ljava_lang_String__Z_965 rfl) rfl rfl (hb hby at_248) ?_
              intro v109 T109 h109 L109 X109 e109 q109
              obtain ⟨rfl, N109, rfl⟩ := q109
              replace N109 := Fr.app N107 N109
              refine Go.st (g' := (mkF m 261 #[.val (.int p0), .val (.int p1), .val (.int p2), .val (.int p3), .val (.int 3), .val (.int c0), .val (.int c1), .val (.int c2), .val (.ref b98), .val (.int 0)] [(.int 1)])) (fun t k => ?_) ?_
              · refine XS.iload X109.here hx rfl (hb hby at_251) rfl ?_
                refine XS.icmpNo X109.here hx rfl (hb hby at_253) rfl (teq (own_f3_2 hy105 hy108)).2 ?_
                refine XS.iconst X109.here hx rfl (hb hby at_256) ?_
                refine XS.goto X109.here hx rfl (pc0 := 257) (pc' := 261) rfl (hb hby at_257) (by decide) (by decide) ?_
                exact k
              refine Go.retZW X109 hx hlk hret (Or.inr rfl) (hb hby at_261) (by decide) (by decide) e109 hS hk ?_
              exact ⟨rfl, N109⟩
            · skip
              refine Go.st (g' := (mkF m 233 #[.val (.int p0), .val (.int p1), .val (.int p2), .val (.int p3), .val (.int 3), .val (.int c0), .val (.int c1), .val (.int c2), .val (.ref b98), .val (.int 1)] [(.int c2), (.int 0), (.int c1), (.int 1), (.int c2)])) (fun t k => ?_) ?_
              · refine XS.ifNo X107.here hx rfl (hb hby at_204) rfl ((if0 _ _).trans (feq hy108).1) ?_
                refine XS.iconst X107.here hx rfl (hb hby at_207) ?_
                refine XS.goto X107.here hx rfl (pc0 := 208) (pc' := 212) rfl (hb hby at_208) (by decide) (by decide) ?_
                refine XS.istore X107.here hx rfl (hb hby at_212) rfl (l' := #[.val (.int p0), .val (.int p1), .val (.int p2), .val (.int p3), .val (.int 3), .val (.int c0), .val (.int c1), .val (.int c2), .val (.ref b98), .val (.int 1)]) rfl ?_
                refine XS.iload X107.here hx rfl (hb hby at_214) rfl ?_
                refine XS.iconst X107.here hx rfl (hb hby at_216) ?_
                refine XS.icmpNo X107.here hx rfl (hb hby at_217) rfl (flt (by decide : ¬ (3 : Int32) < (3 : Int32))).1 ?_
                refine XS.iload X107.here hx rfl (hb hby at_220) rfl ?_
                refine XS.ifNo X107.here hx rfl (hb hby at_222) rfl ((if0 _ _).trans (feq (by decide : ¬ (1 : Int32) = (0 : Int32))).1) ?_
                refine XS.iload X107.here hx rfl (hb hby at_225) rfl ?_
                refine XS.iconst X107.here hx rfl (hb hby at_227) ?_
                refine XS.iload X107.here hx rfl (hb hby at_228) rfl ?_
                refine XS.iconst X107.here hx rfl (hb hby at_230) ?_
                refine XS.iload X107.here hx rfl (hb hby at_231) rfl ?_
                exact k
              refine Go.callS X107 hx hZ (W := 0) (argsL := [(.int c2), (.int 1), (.int c1), (.int 0), (.int c2)]) (rest := []) hown (wd hw 36 rfl) (wd hw 37 rfl) (wd hw 2 rfl) (wd hw 38 rfl) (by decide) (ct_good_1_0 l Z a0 hw  c2 c1 c2 h103 n0 O ) e107 (by rw [hml]; rfl) (lenOf pd__CZCZC_Z_1117 rfl) rfl rfl (hb hby at_233) ?_
              intro v110 T110 h110 L110 X110 e110 q110
              obtain ⟨rfl, N110, rfl⟩ := q110
              replace N110 := Fr.app N107 N110
              show Go p e below _ T110 (mkF m 236 #[.val (.int p0), .val (.int p1), .val (.int p2), .val (.int p3), .val (.int 3), .val (.int c0), .val (.int c1), .val (.int c2), .val (.ref b98), .val (.int 1)] [(.int (goodF c2 true c1 false c2))])
              by_cases hy111 : (goodF c2 true c1 false c2) = (0 : Int32)
              · skip
                refine Go.st (g' := (mkF m 248 #[.val (.int p0), .val (.int p1), .val (.int p2), .val (.int p3), .val (.int 3), .val (.int c0), .val (.int c1), .val (.int c2), .val (.ref b98), .val (.int 0)] [(.ref b98)])) (fun t k => ?_) ?_
                · refine XS.ifYes X110.here hx rfl (pc0 := 236) (pc' := 243) rfl (hb hby at_236) rfl ((if0 _ _).trans (teq hy111).1) (by decide) (by decide) ?_
                  refine XS.iconst X110.here hx rfl (hb hby at_243) ?_
                  refine XS.istore X110.here hx rfl (hb hby at_244) rfl (l' := #[.val (.int p0), .val (.int p1), .val (.int p2), .val (.int p3), .val (.int 3), .val (.int c0), .val (.int c1), .val (.int c2), .val (.ref b98), .val (.int 0)]) rfl ?_
                  refine XS.aload X110.here hx rfl (hb hby at_246) rfl rfl ?_
                  exact k
                refine Go.callS X110 hx hZ (W := 0) (argsL := [(.ref b98)]) (rest := []) hown (wd hw 39 rfl) (wd hw 40 rfl) (wd hw 41 rfl) (wd hw 42 rfl) (by decide) (ct_storable_3 l Z a0 hw  b98 c0 c1 c2 h103 n0 O E_b98 (ct_len_3_1 l Z a0 hw zc fm G b98 ob103 kb103 (.int 0) (.int (nar .byte ((c0 >>> ((0 : Int32) &&& 31)).toInt8.toInt32))) (.int (nar .byte ((c0 >>> ((8 : Int32) &&& 31)).toInt8.toInt32))) (.int (nar .byte ((c1 >>> ((0 : Int32) &&& 31)).toInt8.toInt32))) (.int (nar .byte ((c1 >>> ((8 : Int32) &&& 31)).toInt8.toInt32))) (.int (nar .byte ((c2 >>> ((0 : Int32) &&& 31)).toInt8.toInt32))) (.int (nar .byte ((c2 >>> ((8 : Int32) &&& 31)).toInt8.toInt32))) h103 n0 O E_b98 Fv103 Fc103 V_ob103) (ct_ch_3_0_1 l Z a0 hw zc fm G b98 ob103 kb103 c0 (.int (nar .byte ((c1 >>> ((0 : Int32) &&& 31)).toInt8.toInt32))) (.int (nar .byte ((c1 >>> ((8 : Int32) &&& 31)).toInt8.toInt32))) (.int (nar .byte ((c2 >>> ((0 : Int32) &&& 31)).toInt8.toInt32))) (.int (nar .byte ((c2 >>> ((8 : Int32) &&& 31)).toInt8.toInt32))) h103 n0 O E_b98 Fv103 Fc103 V_ob103 hr0) (ct_ch_3_1_1 l Z a0 hw zc fm G b98 ob103 kb103 c1 (.int (nar .byte ((c0 >>> ((0 : Int32) &&& 31)).toInt8.toInt32))) (.int (nar .byte ((c0 >>> ((8 : Int32) &&& 31)).toInt8.toInt32))) (.int (nar .byte ((c2 >>> ((0 : Int32) &&& 31)).toInt8.toInt32))) (.int (nar .byte ((c2 >>> ((8 : Int32) &&& 31)).toInt8.toInt32))) h103 n0 O E_b98 Fv103 Fc103 V_ob103 hr1) (ct_ch_3_2_1 l Z a0 hw zc fm G b98 ob103 kb103 c2 (.int (nar .byte ((c0 >>> ((0 : Int32) &&& 31)).toInt8.toInt32))) (.int (nar .byte ((c0 >>> ((8 : Int32) &&& 31)).toInt8.toInt32))) (.int (nar .byte ((c1 >>> ((0 : Int32) &&& 31)).toInt8.toInt32))) (.int (nar .byte ((c1 >>> ((8 : Int32) &&& 31)).toInt8.toInt32))) h103 n0 O E_b98 Fv103 Fc103 V_ob103 hr2)) e110 (by rw [hml]; rfl) (lenOf pd__Ljava_lang_String__Z_965 rfl) rfl rfl (hb hby at_248) ?_
                intro v112 T112 h112 L112 X112 e112 q112
                obtain ⟨rfl, N112, rfl⟩ := q112
                replace N112 := Fr.app N110 N112
                refine Go.st (g' := (mkF m 261 #[.val (.int p0), .val (.int p1), .val (.int p2), .val (.int p3), .val (.int 3), .val (.int c0), .val (.int c1), .val (.int c2), .val (.ref b98), .val (.int 0)] [(.int 1)])) (fun t k => ?_) ?_
                · refine XS.iload X112.here hx rfl (hb hby at_251) rfl ?_
                  refine XS.icmpNo X112.here hx rfl (hb hby at_253) rfl (teq (own_f3_3 hy105 hy108 hy111)).2 ?_
                  refine XS.iconst X112.here hx rfl (hb hby at_256) ?_
                  refine XS.goto X112.here hx rfl (pc0 := 257) (pc' := 261) rfl (hb hby at_257) (by decide) (by decide) ?_
                  exact k
                refine Go.retZW X112 hx hlk hret (Or.inr rfl) (hb hby at_261) (by decide) (by decide) e112 hS hk ?_
                exact ⟨rfl, N112⟩
              · skip
                refine Go.st (g' := (mkF m 248 #[.val (.int p0), .val (.int p1), .val (.int p2), .val (.int p3), .val (.int 3), .val (.int c0), .val (.int c1), .val (.int c2), .val (.ref b98), .val (.int 1)] [(.ref b98)])) (fun t k => ?_) ?_
                · refine XS.ifNo X110.here hx rfl (hb hby at_236) rfl ((if0 _ _).trans (feq hy111).1) ?_
                  refine XS.iconst X110.here hx rfl (hb hby at_239) ?_
                  refine XS.goto X110.here hx rfl (pc0 := 240) (pc' := 244) rfl (hb hby at_240) (by decide) (by decide) ?_
                  refine XS.istore X110.here hx rfl (hb hby at_244) rfl (l' := #[.val (.int p0), .val (.int p1), .val (.int p2), .val (.int p3), .val (.int 3), .val (.int c0), .val (.int c1), .val (.int c2), .val (.ref b98), .val (.int 1)]) rfl ?_
                  refine XS.aload X110.here hx rfl (hb hby at_246) rfl rfl ?_
                  exact k
                refine Go.callS X110 hx hZ (W := 0) (argsL := [(.ref b98)]) (rest := []) hown (wd hw 39 rfl) (wd hw 40 rfl) (wd hw 41 rfl) (wd hw 42 rfl) (by decide) (ct_storable_3 l Z a0 hw  b98 c0 c1 c2 h103 n0 O E_b98 (ct_len_3_1 l Z a0 hw zc fm G b98 ob103 kb103 (.int 0) (.int (nar .byte ((c0 >>> ((0 : Int32) &&& 31)).toInt8.toInt32))) (.int (nar .byte ((c0 >>> ((8 : Int32) &&& 31)).toInt8.toInt32))) (.int (nar .byte ((c1 >>> ((0 : Int32) &&& 31)).toInt8.toInt32))) (.int (nar .byte ((c1 >>> ((8 : Int32) &&& 31)).toInt8.toInt32))) (.int (nar .byte ((c2 >>> ((0 : Int32) &&& 31)).toInt8.toInt32))) (.int (nar .byte ((c2 >>> ((8 : Int32) &&& 31)).toInt8.toInt32))) h103 n0 O E_b98 Fv103 Fc103 V_ob103) (ct_ch_3_0_1 l Z a0 hw zc fm G b98 ob103 kb103 c0 (.int (nar .byte ((c1 >>> ((0 : Int32) &&& 31)).toInt8.toInt32))) (.int (nar .byte ((c1 >>> ((8 : Int32) &&& 31)).toInt8.toInt32))) (.int (nar .byte ((c2 >>> ((0 : Int32) &&& 31)).toInt8.toInt32))) (.int (nar .byte ((c2 >>> ((8 : Int32) &&& 31)).toInt8.toInt32))) h103 n0 O E_b98 Fv103 Fc103 V_ob103 hr0) (ct_ch_3_1_1 l Z a0 hw zc fm G b98 ob103 kb103 c1 (.int (nar .byte ((c0 >>> ((0 : Int32) &&& 31)).toInt8.toInt32))) (.int (nar .byte ((c0 >>> ((8 : Int32) &&& 31)).toInt8.toInt32))) (.int (nar .byte ((c2 >>> ((0 : Int32) &&& 31)).toInt8.toInt32))) (.int (nar .byte ((c2 >>> ((8 : Int32) &&& 31)).toInt8.toInt32))) h103 n0 O E_b98 Fv103 Fc103 V_ob103 hr1) (ct_ch_3_2_1 l Z a0 hw zc fm G b98 ob103 kb103 c2 (.int (nar .byte ((c0 >>> ((0 : Int32) &&& 31)).toInt8.toInt32))) (.int (nar .byte ((c0 >>> ((8 : Int32) &&& 31)).toInt8.toInt32))) (.int (nar .byte ((c1 >>> ((0 : Int32) &&& 31)).toInt8.toInt32))) (.int (nar .byte ((c1 >>> ((8 : Int32) &&& 31)).toInt8.toInt32))) h103 n0 O E_b98 Fv103 Fc103 V_ob103 hr2)) e110 (by rw [hml]; rfl) (lenOf pd__Ljava_lang_String__Z_965 rfl) rfl rfl (hb hby at_248) ?_
                intro v113 T113 h113 L113 X113 e113 q113
                obtain ⟨rfl, N113, rfl⟩ := q113
                replace N113 := Fr.app N110 N113
                refine Go.st (g' := (mkF m 261 #[.val (.int p0), .val (.int p1), .val (.int p2), .val (.int p3), .val (.int 3), .val (.int c0), .val (.int c1), .val (.int c2), .val (.ref b98), .val (.int 1)] [(.int 1)])) (fun t k => ?_) ?_
                · refine XS.iload X113.here hx rfl (hb hby at_251) rfl ?_
                  refine XS.icmpNo X113.here hx rfl (hb hby at_253) rfl (teq (own_t3 hy105 hy108 hy111)).2 ?_
                  refine XS.iconst X113.here hx rfl (hb hby at_256) ?_
                  refine XS.goto X113.here hx rfl (pc0 := 257) (pc' := 261) rfl (hb hby at_257) (by decide) (by decide) ?_
                  exact k
                refine Go.retZW X113 hx hlk hret (Or.inr rfl) (hb hby at_261) (by decide) (by decide) e113 hS hk ?_
                exact ⟨rfl, N113⟩
        · skip
          show Go p e below _ T3 (mkF m 100 #[.val (.int p0), .val (.int p1), .val (.int p2), .val (.int p3), .val (.int 3), .val (.int c0), .val (.int c1), .val (.int c2), .unset, .unset] [])
          refine Go.newO X3 hx hZ hown (wd hw 6 rfl) (wd hw 7 rfl) (wd hw 8 rfl) e3 (hb hby at_100) (by decide) (by decide) ?_
          intro T114 h114 b114 X114 e114 E114 g114 A114 D114
          have lb114 := Nat.le_of_eq g114.symm
          have g_b114 : n0 ≤ b114 := Nat.le_trans (OwnKit.Old.le O) lb114
          replace O := O.ext E114
          replace hk := Nat.le_trans hk E114.1
          have E_b114 := A114
          have F_b114_coder : Fld Z h114 b114 "java/lang/String" "coder" "B" (.int 0) := D114 (Or.inr (wd hw 33 rfl)) (ty := .byte) (by decide)
          have F_b114_value : Fld Z h114 b114 "java/lang/String" "value" "[B" .null := D114 (Or.inr (wd hw 35 rfl)) (ty := (.array .byte)) (by decide)
          refine Go.st (g' := (mkF m 105 #[.val (.int p0), .val (.int p1), .val (.int p2), .val (.int p3), .val (.int 3), .val (.int c0), .val (.int c1), .val (.int c2), .unset, .unset] [(.int 3), (.ref b114), (.ref b114)])) (fun t k => ?_) ?_
          · refine XS.dup X114.here hx rfl (hb hby at_103) rfl rfl ?_
            refine XS.iconst X114.here hx rfl (hb hby at_104) ?_
            exact k
          refine Go.newP X114 hx hZ (wd hw 9 rfl) e114 (hb hby at_105) (by decide) (cap := 3) (by decide) (by decide) (by decide) (by decide) ?_
          intro T115 h115 b115 k115 X115 e115 E115 g115 V_b115
          have lb115 := Nat.le_of_eq g115.symm
          have ne_b114_b115 : b114 ≠ b115 := Nat.ne_of_lt (Nat.lt_of_lt_of_le E_b114.lt lb115)
          have g_b115 : n0 ≤ b115 := Nat.le_trans (OwnKit.Old.le O) lb115
          replace E_b114 := E_b114.ext E115
          replace F_b114_coder := F_b114_coder.ext E115
          replace F_b114_value := F_b114_value.ext E115
          replace O := O.ext E115
          replace hk := Nat.le_trans hk E115.1
          replace V_b115 := V_b115.pad (pad_rep [] (.int 0) 3)
          replace V_b115 : Arv Z h115 b115 k115 .char (3 : Int32) [(.int 0), (.int 0), (.int 0)] (.int 0) := V_b115
          refine Go.st (g' := (mkF m 111 #[.val (.int p0), .val (.int p1), .val (.int p2), .val (.int p3), .val (.int 3), .val (.int c0), .val (.int c1), .val (.int c2), .unset, .unset] [(.int c0), (.int 0), (.ref b115), (.ref b115), (.ref b114), (.ref b114)])) (fun t k => ?_) ?_
          · refine XS.dup X115.here hx rfl (hb hby at_107) rfl rfl ?_
            refine XS.iconst X115.here hx rfl (hb hby at_108) ?_
            refine XS.iload X115.here hx rfl (hb hby at_109) rfl ?_
            exact k
          refine Go.nstV X115 hx hZ e115 V_b115 (j := (0 : Int32)) ⟨by decide, by decide⟩ 0 rfl (Nat.le_of_ble_eq_true rfl) (Or.inl ⟨rfl, rfl⟩) (hb hby at_111) ?_
          intro T116 h116 X116 e116 W116 Vn116
          replace E_b114 := E_b114.wr W116
          replace F_b114_coder := F_b114_coder.other W116 (Or.inl ne_b114_b115)
          replace F_b114_value := F_b114_value.other W116 (Or.inl ne_b114_b115)
          replace O := O.wr W116 g_b115
          have N116 := Fr.snoc X116 N3 g_b115
          replace hk := Nat.le_trans hk (Nat.le_of_eq W116.size.symm)
          replace V_b115 : Arv Z h116 b115 k115 .char (3 : Int32) [(.int (nar .char c0)), (.int 0), (.int 0)] (.int 0) := Vn116
          clear Vn116
          rw [own_nar hr0] at V_b115
          refine Go.st (g' := (mkF m 116 #[.val (.int p0), .val (.int p1), .val (.int p2), .val (.int p3), .val (.int 3), .val (.int c0), .val (.int c1), .val (.int c2), .unset, .unset] [(.int c1), (.int 1), (.ref b115), (.ref b115), (.ref b114), (.ref b114)])) (fun t k => ?_) ?_
          · refine XS.dup X116.here hx rfl (hb hby at_112) rfl rfl ?_
            refine XS.iconst X116.here hx rfl (hb hby at_113) ?_
            refine XS.iload X116.here hx rfl (hb hby at_114) rfl ?_
            exact k
          refine Go.nstV X116 hx hZ e116 V_b115 (j := (1 : Int32)) ⟨by decide, by decide⟩ 1 rfl (Nat.le_of_ble_eq_true rfl) (Or.inl ⟨rfl, rfl⟩) (hb hby at_116) ?_
          intro T117 h117 X117 e117 W117 Vn117
          replace E_b114 := E_b114.wr W117
          replace F_b114_coder := F_b114_coder.other W117 (Or.inl ne_b114_b115)
          replace F_b114_value := F_b114_value.other W117 (Or.inl ne_b114_b115)
          replace O := O.wr W117 g_b115
          have N117 := Fr.snoc X117 N116 g_b115
          replace hk := Nat.le_trans hk (Nat.le_of_eq W117.size.symm)
          replace V_b115 : Arv Z h117 b115 k115 .char (3 : Int32) [(.int c0), (.int (nar .char c1)), (.int 0)] (.int 0) := Vn117
          clear Vn117
          rw [own_nar hr1] at V_b115
          refine Go.st (g' := (mkF m 121 #[.val (.int p0), .val (.int p1), .val (.int p2), .val (.int p3), .val (.int 3), .val (.int c0), .val (.int c1), .val (.int c2), .unset, .unset] [(.int c2), (.int 2), (.ref b115), (.ref b115), (.ref b114), (.ref b114)])) (fun t k => ?_) ?_
          · refine XS.dup X117.here hx rfl (hb hby at_117) rfl rfl ?_
            refine XS.iconst X117.here hx rfl (hb hby at_118) ?_
            refine XS.iload X117.here hx rfl (hb hby at_119) rfl ?_
            exact k
          refine Go.nstV X117 hx hZ e117 V_b115 (j := (2 : Int32)) ⟨by decide, by decide⟩ 2 rfl (Nat.le_of_ble_eq_true rfl) (Or.inl ⟨rfl, rfl⟩) (hb hby at_121) ?_
          intro T118 h118 X118 e118 W118 Vn118
          replace E_b114 := E_b114.wr W118
          replace F_b114_coder := F_b114_coder.other W118 (Or.inl ne_b114_b115)
          replace F_b114_value := F_b114_value.other W118 (Or.inl ne_b114_b115)
          replace O := O.wr W118 g_b115
          have N118 := Fr.snoc X118 N117 g_b115
          replace hk := Nat.le_trans hk (Nat.le_of_eq W118.size.symm)
          replace V_b115 : Arv Z h118 b115 k115 .char (3 : Int32) [(.int c0), (.int c1), (.int (nar .char c2))] (.int 0) := Vn118
          clear Vn118
          rw [own_nar hr2] at V_b115
          show Go p e below _ T118 (mkF m 122 #[.val (.int p0), .val (.int p1), .val (.int p2), .val (.int p3), .val (.int 3), .val (.int c0), .val (.int c1), .val (.int c2), .unset, .unset] [(.ref b115), (.ref b114), (.ref b114)])
          refine Go.callC X118 hx hZ (W := 1) (argsL := [(.ref b115)]) (rest := [(.ref b114)]) hown rfl (wd hw 10 rfl) (wd hw 11 rfl) (wd hw 8 rfl) (wd hw 12 rfl) (by decide) (ct_si1_3_L l Z a0 hw zc fm G b114 b115 k115 c0 c1 c2 h118 n0 O E_b114 F_b114_value F_b114_coder g_b114 V_b115 ne_b114_b115 hr0 hr1 hr2 hy63 hy80 hy97) e118 (by rw [hml]; rfl) (lenOf pd___C_V_902 rfl) rfl rfl (hb hby at_122) ?_
          intro v119 T119 h119 L119 X119 e119 q119
          obtain ⟨ob119, kb119, rfl, N119, K119, Fv119, Fc119, V_ob119⟩ := q119
          replace N119 := Fr.app N118 N119
          replace E_b114 := E_b114.keep K119
          clear F_b114_coder
          clear F_b114_value
          replace V_b115 := V_b115.keep K119 (ninS (Ne.symm ne_b114_b115) nin0)
          replace O := O.keep K119 (allS g_b114 all0)
          replace hk := Nat.le_trans hk K119.1
          refine Go.st (g' := (mkF m 159 #[.val (.int p0), .val (.int p1), .val (.int p2), .val (.int p3), .val (.int 3), .val (.int c0), .val (.int c1), .val (.int c2), .val (.ref b114), .val (.int 1)] [(.int c1), (.int 1), (.int c0), (.int 0), (.int c0)])) (fun t k => ?_) ?_
          · refine XS.astore X119.here hx rfl (hb hby at_125) rfl rfl (l' := #[.val (.int p0), .val (.int p1), .val (.int p2), .val (.int p3), .val (.int 3), .val (.int c0), .val (.int c1), .val (.int c2), .val (.ref b114), .unset]) rfl ?_
            refine XS.iconst X119.here hx rfl (hb hby at_127) ?_
            refine XS.istore X119.here hx rfl (hb hby at_128) rfl (l' := #[.val (.int p0), .val (.int p1), .val (.int p2), .val (.int p3), .val (.int 3), .val (.int c0), .val (.int c1), .val (.int c2), .val (.ref b114), .val (.int 1)]) rfl ?_
            refine XS.iload X119.here hx rfl (hb hby at_130) rfl ?_
            refine XS.iconst X119.here hx rfl (hb hby at_132) ?_
            refine XS.icmpNo X119.here hx rfl (hb hby at_133) rfl (flt (by decide : ¬ (3 : Int32) < (1 : Int32))).1 ?_
            refine XS.iload X119.here hx rfl (hb hby at_136) rfl ?_
            refine XS.ifNo X119.here hx rfl (hb hby at_138) rfl ((if0 _ _).trans (feq (by decide : ¬ (1 : Int32) = (0 : Int32))).1) ?_
            refine XS.iload X119.here hx rfl (hb hby at_141) rfl ?_
            refine XS.iconst X119.here hx rfl (hb hby at_143) ?_
            refine XS.iload X119.here hx rfl (hb hby at_144) rfl ?_
            refine XS.iload X119.here hx rfl (hb hby at_146) rfl ?_
            refine XS.iconst X119.here hx rfl (hb hby at_148) ?_
            refine XS.icmpNo X119.here hx rfl (hb hby at_149) rfl (tlt (by decide : (1 : Int32) < (3 : Int32))).2.2.2 ?_
            refine XS.iconst X119.here hx rfl (hb hby at_152) ?_
            refine XS.goto X119.here hx rfl (pc0 := 153) (pc' := 157) rfl (hb hby at_153) (by decide) (by decide) ?_
            refine XS.iload X119.here hx rfl (hb hby at_157) rfl ?_
            exact k
          refine Go.callS X119 hx hZ (W := 0) (argsL := [(.int c0), (.int 0), (.int c0), (.int 1), (.int c1)]) (rest := []) hown (wd hw 36 rfl) (wd hw 37 rfl) (wd hw 2 rfl) (wd hw 38 rfl) (by decide) (ct_good_0_1 l Z a0 hw  c0 c0 c1 h119 n0 O ) e119 (by rw [hml]; rfl) (lenOf pd__CZCZC_Z_1117 rfl) rfl rfl (hb hby at_159) ?_
          intro v120 T120 h120 L120 X120 e120 q120
          obtain ⟨rfl, N120, rfl⟩ := q120
          replace N120 := Fr.app N119 N120
          show Go p e below _ T120 (mkF m 162 #[.val (.int p0), .val (.int p1), .val (.int p2), .val (.int p3), .val (.int 3), .val (.int c0), .val (.int c1), .val (.int c2), .val (.ref b114), .val (.int 1)] [(.int (goodF c0 false c0 true c1))])
          by_cases hy121 : (goodF c0 false c0 true c1) = (0 : Int32)
          · skip
            refine Go.st (g' := (mkF m 248 #[.val (.int p0), .val (.int p1), .val (.int p2), .val (.int p3), .val (.int 3), .val (.int c0), .val (.int c1), .val (.int c2), .val (.ref b114), .val (.int 0)] [(.ref b114)])) (fun t k => ?_) ?_
            · refine XS.ifYes X120.here hx rfl (pc0 := 162) (pc' := 169) rfl (hb hby at_162) rfl ((if0 _ _).trans (teq hy121).1) (by decide) (by decide) ?_
              refine XS.iconst X120.here hx rfl (hb hby at_169) ?_
              refine XS.istore X120.here hx rfl (hb hby at_170) rfl (l' := #[.val (.int p0), .val (.int p1), .val (.int p2), .val (.int p3), .val (.int 3), .val (.int c0), .val (.int c1), .val (.int c2), .val (.ref b114), .val (.int 0)]) rfl ?_
              refine XS.iload X120.here hx rfl (hb hby at_172) rfl ?_
              refine XS.iconst X120.here hx rfl (hb hby at_174) ?_
              refine XS.icmpNo X120.here hx rfl (hb hby at_175) rfl (flt (by decide : ¬ (3 : Int32) < (2 : Int32))).1 ?_
              refine XS.iload X120.here hx rfl (hb hby at_178) rfl ?_
              refine XS.ifYes X120.here hx rfl (pc0 := 180) (pc' := 211) rfl (hb hby at_180) rfl ((if0 _ _).trans (teq (by decide : (0 : Int32) = (0 : Int32))).1) (by decide) (by decide) ?_
              refine XS.iconst X120.here hx rfl (hb hby at_211) ?_
              refine XS.istore X120.here hx rfl (hb hby at_212) rfl (l' := #[.val (.int p0), .val (.int p1), .val (.int p2), .val (.int p3), .val (.int 3), .val (.int c0), .val (.int c1), .val (.int c2), .val (.ref b114), .val (.int 0)]) rfl ?_
              refine XS.iload X120.here hx rfl (hb hby at_214) rfl ?_
              refine XS.iconst X120.here hx rfl (hb hby at_216) ?_
              refine XS.icmpNo X120.here hx rfl (hb hby at_217) rfl (flt (by decide : ¬ (3 : Int32) < (3 : Int32))).1 ?_
              refine XS.iload X120.here hx rfl (hb hby at_220) rfl ?_
              refine XS.ifYes X120.here hx rfl (pc0 := 222) (pc' := 243) rfl (hb hby at_222) rfl ((if0 _ _).trans (teq (by decide : (0 : Int32) = (0 : Int32))).1) (by decide) (by decide) ?_
              refine XS.iconst X120.here hx rfl (hb hby at_243) ?_
              refine XS.istore X120.here hx rfl (hb hby at_244) rfl (l' := #[.val (.int p0), .val (.int p1), .val (.int p2), .val (.int p3), .val (.int 3), .val (.int c0), .val (.int c1), .val (.int c2), .val (.ref b114), .val (.int 0)]) rfl ?_
              refine XS.aload X120.here hx rfl (hb hby at_246) rfl rfl ?_
              exact k
            refine Go.callS X120 hx hZ (W := 0) (argsL := [(.ref b114)]) (rest := []) hown (wd hw 39 rfl) (wd hw 40 rfl) (wd hw 41 rfl) (wd hw 42 rfl) (by decide) (ct_storable_3 l Z a0 hw  b114 c0 c1 c2 h119 n0 O E_b114 (ct_len_3_0 l Z a0 hw zc fm G b114 ob119 kb119 (.int 0) (.int (nar .byte (c0.toInt8.toInt32))) (.int (nar .byte (c1.toInt8.toInt32))) (.int (nar .byte (c2.toInt8.toInt32))) h119 n0 O E_b114 Fv119 Fc119 V_ob119) (ct_ch_3_0_0 l Z a0 hw zc fm G b114 ob119 kb119 c0 (.int (nar .byte (c1.toInt8.toInt32))) (.int (nar .byte (c2.toInt8.toInt32))) h119 n0 O E_b114 Fv119 Fc119 V_ob119 hr0 hy63) (ct_ch_3_1_0 l Z a0 hw zc fm G b114 ob119 kb119 c1 (.int (nar .byte (c0.toInt8.toInt32))) (.int (nar .byte (c2.toInt8.toInt32))) h119 n0 O E_b114 Fv119 Fc119 V_ob119 hr1 hy80) (ct_ch_3_2_0 l Z a0 hw zc fm G b114 ob119 kb119 c2 (.int (nar .byte (c0.toInt8.toInt32))) (.int (nar .byte (c1.toInt8.toInt32))) h119 n0 O E_b114 Fv119 Fc119 V_ob119 hr2 hy97)) e120 (by rw [hml]; rfl) (lenOf pd__Ljava_lang_String__Z_965 rfl) rfl rfl (hb hby at_248) ?_
            intro v122 T122 h122 L122 X122 e122 q122
            obtain ⟨rfl, N122, rfl⟩ := q122
            replace N122 := Fr.app N120 N122
            refine Go.st (g' := (mkF m 261 #[.val (.int p0), .val (.int p1), .val (.int p2), .val (.int p3), .val (.int 3), .val (.int c0), .val (.int c1), .val (.int c2), .val (.ref b114), .val (.int 0)] [(.int 1)])) (fun t k => ?_) ?_
            · refine XS.iload X122.here hx rfl (hb hby at_251) rfl ?_
              refine XS.icmpNo X122.here hx rfl (hb hby at_253) rfl (teq (own_f3_1 hy121)).2 ?_
              refine XS.iconst X122.here hx rfl (hb hby at_256) ?_
              refine XS.goto X122.here hx rfl (pc0 := 257) (pc' := 261) rfl (hb hby at_257) (by decide) (by decide) ?_
              exact k
            refine Go.retZW X122 hx hlk hret (Or.inr rfl) (hb hby at_261) (by decide) (by decide) e122 hS hk ?_
            exact ⟨rfl, N122⟩
          · skip
            refine Go.st (g' := (mkF m 201 #[.val (.int p0), .val (.int p1), .val (.int p2), .val (.int p3), .val (.int 3), .val (.int c0), .val (.int c1), .val (.int c2), .val (.ref b114), .val (.int 1)] [(.int c2), (.int 1), (.int c0), (.int 1), (.int c1)])) (fun t k => ?_) ?_
            · refine XS.ifNo X120.here hx rfl (hb hby at_162) rfl ((if0 _ _).trans (feq hy121).1) ?_
              refine XS.iconst X120.here hx rfl (hb hby at_165) ?_
              refine XS.goto X120.here hx rfl (pc0 := 166) (pc' := 170) rfl (hb hby at_166) (by decide) (by decide) ?_
              refine XS.istore X120.here hx rfl (hb hby at_170) rfl (l' := #[.val (.int p0), .val (.int p1), .val (.int p2), .val (.int p3), .val (.int 3), .val (.int c0), .val (.int c1), .val (.int c2), .val (.ref b114), .val (.int 1)]) rfl ?_
              refine XS.iload X120.here hx rfl (hb hby at_172) rfl ?_
              refine XS.iconst X120.here hx rfl (hb hby at_174) ?_
              refine XS.icmpNo X120.here hx rfl (hb hby at_175) rfl (flt (by decide : ¬ (3 : Int32) < (2 : Int32))).1 ?_
              refine XS.iload X120.here hx rfl (hb hby at_178) rfl ?_
              refine XS.ifNo X120.here hx rfl (hb hby at_180) rfl ((if0 _ _).trans (feq (by decide : ¬ (1 : Int32) = (0 : Int32))).1) ?_
              refine XS.iload X120.here hx rfl (hb hby at_183) rfl ?_
              refine XS.iconst X120.here hx rfl (hb hby at_185) ?_
              refine XS.iload X120.here hx rfl (hb hby at_186) rfl ?_
              refine XS.iload X120.here hx rfl (hb hby at_188) rfl ?_
              refine XS.iconst X120.here hx rfl (hb hby at_190) ?_
              refine XS.icmpNo X120.here hx rfl (hb hby at_191) rfl (tlt (by decide : (2 : Int32) < (3 : Int32))).2.2.2 ?_
              refine XS.iconst X120.here hx rfl (hb hby at_194) ?_
              refine XS.goto X120.here hx rfl (pc0 := 195) (pc' := 199) rfl (hb hby at_195) (by decide) (by decide) ?_
              refine XS.iload X120.here hx rfl (hb hby at_199) rfl ?_
              exact k
            refine Go.callS X120 hx hZ (W := 0) (argsL := [(.int c1), (.int 1), (.int c0), (.int 1), (.int c2)]) (rest := []) hown (wd hw 36 rfl) (wd hw 37 rfl) (wd hw 2 rfl) (wd hw 38 rfl) (by decide) (ct_good_1_1 l Z a0 hw  c1 c0 c2 h119 n0 O ) e120 (by rw [hml]; rfl) (lenOf pd__CZCZC_Z_1117 rfl) rfl rfl (hb hby at_201) ?_
            intro v123 T123 h123 L123 X123 e123 q123
            obtain ⟨rfl, N123, rfl⟩ := q123
            replace N123 := Fr.app N120 N123
            show Go p e below _ T123 (mkF m 204 #[.val (.int p0), .val (.int p1), .val (.int p2), .val (.int p3), .val (.int 3), .val (.int c0), .val (.int c1), .val (.int c2), .val (.ref b114), .val (.int 1)] [(.int (goodF c1 true c0 true c2))])
            by_cases hy124 : (goodF c1 true c0 true c2) = (0 : Int32)
            · skip
              refine Go.st (g' := (mkF m 248 #[.val (.int p0), .val (.int p1), .val (.int p2), .val (.int p3), .val (.int 3), .val (.int c0), .val (.int c1), .val (.int c2), .val (.ref b114), .val (.int 0)] [(.ref b114)])) (fun t k => ?_) ?_
              · refine XS.ifYes X123.here hx rfl (pc0 := 204) (pc' := 211) rfl (hb hby at_204) rfl ((if0 _ _).trans (teq hy124).1) (by decide) (by decide) ?_
                refine XS.iconst X123.here hx rfl (hb hby at_211) ?_
                refine XS.istore X123.here hx rfl (hb hby at_212) rfl (l' := #[.val (.int p0), .val (.int p1), .val (.int p2), .val (.int p3), .val (.int 3), .val (.int c0), .val (.int c1), .val (.int c2), .val (.ref b114), .val (.int 0)]) rfl ?_
                refine XS.iload X123.here hx rfl (hb hby at_214) rfl ?_
                refine XS.iconst X123.here hx rfl (hb hby at_216) ?_
                refine XS.icmpNo X123.here hx rfl (hb hby at_217) rfl (flt (by decide : ¬ (3 : Int32) < (3 : Int32))).1 ?_
                refine XS.iload X123.here hx rfl (hb hby at_220) rfl ?_
                refine XS.ifYes X123.here hx rfl (pc0 := 222) (pc' := 243) rfl (hb hby at_222) rfl ((if0 _ _).trans (teq (by decide : (0 : Int32) = (0 : Int32))).1) (by decide) (by decide) ?_
                refine XS.iconst X123.here hx rfl (hb hby at_243) ?_
                refine XS.istore X123.here hx rfl (hb hby at_244) rfl (l' := #[.val (.int p0), .val (.int p1), .val (.int p2), .val (.int p3), .val (.int 3), .val (.int c0), .val (.int c1), .val (.int c2), .val (.ref b114), .val (.int 0)]) rfl ?_
                refine XS.aload X123.here hx rfl (hb hby at_246) rfl rfl ?_
                exact k
              refine Go.callS X123 hx hZ (W := 0) (argsL := [(.ref b114)]) (rest := []) hown (wd hw 39 rfl) (wd hw 40 rfl) (wd hw 41 rfl) (wd hw 42 rfl) (by decide) (ct_storable_3 l Z a0 hw  b114 c0 c1 c2 h119 n0 O E_b114 (ct_len_3_0 l Z a0 hw zc fm G b114 ob119 kb119 (.int 0) (.int (nar .byte (c0.toInt8.toInt32))) (.int (nar .byte (c1.toInt8.toInt32))) (.int (nar .byte (c2.toInt8.toInt32))) h119 n0 O E_b114 Fv119 Fc119 V_ob119) (ct_ch_3_0_0 l Z a0 hw zc fm G b114 ob119 kb119 c0 (.int (nar .byte (c1.toInt8.toInt32))) (.int (nar .byte (c2.toInt8.toInt32))) h119 n0 O E_b114 Fv119 Fc119 V_ob119 hr0 hy63) (ct_ch_3_1_0 l Z a0 hw zc fm G b114 ob119 kb119 c1 (.int (nar .byte (c0.toInt8.toInt32))) (.int (nar .byte (c2.toInt8.toInt32))) h119 n0 O E_b114 Fv119 Fc119 V_ob119 hr1 hy80) (ct_ch_3_2_0 l Z a0 hw zc fm G b114 ob119 kb119 c2 (.int (nar .byte (c0.toInt8.toInt32))) (.int (nar .byte (c1.toInt8.toInt32))) h119 n0 O E_b114 Fv119 Fc119 V_ob119 hr2 hy97)) e123 (by rw [hml]; rfl) (lenOf pd__Ljava_lang_String__Z_965 rfl) rfl rfl (hb hby at_248) ?_
              intro v125 T125 h125 L125 X125 e125 q125
              obtain ⟨rfl, N125, rfl⟩ := q125
              replace N125 := Fr.app N123 N125
              refine Go.st (g' := (mkF m 261 #[.val (.int p0), .val (.int p1), .val (.int p2), .val (.int p3), .val (.int 3), .val (.int c0), .val (.int c1), .val (.int c2), .val (.ref b114), .val (.int 0)] [(.int 1)])) (fun t k => ?_) ?_
              · refine XS.iload X125.here hx rfl (hb hby at_251) rfl ?_
                refine XS.icmpNo X125.here hx rfl (hb hby at_253) rfl (teq (own_f3_2 hy121 hy124)).2 ?_
                refine XS.iconst X125.here hx rfl (hb hby at_256) ?_
                refine XS.goto X125.here hx rfl (pc0 := 257) (pc' := 261) rfl (hb hby at_257) (by decide) (by decide) ?_
                exact k
              refine Go.retZW X125 hx hlk hret (Or.inr rfl) (hb hby at_261) (by decide) (by decide) e125 hS hk ?_
              exact ⟨rfl, N125⟩
            · skip
              refine Go.st (g' := (mkF m 233 #[.val (.int p0), .val (.int p1), .val (.int p2), .val (.int p3), .val (.int 3), .val (.int c0), .val (.int c1), .val (.int c2), .val (.ref b114), .val (.int 1)] [(.int c2), (.int 0), (.int c1), (.int 1), (.int c2)])) (fun t k => ?_) ?_
              · refine XS.ifNo X123.here hx rfl (hb hby at_204) rfl ((if0 _ _).trans (feq hy124).1) ?_
                refine XS.iconst X123.here hx rfl (hb hby at_207) ?_
                refine XS.goto X123.here hx rfl (pc0 := 208) (pc' := 212) rfl (hb hby at_208) (by decide) (by decide) ?_
                refine XS.istore X123.here hx rfl (hb hby at_212) rfl (l' := #[.val (.int p0), .val (.int p1), .val (.int p2), .val (.int p3), .val (.int 3), .val (.int c0), .val (.int c1), .val (.int c2), .val (.ref b114), .val (.int 1)]) rfl ?_
                refine XS.iload X123.here hx rfl (hb hby at_214) rfl ?_
                refine XS.iconst X123.here hx rfl (hb hby at_216) ?_
                refine XS.icmpNo X123.here hx rfl (hb hby at_217) rfl (flt (by decide : ¬ (3 : Int32) < (3 : Int32))).1 ?_
                refine XS.iload X123.here hx rfl (hb hby at_220) rfl ?_
                refine XS.ifNo X123.here hx rfl (hb hby at_222) rfl ((if0 _ _).trans (feq (by decide : ¬ (1 : Int32) = (0 : Int32))).1) ?_
                refine XS.iload X123.here hx rfl (hb hby at_225) rfl ?_
                refine XS.iconst X123.here hx rfl (hb hby at_227) ?_
                refine XS.iload X123.here hx rfl (hb hby at_228) rfl ?_
                refine XS.iconst X123.here hx rfl (hb hby at_230) ?_
                refine XS.iload X123.here hx rfl (hb hby at_231) rfl ?_
                exact k
              refine Go.callS X123 hx hZ (W := 0) (argsL := [(.int c2), (.int 1), (.int c1), (.int 0), (.int c2)]) (rest := []) hown (wd hw 36 rfl) (wd hw 37 rfl) (wd hw 2 rfl) (wd hw 38 rfl) (by decide) (ct_good_1_0 l Z a0 hw  c2 c1 c2 h119 n0 O ) e123 (by rw [hml]; rfl) (lenOf pd__CZCZC_Z_1117 rfl) rfl rfl (hb hby at_233) ?_
              intro v126 T126 h126 L126 X126 e126 q126
              obtain ⟨rfl, N126, rfl⟩ := q126
              replace N126 := Fr.app N123 N126
              show Go p e below _ T126 (mkF m 236 #[.val (.int p0), .val (.int p1), .val (.int p2), .val (.int p3), .val (.int 3), .val (.int c0), .val (.int c1), .val (.int c2), .val (.ref b114), .val (.int 1)] [(.int (goodF c2 true c1 false c2))])
              by_cases hy127 : (goodF c2 true c1 false c2) = (0 : Int32)
              · skip
                refine Go.st (g' := (mkF m 248 #[.val (.int p0), .val (.int p1), .val (.int p2), .val (.int p3), .val (.int 3), .val (.int c0), .val (.int c1), .val (.int c2), .val (.ref b114), .val (.int 0)] [(.ref b114)])) (fun t k => ?_) ?_
                · refine XS.ifYes X126.here hx rfl (pc0 := 236) (pc' := 243) rfl (hb hby at_236) rfl ((if0 _ _).trans (teq hy127).1) (by decide) (by decide) ?_
                  refine XS.iconst X126.here hx rfl (hb hby at_243) ?_
                  refine XS.istore X126.here hx rfl (hb hby at_244) rfl (l' := #[.val (.int p0), .val (.int p1), .val (.int p2), .val (.int p3), .val (.int 3), .val (.int c0), .val (.int c1), .val (.int c2), .val (.ref b114), .val (.int 0)]) rfl ?_
                  refine XS.aload X126.here hx rfl (hb hby at_246) rfl rfl ?_
                  exact k
                refine Go.callS X126 hx hZ (W := 0) (argsL := [(.ref b114)]) (rest := []) hown (wd hw 39 rfl) (wd hw 40 rfl) (wd hw 41 rfl) (wd hw 42 rfl) (by decide) (ct_storable_3 l Z a0 hw  b114 c0 c1 c2 h119 n0 O E_b114 (ct_len_3_0 l Z a0 hw zc fm G b114 ob119 kb119 (.int 0) (.int (nar .byte (c0.toInt8.toInt32))) (.int (nar .byte (c1.toInt8.toInt32))) (.int (nar .byte (c2.toInt8.toInt32))) h119 n0 O E_b114 Fv119 Fc119 V_ob119) (ct_ch_3_0_0 l Z a0 hw zc fm G b114 ob119 kb119 c0 (.int (nar .byte (c1.toInt8.toInt32))) (.int (nar .byte (c2.toInt8.toInt32))) h119 n0 O E_b114 Fv119 Fc119 V_ob119 hr0 hy63) (ct_ch_3_1_0 l Z a0 hw zc fm G b114 ob119 kb119 c1 (.int (nar .byte (c0.toInt8.toInt32))) (.int (nar .byte (c2.toInt8.toInt32))) h119 n0 O E_b114 Fv119 Fc119 V_ob119 hr1 hy80) (ct_ch_3_2_0 l Z a0 hw zc fm G b114 ob119 kb119 c2 (.int (nar .byte (c0.toInt8.toInt32))) (.int (nar .byte (c1.toInt8.toInt32))) h119 n0 O E_b114 Fv119 Fc119 V_ob119 hr2 hy97)) e126 (by rw [hml]; rfl) (lenOf pd__Ljava_lang_String__Z_965 rfl) rfl rfl (hb hby at_248) ?_
                intro v128 T128 h128 L128 X128 e128 q128
                obtain ⟨rfl, N128, rfl⟩ := q128
                replace N128 := Fr.app N126 N128
                refine Go.st (g' := (mkF m 261 #[.val (.int p0), .val (.int p1), .val (.int p2), .val (.int p3), .val (.int 3), .val (.int c0), .val (.int c1), .val (.int c2), .val (.ref b114), .val (.int 0)] [(.int 1)])) (fun t k => ?_) ?_
                · refine XS.iload X128.here hx rfl (hb hby at_251) rfl ?_
                  refine XS.icmpNo X128.here hx rfl (hb hby at_253) rfl (teq (own_f3_3 hy121 hy124 hy127)).2 ?_
                  refine XS.iconst X128.here hx rfl (hb hby at_256) ?_
                  refine XS.goto X128.here hx rfl (pc0 := 257) (pc' := 261) rfl (hb hby at_257) (by decide) (by decide) ?_
                  exact k
                refine Go.retZW X128 hx hlk hret (Or.inr rfl) (hb hby at_261) (by decide) (by decide) e128 hS hk ?_
                exact ⟨rfl, N128⟩
              · skip
                refine Go.st (g' := (mkF m 248 #[.val (.int p0), .val (.int p1), .val (.int p2), .val (.int p3), .val (.int 3), .val (.int c0), .val (.int c1), .val (.int c2), .val (.ref b114), .val (.int 1)] [(.ref b114)])) (fun t k => ?_) ?_
                · refine XS.ifNo X126.here hx rfl (hb hby at_236) rfl ((if0 _ _).trans (feq hy127).1) ?_
                  refine XS.iconst X126.here hx rfl (hb hby at_239) ?_
                  refine XS.goto X126.here hx rfl (pc0 := 240) (pc' := 244) rfl (hb hby at_240) (by decide) (by decide) ?_
                  refine XS.istore X126.here hx rfl (hb hby at_244) rfl (l' := #[.val (.int p0), .val (.int p1), .val (.int p2), .val (.int p3), .val (.int 3), .val (.int c0), .val (.int c1), .val (.int c2), .val (.ref b114), .val (.int 1)]) rfl ?_
                  refine XS.aload X126.here hx rfl (hb hby at_246) rfl rfl ?_
                  exact k
                refine Go.callS X126 hx hZ (W := 0) (argsL := [(.ref b114)]) (rest := []) hown (wd hw 39 rfl) (wd hw 40 rfl) (wd hw 41 rfl) (wd hw 42 rfl) (by decide) (ct_storable_3 l Z a0 hw  b114 c0 c1 c2 h119 n0 O E_b114 (ct_len_3_0 l Z a0 hw zc fm G b114 ob119 kb119 (.int 0) (.int (nar .byte (c0.toInt8.toInt32))) (.int (nar .byte (c1.toInt8.toInt32))) (.int (nar .byte (c2.toInt8.toInt32))) h119 n0 O E_b114 Fv119 Fc119 V_ob119) (ct_ch_3_0_0 l Z a0 hw zc fm G b114 ob119 kb119 c0 (.int (nar .byte (c1.toInt8.toInt32))) (.int (nar .byte (c2.toInt8.toInt32))) h119 n0 O E_b114 Fv119 Fc119 V_ob119 hr0 hy63) (ct_ch_3_1_0 l Z a0 hw zc fm G b114 ob119 kb119 c1 (.int (nar .byte (c0.toInt8.toInt32))) (.int (nar .byte (c2.toInt8.toInt32))) h119 n0 O E_b114 Fv119 Fc119 V_ob119 hr1 hy80) (ct_ch_3_2_0 l Z a0 hw zc fm G b114 ob119 kb119 c2 (.int (nar .byte (c0.toInt8.toInt32))) (.int (nar .byte (c1.toInt8.toInt32))) h119 n0 O E_b114 Fv119 Fc119 V_ob119 hr2 hy97)) e126 (by rw [hml]; rfl) (lenOf pd__Ljava_lang_String__Z_965 rfl) rfl rfl (hb hby at_248) ?_
                intro v129 T129 h129 L129 X129 e129 q129
                obtain ⟨rfl, N129, rfl⟩ := q129
                replace N129 := Fr.app N126 N129
                refine Go.st (g' := (mkF m 261 #[.val (.int p0), .val (.int p1), .val (.int p2), .val (.int p3), .val (.int 3), .val (.int c0), .val (.int c1), .val (.int c2), .val (.ref b114), .val (.int 1)] [(.int 1)])) (fun t k => ?_) ?_
                · refine XS.iload X129.here hx rfl (hb hby at_251) rfl ?_
                  refine XS.icmpNo X129.here hx rfl (hb hby at_253) rfl (teq (own_t3 hy121 hy124 hy127)).2 ?_
                  refine XS.iconst X129.here hx rfl (hb hby at_256) ?_
                  refine XS.goto X129.here hx rfl (pc0 := 257) (pc' := 261) rfl (hb hby at_257) (by decide) (by decide) ?_
                  exact k
                refine Go.retZW X129 hx hlk hret (Or.inr rfl) (hb hby at_261) (by decide) (by decide) e129 hS hk ?_
                exact ⟨rfl, N129⟩
set_option maxRecDepth 65536 in
set_option maxHeartbeats 40000000 in
theorem comes_1 {Post : Tables → Env → Array Value → State → Outcome → State → Prop} (hpost : ∀ tb e args s v u, (limb_1_1.after args s (.returned v) u = true ∧ limb_1_2.after args s (.returned v) u = true ∧ True) → ReturnedEndW s (.returned v) u (Jvm.fieldLocs frame_1_writes args s ++ Jvm.arrayLocs frame_1_arrays args s ++ Jvm.staticLocs frame_1_statics s) 24 1152 → Post tb e args s (.returned v) u) :
    ArmFor flags0 classFile x code maxLocals ret World_1 tables_1 room_1 Calls_1 rest_1 Pre_1 Post := by
  intro l hfl _ _ p e ha hc hk s m args below hf hA hF happ hP
  obtain ⟨hcalls, hrest, hpre⟩ := hP
  obtain ⟨-, -, -, hnamed, -, -, -, hat⟩ := (Spec.applies_iff hf).mp happ
  obtain ⟨hg, hn⟩ := and_e (Cond.before_iff.mp (show (Jvm.Cond.and given_1 narrow_1).before args s = true from hpre))
  obtain ⟨hcnt, hg⟩ := and_e hg
  obtain ⟨ha0, hg⟩ := and_e hg
  obtain ⟨ha1, hg⟩ := and_e hg
  obtain ⟨ha2, hg⟩ := and_e hg
  have ha3 := hg
  obtain ⟨u0, u1, u2, u3, rfl⟩ : ∃ u0 u1 u2 u3 : Value, args = #[u0, u1, u2, u3] := by
    have hs : args.size = 4 := by simpa [Cond.value] using hcnt
    obtain ⟨L⟩ := args
    match L, hs with
    | [u0, u1, u2, u3], _ => exact ⟨u0, u1, u2, u3, rfl⟩
  have hw := fun d (hd : d ∈ tables_1) => atoms_spec (ws := Jvm.Cond.code x code maxLocals ret :: tables_1) hat d (List.mem_cons_of_mem _ hd)
  have hfit : Fit s := fun {y c} hc i hi => by
    obtain ⟨ha, rfl⟩ := Array.getElem?_eq_some_iff.mp hc
    have q := List.all_eq_true.mp ((Array.all_eq_true_iff_forall_mem.mp hF) _ (Array.getElem_mem ha)) i (List.mem_range.mpr hi)
    simpa [Array.getElem?_eq_getElem hi] using q
  obtain ⟨hsets, hown0⟩ := atoms_of _ (rest_1_c_eq ▸ (show rest_1_c.before _ s = true from hrest))
  obtain ⟨i0, ei0⟩ := is_v ha0
  obtain rfl : u0 = (.int i0) := Option.some.inj ei0
  obtain ⟨i1, ei1⟩ := is_v ha1
  obtain rfl : u1 = (.int i1) := Option.some.inj ei1
  obtain ⟨i2, ei2⟩ := is_v ha2
  obtain rfl : u2 = (.int i2) := Option.some.inj ei2
  obtain ⟨i3, ei3⟩ := is_v ha3
  obtain rfl : u3 = (.int i3) := Option.some.inj ei3
  obtain ⟨zc, ev_zc⟩ := is_v (Cond.before_iff.mp (hsets _ (List.mem_of_getElem? (i := 1) rfl)))
  have S_CS := Sta.start ev_zc (Or.inl (hsets _ (List.mem_of_getElem? (i := 0) rfl)))
  have hzc : ¬ zc = (0 : Int32) := gotF (Cond.eq_ints ev_zc (Term.int_eval _)) (not_v (Cond.before_iff.mp (hsets _ (List.mem_of_getElem? (i := 2) rfl))))
  obtain ⟨fm, ev_fm, hfm⟩ := isR_v (Cond.before_iff.mp (hsets _ (List.mem_of_getElem? (i := 8) rfl)))
  have S_FM := Sta.start ev_fm (Or.inl (hsets _ (List.mem_of_getElem? (i := 7) rfl)))
  have S_AD := Sta.start (eqI_v (Cond.before_iff.mp (hsets _ (List.mem_of_getElem? (i := 12) rfl)))) (Or.inl (hsets _ (List.mem_of_getElem? (i := 11) rfl)))
  have S_HI := Sta.start (eqI_v (Cond.before_iff.mp (hsets _ (List.mem_of_getElem? (i := 15) rfl)))) (Or.inl (hsets _ (List.mem_of_getElem? (i := 14) rfl)))
  have S_LO := Sta.start (eqI_v (Cond.before_iff.mp (hsets _ (List.mem_of_getElem? (i := 18) rfl)))) (Or.inl (hsets _ (List.mem_of_getElem? (i := 17) rfl)))
  have G : Gl s zc fm := ⟨S_CS, hzc, S_FM, hfm, S_AD, S_HI, S_LO⟩
  have hh0 : Jvm.Lit.constHeld s "java/lang/String" 7 := hcalls.1 ("java/lang/String", 7) (List.mem_singleton.mpr rfl)
  obtain ⟨n, o, h1, h2, h3, _, L, rfl, ⟨rfl, N⟩, hq⟩ := ct_law l s _ hw zc fm G i0 i1 i2 i3 s.heap s.heap.size (Old.start s) hh0 (hsets _ (List.mem_of_getElem? (i := 2) rfl)) tables_1 p e ha hc hk s m _ below hf ((Spec.applies_iff_loose hf).mp happ).1 ⟨rfl, State.Warmed39.refl s, rfl, rfl⟩ trivial
  refine ⟨n, _, h1, h2, h3, hpost _ _ _ _ _ _ ⟨Cond.after_iff.mpr rfl, Cond.after_iff.mpr (eq_i res_at (Term.int_eval (1)) rfl), trivial⟩ ⟨hq.1, hq.2.1, hq.2.2.1, (hq.2.2.2.sift fun y hy => Or.inr (N y hy)).mono (by decide) (by decide)⟩⟩
theorem main_1_1 : Claimed_1_1 := comes_1 fun _ _ _ _ _ _ h hF => ⟨h.1, hF⟩
theorem main_1_2 : Claimed_1_2 := comes_1 fun _ _ _ _ _ _ h hF => ⟨h.2.1, hF⟩
end Jvm.Pilot.@@N@@
namespace Jvm.Pilot.@@N@@
open Jvm Jvm.ClassFile Sem Op Lib Jvm.Free Jvm.Stand Jvm.Pilot.@@N@@.Jvm.D
/-! MADE BY PROGRAM (witnessworld.py) out of the Statement's table words and the real class files: 21 classes; the members and pool entries that the words name. The judged class is class 1, her method 5. -/
namespace start1
open Jvm.ClassFile
def u (s : String) : CpInfo := .utf8 (stringToUtf16 s)
/-- a pool by its gaps: so many unusable entries, then the entry; so many at the end -/
def gap : Nat → List CpInfo → List CpInfo
  | 0, r => r
  | n + 1, r => .unusable :: gap n r
def poolList (es : List (Nat × CpInfo)) (last : Nat) : List CpInfo := es.foldr (fun e r => gap e.1 (e.2 :: r)) (gap last [])
def pool (es : List (Nat × CpInfo)) (last : Nat) : Array CpInfo := ⟨poolList es last⟩
def fileOf (pool : Array CpInfo) (this : Nat) (attrs : Array Attribute := #[]) (ms : Array MethodInfo := #[]) (fl : Nat := 33) (sup : Nat := 0) (ifs : Array Nat := #[]) (fds : Array FieldInfo := #[]) : ClassFile where
  minorVersion := 0
  majorVersion := 65
  constantPool := pool
  accessFlags := fl
  thisClass := this
  superClass := sup
  interfaces := ifs
  fields := fds
  methods := ms
  attributes := attrs
def plain (name : String) (sup : Option ClassId) : Class where
  name := name
  kind := .ordinary
  loader := none
  accessFlags := 33
  super := sup
  interfaces := #[]
  cf := none
  fields := #[]
  methods := #[]
  instanceTypes := #[]
  staticTypes := #[]
  resolved := #[]
  callSites := []
  init := .initialized
  statics := none
  mirror := none

def pool0 : Array CpInfo := pool [(5, u "<init>"), (0, u "()V"), (1, .class_ 10), (1, u "java/lang/Object")] 113

def k0c0 : Code := { maxStack := 0, maxLocals := 1, code := object_method_1_code, exceptionTable := #[], attributes := #[] }
def k0m0 : Method := { name := "<init>", desc := "()V", sig := { parameters := [], returnType := none }, accessFlags := 1, code := some k0c0 }
/-- java/lang/Object -/
def k0 : Class := { plain "java/lang/Object" none with
  accessFlags := 33
  interfaces := #[]
  cf := some (fileOf pool0 8 #[] #[{ accessFlags := 1, nameIndex := 5, descriptorIndex := 6, attributes := #[] }] 33 0 #[] #[])
  fields := #[]
  methods := #[k0m0]
  instanceTypes := #[]
  staticTypes := #[]
  resolved := Array.replicate 124 none
  statics := none }

def pool1 : Array CpInfo := pool [(2, .class_ 4), (1, u "java/lang/Object"), (0, u "<init>"), (0, u "()V"), (0, .integer 55296), (0, .integer 56320), (0, .integer 65535), (0, .integer 56319), (0, .integer 57343), (0, .methodref 13 14), (0, .class_ 15), (0, .nameAndType 16 17), (0, u "com/example/provenara/provenara/model/CatalogTextIsStorablePinLaw"), (0, u "isHi"), (0, u "(C)Z"), (0, .methodref 13 19), (0, .nameAndType 20 17), (0, u "isLo"), (0, .methodref 13 22), (0, .nameAndType 23 24), (0, u "draw"), (0, u "(I)C"), (0, .class_ 26), (0, u "java/lang/String"), (0, .methodref 25 28), (0, .nameAndType 5 29), (0, u "([C)V"), (0, .methodref 13 31), (0, .nameAndType 32 33), (0, u "good"), (0, u "(CZCZC)Z"), (0, .methodref 35 36), (0, .class_ 37), (0, .nameAndType 38 39), (0, u "com/example/provenara/provenara/model/CatalogText"), (0, u "isStorable"), (0, u "(Ljava/lang/String;)Z"), (3, u "law"), (0, u "(IIII)Z")] 2

def k1m0 : Method := { name := "<init>", desc := "()V", sig := { parameters := [], returnType := none }, accessFlags := 2, code := none }
def k1c1 : Code := { maxStack := 3, maxLocals := 3, code := method_2_code, exceptionTable := #[], attributes := #[] }
def k1m1 : Method := { name := "draw", desc := "(I)C", sig := { parameters := [.int], returnType := some .char }, accessFlags := 10, code := some k1c1 }
def k1c2 : Code := { maxStack := 2, maxLocals := 1, code := method_3_code, exceptionTable := #[], attributes := #[] }
def k1m2 : Method := { name := "isHi", desc := "(C)Z", sig := { parameters := [.char], returnType := some .boolean }, accessFlags := 10, code := some k1c2 }
def k1c3 : Code := { maxStack := 2, maxLocals := 1, code := method_4_code, exceptionTable := #[], attributes := #[] }
def k1m3 : Method := { name := "isLo", desc := "(C)Z", sig := { parameters := [.char], returnType := some .boolean }, accessFlags := 10, code := some k1c3 }
def k1c4 : Code := { maxStack := 1, maxLocals := 5, code := method_5_code, exceptionTable := #[], attributes := #[] }
def k1m4 : Method := { name := "good", desc := "(CZCZC)Z", sig := { parameters := [.char, .boolean, .char, .boolean, .char], returnType := some .boolean }, accessFlags := 10, code := some k1c4 }
def k1c5 : Code := { maxStack := 6, maxLocals := 10, code := code, exceptionTable := #[], attributes := #[] }
def k1m5 : Method := { name := "law", desc := "(IIII)Z", sig := { parameters := [.int, .int, .int, .int], returnType := some .boolean }, accessFlags := 9, code := some k1c5 }
/-- com/example/provenara/provenara/model/CatalogTextIsStorablePinLaw -/
def k1 : Class := { plain "com/example/provenara/provenara/model/CatalogTextIsStorablePinLaw" (some 0) with
  accessFlags := 49
  interfaces := #[]
  cf := some (fileOf pool1 13 #[] #[{ accessFlags := 2, nameIndex := 5, descriptorIndex := 6, attributes := #[] }, { accessFlags := 10, nameIndex := 23, descriptorIndex := 24, attributes := #[] }, { accessFlags := 10, nameIndex := 16, descriptorIndex := 17, attributes := #[] }, { accessFlags := 10, nameIndex := 20, descriptorIndex := 17, attributes := #[] }, { accessFlags := 10, nameIndex := 32, descriptorIndex := 33, attributes := #[] }, { accessFlags := 9, nameIndex := 43, descriptorIndex := 44, attributes := #[] }] 49 2 #[] #[])
  fields := #[]
  methods := #[k1m0, k1m1, k1m2, k1m3, k1m4, k1m5]
  instanceTypes := #[]
  staticTypes := #[]
  resolved := Array.replicate 47 none
  statics := none }

def pool2 : Array CpInfo := pool [(1, .class_ 2), (0, u "java/io/Serializable"), (0, .class_ 4), (0, u "java/lang/Object")] 2

/-- java/io/Serializable -/
def k2 : Class := { plain "java/io/Serializable" (some 0) with
  accessFlags := 1537
  interfaces := #[]
  cf := some (fileOf pool2 1 #[] #[] 1537 3 #[] #[])
  fields := #[]
  methods := #[]
  instanceTypes := #[]
  staticTypes := #[]
  resolved := Array.replicate 7 none
  statics := none }

def pool3 : Array CpInfo := pool [(1, .class_ 2), (0, u "java/lang/Comparable"), (0, .class_ 4), (0, u "java/lang/Object")] 7

/-- java/lang/Comparable -/
def k3 : Class := { plain "java/lang/Comparable" (some 0) with
  accessFlags := 1537
  interfaces := #[]
  cf := some (fileOf pool3 1 #[] #[] 1537 3 #[] #[])
  fields := #[]
  methods := #[]
  instanceTypes := #[]
  staticTypes := #[]
  resolved := Array.replicate 12 none
  statics := none }

def pool4 : Array CpInfo := pool [(2, .class_ 4), (1, u "java/lang/CharSequence"), (42, .class_ 48), (0, u "java/lang/CharSequence$1CodePointIterator"), (10, .class_ 60), (0, u "java/lang/CharSequence$1CharIterator"), (5, .class_ 67), (0, u "java/lang/Object")] 63

/-- java/lang/CharSequence -/
def k4 : Class := { plain "java/lang/CharSequence" (some 0) with
  accessFlags := 1537
  interfaces := #[]
  cf := some (fileOf pool4 2 #[.nestMembers #[47, 59]] #[] 1537 66 #[] #[])
  fields := #[]
  methods := #[]
  instanceTypes := #[]
  staticTypes := #[]
  resolved := Array.replicate 131 none
  statics := none }

def pool5 : Array CpInfo := pool [(1, .class_ 2), (0, u "java/lang/constant/Constable"), (0, .class_ 4), (0, u "java/lang/Object")] 6

/-- java/lang/constant/Constable -/
def k5 : Class := { plain "java/lang/constant/Constable" (some 0) with
  accessFlags := 1537
  interfaces := #[]
  cf := some (fileOf pool5 1 #[] #[] 1537 3 #[] #[])
  fields := #[]
  methods := #[]
  instanceTypes := #[]
  staticTypes := #[]
  resolved := Array.replicate 11 none
  statics := none }

def pool6 : Array CpInfo := pool [(1, .class_ 2), (0, u "java/lang/constant/ConstantDesc"), (0, .class_ 4), (0, u "java/lang/Object")] 32

/-- java/lang/constant/ConstantDesc -/
def k6 : Class := { plain "java/lang/constant/ConstantDesc" (some 0) with
  accessFlags := 1537
  interfaces := #[]
  cf := some (fileOf pool6 1 #[] #[] 1537 3 #[] #[])
  fields := #[]
  methods := #[]
  instanceTypes := #[]
  staticTypes := #[]
  resolved := Array.replicate 37 none
  statics := none }

def pool7 : Array CpInfo := pool [(1, .methodref 2 3), (0, .class_ 4), (0, .nameAndType 5 6), (0, u "java/lang/Object"), (0, u "<init>"), (0, u "()V"), (0, .string 8), (0, u ""), (0, .fieldref 10 11), (0, .class_ 12), (0, .nameAndType 13 14), (0, u "java/lang/String"), (0, u "value"), (0, u "[B"), (0, .fieldref 10 16), (0, .nameAndType 17 18), (0, u "coder"), (0, u "B"), (2, u "hash"), (0, u "I"), (2, u "hashIsZero"), (0, u "Z"), (0, .methodref 10 28), (0, .nameAndType 5 29), (0, u "([CIILjava/lang/Void;)V"), (8, .fieldref 10 39), (0, .nameAndType 40 26), (0, u "COMPACT_STRINGS"), (1, .class_ 44), (1, u "java/lang/StringUTF16"), (0, u "compress"), (1, .methodref 42 48), (0, .nameAndType 49 50), (0, u "coderFromArrayLen"), (0, u "([BI)B"), (56, .class_ 109), (1, u "java/lang/StringLatin1"), (32, u "()Z"), (34, .methodref 42 178), (0, .nameAndType 45 179), (0, u "([CII)[B"), (154, u "()I"), (0, .methodref 10 336), (0, .nameAndType 17 337), (0, u "()B"), (25, u "([BI)C"), (27, u "(II)V"), (35, u "(I)C"), (64, .methodref 10 493), (0, .nameAndType 494 142), (0, u "isLatin1"), (0, .methodref 107 496), (0, .nameAndType 497 363), (0, u "charAt"), (0, .methodref 42 496), (2, u "checkIndex"), (5, u "length"), (67, .class_ 576), (0, u "java/lang/CharSequence"), (22, u "CASE_INSENSITIVE_ORDER"), (0, u "Ljava/util/Comparator;"), (409, u "([C)V"), (42, .fieldref 1054 1055), (0, .class_ 1056), (0, .nameAndType 1057 1058), (0, u "jdk/internal/util/Preconditions"), (0, u "SIOOBE_FORMATTER"), (0, u "Ljava/util/function/BiFunction;"), (0, .methodref 1054 1060), (0, .nameAndType 501 1061), (0, u "(IILjava/util/function/BiFunction;)I"), (39, u "serialPersistentFields"), (0, u "[Ljava/io/ObjectStreamField;"), (0, .class_ 1104), (0, u "java/lang/String$CaseInsensitiveComparator"), (1, .class_ 1107), (0, u "java/io/Serializable"), (0, .class_ 1109), (0, u "java/lang/Comparable"), (0, .class_ 1111), (0, u "java/lang/constant/Constable"), (0, .class_ 1113), (0, u "java/lang/constant/ConstantDesc"), (2, u "serialVersionUID"), (0, u "J"), (3, u "REPL"), (0, u "C"), (2, u "LATIN1"), (1, u "UTF16")] 323

def k7m0 : Method := { name := "<init>", desc := "()V", sig := { parameters := [], returnType := none }, accessFlags := 1, code := none }
def k7c1 : Code := { maxStack := 5, maxLocals := 2, code := jdk_42_method_3_code, exceptionTable := #[], attributes := #[] }
def k7m1 : Method := { name := "<init>", desc := "([C)V", sig := { parameters := [(.array .char)], returnType := none }, accessFlags := 1, code := some k7c1 }
def k7c2 : Code := { maxStack := 2, maxLocals := 1, code := jdk_42_method_54_code, exceptionTable := #[], attributes := #[] }
def k7m2 : Method := { name := "length", desc := "()I", sig := { parameters := [], returnType := some .int }, accessFlags := 1, code := some k7c2 }
def k7c3 : Code := { maxStack := 2, maxLocals := 2, code := jdk_42_method_56_code, exceptionTable := #[], attributes := #[] }
def k7m3 : Method := { name := "charAt", desc := "(I)C", sig := { parameters := [.int], returnType := some .char }, accessFlags := 1, code := some k7c3 }
def k7c4 : Code := { maxStack := 4, maxLocals := 6, code := jdk_42_method_149_code, exceptionTable := #[], attributes := #[] }
def k7m4 : Method := { name := "<init>", desc := "([CIILjava/lang/Void;)V", sig := { parameters := [(.array .char), .int, .int, (.object "java/lang/Void")], returnType := none }, accessFlags := 2, code := some k7c4 }
def k7c5 : Code := { maxStack := 1, maxLocals := 1, code := jdk_42_method_152_code, exceptionTable := #[], attributes := #[] }
def k7m5 : Method := { name := "coder", desc := "()B", sig := { parameters := [], returnType := some .byte }, accessFlags := 0, code := some k7c5 }
def k7c6 : Code := { maxStack := 1, maxLocals := 1, code := jdk_42_method_154_code, exceptionTable := #[], attributes := #[] }
def k7m6 : Method := { name := "isLatin1", desc := "()Z", sig := { parameters := [], returnType := some .boolean }, accessFlags := 0, code := some k7c6 }
def k7c7 : Code := { maxStack := 3, maxLocals := 2, code := jdk_42_method_155_code, exceptionTable := #[], attributes := #[] }
def k7m7 : Method := { name := "checkIndex", desc := "(II)V", sig := { parameters := [.int, .int], returnType := none }, accessFlags := 8, code := some k7c7 }
/-- java/lang/String -/
def k7 : Class := { plain "java/lang/String" (some 0) with
  accessFlags := 49
  interfaces := #[2, 3, 4, 5, 6]
  cf := some (fileOf pool7 10 #[.nestMembers #[1103]] #[{ accessFlags := 1, nameIndex := 5, descriptorIndex := 6, attributes := #[] }, { accessFlags := 1, nameIndex := 5, descriptorIndex := 1010, attributes := #[] }, { accessFlags := 1, nameIndex := 507, descriptorIndex := 334, attributes := #[] }, { accessFlags := 1, nameIndex := 497, descriptorIndex := 427, attributes := #[] }, { accessFlags := 2, nameIndex := 5, descriptorIndex := 29, attributes := #[] }, { accessFlags := 0, nameIndex := 17, descriptorIndex := 337, attributes := #[] }, { accessFlags := 0, nameIndex := 494, descriptorIndex := 142, attributes := #[] }, { accessFlags := 8, nameIndex := 501, descriptorIndex := 391, attributes := #[] }] 49 2 #[1106, 1108, 575, 1110, 1112] #[{ accessFlags := 18, nameIndex := 13, descriptorIndex := 14, attributes := #[] }, { accessFlags := 18, nameIndex := 17, descriptorIndex := 18, attributes := #[] }, { accessFlags := 2, nameIndex := 21, descriptorIndex := 22, attributes := #[] }, { accessFlags := 2, nameIndex := 25, descriptorIndex := 26, attributes := #[] }, { accessFlags := 26, nameIndex := 1116, descriptorIndex := 1117, attributes := #[] }, { accessFlags := 24, nameIndex := 40, descriptorIndex := 26, attributes := #[] }, { accessFlags := 26, nameIndex := 1101, descriptorIndex := 1102, attributes := #[] }, { accessFlags := 26, nameIndex := 1121, descriptorIndex := 1122, attributes := #[] }, { accessFlags := 25, nameIndex := 599, descriptorIndex := 600, attributes := #[] }, { accessFlags := 24, nameIndex := 1125, descriptorIndex := 18, attributes := #[] }, { accessFlags := 24, nameIndex := 1127, descriptorIndex := 18, attributes := #[] }])
  fields := #[{ name := "value", type := (.array .byte), accessFlags := 18, slot := 0, constantValue := 0 }, { name := "coder", type := .byte, accessFlags := 18, slot := 1, constantValue := 0 }, { name := "hash", type := .int, accessFlags := 2, slot := 2, constantValue := 0 }, { name := "hashIsZero", type := .boolean, accessFlags := 2, slot := 3, constantValue := 0 }, { name := "serialVersionUID", type := .long, accessFlags := 26, slot := 0, constantValue := 0 }, { name := "COMPACT_STRINGS", type := .boolean, accessFlags := 24, slot := 1, constantValue := 0 }, { name := "serialPersistentFields", type := (.array (.object "java/io/ObjectStreamField")), accessFlags := 26, slot := 2, constantValue := 0 }, { name := "REPL", type := .char, accessFlags := 26, slot := 3, constantValue := 0 }, { name := "CASE_INSENSITIVE_ORDER", type := (.object "java/util/Comparator"), accessFlags := 25, slot := 4, constantValue := 0 }, { name := "LATIN1", type := .byte, accessFlags := 24, slot := 5, constantValue := 0 }, { name := "UTF16", type := .byte, accessFlags := 24, slot := 6, constantValue := 0 }]
  methods := #[k7m0, k7m1, k7m2, k7m3, k7m4, k7m5, k7m6, k7m7]
  instanceTypes := #[(.array .byte), .byte, .int, .boolean]
  staticTypes := #[.long, .boolean, (.array (.object "java/io/ObjectStreamField")), .char, (.object "java/util/Comparator"), .byte, .byte]
  resolved := Array.replicate 1451 none
  statics := some 0 }

def pool8 : Array CpInfo := pool [(3, .class_ 4), (0, u "java/lang/String"), (1, .class_ 8), (1, u "java/lang/Object"), (0, u "<init>"), (0, u "()V"), (0, .methodref 12 13), (0, .class_ 14), (0, .nameAndType 15 16), (0, u "java/lang/StringUTF16"), (0, u "newBytesLength"), (0, u "(I)I"), (3, .integer 1073741823), (23, .fieldref 12 45), (0, .nameAndType 46 47), (0, u "$assertionsDisabled"), (0, u "Z"), (0, .methodref 12 49), (0, .nameAndType 50 51), (0, u "length"), (0, u "([B)I"), (7, .fieldref 12 60), (0, .nameAndType 61 62), (0, u "HI_BYTE_SHIFT"), (0, u "I"), (0, .fieldref 12 64), (0, .nameAndType 65 62), (0, u "LO_BYTE_SHIFT"), (1, .methodref 12 68), (0, .nameAndType 69 70), (0, u "checkIndex"), (0, u "(I[B)V"), (0, .methodref 12 72), (0, .nameAndType 73 74), (0, u "getChar"), (0, u "([BI)C"), (32, .methodref 12 108), (0, .nameAndType 109 110), (0, u "newBytesFor"), (0, u "(I)[B"), (0, .methodref 12 112), (0, .nameAndType 113 114), (0, u "putChar"), (0, u "([BII)V"), (0, .methodref 12 116), (0, .nameAndType 117 118), (0, u "compress"), (0, u "([CI[BII)I"), (0, .methodref 12 120), (0, .nameAndType 121 122), (0, u "toBytes"), (0, u "([CII)[B"), (138, u "coderFromArrayLen"), (0, u "([BI)B"), (106, .class_ 371), (1, u "java/lang/StringUTF16$LinesSpliterator"), (20, u "charAt"), (21, .methodref 3 415), (0, .nameAndType 69 416), (0, u "(II)V"), (13, u "MAX_LENGTH"), (196, .class_ 628), (0, u "java/lang/StringUTF16$CodePointsSpliterator"), (0, .class_ 630), (0, u "java/lang/StringUTF16$CharsSpliterator")] 4

def k8m0 : Method := { name := "<init>", desc := "()V", sig := { parameters := [], returnType := none }, accessFlags := 0, code := none }
def k8c1 : Code := { maxStack := 1, maxLocals := 1, code := jdk_52_method_2_code, exceptionTable := #[], attributes := #[] }
def k8m1 : Method := { name := "newBytesFor", desc := "(I)[B", sig := { parameters := [.int], returnType := some (.array .byte) }, accessFlags := 9, code := some k8c1 }
def k8c2 : Code := { maxStack := 4, maxLocals := 1, code := jdk_52_method_3_code, exceptionTable := #[], attributes := #[] }
def k8m2 : Method := { name := "newBytesLength", desc := "(I)I", sig := { parameters := [.int], returnType := some .int }, accessFlags := 9, code := some k8c2 }
def k8c3 : Code := { maxStack := 4, maxLocals := 3, code := jdk_52_method_4_code, exceptionTable := #[], attributes := #[] }
def k8m3 : Method := { name := "putChar", desc := "([BII)V", sig := { parameters := [(.array .byte), .int, .int], returnType := none }, accessFlags := 8, code := some k8c3 }
def k8c4 : Code := { maxStack := 3, maxLocals := 2, code := jdk_52_method_5_code, exceptionTable := #[], attributes := #[] }
def k8m4 : Method := { name := "getChar", desc := "([BI)C", sig := { parameters := [(.array .byte), .int], returnType := some .char }, accessFlags := 8, code := some k8c4 }
def k8c5 : Code := { maxStack := 2, maxLocals := 1, code := jdk_52_method_6_code, exceptionTable := #[], attributes := #[] }
def k8m5 : Method := { name := "length", desc := "([B)I", sig := { parameters := [(.array .byte)], returnType := some .int }, accessFlags := 9, code := some k8c5 }
def k8c6 : Code := { maxStack := 4, maxLocals := 5, code := jdk_52_method_14_code, exceptionTable := #[], attributes := #[] }
def k8m6 : Method := { name := "toBytes", desc := "([CII)[B", sig := { parameters := [(.array .char), .int, .int], returnType := some (.array .byte) }, accessFlags := 9, code := some k8c6 }
def k8c7 : Code := { maxStack := 2, maxLocals := 2, code := jdk_52_method_15_code, exceptionTable := #[], attributes := #[] }
def k8m7 : Method := { name := "coderFromArrayLen", desc := "([BI)B", sig := { parameters := [(.array .byte), .int], returnType := some .byte }, accessFlags := 8, code := some k8c7 }
def k8c8 : Code := { maxStack := 5, maxLocals := 6, code := jdk_52_method_16_code, exceptionTable := #[], attributes := #[] }
def k8m8 : Method := { name := "compress", desc := "([CII)[B", sig := { parameters := [(.array .char), .int, .int], returnType := some (.array .byte) }, accessFlags := 9, code := some k8c8 }
def k8c9 : Code := { maxStack := 3, maxLocals := 7, code := jdk_52_method_21_code, exceptionTable := #[], attributes := #[] }
def k8m9 : Method := { name := "compress", desc := "([CI[BII)I", sig := { parameters := [(.array .char), .int, (.array .byte), .int, .int], returnType := some .int }, accessFlags := 9, code := some k8c9 }
def k8c10 : Code := { maxStack := 2, maxLocals := 2, code := jdk_52_method_83_code, exceptionTable := #[], attributes := #[] }
def k8m10 : Method := { name := "charAt", desc := "([BI)C", sig := { parameters := [(.array .byte), .int], returnType := some .char }, accessFlags := 9, code := some k8c10 }
def k8c11 : Code := { maxStack := 2, maxLocals := 2, code := jdk_52_method_91_code, exceptionTable := #[], attributes := #[] }
def k8m11 : Method := { name := "checkIndex", desc := "(I[B)V", sig := { parameters := [.int, (.array .byte)], returnType := none }, accessFlags := 9, code := some k8c11 }
/-- java/lang/StringUTF16 -/
def k8 : Class := { plain "java/lang/StringUTF16" (some 0) with
  accessFlags := 48
  interfaces := #[]
  cf := some (fileOf pool8 12 #[.nestMembers #[627, 629, 369]] #[{ accessFlags := 0, nameIndex := 9, descriptorIndex := 10, attributes := #[] }, { accessFlags := 9, nameIndex := 109, descriptorIndex := 110, attributes := #[] }, { accessFlags := 9, nameIndex := 15, descriptorIndex := 16, attributes := #[] }, { accessFlags := 8, nameIndex := 113, descriptorIndex := 114, attributes := #[] }, { accessFlags := 8, nameIndex := 73, descriptorIndex := 74, attributes := #[] }, { accessFlags := 9, nameIndex := 50, descriptorIndex := 51, attributes := #[] }, { accessFlags := 9, nameIndex := 121, descriptorIndex := 122, attributes := #[] }, { accessFlags := 8, nameIndex := 261, descriptorIndex := 262, attributes := #[] }, { accessFlags := 9, nameIndex := 117, descriptorIndex := 122, attributes := #[] }, { accessFlags := 9, nameIndex := 117, descriptorIndex := 118, attributes := #[] }, { accessFlags := 9, nameIndex := 392, descriptorIndex := 74, attributes := #[] }, { accessFlags := 9, nameIndex := 69, descriptorIndex := 70, attributes := #[] }] 48 6 #[] #[{ accessFlags := 26, nameIndex := 61, descriptorIndex := 62, attributes := #[] }, { accessFlags := 26, nameIndex := 65, descriptorIndex := 62, attributes := #[] }, { accessFlags := 24, nameIndex := 430, descriptorIndex := 62, attributes := #[] }, { accessFlags := 4120, nameIndex := 46, descriptorIndex := 47, attributes := #[] }])
  fields := #[{ name := "HI_BYTE_SHIFT", type := .int, accessFlags := 26, slot := 0, constantValue := 0 }, { name := "LO_BYTE_SHIFT", type := .int, accessFlags := 26, slot := 1, constantValue := 0 }, { name := "MAX_LENGTH", type := .int, accessFlags := 24, slot := 2, constantValue := 0 }, { name := "$assertionsDisabled", type := .boolean, accessFlags := 4120, slot := 3, constantValue := 0 }]
  methods := #[k8m0, k8m1, k8m2, k8m3, k8m4, k8m5, k8m6, k8m7, k8m8, k8m9, k8m10, k8m11]
  instanceTypes := #[]
  staticTypes := #[.int, .int, .int, .boolean]
  resolved := Array.replicate 635 none
  statics := some 1 }

def pool9 : Array CpInfo := pool [(2, .class_ 4), (1, u "java/lang/Object"), (0, u "<init>"), (0, u "()V"), (0, .methodref 8 9), (0, .class_ 10), (0, .nameAndType 11 12), (0, u "java/lang/String"), (0, u "length"), (0, u "()I"), (0, .methodref 8 14), (0, .nameAndType 15 16), (0, u "charAt"), (0, u "(I)C"), (0, .methodref 18 19), (0, .class_ 20), (0, .nameAndType 21 22), (0, u "java/lang/Character"), (0, u "isHighSurrogate"), (0, u "(C)Z"), (0, .methodref 18 24), (0, .nameAndType 25 22), (0, u "isLowSurrogate"), (0, .methodref 18 27), (0, .nameAndType 28 22), (0, u "isSurrogate"), (1, .class_ 32), (1, u "com/example/provenara/provenara/model/CatalogText"), (0, u "isStorable"), (0, u "(Ljava/lang/String;)Z"), (10, u "MAX_NAME_BYTES"), (0, u "I")] 8

def k9m0 : Method := { name := "<init>", desc := "()V", sig := { parameters := [], returnType := none }, accessFlags := 2, code := none }
def k9c1 : Code := { maxStack := 3, maxLocals := 3, code := prog_6_method_2_code, exceptionTable := #[], attributes := #[] }
def k9m1 : Method := { name := "isStorable", desc := "(Ljava/lang/String;)Z", sig := { parameters := [(.object "java/lang/String")], returnType := some .boolean }, accessFlags := 9, code := some k9c1 }
/-- com/example/provenara/provenara/model/CatalogText -/
def k9 : Class := { plain "com/example/provenara/provenara/model/CatalogText" (some 0) with
  accessFlags := 49
  interfaces := #[]
  cf := some (fileOf pool9 30 #[] #[{ accessFlags := 2, nameIndex := 5, descriptorIndex := 6, attributes := #[] }, { accessFlags := 9, nameIndex := 33, descriptorIndex := 34, attributes := #[] }] 49 2 #[] #[{ accessFlags := 25, nameIndex := 45, descriptorIndex := 46, attributes := #[] }])
  fields := #[{ name := "MAX_NAME_BYTES", type := .int, accessFlags := 25, slot := 0, constantValue := 0 }]
  methods := #[k9m0, k9m1]
  instanceTypes := #[]
  staticTypes := #[.int]
  resolved := Array.replicate 55 none
  statics := none }

def pool10 : Array CpInfo := pool [(1, .class_ 2), (0, u "java/lang/String"), (1, .class_ 6), (1, u "java/lang/Object"), (0, u "<init>"), (0, u "()V"), (0, .methodref 1 10), (0, .nameAndType 11 12), (0, u "checkIndex"), (0, u "(II)V"), (1, .class_ 16), (1, u "java/lang/StringLatin1"), (36, u "([BI)C"), (67, u "$assertionsDisabled"), (0, u "Z"), (98, .class_ 223), (1, u "java/lang/StringLatin1$LinesSpliterator"), (28, u "charAt"), (137, .class_ 391), (0, u "java/lang/StringLatin1$CharsSpliterator")] 3

def k10m0 : Method := { name := "<init>", desc := "()V", sig := { parameters := [], returnType := none }, accessFlags := 0, code := none }
def k10c1 : Code := { maxStack := 2, maxLocals := 2, code := jdk_43_method_2_code, exceptionTable := #[], attributes := #[] }
def k10m1 : Method := { name := "charAt", desc := "([BI)C", sig := { parameters := [(.array .byte), .int], returnType := some .char }, accessFlags := 9, code := some k10c1 }
/-- java/lang/StringLatin1 -/
def k10 : Class := { plain "java/lang/StringLatin1" (some 0) with
  accessFlags := 48
  interfaces := #[]
  cf := some (fileOf pool10 14 #[.nestMembers #[390, 221]] #[{ accessFlags := 0, nameIndex := 7, descriptorIndex := 8, attributes := #[] }, { accessFlags := 9, nameIndex := 252, descriptorIndex := 53, attributes := #[] }] 48 4 #[] #[{ accessFlags := 4120, nameIndex := 121, descriptorIndex := 122, attributes := #[] }])
  fields := #[{ name := "$assertionsDisabled", type := .boolean, accessFlags := 4120, slot := 0, constantValue := 0 }]
  methods := #[k10m0, k10m1]
  instanceTypes := #[]
  staticTypes := #[.boolean]
  resolved := Array.replicate 395 none
  statics := none }

def pool11 : Array CpInfo := pool [(2, .class_ 4), (1, u "java/lang/Object"), (0, u "<init>"), (0, u "()V"), (17, .class_ 26), (1, u "jdk/internal/util/Preconditions"), (6, u "checkIndex"), (21, .class_ 56), (0, u "jdk/internal/util/Preconditions$4"), (57, .class_ 115), (0, u "jdk/internal/util/Preconditions$1"), (7, u "SIOOBE_FORMATTER"), (0, u "Ljava/util/function/BiFunction;"), (0, .class_ 126), (0, u "jdk/internal/util/Preconditions$2"), (3, u "AIOOBE_FORMATTER"), (0, .class_ 132), (0, u "jdk/internal/util/Preconditions$3"), (3, u "IOOBE_FORMATTER"), (41, u "(IILjava/util/function/BiFunction;)I")] 15

def k11m0 : Method := { name := "<init>", desc := "()V", sig := { parameters := [], returnType := none }, accessFlags := 1, code := none }
def k11c1 : Code := { maxStack := 3, maxLocals := 3, code := jdk_41_method_11_code, exceptionTable := #[], attributes := #[] }
def k11m1 : Method := { name := "checkIndex", desc := "(IILjava/util/function/BiFunction;)I", sig := { parameters := [.int, .int, (.object "java/util/function/BiFunction")], returnType := some .int }, accessFlags := 9, code := some k11c1 }
/-- jdk/internal/util/Preconditions -/
def k11 : Class := { plain "jdk/internal/util/Preconditions" (some 0) with
  accessFlags := 33
  interfaces := #[]
  cf := some (fileOf pool11 24 #[.nestMembers #[55, 131, 125, 114]] #[{ accessFlags := 1, nameIndex := 5, descriptorIndex := 6, attributes := #[] }, { accessFlags := 9, nameIndex := 33, descriptorIndex := 178, attributes := #[] }] 33 2 #[] #[{ accessFlags := 25, nameIndex := 123, descriptorIndex := 124, attributes := #[] }, { accessFlags := 25, nameIndex := 130, descriptorIndex := 124, attributes := #[] }, { accessFlags := 25, nameIndex := 136, descriptorIndex := 124, attributes := #[] }])
  fields := #[{ name := "SIOOBE_FORMATTER", type := (.object "java/util/function/BiFunction"), accessFlags := 25, slot := 0, constantValue := 0 }, { name := "AIOOBE_FORMATTER", type := (.object "java/util/function/BiFunction"), accessFlags := 25, slot := 1, constantValue := 0 }, { name := "IOOBE_FORMATTER", type := (.object "java/util/function/BiFunction"), accessFlags := 25, slot := 2, constantValue := 0 }]
  methods := #[k11m0, k11m1]
  instanceTypes := #[]
  staticTypes := #[(.object "java/util/function/BiFunction"), (.object "java/util/function/BiFunction"), (.object "java/util/function/BiFunction")]
  resolved := Array.replicate 194 none
  statics := some 2 }

def pool12 : Array CpInfo := pool [(1, .class_ 2), (0, u "java/lang/Character"), (18, u "value"), (0, u "C"), (19, .class_ 44), (1, u "java/lang/Object"), (3, .class_ 50), (1, u "java/lang/Character$CharacterCache"), (24, .integer 55296), (0, .integer 56320), (0, .integer 57344), (2, u "isHighSurrogate"), (0, u "(C)Z"), (2, u "isLowSurrogate"), (199, u "$assertionsDisabled"), (0, u "Z"), (21, .class_ 309), (1, u "java/lang/Character$UnicodeBlock"), (73, u "TYPE"), (0, u "Ljava/lang/Class;"), (0, .class_ 386), (0, u "java/io/Serializable"), (0, .class_ 388), (0, u "java/lang/Comparable"), (0, .class_ 390), (0, u "java/lang/constant/Constable"), (0, u "MIN_RADIX"), (0, u "I"), (2, u "MAX_RADIX"), (1, u "MIN_VALUE"), (1, u "MAX_VALUE"), (3, u "UNASSIGNED"), (0, u "B"), (0, u "UPPERCASE_LETTER"), (1, u "LOWERCASE_LETTER"), (0, u "TITLECASE_LETTER"), (1, u "MODIFIER_LETTER"), (1, u "OTHER_LETTER"), (1, u "NON_SPACING_MARK"), (1, u "ENCLOSING_MARK"), (1, u "COMBINING_SPACING_MARK"), (1, u "DECIMAL_DIGIT_NUMBER"), (1, u "LETTER_NUMBER"), (1, u "OTHER_NUMBER"), (1, u "SPACE_SEPARATOR"), (1, u "LINE_SEPARATOR"), (1, u "PARAGRAPH_SEPARATOR"), (1, u "CONTROL"), (1, u "FORMAT"), (1, u "PRIVATE_USE"), (1, u "SURROGATE"), (1, u "DASH_PUNCTUATION"), (1, u "START_PUNCTUATION"), (1, u "END_PUNCTUATION"), (1, u "CONNECTOR_PUNCTUATION"), (1, u "OTHER_PUNCTUATION"), (1, u "MATH_SYMBOL"), (1, u "CURRENCY_SYMBOL"), (1, u "MODIFIER_SYMBOL"), (1, u "OTHER_SYMBOL"), (1, u "INITIAL_QUOTE_PUNCTUATION"), (1, u "FINAL_QUOTE_PUNCTUATION"), (1, u "ERROR"), (1, u "DIRECTIONALITY_UNDEFINED"), (0, u "DIRECTIONALITY_LEFT_TO_RIGHT"), (0, u "DIRECTIONALITY_RIGHT_TO_LEFT"), (0, u "DIRECTIONALITY_RIGHT_TO_LEFT_ARABIC"), (0, u "DIRECTIONALITY_EUROPEAN_NUMBER"), (0, u "DIRECTIONALITY_EUROPEAN_NUMBER_SEPARATOR"), (0, u "DIRECTIONALITY_EUROPEAN_NUMBER_TERMINATOR"), (0, u "DIRECTIONALITY_ARABIC_NUMBER"), (0, u "DIRECTIONALITY_COMMON_NUMBER_SEPARATOR"), (0, u "DIRECTIONALITY_NONSPACING_MARK"), (0, u "DIRECTIONALITY_BOUNDARY_NEUTRAL"), (0, u "DIRECTIONALITY_PARAGRAPH_SEPARATOR"), (0, u "DIRECTIONALITY_SEGMENT_SEPARATOR"), (0, u "DIRECTIONALITY_WHITESPACE"), (0, u "DIRECTIONALITY_OTHER_NEUTRALS"), (0, u "DIRECTIONALITY_LEFT_TO_RIGHT_EMBEDDING"), (0, u "DIRECTIONALITY_LEFT_TO_RIGHT_OVERRIDE"), (0, u "DIRECTIONALITY_RIGHT_TO_LEFT_EMBEDDING"), (0, u "DIRECTIONALITY_RIGHT_TO_LEFT_OVERRIDE"), (1, u "DIRECTIONALITY_POP_DIRECTIONAL_FORMAT"), (0, u "DIRECTIONALITY_LEFT_TO_RIGHT_ISOLATE"), (0, u "DIRECTIONALITY_RIGHT_TO_LEFT_ISOLATE"), (0, u "DIRECTIONALITY_FIRST_STRONG_ISOLATE"), (0, u "DIRECTIONALITY_POP_DIRECTIONAL_ISOLATE"), (0, u "MIN_HIGH_SURROGATE"), (0, u "MAX_HIGH_SURROGATE"), (1, u "MIN_LOW_SURROGATE"), (0, u "MAX_LOW_SURROGATE"), (1, u "MIN_SURROGATE"), (0, u "MAX_SURROGATE"), (0, u "MIN_SUPPLEMENTARY_CODE_POINT"), (0, u "MIN_CODE_POINT"), (0, u "MAX_CODE_POINT"), (1, u "serialVersionUID"), (0, u "J"), (2, u "SIZE"), (0, u "BYTES"), (24, u "isSurrogate"), (63, .class_ 596), (0, u "java/lang/Character$UnicodeScript"), (0, .class_ 598), (0, u "java/lang/Character$Subset")] 5

def k12c0 : Code := { maxStack := 2, maxLocals := 1, code := jdk_89_method_14_code, exceptionTable := #[], attributes := #[] }
def k12m0 : Method := { name := "isHighSurrogate", desc := "(C)Z", sig := { parameters := [.char], returnType := some .boolean }, accessFlags := 9, code := some k12c0 }
def k12c1 : Code := { maxStack := 2, maxLocals := 1, code := jdk_89_method_15_code, exceptionTable := #[], attributes := #[] }
def k12m1 : Method := { name := "isLowSurrogate", desc := "(C)Z", sig := { parameters := [.char], returnType := some .boolean }, accessFlags := 9, code := some k12c1 }
def k12c2 : Code := { maxStack := 2, maxLocals := 1, code := jdk_89_method_16_code, exceptionTable := #[], attributes := #[] }
def k12m2 : Method := { name := "isSurrogate", desc := "(C)Z", sig := { parameters := [.char], returnType := some .boolean }, accessFlags := 9, code := some k12c2 }
/-- java/lang/Character -/
def k12 : Class := { plain "java/lang/Character" (some 0) with
  accessFlags := 49
  interfaces := #[2, 3, 5]
  cf := some (fileOf pool12 1 #[.nestMembers #[48, 595, 307, 597]] #[{ accessFlags := 9, nameIndex := 80, descriptorIndex := 81, attributes := #[] }, { accessFlags := 9, nameIndex := 84, descriptorIndex := 81, attributes := #[] }, { accessFlags := 9, nameIndex := 531, descriptorIndex := 81, attributes := #[] }] 49 42 #[385, 387, 389] #[{ accessFlags := 25, nameIndex := 391, descriptorIndex := 392, attributes := #[] }, { accessFlags := 25, nameIndex := 395, descriptorIndex := 392, attributes := #[] }, { accessFlags := 25, nameIndex := 397, descriptorIndex := 22, attributes := #[] }, { accessFlags := 25, nameIndex := 399, descriptorIndex := 22, attributes := #[] }, { accessFlags := 25, nameIndex := 383, descriptorIndex := 384, attributes := #[] }, { accessFlags := 25, nameIndex := 403, descriptorIndex := 404, attributes := #[] }, { accessFlags := 25, nameIndex := 405, descriptorIndex := 404, attributes := #[] }, { accessFlags := 25, nameIndex := 407, descriptorIndex := 404, attributes := #[] }, { accessFlags := 25, nameIndex := 408, descriptorIndex := 404, attributes := #[] }, { accessFlags := 25, nameIndex := 410, descriptorIndex := 404, attributes := #[] }, { accessFlags := 25, nameIndex := 412, descriptorIndex := 404, attributes := #[] }, { accessFlags := 25, nameIndex := 414, descriptorIndex := 404, attributes := #[] }, { accessFlags := 25, nameIndex := 416, descriptorIndex := 404, attributes := #[] }, { accessFlags := 25, nameIndex := 418, descriptorIndex := 404, attributes := #[] }, { accessFlags := 25, nameIndex := 420, descriptorIndex := 404, attributes := #[] }, { accessFlags := 25, nameIndex := 422, descriptorIndex := 404, attributes := #[] }, { accessFlags := 25, nameIndex := 424, descriptorIndex := 404, attributes := #[] }, { accessFlags := 25, nameIndex := 426, descriptorIndex := 404, attributes := #[] }, { accessFlags := 25, nameIndex := 428, descriptorIndex := 404, attributes := #[] }, { accessFlags := 25, nameIndex := 430, descriptorIndex := 404, attributes := #[] }, { accessFlags := 25, nameIndex := 432, descriptorIndex := 404, attributes := #[] }, { accessFlags := 25, nameIndex := 434, descriptorIndex := 404, attributes := #[] }, { accessFlags := 25, nameIndex := 436, descriptorIndex := 404, attributes := #[] }, { accessFlags := 25, nameIndex := 438, descriptorIndex := 404, attributes := #[] }, { accessFlags := 25, nameIndex := 440, descriptorIndex := 404, attributes := #[] }, { accessFlags := 25, nameIndex := 442, descriptorIndex := 404, attributes := #[] }, { accessFlags := 25, nameIndex := 444, descriptorIndex := 404, attributes := #[] }, { accessFlags := 25, nameIndex := 446, descriptorIndex := 404, attributes := #[] }, { accessFlags := 25, nameIndex := 448, descriptorIndex := 404, attributes := #[] }, { accessFlags := 25, nameIndex := 450, descriptorIndex := 404, attributes := #[] }, { accessFlags := 25, nameIndex := 452, descriptorIndex := 404, attributes := #[] }, { accessFlags := 25, nameIndex := 454, descriptorIndex := 404, attributes := #[] }, { accessFlags := 25, nameIndex := 456, descriptorIndex := 404, attributes := #[] }, { accessFlags := 25, nameIndex := 458, descriptorIndex := 404, attributes := #[] }, { accessFlags := 25, nameIndex := 460, descriptorIndex := 404, attributes := #[] }, { accessFlags := 24, nameIndex := 462, descriptorIndex := 392, attributes := #[] }, { accessFlags := 25, nameIndex := 464, descriptorIndex := 404, attributes := #[] }, { accessFlags := 25, nameIndex := 465, descriptorIndex := 404, attributes := #[] }, { accessFlags := 25, nameIndex := 466, descriptorIndex := 404, attributes := #[] }, { accessFlags := 25, nameIndex := 467, descriptorIndex := 404, attributes := #[] }, { accessFlags := 25, nameIndex := 468, descriptorIndex := 404, attributes := #[] }, { accessFlags := 25, nameIndex := 469, descriptorIndex := 404, attributes := #[] }, { accessFlags := 25, nameIndex := 470, descriptorIndex := 404, attributes := #[] }, { accessFlags := 25, nameIndex := 471, descriptorIndex := 404, attributes := #[] }, { accessFlags := 25, nameIndex := 472, descriptorIndex := 404, attributes := #[] }, { accessFlags := 25, nameIndex := 473, descriptorIndex := 404, attributes := #[] }, { accessFlags := 25, nameIndex := 474, descriptorIndex := 404, attributes := #[] }, { accessFlags := 25, nameIndex := 475, descriptorIndex := 404, attributes := #[] }, { accessFlags := 25, nameIndex := 476, descriptorIndex := 404, attributes := #[] }, { accessFlags := 25, nameIndex := 477, descriptorIndex := 404, attributes := #[] }, { accessFlags := 25, nameIndex := 478, descriptorIndex := 404, attributes := #[] }, { accessFlags := 25, nameIndex := 479, descriptorIndex := 404, attributes := #[] }, { accessFlags := 25, nameIndex := 480, descriptorIndex := 404, attributes := #[] }, { accessFlags := 25, nameIndex := 481, descriptorIndex := 404, attributes := #[] }, { accessFlags := 25, nameIndex := 482, descriptorIndex := 404, attributes := #[] }, { accessFlags := 25, nameIndex := 484, descriptorIndex := 404, attributes := #[] }, { accessFlags := 25, nameIndex := 485, descriptorIndex := 404, attributes := #[] }, { accessFlags := 25, nameIndex := 486, descriptorIndex := 404, attributes := #[] }, { accessFlags := 25, nameIndex := 487, descriptorIndex := 404, attributes := #[] }, { accessFlags := 25, nameIndex := 488, descriptorIndex := 404, attributes := #[] }, { accessFlags := 25, nameIndex := 489, descriptorIndex := 22, attributes := #[] }, { accessFlags := 25, nameIndex := 490, descriptorIndex := 22, attributes := #[] }, { accessFlags := 25, nameIndex := 492, descriptorIndex := 22, attributes := #[] }, { accessFlags := 25, nameIndex := 493, descriptorIndex := 22, attributes := #[] }, { accessFlags := 25, nameIndex := 495, descriptorIndex := 22, attributes := #[] }, { accessFlags := 25, nameIndex := 496, descriptorIndex := 22, attributes := #[] }, { accessFlags := 25, nameIndex := 497, descriptorIndex := 392, attributes := #[] }, { accessFlags := 25, nameIndex := 498, descriptorIndex := 392, attributes := #[] }, { accessFlags := 25, nameIndex := 499, descriptorIndex := 392, attributes := #[] }, { accessFlags := 18, nameIndex := 21, descriptorIndex := 22, attributes := #[] }, { accessFlags := 26, nameIndex := 501, descriptorIndex := 502, attributes := #[] }, { accessFlags := 25, nameIndex := 505, descriptorIndex := 392, attributes := #[] }, { accessFlags := 25, nameIndex := 506, descriptorIndex := 392, attributes := #[] }, { accessFlags := 4120, nameIndex := 284, descriptorIndex := 285, attributes := #[] }])
  fields := #[{ name := "MIN_RADIX", type := .int, accessFlags := 25, slot := 0, constantValue := 0 }, { name := "MAX_RADIX", type := .int, accessFlags := 25, slot := 1, constantValue := 0 }, { name := "MIN_VALUE", type := .char, accessFlags := 25, slot := 2, constantValue := 0 }, { name := "MAX_VALUE", type := .char, accessFlags := 25, slot := 3, constantValue := 0 }, { name := "TYPE", type := (.object "java/lang/Class"), accessFlags := 25, slot := 4, constantValue := 0 }, { name := "UNASSIGNED", type := .byte, accessFlags := 25, slot := 5, constantValue := 0 }, { name := "UPPERCASE_LETTER", type := .byte, accessFlags := 25, slot := 6, constantValue := 0 }, { name := "LOWERCASE_LETTER", type := .byte, accessFlags := 25, slot := 7, constantValue := 0 }, { name := "TITLECASE_LETTER", type := .byte, accessFlags := 25, slot := 8, constantValue := 0 }, { name := "MODIFIER_LETTER", type := .byte, accessFlags := 25, slot := 9, constantValue := 0 }, { name := "OTHER_LETTER", type := .byte, accessFlags := 25, slot := 10, constantValue := 0 }, { name := "NON_SPACING_MARK", type := .byte, accessFlags := 25, slot := 11, constantValue := 0 }, { name := "ENCLOSING_MARK", type := .byte, accessFlags := 25, slot := 12, constantValue := 0 }, { name := "COMBINING_SPACING_MARK", type := .byte, accessFlags := 25, slot := 13, constantValue := 0 }, { name := "DECIMAL_DIGIT_NUMBER", type := .byte, accessFlags := 25, slot := 14, constantValue := 0 }, { name := "LETTER_NUMBER", type := .byte, accessFlags := 25, slot := 15, constantValue := 0 }, { name := "OTHER_NUMBER", type := .byte, accessFlags := 25, slot := 16, constantValue := 0 }, { name := "SPACE_SEPARATOR", type := .byte, accessFlags := 25, slot := 17, constantValue := 0 }, { name := "LINE_SEPARATOR", type := .byte, accessFlags := 25, slot := 18, constantValue := 0 }, { name := "PARAGRAPH_SEPARATOR", type := .byte, accessFlags := 25, slot := 19, constantValue := 0 }, { name := "CONTROL", type := .byte, accessFlags := 25, slot := 20, constantValue := 0 }, { name := "FORMAT", type := .byte, accessFlags := 25, slot := 21, constantValue := 0 }, { name := "PRIVATE_USE", type := .byte, accessFlags := 25, slot := 22, constantValue := 0 }, { name := "SURROGATE", type := .byte, accessFlags := 25, slot := 23, constantValue := 0 }, { name := "DASH_PUNCTUATION", type := .byte, accessFlags := 25, slot := 24, constantValue := 0 }, { name := "START_PUNCTUATION", type := .byte, accessFlags := 25, slot := 25, constantValue := 0 }, { name := "END_PUNCTUATION", type := .byte, accessFlags := 25, slot := 26, constantValue := 0 }, { name := "CONNECTOR_PUNCTUATION", type := .byte, accessFlags := 25, slot := 27, constantValue := 0 }, { name := "OTHER_PUNCTUATION", type := .byte, accessFlags := 25, slot := 28, constantValue := 0 }, { name := "MATH_SYMBOL", type := .byte, accessFlags := 25, slot := 29, constantValue := 0 }, { name := "CURRENCY_SYMBOL", type := .byte, accessFlags := 25, slot := 30, constantValue := 0 }, { name := "MODIFIER_SYMBOL", type := .byte, accessFlags := 25, slot := 31, constantValue := 0 }, { name := "OTHER_SYMBOL", type := .byte, accessFlags := 25, slot := 32, constantValue := 0 }, { name := "INITIAL_QUOTE_PUNCTUATION", type := .byte, accessFlags := 25, slot := 33, constantValue := 0 }, { name := "FINAL_QUOTE_PUNCTUATION", type := .byte, accessFlags := 25, slot := 34, constantValue := 0 }, { name := "ERROR", type := .int, accessFlags := 24, slot := 35, constantValue := 0 }, { name := "DIRECTIONALITY_UNDEFINED", type := .byte, accessFlags := 25, slot := 36, constantValue := 0 }, { name := "DIRECTIONALITY_LEFT_TO_RIGHT", type := .byte, accessFlags := 25, slot := 37, constantValue := 0 }, { name := "DIRECTIONALITY_RIGHT_TO_LEFT", type := .byte, accessFlags := 25, slot := 38, constantValue := 0 }, { name := "DIRECTIONALITY_RIGHT_TO_LEFT_ARABIC", type := .byte, accessFlags := 25, slot := 39, constantValue := 0 }, { name := "DIRECTIONALITY_EUROPEAN_NUMBER", type := .byte, accessFlags := 25, slot := 40, constantValue := 0 }, { name := "DIRECTIONALITY_EUROPEAN_NUMBER_SEPARATOR", type := .byte, accessFlags := 25, slot := 41, constantValue := 0 }, { name := "DIRECTIONALITY_EUROPEAN_NUMBER_TERMINATOR", type := .byte, accessFlags := 25, slot := 42, constantValue := 0 }, { name := "DIRECTIONALITY_ARABIC_NUMBER", type := .byte, accessFlags := 25, slot := 43, constantValue := 0 }, { name := "DIRECTIONALITY_COMMON_NUMBER_SEPARATOR", type := .byte, accessFlags := 25, slot := 44, constantValue := 0 }, { name := "DIRECTIONALITY_NONSPACING_MARK", type := .byte, accessFlags := 25, slot := 45, constantValue := 0 }, { name := "DIRECTIONALITY_BOUNDARY_NEUTRAL", type := .byte, accessFlags := 25, slot := 46, constantValue := 0 }, { name := "DIRECTIONALITY_PARAGRAPH_SEPARATOR", type := .byte, accessFlags := 25, slot := 47, constantValue := 0 }, { name := "DIRECTIONALITY_SEGMENT_SEPARATOR", type := .byte, accessFlags := 25, slot := 48, constantValue := 0 }, { name := "DIRECTIONALITY_WHITESPACE", type := .byte, accessFlags := 25, slot := 49, constantValue := 0 }, { name := "DIRECTIONALITY_OTHER_NEUTRALS", type := .byte, accessFlags := 25, slot := 50, constantValue := 0 }, { name := "DIRECTIONALITY_LEFT_TO_RIGHT_EMBEDDING", type := .byte, accessFlags := 25, slot := 51, constantValue := 0 }, { name := "DIRECTIONALITY_LEFT_TO_RIGHT_OVERRIDE", type := .byte, accessFlags := 25, slot := 52, constantValue := 0 }, { name := "DIRECTIONALITY_RIGHT_TO_LEFT_EMBEDDING", type := .byte, accessFlags := 25, slot := 53, constantValue := 0 }, { name := "DIRECTIONALITY_RIGHT_TO_LEFT_OVERRIDE", type := .byte, accessFlags := 25, slot := 54, constantValue := 0 }, { name := "DIRECTIONALITY_POP_DIRECTIONAL_FORMAT", type := .byte, accessFlags := 25, slot := 55, constantValue := 0 }, { name := "DIRECTIONALITY_LEFT_TO_RIGHT_ISOLATE", type := .byte, accessFlags := 25, slot := 56, constantValue := 0 }, { name := "DIRECTIONALITY_RIGHT_TO_LEFT_ISOLATE", type := .byte, accessFlags := 25, slot := 57, constantValue := 0 }, { name := "DIRECTIONALITY_FIRST_STRONG_ISOLATE", type := .byte, accessFlags := 25, slot := 58, constantValue := 0 }, { name := "DIRECTIONALITY_POP_DIRECTIONAL_ISOLATE", type := .byte, accessFlags := 25, slot := 59, constantValue := 0 }, { name := "MIN_HIGH_SURROGATE", type := .char, accessFlags := 25, slot := 60, constantValue := 0 }, { name := "MAX_HIGH_SURROGATE", type := .char, accessFlags := 25, slot := 61, constantValue := 0 }, { name := "MIN_LOW_SURROGATE", type := .char, accessFlags := 25, slot := 62, constantValue := 0 }, { name := "MAX_LOW_SURROGATE", type := .char, accessFlags := 25, slot := 63, constantValue := 0 }, { name := "MIN_SURROGATE", type := .char, accessFlags := 25, slot := 64, constantValue := 0 }, { name := "MAX_SURROGATE", type := .char, accessFlags := 25, slot := 65, constantValue := 0 }, { name := "MIN_SUPPLEMENTARY_CODE_POINT", type := .int, accessFlags := 25, slot := 66, constantValue := 0 }, { name := "MIN_CODE_POINT", type := .int, accessFlags := 25, slot := 67, constantValue := 0 }, { name := "MAX_CODE_POINT", type := .int, accessFlags := 25, slot := 68, constantValue := 0 }, { name := "value", type := .char, accessFlags := 18, slot := 0, constantValue := 0 }, { name := "serialVersionUID", type := .long, accessFlags := 26, slot := 69, constantValue := 0 }, { name := "SIZE", type := .int, accessFlags := 25, slot := 70, constantValue := 0 }, { name := "BYTES", type := .int, accessFlags := 25, slot := 71, constantValue := 0 }, { name := "$assertionsDisabled", type := .boolean, accessFlags := 4120, slot := 72, constantValue := 0 }]
  methods := #[k12m0, k12m1, k12m2]
  instanceTypes := #[.char]
  staticTypes := #[.int, .int, .char, .char, (.object "java/lang/Class"), .byte, .byte, .byte, .byte, .byte, .byte, .byte, .byte, .byte, .byte, .byte, .byte, .byte, .byte, .byte, .byte, .byte, .byte, .byte, .byte, .byte, .byte, .byte, .byte, .byte, .byte, .byte, .byte, .byte, .byte, .int, .byte, .byte, .byte, .byte, .byte, .byte, .byte, .byte, .byte, .byte, .byte, .byte, .byte, .byte, .byte, .byte, .byte, .byte, .byte, .byte, .byte, .byte, .byte, .byte, .char, .char, .char, .char, .char, .char, .int, .int, .int, .long, .int, .int, .boolean]
  resolved := Array.replicate 604 none
  statics := none }

def pool13 : Array CpInfo := pool [(9, u "<init>"), (6, .class_ 18), (1, u "java/lang/Object"), (0, u "()V"), (1, .class_ 23), (1, u "jdk/internal/util/ArraysSupport"), (0, u "LOG2_ARRAY_LONG_INDEX_SCALE"), (0, u "I"), (2, u "U"), (0, u "Ljdk/internal/misc/Unsafe;"), (8, u "BIG_ENDIAN"), (0, u "Z"), (8, u "LOG2_BYTE_BIT_SIZE"), (4, u "LOG2_ARRAY_INT_INDEX_SCALE"), (54, u "JLA"), (0, u "Ljdk/internal/access/JavaLangAccess;"), (11, u "LOG2_ARRAY_BOOLEAN_INDEX_SCALE"), (9, u "LOG2_ARRAY_BYTE_INDEX_SCALE"), (5, u "LOG2_ARRAY_CHAR_INDEX_SCALE"), (5, u "LOG2_ARRAY_SHORT_INDEX_SCALE"), (18, u "LOG2_ARRAY_FLOAT_INDEX_SCALE"), (24, u "LOG2_ARRAY_DOUBLE_INDEX_SCALE"), (89, u "T_BOOLEAN"), (2, u "T_CHAR"), (1, u "T_FLOAT"), (1, u "T_DOUBLE"), (1, u "T_BYTE"), (1, u "T_SHORT"), (1, u "T_INT"), (1, u "T_LONG"), (1, u "SOFT_MAX_ARRAY_LENGTH")] 83

def k13m0 : Method := { name := "<init>", desc := "()V", sig := { parameters := [], returnType := none }, accessFlags := 2, code := none }
/-- jdk/internal/util/ArraysSupport -/
def k13 : Class := { plain "jdk/internal/util/ArraysSupport" (some 0) with
  accessFlags := 33
  interfaces := #[]
  cf := some (fileOf pool13 21 #[] #[{ accessFlags := 2, nameIndex := 9, descriptorIndex := 19, attributes := #[] }] 33 16 #[] #[{ accessFlags := 24, nameIndex := 28, descriptorIndex := 29, attributes := #[] }, { accessFlags := 26, nameIndex := 38, descriptorIndex := 39, attributes := #[] }, { accessFlags := 25, nameIndex := 121, descriptorIndex := 25, attributes := #[] }, { accessFlags := 25, nameIndex := 131, descriptorIndex := 25, attributes := #[] }, { accessFlags := 25, nameIndex := 137, descriptorIndex := 25, attributes := #[] }, { accessFlags := 25, nameIndex := 143, descriptorIndex := 25, attributes := #[] }, { accessFlags := 25, nameIndex := 53, descriptorIndex := 25, attributes := #[] }, { accessFlags := 25, nameIndex := 24, descriptorIndex := 25, attributes := #[] }, { accessFlags := 25, nameIndex := 162, descriptorIndex := 25, attributes := #[] }, { accessFlags := 25, nameIndex := 187, descriptorIndex := 25, attributes := #[] }, { accessFlags := 26, nameIndex := 48, descriptorIndex := 25, attributes := #[] }, { accessFlags := 25, nameIndex := 277, descriptorIndex := 25, attributes := #[] }, { accessFlags := 25, nameIndex := 280, descriptorIndex := 25, attributes := #[] }, { accessFlags := 25, nameIndex := 282, descriptorIndex := 25, attributes := #[] }, { accessFlags := 25, nameIndex := 284, descriptorIndex := 25, attributes := #[] }, { accessFlags := 25, nameIndex := 286, descriptorIndex := 25, attributes := #[] }, { accessFlags := 25, nameIndex := 288, descriptorIndex := 25, attributes := #[] }, { accessFlags := 25, nameIndex := 290, descriptorIndex := 25, attributes := #[] }, { accessFlags := 25, nameIndex := 292, descriptorIndex := 25, attributes := #[] }, { accessFlags := 26, nameIndex := 108, descriptorIndex := 109, attributes := #[] }, { accessFlags := 25, nameIndex := 294, descriptorIndex := 25, attributes := #[] }])
  fields := #[{ name := "U", type := (.object "jdk/internal/misc/Unsafe"), accessFlags := 24, slot := 0, constantValue := 0 }, { name := "BIG_ENDIAN", type := .boolean, accessFlags := 26, slot := 1, constantValue := 0 }, { name := "LOG2_ARRAY_BOOLEAN_INDEX_SCALE", type := .int, accessFlags := 25, slot := 2, constantValue := 0 }, { name := "LOG2_ARRAY_BYTE_INDEX_SCALE", type := .int, accessFlags := 25, slot := 3, constantValue := 0 }, { name := "LOG2_ARRAY_CHAR_INDEX_SCALE", type := .int, accessFlags := 25, slot := 4, constantValue := 0 }, { name := "LOG2_ARRAY_SHORT_INDEX_SCALE", type := .int, accessFlags := 25, slot := 5, constantValue := 0 }, { name := "LOG2_ARRAY_INT_INDEX_SCALE", type := .int, accessFlags := 25, slot := 6, constantValue := 0 }, { name := "LOG2_ARRAY_LONG_INDEX_SCALE", type := .int, accessFlags := 25, slot := 7, constantValue := 0 }, { name := "LOG2_ARRAY_FLOAT_INDEX_SCALE", type := .int, accessFlags := 25, slot := 8, constantValue := 0 }, { name := "LOG2_ARRAY_DOUBLE_INDEX_SCALE", type := .int, accessFlags := 25, slot := 9, constantValue := 0 }, { name := "LOG2_BYTE_BIT_SIZE", type := .int, accessFlags := 26, slot := 10, constantValue := 0 }, { name := "T_BOOLEAN", type := .int, accessFlags := 25, slot := 11, constantValue := 0 }, { name := "T_CHAR", type := .int, accessFlags := 25, slot := 12, constantValue := 0 }, { name := "T_FLOAT", type := .int, accessFlags := 25, slot := 13, constantValue := 0 }, { name := "T_DOUBLE", type := .int, accessFlags := 25, slot := 14, constantValue := 0 }, { name := "T_BYTE", type := .int, accessFlags := 25, slot := 15, constantValue := 0 }, { name := "T_SHORT", type := .int, accessFlags := 25, slot := 16, constantValue := 0 }, { name := "T_INT", type := .int, accessFlags := 25, slot := 17, constantValue := 0 }, { name := "T_LONG", type := .int, accessFlags := 25, slot := 18, constantValue := 0 }, { name := "JLA", type := (.object "jdk/internal/access/JavaLangAccess"), accessFlags := 26, slot := 19, constantValue := 0 }, { name := "SOFT_MAX_ARRAY_LENGTH", type := .int, accessFlags := 25, slot := 20, constantValue := 0 }]
  methods := #[k13m0]
  instanceTypes := #[]
  staticTypes := #[(.object "jdk/internal/misc/Unsafe"), .boolean, .int, .int, .int, .int, .int, .int, .int, .int, .int, .int, .int, .int, .int, .int, .int, .int, .int, (.object "jdk/internal/access/JavaLangAccess"), .int]
  resolved := Array.replicate 378 none
  statics := none }

def pool14 : Array CpInfo := pool [(1, u "java/lang/Cloneable"), (0, .class_ 1), (0, u "java/lang/Object"), (0, .class_ 3)] 3

/-- java/lang/Cloneable -/
def k14 : Class := { plain "java/lang/Cloneable" (some 0) with
  accessFlags := 1537
  interfaces := #[]
  cf := some (fileOf pool14 2 #[] #[] 1537 4 #[] #[])
  fields := #[]
  methods := #[]
  instanceTypes := #[]
  staticTypes := #[]
  resolved := Array.replicate 8 none
  statics := none }

/-- the primitive byte -/
def k15 : Class := { plain "byte" none with kind := .primitive 'B', accessFlags := 0x411 }
/-- [B -/
def k16 : Class := { plain "[B" (some 0) with kind := .array 15 .byte, interfaces := #[14, 2], accessFlags := 1041 }

/-- the primitive char -/
def k17 : Class := { plain "char" none with kind := .primitive 'C', accessFlags := 0x411 }
/-- [C -/
def k18 : Class := { plain "[C" (some 0) with kind := .array 17 .char, interfaces := #[14, 2], accessFlags := 1041 }

/-- the primitive int -/
def k19 : Class := { plain "int" none with kind := .primitive 'I', accessFlags := 0x411 }
/-- [I -/
def k20 : Class := { plain "[I" (some 0) with kind := .array 19 .int, interfaces := #[14, 2], accessFlags := 1041 }

def heap : Heap := #[{ cls := 7, slots := #[.long 0, .int 1, .null, .int 0, .null, .int 0, .int 0], vm := .statics 7 },
  { cls := 8, slots := #[.int 0, .int 8, .int 0, .int 1], vm := .statics 8 },
  { cls := 11, slots := #[.null, .null, .null], vm := .statics 11 }]
def classes : Array Class := #[k0, k1, k2, k3, k4, k5, k6, k7, k8, k9, k10, k11, k12, k13, k14, k15, k16, k17, k18, k19, k20]
def interned : List (Array UInt16 × Addr) := []
def slotsUsed : Nat := 14
def theMethod : MethodId := ⟨1, 5⟩
def args0 : Array Value := #[.int 500, .int 5, .int 5, .int 2]
def aboutOver (below : List Frame) : State where
  vm := { classes := classes, interned := interned.toArray }
  heap := heap
  slotsUsed := slotsUsed
  threads := #[{ frames := .invoking theMethod args0 :: below }]
def below0 : List Frame := [.native { method := ⟨0, 0⟩, args := #[] }]
def about1 : State := aboutOver below0
def p0 : Program := .bare "" "" ""
def e0 : Env := launch0.env 0 0 0
theorem w_frames : about1.frames = Frame.invoking theMethod args0 :: below0 := rfl
set_option maxRecDepth 65536 in
theorem w_args : argsFit about1.vm theMethod args0 = true := by decide +kernel
set_option maxRecDepth 65536 in
theorem w_heap : heapFits about1 = true := by decide +kernel
set_option maxRecDepth 65536 in
theorem w_runnable : about1.curStatus? = some .runnable := by decide +kernel
set_option maxRecDepth 65536 in
theorem w_alone : about1.alone = true := by decide +kernel
set_option maxRecDepth 65536 in
theorem w_named : about1.methodNamed? x = some theMethod := by decide +kernel
set_option maxRecDepth 65536 in
theorem w_hears : about1.hears theMethod below0 = true := by decide +kernel
set_option maxRecDepth 65536 in
theorem w_ripe : about1.ripe theMethod args0 below0 = true := by decide +kernel
theorem w_running : about1.status = .running := rfl
set_option maxRecDepth 65536 in
theorem w_room : about1.hasRoom e0.platform room_1 = true :=
  launch0.hasRoom_least _ room_1 (by decide +kernel) (by decide +kernel) (by decide +kernel) (by decide +kernel) (by decide +kernel) (by decide +kernel)
theorem allAtoms_all (ts : List Jvm.Cond) (a : Array Jvm.Value) (st : Jvm.State) : (allAtoms ts).before a st = ts.all (fun c => c.before a st) := by
  induction ts with
  | nil => rfl
  | cons c t ih =>
    show (Jvm.Cond.and c (allAtoms t)).before a st = _
    rw [Jvm.Cond.before_and, ih, List.all_cons]
def words1 : List Jvm.Cond := Jvm.Cond.code x code maxLocals ret :: tables_1
/-- a 'code' word, met by the world's own term for the bytes: nothing is compared byte by byte -/
theorem code_word {y : MethodName} {bytes : ByteArray} {mx : Nat} {rt : Option FieldType} {a : Array Value} {s : State} {m : MethodId} {meth : Method} {c : Code} (h1 : s.methodNamed? y = some m) (h2 : s.vm.method? m = some meth) (h3 : meth.code = some c) (h4 : c.code = bytes)
    (h5 : (c.maxLocals == mx && c.exceptionTable.isEmpty && decide (c.maxStack ≤ mostOperands) && decide (meth.sig.returnType = rt) && !meth.locks && decide (parseMethodDescriptor y.desc = some meth.sig)) = true) : (Jvm.Cond.code y bytes mx rt).before a s = true := by
  simp only [Bool.and_eq_true, beq_iff_eq, Bool.not_eq_true', decide_eq_true_eq] at h5
  obtain ⟨⟨⟨⟨⟨g1, g2⟩, g3⟩, g4⟩, g5⟩, g6⟩ := h5
  simp [Cond.before, Cond.holds, Cond.value, h1, h2, h3, h4, g1, g2, g3, g4, g5, g6]
def isCode : Jvm.Cond → Bool
  | .code _ _ _ _ => true
  | _ => false
theorem all_split {L : List Jvm.Cond} {P : Jvm.Cond → Bool} (h1 : L.all (fun c => isCode c || P c) = true) (h2 : ∀ c ∈ L.filter isCode, P c = true) : L.all P = true := by
  refine List.all_eq_true.mpr fun c hc => ?_
  have h := List.all_eq_true.mp h1 c hc
  rcases Bool.eq_false_or_eq_true (isCode c) with hi | hi
  · exact h2 c (List.mem_filter.mpr ⟨hc, hi⟩)
  · simpa [hi] using h
set_option maxRecDepth 65536 in
theorem w_c0 : (Jvm.Cond.code x code maxLocals ret).before args0 about1 = true := code_word (m := ⟨1, 5⟩) (meth := k1m5) (c := k1c5) (by decide +kernel) rfl rfl rfl (by decide +kernel)
set_option maxRecDepth 65536 in
theorem w_c1 : (Jvm.Cond.code ({ cls := "com/example/provenara/provenara/model/CatalogTextIsStorablePinLaw", name := "draw", desc := "(I)C" } : Jvm.MethodName) method_2_code (3 : Nat) (Option.some Jvm.ClassFile.FieldType.char)).before args0 about1 = true := code_word (m := ⟨1, 1⟩) (meth := k1m1) (c := k1c1) (by decide +kernel) rfl rfl rfl (by decide +kernel)
set_option maxRecDepth 65536 in
theorem w_c2 : (Jvm.Cond.code ({ cls := "java/lang/String", name := "<init>", desc := "([C)V" } : Jvm.MethodName) jdk_42_method_3_code (2 : Nat) (Option.none : Option Jvm.ClassFile.FieldType)).before args0 about1 = true := code_word (m := ⟨7, 1⟩) (meth := k7m1) (c := k7c1) (by decide +kernel) rfl rfl rfl (by decide +kernel)
set_option maxRecDepth 65536 in
theorem w_c3 : (Jvm.Cond.code ({ cls := "java/lang/String", name := "<init>", desc := "([CIILjava/lang/Void;)V" } : Jvm.MethodName) jdk_42_method_149_code (6 : Nat) (Option.none : Option Jvm.ClassFile.FieldType)).before args0 about1 = true := code_word (m := ⟨7, 4⟩) (meth := k7m4) (c := k7c4) (by decide +kernel) rfl rfl rfl (by decide +kernel)
set_option maxRecDepth 65536 in
theorem w_c4 : (Jvm.Cond.code ({ cls := "java/lang/Object", name := "<init>", desc := "()V" } : Jvm.MethodName) object_method_1_code (1 : Nat) (Option.none : Option Jvm.ClassFile.FieldType)).before args0 about1 = true := code_word (m := ⟨0, 0⟩) (meth := k0m0) (c := k0c0) (by decide +kernel) rfl rfl rfl (by decide +kernel)
set_option maxRecDepth 65536 in
theorem w_c5 : (Jvm.Cond.code ({ cls := "java/lang/StringUTF16", name := "compress", desc := "([CII)[B" } : Jvm.MethodName) jdk_52_method_16_code (6 : Nat) (Option.some (Jvm.ClassFile.FieldType.array Jvm.ClassFile.FieldType.byte))).before args0 about1 = true := code_word (m := ⟨8, 8⟩) (meth := k8m8) (c := k8c8) (by decide +kernel) rfl rfl rfl (by decide +kernel)
set_option maxRecDepth 65536 in
theorem w_c6 : (Jvm.Cond.code ({ cls := "java/lang/StringUTF16", name := "compress", desc := "([CI[BII)I" } : Jvm.MethodName) jdk_52_method_21_code (7 : Nat) (Option.some Jvm.ClassFile.FieldType.int)).before args0 about1 = true := code_word (m := ⟨8, 9⟩) (meth := k8m9) (c := k8c9) (by decide +kernel) rfl rfl rfl (by decide +kernel)
set_option maxRecDepth 65536 in
theorem w_c7 : (Jvm.Cond.code ({ cls := "java/lang/StringUTF16", name := "coderFromArrayLen", desc := "([BI)B" } : Jvm.MethodName) jdk_52_method_15_code (2 : Nat) (Option.some Jvm.ClassFile.FieldType.byte)).before args0 about1 = true := code_word (m := ⟨8, 7⟩) (meth := k8m7) (c := k8c7) (by decide +kernel) rfl rfl rfl (by decide +kernel)
set_option maxRecDepth 65536 in
theorem w_c8 : (Jvm.Cond.code ({ cls := "com/example/provenara/provenara/model/CatalogTextIsStorablePinLaw", name := "good", desc := "(CZCZC)Z" } : Jvm.MethodName) method_5_code (5 : Nat) (Option.some Jvm.ClassFile.FieldType.boolean)).before args0 about1 = true := code_word (m := ⟨1, 4⟩) (meth := k1m4) (c := k1c4) (by decide +kernel) rfl rfl rfl (by decide +kernel)
set_option maxRecDepth 65536 in
theorem w_c9 : (Jvm.Cond.code ({ cls := "com/example/provenara/provenara/model/CatalogText", name := "isStorable", desc := "(Ljava/lang/String;)Z" } : Jvm.MethodName) prog_6_method_2_code (3 : Nat) (Option.some Jvm.ClassFile.FieldType.boolean)).before args0 about1 = true := code_word (m := ⟨9, 1⟩) (meth := k9m1) (c := k9c1) (by decide +kernel) rfl rfl rfl (by decide +kernel)
set_option maxRecDepth 65536 in
theorem w_c10 : (Jvm.Cond.code ({ cls := "java/lang/String", name := "length", desc := "()I" } : Jvm.MethodName) jdk_42_method_54_code (1 : Nat) (Option.some Jvm.ClassFile.FieldType.int)).before args0 about1 = true := code_word (m := ⟨7, 2⟩) (meth := k7m2) (c := k7c2) (by decide +kernel) rfl rfl rfl (by decide +kernel)
set_option maxRecDepth 65536 in
theorem w_c11 : (Jvm.Cond.code ({ cls := "java/lang/String", name := "coder", desc := "()B" } : Jvm.MethodName) jdk_42_method_152_code (1 : Nat) (Option.some Jvm.ClassFile.FieldType.byte)).before args0 about1 = true := code_word (m := ⟨7, 5⟩) (meth := k7m5) (c := k7c5) (by decide +kernel) rfl rfl rfl (by decide +kernel)
set_option maxRecDepth 65536 in
theorem w_c12 : (Jvm.Cond.code ({ cls := "java/lang/String", name := "charAt", desc := "(I)C" } : Jvm.MethodName) jdk_42_method_56_code (2 : Nat) (Option.some Jvm.ClassFile.FieldType.char)).before args0 about1 = true := code_word (m := ⟨7, 3⟩) (meth := k7m3) (c := k7c3) (by decide +kernel) rfl rfl rfl (by decide +kernel)
set_option maxRecDepth 65536 in
theorem w_c13 : (Jvm.Cond.code ({ cls := "java/lang/String", name := "isLatin1", desc := "()Z" } : Jvm.MethodName) jdk_42_method_154_code (1 : Nat) (Option.some Jvm.ClassFile.FieldType.boolean)).before args0 about1 = true := code_word (m := ⟨7, 6⟩) (meth := k7m6) (c := k7c6) (by decide +kernel) rfl rfl rfl (by decide +kernel)
set_option maxRecDepth 65536 in
theorem w_c14 : (Jvm.Cond.code ({ cls := "java/lang/StringLatin1", name := "charAt", desc := "([BI)C" } : Jvm.MethodName) jdk_43_method_2_code (2 : Nat) (Option.some Jvm.ClassFile.FieldType.char)).before args0 about1 = true := code_word (m := ⟨10, 1⟩) (meth := k10m1) (c := k10c1) (by decide +kernel) rfl rfl rfl (by decide +kernel)
set_option maxRecDepth 65536 in
theorem w_c15 : (Jvm.Cond.code ({ cls := "java/lang/String", name := "checkIndex", desc := "(II)V" } : Jvm.MethodName) jdk_42_method_155_code (2 : Nat) (Option.none : Option Jvm.ClassFile.FieldType)).before args0 about1 = true := code_word (m := ⟨7, 7⟩) (meth := k7m7) (c := k7c7) (by decide +kernel) rfl rfl rfl (by decide +kernel)
set_option maxRecDepth 65536 in
theorem w_c16 : (Jvm.Cond.code ({ cls := "jdk/internal/util/Preconditions", name := "checkIndex", desc := "(IILjava/util/function/BiFunction;)I" } : Jvm.MethodName) jdk_41_method_11_code (3 : Nat) (Option.some Jvm.ClassFile.FieldType.int)).before args0 about1 = true := code_word (m := ⟨11, 1⟩) (meth := k11m1) (c := k11c1) (by decide +kernel) rfl rfl rfl (by decide +kernel)
set_option maxRecDepth 65536 in
theorem w_c17 : (Jvm.Cond.code ({ cls := "com/example/provenara/provenara/model/CatalogTextIsStorablePinLaw", name := "isHi", desc := "(C)Z" } : Jvm.MethodName) method_3_code (1 : Nat) (Option.some Jvm.ClassFile.FieldType.boolean)).before args0 about1 = true := code_word (m := ⟨1, 2⟩) (meth := k1m2) (c := k1c2) (by decide +kernel) rfl rfl rfl (by decide +kernel)
set_option maxRecDepth 65536 in
theorem w_c18 : (Jvm.Cond.code ({ cls := "com/example/provenara/provenara/model/CatalogTextIsStorablePinLaw", name := "isLo", desc := "(C)Z" } : Jvm.MethodName) method_4_code (1 : Nat) (Option.some Jvm.ClassFile.FieldType.boolean)).before args0 about1 = true := code_word (m := ⟨1, 3⟩) (meth := k1m3) (c := k1c3) (by decide +kernel) rfl rfl rfl (by decide +kernel)
set_option maxRecDepth 65536 in
theorem w_c19 : (Jvm.Cond.code ({ cls := "java/lang/Character", name := "isHighSurrogate", desc := "(C)Z" } : Jvm.MethodName) jdk_89_method_14_code (1 : Nat) (Option.some Jvm.ClassFile.FieldType.boolean)).before args0 about1 = true := code_word (m := ⟨12, 0⟩) (meth := k12m0) (c := k12c0) (by decide +kernel) rfl rfl rfl (by decide +kernel)
set_option maxRecDepth 65536 in
theorem w_c20 : (Jvm.Cond.code ({ cls := "java/lang/Character", name := "isSurrogate", desc := "(C)Z" } : Jvm.MethodName) jdk_89_method_16_code (1 : Nat) (Option.some Jvm.ClassFile.FieldType.boolean)).before args0 about1 = true := code_word (m := ⟨12, 2⟩) (meth := k12m2) (c := k12c2) (by decide +kernel) rfl rfl rfl (by decide +kernel)
set_option maxRecDepth 65536 in
theorem w_c21 : (Jvm.Cond.code ({ cls := "java/lang/StringUTF16", name := "toBytes", desc := "([CII)[B" } : Jvm.MethodName) jdk_52_method_14_code (5 : Nat) (Option.some (Jvm.ClassFile.FieldType.array Jvm.ClassFile.FieldType.byte))).before args0 about1 = true := code_word (m := ⟨8, 6⟩) (meth := k8m6) (c := k8c6) (by decide +kernel) rfl rfl rfl (by decide +kernel)
set_option maxRecDepth 65536 in
theorem w_c22 : (Jvm.Cond.code ({ cls := "java/lang/StringUTF16", name := "newBytesFor", desc := "(I)[B" } : Jvm.MethodName) jdk_52_method_2_code (1 : Nat) (Option.some (Jvm.ClassFile.FieldType.array Jvm.ClassFile.FieldType.byte))).before args0 about1 = true := code_word (m := ⟨8, 1⟩) (meth := k8m1) (c := k8c1) (by decide +kernel) rfl rfl rfl (by decide +kernel)
set_option maxRecDepth 65536 in
theorem w_c23 : (Jvm.Cond.code ({ cls := "java/lang/StringUTF16", name := "newBytesLength", desc := "(I)I" } : Jvm.MethodName) jdk_52_method_3_code (1 : Nat) (Option.some Jvm.ClassFile.FieldType.int)).before args0 about1 = true := code_word (m := ⟨8, 2⟩) (meth := k8m2) (c := k8c2) (by decide +kernel) rfl rfl rfl (by decide +kernel)
set_option maxRecDepth 65536 in
theorem w_c24 : (Jvm.Cond.code ({ cls := "java/lang/StringUTF16", name := "putChar", desc := "([BII)V" } : Jvm.MethodName) jdk_52_method_4_code (3 : Nat) (Option.none : Option Jvm.ClassFile.FieldType)).before args0 about1 = true := code_word (m := ⟨8, 3⟩) (meth := k8m3) (c := k8c3) (by decide +kernel) rfl rfl rfl (by decide +kernel)
set_option maxRecDepth 65536 in
theorem w_c25 : (Jvm.Cond.code ({ cls := "java/lang/StringUTF16", name := "getChar", desc := "([BI)C" } : Jvm.MethodName) jdk_52_method_5_code (2 : Nat) (Option.some Jvm.ClassFile.FieldType.char)).before args0 about1 = true := code_word (m := ⟨8, 4⟩) (meth := k8m4) (c := k8c4) (by decide +kernel) rfl rfl rfl (by decide +kernel)
set_option maxRecDepth 65536 in
theorem w_c26 : (Jvm.Cond.code ({ cls := "java/lang/StringUTF16", name := "charAt", desc := "([BI)C" } : Jvm.MethodName) jdk_52_method_83_code (2 : Nat) (Option.some Jvm.ClassFile.FieldType.char)).before args0 about1 = true := code_word (m := ⟨8, 10⟩) (meth := k8m10) (c := k8c10) (by decide +kernel) rfl rfl rfl (by decide +kernel)
set_option maxRecDepth 65536 in
theorem w_c27 : (Jvm.Cond.code ({ cls := "java/lang/StringUTF16", name := "checkIndex", desc := "(I[B)V" } : Jvm.MethodName) jdk_52_method_91_code (2 : Nat) (Option.none : Option Jvm.ClassFile.FieldType)).before args0 about1 = true := code_word (m := ⟨8, 11⟩) (meth := k8m11) (c := k8c11) (by decide +kernel) rfl rfl rfl (by decide +kernel)
set_option maxRecDepth 65536 in
theorem w_c28 : (Jvm.Cond.code ({ cls := "java/lang/StringUTF16", name := "length", desc := "([B)I" } : Jvm.MethodName) jdk_52_method_6_code (1 : Nat) (Option.some Jvm.ClassFile.FieldType.int)).before args0 about1 = true := code_word (m := ⟨8, 5⟩) (meth := k8m5) (c := k8c5) (by decide +kernel) rfl rfl rfl (by decide +kernel)
set_option maxRecDepth 65536 in
theorem w_c29 : (Jvm.Cond.code ({ cls := "java/lang/Character", name := "isLowSurrogate", desc := "(C)Z" } : Jvm.MethodName) jdk_89_method_15_code (1 : Nat) (Option.some Jvm.ClassFile.FieldType.boolean)).before args0 about1 = true := code_word (m := ⟨12, 1⟩) (meth := k12m1) (c := k12c1) (by decide +kernel) rfl rfl rfl (by decide +kernel)
def codes1 : List Jvm.Cond := [Jvm.Cond.code x code maxLocals ret, Jvm.Cond.code ({ cls := "com/example/provenara/provenara/model/CatalogTextIsStorablePinLaw", name := "draw", desc := "(I)C" } : Jvm.MethodName) method_2_code (3 : Nat) (Option.some Jvm.ClassFile.FieldType.char), Jvm.Cond.code ({ cls := "java/lang/String", name := "<init>", desc := "([C)V" } : Jvm.MethodName) jdk_42_method_3_code (2 : Nat) (Option.none : Option Jvm.ClassFile.FieldType), Jvm.Cond.code ({ cls := "java/lang/String", name := "<init>", desc := "([CIILjava/lang/Void;)V" } : Jvm.MethodName) jdk_42_method_149_code (6 : Nat) (Option.none : Option Jvm.ClassFile.FieldType), Jvm.Cond.code ({ cls := "java/lang/Object", name := "<init>", desc := "()V" } : Jvm.MethodName) object_method_1_code (1 : Nat) (Option.none : Option Jvm.ClassFile.FieldType), Jvm.Cond.code ({ cls := "java/lang/StringUTF16", name := "compress", desc := "([CII)[B" } : Jvm.MethodName) jdk_52_method_16_code (6 : Nat) (Option.some (Jvm.ClassFile.FieldType.array Jvm.ClassFile.FieldType.byte)), Jvm.Cond.code ({ cls := "java/lang/StringUTF16", name := "compress", desc := "([CI[BII)I" } : Jvm.MethodName) jdk_52_method_21_code (7 : Nat) (Option.some Jvm.ClassFile.FieldType.int), Jvm.Cond.code ({ cls := "java/lang/StringUTF16", name := "coderFromArrayLen", desc := "([BI)B" } : Jvm.MethodName) jdk_52_method_15_code (2 : Nat) (Option.some Jvm.ClassFile.FieldType.byte), Jvm.Cond.code ({ cls := "com/example/provenara/provenara/model/CatalogTextIsStorablePinLaw", name := "good", desc := "(CZCZC)Z" } : Jvm.MethodName) method_5_code (5 : Nat) (Option.some Jvm.ClassFile.FieldType.boolean), Jvm.Cond.code ({ cls := "com/example/provenara/provenara/model/CatalogText", name := "isStorable", desc := "(Ljava/lang/String;)Z" } : Jvm.MethodName) prog_6_method_2_code (3 : Nat) (Option.some Jvm.ClassFile.FieldType.boolean), Jvm.Cond.code ({ cls := "java/lang/String", name := "length", desc := "()I" } : Jvm.MethodName) jdk_42_method_54_code (1 : Nat) (Option.some Jvm.ClassFile.FieldType.int), Jvm.Cond.code ({ cls := "java/lang/String", name := "coder", desc := "()B" } : Jvm.MethodName) jdk_42_method_152_code (1 : Nat) (Option.some Jvm.ClassFile.FieldType.byte), Jvm.Cond.code ({ cls := "java/lang/String", name := "charAt", desc := "(I)C" } : Jvm.MethodName) jdk_42_method_56_code (2 : Nat) (Option.some Jvm.ClassFile.FieldType.char), Jvm.Cond.code ({ cls := "java/lang/String", name := "isLatin1", desc := "()Z" } : Jvm.MethodName) jdk_42_method_154_code (1 : Nat) (Option.some Jvm.ClassFile.FieldType.boolean), Jvm.Cond.code ({ cls := "java/lang/StringLatin1", name := "charAt", desc := "([BI)C" } : Jvm.MethodName) jdk_43_method_2_code (2 : Nat) (Option.some Jvm.ClassFile.FieldType.char), Jvm.Cond.code ({ cls := "java/lang/String", name := "checkIndex", desc := "(II)V" } : Jvm.MethodName) jdk_42_method_155_code (2 : Nat) (Option.none : Option Jvm.ClassFile.FieldType), Jvm.Cond.code ({ cls := "jdk/internal/util/Preconditions", name := "checkIndex", desc := "(IILjava/util/function/BiFunction;)I" } : Jvm.MethodName) jdk_41_method_11_code (3 : Nat) (Option.some Jvm.ClassFile.FieldType.int), Jvm.Cond.code ({ cls := "com/example/provenara/provenara/model/CatalogTextIsStorablePinLaw", name := "isHi", desc := "(C)Z" } : Jvm.MethodName) method_3_code (1 : Nat) (Option.some Jvm.ClassFile.FieldType.boolean), Jvm.Cond.code ({ cls := "com/example/provenara/provenara/model/CatalogTextIsStorablePinLaw", name := "isLo", desc := "(C)Z" } : Jvm.MethodName) method_4_code (1 : Nat) (Option.some Jvm.ClassFile.FieldType.boolean), Jvm.Cond.code ({ cls := "java/lang/Character", name := "isHighSurrogate", desc := "(C)Z" } : Jvm.MethodName) jdk_89_method_14_code (1 : Nat) (Option.some Jvm.ClassFile.FieldType.boolean), Jvm.Cond.code ({ cls := "java/lang/Character", name := "isSurrogate", desc := "(C)Z" } : Jvm.MethodName) jdk_89_method_16_code (1 : Nat) (Option.some Jvm.ClassFile.FieldType.boolean), Jvm.Cond.code ({ cls := "java/lang/StringUTF16", name := "toBytes", desc := "([CII)[B" } : Jvm.MethodName) jdk_52_method_14_code (5 : Nat) (Option.some (Jvm.ClassFile.FieldType.array Jvm.ClassFile.FieldType.byte)), Jvm.Cond.code ({ cls := "java/lang/StringUTF16", name := "newBytesFor", desc := "(I)[B" } : Jvm.MethodName) jdk_52_method_2_code (1 : Nat) (Option.some (Jvm.ClassFile.FieldType.array Jvm.ClassFile.FieldType.byte)), Jvm.Cond.code ({ cls := "java/lang/StringUTF16", name := "newBytesLength", desc := "(I)I" } : Jvm.MethodName) jdk_52_method_3_code (1 : Nat) (Option.some Jvm.ClassFile.FieldType.int), Jvm.Cond.code ({ cls := "java/lang/StringUTF16", name := "putChar", desc := "([BII)V" } : Jvm.MethodName) jdk_52_method_4_code (3 : Nat) (Option.none : Option Jvm.ClassFile.FieldType), Jvm.Cond.code ({ cls := "java/lang/StringUTF16", name := "getChar", desc := "([BI)C" } : Jvm.MethodName) jdk_52_method_5_code (2 : Nat) (Option.some Jvm.ClassFile.FieldType.char), Jvm.Cond.code ({ cls := "java/lang/StringUTF16", name := "charAt", desc := "([BI)C" } : Jvm.MethodName) jdk_52_method_83_code (2 : Nat) (Option.some Jvm.ClassFile.FieldType.char), Jvm.Cond.code ({ cls := "java/lang/StringUTF16", name := "checkIndex", desc := "(I[B)V" } : Jvm.MethodName) jdk_52_method_91_code (2 : Nat) (Option.none : Option Jvm.ClassFile.FieldType), Jvm.Cond.code ({ cls := "java/lang/StringUTF16", name := "length", desc := "([B)I" } : Jvm.MethodName) jdk_52_method_6_code (1 : Nat) (Option.some Jvm.ClassFile.FieldType.int), Jvm.Cond.code ({ cls := "java/lang/Character", name := "isLowSurrogate", desc := "(C)Z" } : Jvm.MethodName) jdk_89_method_15_code (1 : Nat) (Option.some Jvm.ClassFile.FieldType.boolean)]
set_option maxRecDepth 65536 in
theorem codes_eq : words1.filter isCode = codes1 := rfl
theorem w_codes : ∀ c ∈ words1.filter isCode, c.before args0 about1 = true := by
  rw [codes_eq]
  intro c hc
  simp only [codes1, List.mem_cons, List.not_mem_nil, or_false] at hc
  rcases hc with rfl | rfl | rfl | rfl | rfl | rfl | rfl | rfl | rfl | rfl | rfl | rfl | rfl | rfl | rfl | rfl | rfl | rfl | rfl | rfl | rfl | rfl | rfl | rfl | rfl | rfl | rfl | rfl | rfl | rfl
  · exact w_c0
  · exact w_c1
  · exact w_c2
  · exact w_c3
  · exact w_c4
  · exact w_c5
  · exact w_c6
  · exact w_c7
  · exact w_c8
  · exact w_c9
  · exact w_c10
  · exact w_c11
  · exact w_c12
  · exact w_c13
  · exact w_c14
  · exact w_c15
  · exact w_c16
  · exact w_c17
  · exact w_c18
  · exact w_c19
  · exact w_c20
  · exact w_c21
  · exact w_c22
  · exact w_c23
  · exact w_c24
  · exact w_c25
  · exact w_c26
  · exact w_c27
  · exact w_c28
  · exact w_c29
set_option maxRecDepth 65536 in
theorem w_t1 : (words1.take 24).all (fun c => isCode c || c.before args0 about1) = true := by decide +kernel
set_option maxRecDepth 65536 in
theorem w_t2 : ((words1.drop 24).take 24).all (fun c => isCode c || c.before args0 about1) = true := by decide +kernel
set_option maxRecDepth 65536 in
theorem w_t3 : (((words1.drop 24).drop 24).take 24).all (fun c => isCode c || c.before args0 about1) = true := by decide +kernel
set_option maxRecDepth 65536 in
theorem w_t4 : ((((words1.drop 24).drop 24).drop 24).take 24).all (fun c => isCode c || c.before args0 about1) = true := by decide +kernel
set_option maxRecDepth 65536 in
theorem w_t5 : (((((words1.drop 24).drop 24).drop 24).drop 24).take 24).all (fun c => isCode c || c.before args0 about1) = true := by decide +kernel
set_option maxRecDepth 65536 in
theorem w_t6 : (((((words1.drop 24).drop 24).drop 24).drop 24).drop 24).all (fun c => isCode c || c.before args0 about1) = true := by decide +kernel
theorem w_tables : (allAtoms (Jvm.Cond.code x code maxLocals ret :: tables_1)).before args0 about1 = true := by
  rw [allAtoms_all]
  show words1.all (fun c => c.before args0 about1) = true
  refine all_split ?_ w_codes
  rw [← List.take_append_drop 24 words1, List.all_append, w_t1, ← List.take_append_drop 24 (words1.drop 24), List.all_append, w_t2, ← List.take_append_drop 24 ((words1.drop 24).drop 24), List.all_append, w_t3, ← List.take_append_drop 24 (((words1.drop 24).drop 24).drop 24), List.all_append, w_t4, ← List.take_append_drop 24 ((((words1.drop 24).drop 24).drop 24).drop 24), List.all_append, w_t5, w_t6]
  rfl
set_option maxRecDepth 65536 in
theorem w_rest : rest_1_c.before args0 about1 = true := by decide +kernel
set_option maxRecDepth 65536 in
theorem w_case : (Jvm.Cond.and given_1 narrow_1).before args0 about1 = true := by decide +kernel
set_option maxRecDepth 65536 in
theorem w_consts : constsHeld consts_1 about1 := Jvm.Lit.constsHeldB_iff.mp (by decide +kernel)
theorem w_applies : (headSpec (Jvm.Cond.code x code maxLocals ret :: tables_1) room_1).applies x e0.platform about1 = true :=
  (Spec.applies_iff w_frames).mpr ⟨w_running, w_runnable, w_alone, w_named, w_hears, w_ripe, w_room, w_tables⟩
theorem atStart : AtStart classFile x code maxLocals ret World_1 tables_1 room_1 Calls_1 rest_1 Pre_1 launch0 p0 e0 about1 theMethod args0 below0 :=
  ⟨lists_1, trivial, launch0.admits_env _ _ _, launch0.least_env, fairChoices_fair.cas, fairChoices_fair.clock, w_frames, w_args, w_heap, w_applies, ⟨w_consts, trivial⟩, w_rest, w_case⟩
end start1
theorem witness_1 : WitnessClaimed_1 := ⟨start1.p0, start1.e0, start1.about1, start1.theMethod, start1.args0, start1.below0, start1.atStart⟩
end Jvm.Pilot.@@N@@
