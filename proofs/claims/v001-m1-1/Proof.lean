import JvmDerived
import JvmDerived.Pilot.@@N@@Statement
import JvmDerived.Pilot.@@N@@Code
set_option linter.unusedVariables false
set_option linter.unusedSimpArgs false
namespace Jvm.OwnKit
open Jvm Sem ClassFile Op Lib Jvm.Stand Jvm.Free Jvm.LawKit Jvm.RoadKit
section K
variable {p : Program} {l : Launch} {e : Env} {R : Room} {s : State} {m : MethodId} {args : Array Value} {below : List Frame} {meth : Method} {c : Code} {T T' : State} {locs : List Loc} {cells slots : Nat} {Z : State} {a0 : Array Value} {h h0 : Heap} {ce sl : Nat} {Q : Option Value → Heap → List Loc → Prop} {P : Option Value → State → List Loc → Prop} {pc : Nat} {Ls : Array Slot} {rest : List Value}
/-- from this state and frame the body runs to its end, and Q holds there -/
def Go (p : Program) (e : Env) (below : List Frame) (P : Option Value → State → List Loc → Prop) (T : State) (g : JFrame) : Prop :=
  ∃ u v L, Steps p.tables e below (T.setTop g) u ∧ u.status = .running ∧ Ended u below (.returned v) ∧ P v u L
/-- the end of a body that interns nothing -/
def EndF (s : State) (ce sl : Nat) (Q : Option Value → Heap → List Loc → Prop) (v : Option Value) (u : State) (L : List Loc) : Prop := Q v u.heap L ∧ FrameEnd s (.returned v) u L ce sl
theorem Go.by {g g' : JFrame} (st : ∀ t, Steps p.tables e below (T'.setTop g') t → Steps p.tables e below (T.setTop g) t) (k : Go p e below P T' g') : Go p e below P T g := by
  obtain ⟨u, v, L, h1, r⟩ := k; exact ⟨u, v, L, st u h1, r⟩
theorem Go.cast {g g' : JFrame} (q : g = g') (k : Go p e below P T g') : Go p e below P T g := q ▸ k
/-- a body's contract at given arguments and a given heap -/
def Ct (l : Launch) (y : MethodName) (bytes : ByteArray) (maxL : Nat) (ret : Option FieldType) (rm : Room) (Z : State) (as' : Array Value) (h0 : Heap) (Q : Option Value → Heap → List Loc → Prop) : Prop :=
  ∀ ws : List Jvm.Cond, MetFree l y (head1 (Jvm.Cond.code y bytes maxL ret :: ws) rm) (fun a U => a = as' ∧ Z.Warmed39 U.vm ∧ U.heap = h0) (fun _ _ _ _ _ => True) (fun _ U o U' => ∃ v L, o = .returned v ∧ Q v U'.heap L ∧ FrameEnd U o U' L rm.cells rm.slots)
theorem Ct.of {y : MethodName} {bytes : ByteArray} {maxL : Nat} {ret : Option FieldType} {rm : Room} {as' : Array Value} (hpl : plainFor y = true)
    (body : ∀ (p : Program) (e : Env) (s : State) (m : MethodId) (below : List Frame) (meth : Method) (c : Code) (T : State), Stand p l e rm s m as' below meth c T [] 0 0 → p.tables.exec = Jvm.exec → c.code = bytes → c.maxLocals = maxL → s.vm.findClass y.cls = some m.cls → meth.name = y.name → meth.sig.returnType = ret → meth.locks = false → Z.Warmed39 s.vm → T.heap = h0 →
      Go p e below (EndF s rm.cells rm.slots Q) T (entryFrame m as' maxL)) : Ct l y bytes maxL ret rm Z as' h0 Q := by
  intro ws
  refine MetFree.of_bodySF hpl hisR ?_
  intro p e s m args below meth c s₁ Bd hml0 hP hK
  obtain ⟨rfl, hZ, hh⟩ := hP
  obtain ⟨u, v, L, h1, h2, h3, r⟩ := body p e s m below meth c s₁ (Stand.of_body Bd) Bd.exec Bd.bytes hml0 (findClass_of_methodNamed Bd.named) (name_of_methodNamed Bd.named Bd.method).1 Bd.returns (BodyLoose.notSynchronized Bd) hZ (by rw [← hh, Bd.state]; rfl)
  exact ⟨u, _, h1, h2, h3, v, L, rfl, r.1, r.2⟩
theorem Ct.mono {y : MethodName} {bytes : ByteArray} {maxL : Nat} {ret : Option FieldType} {rm : Room} {as' : Array Value} {Q' : Option Value → Heap → List Loc → Prop} (k : Ct l y bytes maxL ret rm Z as' h0 Q) (q : ∀ v h L, Q v h L → Q' v h L) : Ct l y bytes maxL ret rm Z as' h0 Q' := by
  intro ws p e ha hc hk s m args below hf happ hP hK
  obtain ⟨n, o, h1, h2, h3, v, L, h4, h5, h6⟩ := k ws p e ha hc hk s m args below hf happ hP hK
  exact ⟨n, o, h1, h2, h3, v, L, h4, q _ _ _ h5, h6⟩
theorem wd {ws : List Jvm.Cond} (hw : ∀ d ∈ ws, d.before a0 Z = true) {d : Jvm.Cond} (i : Nat) (q : ws[i]? = some d) : d.before a0 Z = true := hw _ (List.mem_of_getElem? q)
theorem Go.fin (X : Stand p l e R s m args below meth c T locs cells slots) (hlk : meth.locks = false) {v : Option Value} (hv : meth.sig.returnType = none → v = none) {g : JFrame}
    (st : ∀ fs, (∀ (f : JFrame) (acts : List Action), f.method = m → f.locked = none → f.entered = [] → (doReturn e (T.setTop f) acts v).1 = T.setFrames fs) → Steps p.tables e below (T.setTop g) (T.setFrames fs)) (hc : cells ≤ ce) (hs : slots ≤ sl) (eT : T.heap = h) (q : Q v h locs) : Go p e below (EndF s ce sl Q) T g := by
  obtain ⟨fs, hr, hrun, hended, hW, hsame⟩ := X.leave (v := v) hv hlk
  subst eT
  exact ⟨_, _, _, st fs hr, hrun, hended, q, ⟨_, rfl⟩, hW, hsame.mono hc hs⟩
theorem Go.retI (X : Stand p l e R s m args below meth c T locs cells slots) (hx : p.tables.exec = Jvm.exec) (hlk : meth.locks = false) (hret : meth.sig.returnType = some .int) {z : Int32} (hd : decode c.code pc = .ok (.ireturn, 1)) (hc : cells ≤ ce) (hs : slots ≤ sl) (eT : T.heap = h) (q : Q (some (.int z)) h locs) : Go p e below (EndF s ce sl Q) T (mkF m pc Ls (.int z :: rest)) :=
  Go.fin X hlk (fun h => by rw [hret] at h; cases h) (fun fs hl => retOut X hx hret rfl (Or.inl ⟨rfl, Or.inl rfl, z, rfl⟩) hd hl) hc hs eT q
theorem Go.retZ (X : Stand p l e R s m args below meth c T locs cells slots) (hx : p.tables.exec = Jvm.exec) (hlk : meth.locks = false) (hret : meth.sig.returnType = some .boolean) {z : Int32} (hz : z = 0 ∨ z = 1) (hd : decode c.code pc = .ok (.ireturn, 1)) (hc : cells ≤ ce) (hs : slots ≤ sl) (eT : T.heap = h) (q : Q (some (.int z)) h locs) : Go p e below (EndF s ce sl Q) T (mkF m pc Ls (.int z :: rest)) :=
  Go.fin X hlk (fun h => by rw [hret] at h; cases h) (fun fs hl => retOut X hx hret (by rcases hz with rfl | rfl <;> rfl) (Or.inl ⟨rfl, Or.inr (Or.inl rfl), z, rfl⟩) hd hl) hc hs eT q
theorem Go.retS (X : Stand p l e R s m args below meth c T locs cells slots) (hx : p.tables.exec = Jvm.exec) (hlk : meth.locks = false) {t : FieldType} (hret : meth.sig.returnType = some t) (ht : t = .byte ∨ t = .char ∨ t = .short) {z : Int32} (hz : narrow t (.int z) = .int z) (hd : decode c.code pc = .ok (.ireturn, 1)) (hc : cells ≤ ce) (hs : slots ≤ sl) (eT : T.heap = h) (q : Q (some (.int z)) h locs) : Go p e below (EndF s ce sl Q) T (mkF m pc Ls (.int z :: rest)) :=
  Go.fin X hlk (fun h => by rw [hret] at h; cases h) (fun fs hl => retOut X hx hret hz (Or.inl ⟨rfl, Or.inr (Or.inr ht), z, rfl⟩) hd hl) hc hs eT q
theorem Go.retJ (X : Stand p l e R s m args below meth c T locs cells slots) (hx : p.tables.exec = Jvm.exec) (hlk : meth.locks = false) (hret : meth.sig.returnType = some .long) {z : Int64} (hd : decode c.code pc = .ok (.lreturn, 1)) (hc : cells ≤ ce) (hs : slots ≤ sl) (eT : T.heap = h) (q : Q (some (.long z)) h locs) : Go p e below (EndF s ce sl Q) T (mkF m pc Ls (.long z :: rest)) :=
  Go.fin X hlk (fun h => by rw [hret] at h; cases h) (fun fs hl => retOut X hx hret rfl (Or.inr (Or.inl ⟨rfl, rfl, z, rfl⟩)) hd hl) hc hs eT q
theorem Go.retA (X : Stand p l e R s m args below meth c T locs cells slots) (hx : p.tables.exec = Jvm.exec) (hlk : meth.locks = false) {t : FieldType} (hret : meth.sig.returnType = some t) (ht : t.isReference = true) {v : Value} (hv : v.isRef = true) (hd : decode c.code pc = .ok (.areturn, 1)) (hc : cells ≤ ce) (hs : slots ≤ sl) (eT : T.heap = h) (q : Q (some v) h locs) : Go p e below (EndF s ce sl Q) T (mkF m pc Ls (v :: rest)) :=
  Go.fin X hlk (fun h => by rw [hret] at h; cases h) (fun fs hl => retOut X hx hret (by cases t <;> simp_all [FieldType.isReference, narrow]) (Or.inr (Or.inr (Or.inr (Or.inr ⟨rfl, ht, hv⟩)))) hd hl) hc hs eT q
theorem Go.retV (X : Stand p l e R s m args below meth c T locs cells slots) (hx : p.tables.exec = Jvm.exec) (hlk : meth.locks = false) (hret : meth.sig.returnType = none) (hd : decode c.code pc = .ok (.return_, 1)) (hc : cells ≤ ce) (hs : slots ≤ sl) (eT : T.heap = h) (q : Q none h locs) : Go p e below (EndF s ce sl Q) T (mkF m pc Ls []) :=
  Go.fin X hlk (fun _ => rfl) (fun fs hl => X.returnOut hx hret hd hl) hc hs eT q
/-! one law a step that reads the tables or the heap -/
theorem Go.getF (X : Stand p l e R s m args below meth c T locs cells slots) (hx : p.tables.exec = Jvm.exec) (hZ : Z.Warmed39 s.vm) {own R0 O n d : String} {index : Nat} (hown : s.vm.findClass own = some m.cls) (w : (Jvm.Cond.fieldLink own index R0 n d).before a0 Z = true) (via : Via Z R0 O n d) (eT : T.heap = h) {a : Addr} {v : Value} (F : Fld Z h a O n d v)
    (hd : decode c.code pc = .ok (.getfield index, 3)) (k : ∀ T', Stand p l e R s m args below meth c T' locs cells slots → T'.heap = h → Go p e below P T' (mkF m (pc + 3) Ls (v :: rest))) : Go p e below P T (mkF m pc Ls (.ref a :: rest)) := by
  obtain ⟨T', X', e', st⟩ := RoadKit.getF X hx hZ hown (host := "") (Or.inl w) via eT F (g := mkF m pc Ls (.ref a :: rest)) rfl rfl hd
  exact Go.by st (k T' X' e')
theorem Go.getFN (X : Stand p l e R s m args below meth c T locs cells slots) (hx : p.tables.exec = Jvm.exec) (hZ : Z.Warmed39 s.vm) {own R0 O n d host : String} {index : Nat} (hown : s.vm.findClass own = some m.cls) (w : (Jvm.Cond.fieldLinkNest own index R0 n d host).before a0 Z = true) (via : Via Z R0 O n d) (eT : T.heap = h) {a : Addr} {v : Value} (F : Fld Z h a O n d v)
    (hd : decode c.code pc = .ok (.getfield index, 3)) (k : ∀ T', Stand p l e R s m args below meth c T' locs cells slots → T'.heap = h → Go p e below P T' (mkF m (pc + 3) Ls (v :: rest))) : Go p e below P T (mkF m pc Ls (.ref a :: rest)) := by
  obtain ⟨T', X', e', st⟩ := RoadKit.getF X hx hZ hown (host := host) (Or.inr w) via eT F (g := mkF m pc Ls (.ref a :: rest)) rfl rfl hd
  exact Go.by st (k T' X' e')
theorem Go.putF (X : Stand p l e R s m args below meth c T locs cells slots) (hx : p.tables.exec = Jvm.exec) (hZ : Z.Warmed39 s.vm) {own R0 O n d C : String} {index kk : Nat} {ty : FieldType} (hown : s.vm.findClass own = some m.cls) (w : (Jvm.Cond.fieldLink own index R0 n d).before a0 Z = true) (via : Via Z R0 O n d) (eT : T.heap = h) {a : Addr} {v old : Value} (F : Fld Z h a O n d old) (E : Exa Z h a C)
    (L : (Jvm.Cond.lays C O n d).before a0 Z = true ∨ ((Jvm.Cond.laysFinal C O n d).before a0 Z = true ∧ own = O ∧ meth.name = "<init>")) (wi : (Jvm.Cond.instantiable C kk).before a0 Z = true) (hty : parseFieldDescriptor d = some ty) (hn : narrow ty v = v) (hf : fits ty v = true) (hd : decode c.code pc = .ok (.putfield index, 3))
    (k : ∀ T' h', Stand p l e R s m args below meth c T' (locs ++ [⟨a, RoadKit.slotOf Z O n d⟩]) cells slots → T'.heap = h' → Wr h h' a (RoadKit.slotOf Z O n d) v → Go p e below P T' (mkF m (pc + 3) Ls rest)) : Go p e below P T (mkF m pc Ls (v :: .ref a :: rest)) := by
  obtain ⟨T', h', X', e', W', st⟩ := RoadKit.putF X hx hZ hown (host := "") (Or.inl w) via eT F E L wi hty hn hf (g := mkF m pc Ls (v :: .ref a :: rest)) rfl rfl hd
  exact Go.by st (k T' h' X' e' W')
theorem Go.getS (X : Stand p l e R s m args below meth c T locs cells slots) (hx : p.tables.exec = Jvm.exec) (hZ : Z.Warmed39 s.vm) {own R0 O n d : String} {index : Nat} (hown : s.vm.findClass own = some m.cls) (w : (Jvm.Cond.fieldLink own index R0 n d).before a0 Z = true) (via : Via Z R0 O n d) (eT : T.heap = h) {v : Value} (F : Sta Z h O n d v) {st : List Value}
    (hd : decode c.code pc = .ok (.getstatic index, 3)) (k : ∀ T', Stand p l e R s m args below meth c T' locs cells slots → T'.heap = h → Go p e below P T' (mkF m (pc + 3) Ls (v :: st))) : Go p e below P T (mkF m pc Ls st) := by
  obtain ⟨T', X', e', st'⟩ := RoadKit.getS X hx hZ hown (host := "") w via eT F (g := mkF m pc Ls st) rfl hd
  exact Go.by st' (k T' X' e')
theorem Go.getSN (X : Stand p l e R s m args below meth c T locs cells slots) (hx : p.tables.exec = Jvm.exec) (hZ : Z.Warmed39 s.vm) {own R0 O n d host : String} {index : Nat} (hown : s.vm.findClass own = some m.cls) (w : (Jvm.Cond.fieldLinkNest own index R0 n d host).before a0 Z = true) (via : Via Z R0 O n d) (eT : T.heap = h) {v : Value} (F : Sta Z h O n d v) {st : List Value}
    (hd : decode c.code pc = .ok (.getstatic index, 3)) (k : ∀ T', Stand p l e R s m args below meth c T' locs cells slots → T'.heap = h → Go p e below P T' (mkF m (pc + 3) Ls (v :: st))) : Go p e below P T (mkF m pc Ls st) := by
  obtain ⟨T', X', e', st'⟩ := getS2 X hx hZ hown (Or.inr w) via eT F (g := mkF m pc Ls st) rfl hd
  exact Go.by st' (k T' X' e')
theorem Go.newO (X : Stand p l e R s m args below meth c T locs cells slots) (hx : p.tables.exec = Jvm.exec) (hZ : Z.Warmed39 s.vm) {own C : String} {index n : Nat} (hown : s.vm.findClass own = some m.cls) (w : (Jvm.Cond.classLink own index C).before a0 Z = true) (wi : (Jvm.Cond.instantiable C n).before a0 Z = true) (wz : (Jvm.Cond.initialized C).before a0 Z = true) (eT : T.heap = h) {st : List Value}
    (hd : decode c.code pc = .ok (.new index, 3)) (hc : cells + 1 ≤ R.cells) (hl : slots + n ≤ R.slots)
    (k : ∀ T' h' b, Stand p l e R s m args below meth c T' locs (cells + 1) (slots + n) → T'.heap = h' → Ext h h' → b = h.size → Exa Z h' b C → (∀ {O nm d : String} {ty : FieldType}, Laid Z a0 C O nm d → parseFieldDescriptor d = some ty → Fld Z h' b O nm d (defaultValue ty)) → Go p e below P T' (mkF m (pc + 3) Ls (.ref b :: st))) : Go p e below P T (mkF m pc Ls st) := by
  obtain ⟨T', h', X', e', E', A', D', -, st'⟩ := RoadKit.newO X hx hZ hown w wi wz eT (g := mkF m pc Ls st) rfl hd hc hl
  exact Go.by st' (k T' h' _ X' e' E' rfl A' D')
theorem Go.newP (X : Stand p l e R s m args below meth c T locs cells slots) (hx : p.tables.exec = Jvm.exec) (hZ : Z.Warmed39 s.vm) {aty : ArrayType} (w : (Jvm.Cond.arrayClass (newarray.typeOf aty)).before a0 Z = true) (eT : T.heap = h) {n : Int32} (hd : decode c.code pc = .ok (.newarray aty, 2)) (hn : ¬ n < 0) {cap : Nat} (hcap : n.toNatClampNeg ≤ cap) (hb : cap * 8 ≤ 536870912) (hc : cells + 1 ≤ R.cells) (hl : slots + cap ≤ R.slots)
    (k : ∀ T' h' b kA, Stand p l e R s m args below meth c T' locs (cells + 1) (slots + cap) → T'.heap = h' → Ext h h' → b = h.size → Arv Z h' b kA (newarray.typeOf aty) n [] (defaultValue (newarray.typeOf aty)) → Go p e below P T' (mkF m (pc + 2) Ls (.ref b :: rest))) : Go p e below P T (mkF m pc Ls (.int n :: rest)) := by
  obtain ⟨T', h', kA, X', e', E', A', st'⟩ := RoadKit.newP X hx hZ w eT (g := mkF m pc Ls (.int n :: rest)) rfl hd rfl hn hcap hb hc hl
  exact Go.by st' (k T' h' _ kA X' e' E' rfl (Arv.new A' hn))
theorem Go.initO (X : Stand p l e R s m args below meth c T locs cells slots) (hx : p.tables.exec = Jvm.exec) (hZ : Z.Warmed39 s.vm) {own : String} {idx : Nat} (hown : s.vm.findClass own = some m.cls) (w1 : (Jvm.Cond.methodLink own idx Lib.objectInit).before a0 Z = true) (w2 : (Jvm.Cond.instanceMethod Lib.objectInit).before a0 Z = true) (w3 : (Jvm.Cond.code Lib.objectInit ⟨#[0xb1]⟩ 1 none).before a0 Z = true) (eT : T.heap = h)
    {a : Addr} (hsz : Ls.size = c.maxLocals) (hd : decode c.code pc = .ok (.invokespecial idx, 3)) (hf : 1 ≤ R.frames) {W : Nat} (hW : (rest.map fun v => v.category).sum = W) (hl : W + 12 ≤ R.locals)
    (k : ∀ T', Stand p l e R s m args below meth c T' locs cells slots → T'.heap = h → Go p e below P T' (mkF m (pc + 3) Ls rest)) : Go p e below P T (mkF m pc Ls (.ref a :: rest)) := by
  obtain ⟨T', X', e', st⟩ := RoadKit.initO X hx hZ hown w1 w2 w3 eT (g := mkF m pc Ls (.ref a :: rest)) rfl hsz rfl hd hf (W := W) (by subst hW; show 2 * 0 + _ ≤ _; omega) hl
  exact Go.by st (k T' X' e')
theorem Go.castY (X : Stand p l e R s m args below meth c T locs cells slots) (hx : p.tables.exec = Jvm.exec) (hZ : Z.Warmed39 s.vm) {own K : String} {index : Nat} (hown : s.vm.findClass own = some m.cls) (w : (Jvm.Cond.classLink own index K).before a0 Z = true) (eT : T.heap = h) {a : Addr} (F : Ins Z h a K true) (hd : decode c.code pc = .ok (.checkcast index, 3))
    (k : ∀ T', Stand p l e R s m args below meth c T' locs cells slots → T'.heap = h → Go p e below P T' (mkF m (pc + 3) Ls (.ref a :: rest))) : Go p e below P T (mkF m pc Ls (.ref a :: rest)) := by
  obtain ⟨T', X', e', st⟩ := RoadKit.castY X hx hZ hown w eT F (g := mkF m pc Ls (.ref a :: rest)) rfl rfl hd
  exact Go.by st (k T' X' e')
theorem Go.instY (X : Stand p l e R s m args below meth c T locs cells slots) (hx : p.tables.exec = Jvm.exec) (hZ : Z.Warmed39 s.vm) {own K : String} {index : Nat} (hown : s.vm.findClass own = some m.cls) (w : (Jvm.Cond.classLink own index K).before a0 Z = true) (eT : T.heap = h) {a : Addr} (F : Ins Z h a K true) (hd : decode c.code pc = .ok (.instanceof index, 3))
    (k : ∀ T', Stand p l e R s m args below meth c T' locs cells slots → T'.heap = h → Go p e below P T' (mkF m (pc + 3) Ls (.int 1 :: rest))) : Go p e below P T (mkF m pc Ls (.ref a :: rest)) := by
  obtain ⟨T', X', e', st⟩ := RoadKit.instY X hx hZ hown w eT F (g := mkF m pc Ls (.ref a :: rest)) rfl rfl hd
  exact Go.by st (k T' X' e')
theorem Go.instN (X : Stand p l e R s m args below meth c T locs cells slots) (hx : p.tables.exec = Jvm.exec) (hZ : Z.Warmed39 s.vm) {own K C : String} {index : Nat} (hown : s.vm.findClass own = some m.cls) (w : (Jvm.Cond.classLink own index K).before a0 Z = true) (eT : T.heap = h) {a : Addr} (E : Exa Z h a C) (F : ∃ c t, Z.vm.findClass C = some c ∧ Z.vm.findClass K = some t ∧ Z.vm.assignable c t = false) (hd : decode c.code pc = .ok (.instanceof index, 3))
    (k : ∀ T', Stand p l e R s m args below meth c T' locs cells slots → T'.heap = h → Go p e below P T' (mkF m (pc + 3) Ls (.int 0 :: rest))) : Go p e below P T (mkF m pc Ls (.ref a :: rest)) := by
  obtain ⟨T', X', e', st⟩ := RoadKit.instNo X hx hZ hown w eT E F (g := mkF m pc Ls (.ref a :: rest)) rfl rfl hd
  exact Go.by st (k T' X' e')
theorem Go.aload (X : Stand p l e R s m args below meth c T locs cells slots) (hx : p.tables.exec = Jvm.exec) (hZ : Z.Warmed39 s.vm) (eT : T.heap = h) {a : Addr} {cl : Cell} {ty : FieldType} (A : Arr Z h a cl ty) {j : Int32} {v : Value} (hin : ¬ (j < 0 ∨ cl.slots.size ≤ j.toNatClampNeg)) (hat : cl.slots[j.toNatClampNeg]? = some v) {i : Instr}
    (hi : (i = .iaload ∧ ty = .int) ∨ (i = .laload ∧ ty = .long) ∨ (i = .aaload ∧ ty.isReference = true) ∨ (i = .caload ∧ ty = .char) ∨ (i = .saload ∧ ty = .short) ∨ (i = .baload ∧ ty = .byte)) (hd : decode c.code pc = .ok (i, 1)) (k : Go p e below P T (mkF m (pc + 1) Ls (v :: rest))) : Go p e below P T (mkF m pc Ls (.int j :: .ref a :: rest)) := by
  refine Go.by (fun t kk => ?_) k
  have hc : T.heap[a]? = some cl := by rw [eT]; exact A.1
  have ha := State.isArrayOf_alike hZ.alike A.2.1
  rcases hi with ⟨rfl, rfl⟩ | ⟨rfl, rfl⟩ | ⟨rfl, hr⟩ | ⟨rfl, rfl⟩ | ⟨rfl, rfl⟩ | ⟨rfl, rfl⟩
  · exact X.iaload hx hc ha A.2.2 hin hat (g := mkF m pc Ls (.int j :: .ref a :: rest)) rfl rfl hd _ kk
  · exact X.laload hx hc ha A.2.2 hin hat (g := mkF m pc Ls (.int j :: .ref a :: rest)) rfl rfl hd _ kk
  · exact X.aaload hx hc ha hr A.2.2 hin hat (g := mkF m pc Ls (.int j :: .ref a :: rest)) rfl rfl hd _ kk
  · exact X.caload hx hc ha A.2.2 hin hat (g := mkF m pc Ls (.int j :: .ref a :: rest)) rfl rfl hd _ kk
  · exact X.saload hx hc ha A.2.2 hin hat (g := mkF m pc Ls (.int j :: .ref a :: rest)) rfl rfl hd _ kk
  · exact X.baloadBytes hx hc ha A.2.2 hin hat (g := mkF m pc Ls (.int j :: .ref a :: rest)) rfl rfl hd _ kk
theorem Go.alen (X : Stand p l e R s m args below meth c T locs cells slots) (hx : p.tables.exec = Jvm.exec) (hZ : Z.Warmed39 s.vm) (eT : T.heap = h) {a : Addr} {cl : Cell} {ty : FieldType} (A : Arr Z h a cl ty) {z : Int32} (hz : cl.slots.size.toInt32 = z) (hd : decode c.code pc = .ok (.arraylength, 1)) (k : Go p e below P T (mkF m (pc + 1) Ls (.int z :: rest))) : Go p e below P T (mkF m pc Ls (.ref a :: rest)) := by
  refine Go.by (fun t kk => ?_) k
  subst hz
  exact X.arraylength hx (by rw [eT]; exact A.1) (State.isArrayOf_alike hZ.alike A.2.1) (g := mkF m pc Ls (.ref a :: rest)) rfl rfl hd _ kk
theorem Go.alenV (X : Stand p l e R s m args below meth c T locs cells slots) (hx : p.tables.exec = Jvm.exec) (hZ : Z.Warmed39 s.vm) (eT : T.heap = h) {a : Addr} {k : ClassId} {ty : FieldType} {z : Int32} {vs : List Value} {dv : Value} (F : Arv Z h a k ty z vs dv) (hd : decode c.code pc = .ok (.arraylength, 1)) (kk : Go p e below P T (mkF m (pc + 1) Ls (.int z :: rest))) : Go p e below P T (mkF m pc Ls (.ref a :: rest)) := by
  obtain ⟨cl, A, -, S, q, -, -⟩ := F; exact Go.alen X hx hZ eT A (len_of S q) hd kk
theorem Go.aloadV (X : Stand p l e R s m args below meth c T locs cells slots) (hx : p.tables.exec = Jvm.exec) (hZ : Z.Warmed39 s.vm) (eT : T.heap = h) {a : Addr} {k : ClassId} {ty : FieldType} {z : Int32} {vs : List Value} {dv : Value} (F : Arv Z h a k ty z vs dv) {j : Int32} {v : Value} (hj : ¬ j < 0 ∧ j < z) (hv : vs.getD j.toNatClampNeg dv = v) {i : Instr}
    (hi : (i = .iaload ∧ ty = .int) ∨ (i = .laload ∧ ty = .long) ∨ (i = .aaload ∧ ty.isReference = true) ∨ (i = .caload ∧ ty = .char) ∨ (i = .saload ∧ ty = .short) ∨ (i = .baload ∧ ty = .byte)) (hd : decode c.code pc = .ok (i, 1)) (kk : Go p e below P T (mkF m (pc + 1) Ls (v :: rest))) : Go p e below P T (mkF m pc Ls (.int j :: .ref a :: rest)) := by
  obtain ⟨cl, A, -, S, q, H, -⟩ := F
  have hin := inb_of S hj
  exact Go.aload X hx hZ eT A hin (H.at hin hv) hi hd kk
theorem Go.istV (X : Stand p l e R s m args below meth c T locs cells slots) (hx : p.tables.exec = Jvm.exec) (hZ : Z.Warmed39 s.vm) (eT : T.heap = h) {a : Addr} {k : ClassId} {z : Int32} {vs : List Value} {dv : Value} (F : Arv Z h a k .int z vs dv) {j x : Int32} (hj : ¬ j < 0 ∧ j < z) (i : Nat) (hji : j.toNatClampNeg = i) (hi : i < vs.length) (hd : decode c.code pc = .ok (.iastore, 1))
    (kk : ∀ T' h', Stand p l e R s m args below meth c T' (locs ++ [⟨a, j.toNatClampNeg⟩]) cells slots → T'.heap = h' → Wr h h' a j.toNatClampNeg (.int x) → Arv Z h' a k .int z (vs.set i (.int x)) dv → Go p e below P T' (mkF m (pc + 1) Ls rest)) : Go p e below P T (mkF m pc Ls (.int x :: .int j :: .ref a :: rest)) := by
  obtain ⟨cl, A, q1, S, q3, H, G⟩ := F
  have hin := inb_of S hj
  obtain ⟨T', h', X', e', W', st⟩ := stI X hx hZ eT A (j := j) (x := x) hin (g := mkF m pc Ls (.int x :: .int j :: .ref a :: rest)) rfl rfl hd
  exact Go.by st (kk T' h' X' e' W' (Arv.set A q1 S q3 H G rfl W' i hji hi))
theorem Go.jstV (X : Stand p l e R s m args below meth c T locs cells slots) (hx : p.tables.exec = Jvm.exec) (hZ : Z.Warmed39 s.vm) (eT : T.heap = h) {a : Addr} {k : ClassId} {z : Int32} {vs : List Value} {dv : Value} (F : Arv Z h a k .long z vs dv) {j : Int32} {x : Int64} (hj : ¬ j < 0 ∧ j < z) (i : Nat) (hji : j.toNatClampNeg = i) (hi : i < vs.length) (hd : decode c.code pc = .ok (.lastore, 1))
    (kk : ∀ T' h', Stand p l e R s m args below meth c T' (locs ++ [⟨a, j.toNatClampNeg⟩]) cells slots → T'.heap = h' → Wr h h' a j.toNatClampNeg (.long x) → Arv Z h' a k .long z (vs.set i (.long x)) dv → Go p e below P T' (mkF m (pc + 1) Ls rest)) : Go p e below P T (mkF m pc Ls (.long x :: .int j :: .ref a :: rest)) := by
  obtain ⟨cl, A, q1, S, q3, H, G⟩ := F
  have hin := inb_of S hj
  obtain ⟨T', h', X', e', W', st⟩ := stJ X hx hZ eT A (j := j) (x := x) hin (g := mkF m pc Ls (.long x :: .int j :: .ref a :: rest)) rfl rfl hd
  exact Go.by st (kk T' h' X' e' W' (Arv.set A q1 S q3 H G rfl W' i hji hi))
theorem Go.cloneA (X : Stand p l e R s m args below meth c T locs cells slots) (hx : p.tables.exec = Jvm.exec) (hZ : Z.Warmed39 s.vm) {own ad : String} {index : Nat} (hown : s.vm.findClass own = some m.cls) (w1 : (Jvm.Cond.methodLink own index ⟨ad, "clone", "()Ljava/lang/Object;"⟩).before a0 Z = true) (w2 : (Jvm.Cond.sameMethod ad "java/lang/Object" "clone" "()Ljava/lang/Object;").before a0 Z = true) (w3 : (Jvm.Cond.native ⟨"java/lang/Object", "clone", "()Ljava/lang/Object;"⟩).before a0 Z = true)
    (w4 : (Jvm.Cond.instanceMethod ⟨"java/lang/Object", "clone", "()Ljava/lang/Object;"⟩).before a0 Z = true) (w5 : (Jvm.Cond.selects ad ⟨ad, "clone", "()Ljava/lang/Object;"⟩ ⟨"java/lang/Object", "clone", "()Ljava/lang/Object;"⟩).before a0 Z = true) (w6 : (Jvm.Cond.castable ad "java/lang/Cloneable").before a0 Z = true) (eT : T.heap = h) {a : Addr} {cl : Cell} {ty : FieldType} (A : Arr Z h a cl ty) (E : Exa Z h a ad) (F : FitC Z cl)
    (hsz : Ls.size = c.maxLocals) (hd : decode c.code pc = .ok (.invokevirtual index, 3)) (hf : 1 ≤ R.frames) {W cap : Nat} (hW : (rest.map fun v => v.category).sum = W) (hl : W + 14 ≤ R.locals) (hcap : cl.slots.size ≤ cap) (hc : cells + 1 ≤ R.cells) (hsl : slots + cap ≤ R.slots)
    (k : ∀ T' h' b, Stand p l e R s m args below meth c T' locs (cells + 1) (slots + cap) → T'.heap = h' → Ext h h' → b = h.size → Arr Z h' b (cloneOf cl) ty → Exa Z h' b ad → Go p e below P T' (mkF m (pc + 3) Ls (.ref b :: rest))) : Go p e below P T (mkF m pc Ls (.ref a :: rest)) := by
  obtain ⟨T', h', X', e', E', A', X2, st⟩ := RoadKit.cloneA X hx hZ hown w1 w2 w3 w4 w5 w6 eT A E F (g := mkF m pc Ls (.ref a :: rest)) rfl hsz rfl hd hf (W := W) (cap := cap) (by subst hW; show 2 * 0 + _ ≤ _; omega) hl hcap hc hsl
  exact Go.by st (k T' h' _ X' e' E' rfl A' X2)
/-! calls by the callee's contract -/
section Call
variable {own : String} {index : Nat} {y : MethodName} {bytes : ByteArray} {maxL : Nat} {ret : Option FieldType} {rm : Room} {argsL : List Value} {Q' : Option Value → Heap → List Loc → Prop} {st : List Value} {W : Nat}
theorem Go.callS (X : Stand p l e R s m args below meth c T locs cells slots) (hx : p.tables.exec = Jvm.exec) (hZ : Z.Warmed39 s.vm) (hown : s.vm.findClass own = some m.cls) (w1 : (Jvm.Cond.methodLink own index y).before a0 Z = true) (w2 : (Jvm.Cond.static y).before a0 Z = true) (w3 : (Jvm.Cond.initialized y.cls).before a0 Z = true) (w4 : (Jvm.Cond.code y bytes maxL ret).before a0 Z = true)
    (hy : y.cls ≠ "java/lang/invoke/MethodHandle" ∧ y.cls ≠ "java/lang/invoke/VarHandle") (ct : Ct l y bytes maxL ret rm Z argsL.toArray h Q') (eT : T.heap = h) (hsz : Ls.size = c.maxLocals) (hlen : ∀ sig, parseMethodDescriptor y.desc = some sig → argsL.length = sig.parameters.length) (hst : st = argsL.reverse ++ rest) (hW : (rest.map fun v => v.category).sum = W)
    (hd : decode c.code pc = .ok (.invokestatic index, 3)) (hf : rm.frames + 1 ≤ R.frames) (hl : W + (maxL + 11) + rm.locals ≤ R.locals) (hc : cells + rm.cells ≤ R.cells) (hs : slots + rm.slots ≤ R.slots)
    (k : ∀ v T' h' L, Stand p l e R s m args below meth c T' (locs ++ L) (cells + rm.cells) (slots + rm.slots) → T'.heap = h' → Q' v h' L → Go p e below P T' (mkF m (pc + 3) Ls (v.toList ++ rest))) : Go p e below P T (mkF m pc Ls st) := by
  obtain ⟨v, _, ⟨T', L, k', n'⟩, -, X', ⟨Lc, hQ, hl', hk', hn'⟩, st'⟩ := Jvm.LawKit.callS X hx (y := y) hown (mvT hZ w1) (mvT hZ w2) (mvT hZ w3) (mvT hZ w4) hy (backOf (W := W) (ct []) hZ w4 w3 hf hl) (g := mkF m pc Ls st) rfl hsz (argsL := argsL) (rest := rest) hlen hst (by subst hW; show 2 * 0 + _ ≤ _; omega) hd (fun _ _ => ⟨rfl, eT, hc, hs⟩)
  dsimp only [Pt.U, Pt.locs, Pt.cells, Pt.slots] at X' hl' hk' hn' st' hQ
  subst hl' hk' hn'
  exact Go.by st' (k v T' _ Lc X' rfl hQ)
theorem Go.callC (X : Stand p l e R s m args below meth c T locs cells slots) (hx : p.tables.exec = Jvm.exec) (hZ : Z.Warmed39 s.vm) (hown : s.vm.findClass own = some m.cls) (hy1 : y.name = "<init>") (w1 : (Jvm.Cond.methodLink own index y).before a0 Z = true) (w2 : (Jvm.Cond.instanceMethod y).before a0 Z = true) (w3 : (Jvm.Cond.initialized y.cls).before a0 Z = true) (w4 : (Jvm.Cond.code y bytes maxL none).before a0 Z = true)
    (hy : y.cls ≠ "java/lang/invoke/MethodHandle" ∧ y.cls ≠ "java/lang/invoke/VarHandle") {a : Addr} (ct : Ct l y bytes maxL none rm Z (.ref a :: argsL).toArray h Q') (eT : T.heap = h) (hsz : Ls.size = c.maxLocals) (hlen : ∀ sig, parseMethodDescriptor y.desc = some sig → argsL.length = sig.parameters.length) (hst : st = argsL.reverse ++ .ref a :: rest) (hW : (rest.map fun v => v.category).sum = W)
    (hd : decode c.code pc = .ok (.invokespecial index, 3)) (hf : rm.frames + 1 ≤ R.frames) (hl : W + (maxL + 11) + rm.locals ≤ R.locals) (hc : cells + rm.cells ≤ R.cells) (hs : slots + rm.slots ≤ R.slots)
    (k : ∀ v T' h' L, Stand p l e R s m args below meth c T' (locs ++ L) (cells + rm.cells) (slots + rm.slots) → T'.heap = h' → Q' v h' L → Go p e below P T' (mkF m (pc + 3) Ls (v.toList ++ rest))) : Go p e below P T (mkF m pc Ls st) := by
  obtain ⟨v, _, ⟨T', L, k', n'⟩, -, X', ⟨Lc, hQ, hl', hk', hn'⟩, st'⟩ := X.specialBack hx (y := y) hy1 hown (mvT hZ w1) (mvT hZ w2) (mvT hZ w4) hy (backOf (W := W) (ct []) hZ w4 w3 hf hl) (g := mkF m pc Ls st) rfl hsz (Steps.refl _) (a := a) (argsL := argsL) (rest := rest) hlen hst (by subst hW; show 2 * 0 + _ ≤ _; omega) hd (fun _ _ => ⟨rfl, eT, hc, hs⟩)
  dsimp only [Pt.U, Pt.locs, Pt.cells, Pt.slots] at X' hl' hk' hn' st' hQ
  subst hl' hk' hn'
  exact Go.by (fun _ kk => st'.trans kk) (k v T' _ Lc X' rfl hQ)
theorem Go.callV (X : Stand p l e R s m args below meth c T locs cells slots) (hx : p.tables.exec = Jvm.exec) (hZ : Z.Warmed39 s.vm) (hown : s.vm.findClass own = some m.cls) {C : String} {z : MethodName} (w1 : (Jvm.Cond.methodLink own index y).before a0 Z = true) (w2 : (Jvm.Cond.declares y).before a0 Z = true) (nf : NotFace s y) (w5 : (Jvm.Cond.selects C y z).before a0 Z = true) (w6 : (Jvm.Cond.instanceMethod z).before a0 Z = true) (w3 : (Jvm.Cond.initialized z.cls).before a0 Z = true) (w4 : (Jvm.Cond.code z bytes maxL ret).before a0 Z = true)
    (hy : y.cls ≠ "java/lang/invoke/MethodHandle" ∧ y.cls ≠ "java/lang/invoke/VarHandle") {a : Addr} (E : Exa Z h a C) (ct : Ct l z bytes maxL ret rm Z (.ref a :: argsL).toArray h Q') (eT : T.heap = h) (hsz : Ls.size = c.maxLocals) (hlen : ∀ sig, parseMethodDescriptor y.desc = some sig → argsL.length = sig.parameters.length) (hst : st = argsL.reverse ++ .ref a :: rest) (hW : (rest.map fun v => v.category).sum = W)
    (hd : decode c.code pc = .ok (.invokevirtual index, 3)) (hf : rm.frames + 1 ≤ R.frames) (hl : W + (maxL + 11) + rm.locals ≤ R.locals) (hc : cells + rm.cells ≤ R.cells) (hs : slots + rm.slots ≤ R.slots)
    (k : ∀ v T' h' L, Stand p l e R s m args below meth c T' (locs ++ L) (cells + rm.cells) (slots + rm.slots) → T'.heap = h' → Q' v h' L → Go p e below P T' (mkF m (pc + 3) Ls (v.toList ++ rest))) : Go p e below P T (mkF m pc Ls st) := by
  obtain ⟨cq, kq, qa, qb, qc⟩ := isOf hZ eT E
  obtain ⟨v, _, ⟨T', L, k', n'⟩, -, X', ⟨Lc, hQ, hl', hk', hn'⟩, st'⟩ := X.virtualBack hx (y := y) (z := z) hown (mvT hZ w1) (mvT hZ w2) nf (mvT hZ w5) (mvT hZ w6) hy (backOf (W := W) (ct []) hZ w4 w3 hf hl) qa qc (g := mkF m pc Ls st) rfl hsz (Steps.refl _) (argsL := argsL) (rest := rest) hlen hst (by subst hW; show 2 * 0 + _ ≤ _; omega) hd (fun _ _ => ⟨rfl, eT, hc, hs⟩)
  dsimp only [Pt.U, Pt.locs, Pt.cells, Pt.slots] at X' hl' hk' hn' st' hQ
  subst hl' hk' hn'
  exact Go.by (fun _ kk => st'.trans kk) (k v T' _ Lc X' rfl hQ)
theorem Go.callVU (X : Stand p l e R s m args below meth c T locs cells slots) (hx : p.tables.exec = Jvm.exec) (hZ : Z.Warmed39 s.vm) (hown : s.vm.findClass own = some m.cls) {C owner : String} {z : MethodName} (w1 : (Jvm.Cond.methodLink own index y).before a0 Z = true) (ws : (Jvm.Cond.sameMethod y.cls owner y.name y.desc).before a0 Z = true) (w2 : (Jvm.Cond.declares ⟨owner, y.name, y.desc⟩).before a0 Z = true) (ho : owner ≠ "java/lang/invoke/MethodHandle" ∧ owner ≠ "java/lang/invoke/VarHandle") (w5 : (Jvm.Cond.selects C y z).before a0 Z = true) (w6 : (Jvm.Cond.instanceMethod z).before a0 Z = true) (w3 : (Jvm.Cond.initialized z.cls).before a0 Z = true) (w4 : (Jvm.Cond.code z bytes maxL ret).before a0 Z = true)
    {a : Addr} (E : Exa Z h a C) (ct : Ct l z bytes maxL ret rm Z (.ref a :: argsL).toArray h Q') (eT : T.heap = h) (hsz : Ls.size = c.maxLocals) (hlen : ∀ sig, parseMethodDescriptor y.desc = some sig → argsL.length = sig.parameters.length) (hst : st = argsL.reverse ++ .ref a :: rest) (hW : (rest.map fun v => v.category).sum = W)
    (hd : decode c.code pc = .ok (.invokevirtual index, 3)) (hf : rm.frames + 1 ≤ R.frames) (hl : W + (maxL + 11) + rm.locals ≤ R.locals) (hc : cells + rm.cells ≤ R.cells) (hs : slots + rm.slots ≤ R.slots)
    (k : ∀ v T' h' L, Stand p l e R s m args below meth c T' (locs ++ L) (cells + rm.cells) (slots + rm.slots) → T'.heap = h' → Q' v h' L → Go p e below P T' (mkF m (pc + 3) Ls (v.toList ++ rest))) : Go p e below P T (mkF m pc Ls st) := by
  obtain ⟨cq, kq, qa, qb, qc⟩ := isOf hZ eT E
  obtain ⟨v, _, ⟨T', L, k', n'⟩, -, X', ⟨Lc, hQ, hl', hk', hn'⟩, st'⟩ := X.virtualBackUp hx (x := y) (y := z) (owner := owner) hown (mvT hZ w1) (mvT hZ ws) (mvT hZ w2) ho (mvT hZ w5) (mvT hZ w6) (backOf (W := W) (ct []) hZ w4 w3 hf hl) qa qc (g := mkF m pc Ls st) rfl hsz (Steps.refl _) (argsL := argsL) (rest := rest) hlen hst (by subst hW; show 2 * 0 + _ ≤ _; omega) hd (fun _ _ => ⟨rfl, eT, hc, hs⟩)
  dsimp only [Pt.U, Pt.locs, Pt.cells, Pt.slots] at X' hl' hk' hn' st' hQ
  subst hl' hk' hn'
  exact Go.by (fun _ kk => st'.trans kk) (k v T' _ Lc X' rfl hQ)
end Call
theorem eqI_v {args : Array Value} {first s : State} {o : Option Outcome} {idx : List Nat} {t : Term} {n : Int32} (h : (Jvm.Cond.eq t (.int n)).value args first o s idx = some true) : t.eval args first o idx s = some (.int n) := by
  simp only [Cond.value, Term.eval] at h
  cases ht : t.eval args first o idx s with
  | none => simp [ht] at h
  | some x => cases x <;> simp [ht] at h ⊢; exact h
theorem nsRoot {O K : String} {n : Nat} (w : (Jvm.Cond.noSuperclass O).before a0 Z = true) (wk : (Jvm.Cond.instantiable K n).before a0 Z = true) (hn : O ≠ K) : NS Z O K := by
  obtain ⟨c, k, h1, h2, h3, -, -⟩ := Cond.noSuperclass_spec w
  obtain ⟨t, kt, g1, -⟩ := Cond.instantiable_spec wk
  have ne := ids_ne h1 g1 hn
  refine ⟨c, t, h1, g1, fun fuel => ?_⟩
  cases fuel with
  | zero => rfl
  | succ f => simp [Vm.isSubclassAux, ne, h2, h3]
theorem nsNo {C S K : String} {n : Nat} (w : (Jvm.Cond.superclass C S).before a0 Z = true) (wk : (Jvm.Cond.instantiable K n).before a0 Z = true) (ns : NS Z C K) (hn : C ≠ K) : ∃ c t, Z.vm.findClass C = some c ∧ Z.vm.findClass K = some t ∧ Z.vm.assignable c t = false := by
  obtain ⟨c, t, h0, g0, n3⟩ := ns
  obtain ⟨p, k, kp, h1, h2, h3, h4, h5, -, h7⟩ := Cond.superclass_spec h0 w
  obtain ⟨t', k', g1, g2, g3, g4, -⟩ := Cond.instantiable_spec wk
  cases g0.symm.trans g1
  have ne := ids_ne h0 g0 hn
  have g5 : k'.isInterface = false := by cases hq : k'.isInterface <;> simp [hq] at g4 ⊢
  refine ⟨c, t, h0, g0, ?_⟩
  show Z.vm.assignableAux (255 + 1) c t = false
  simp [Vm.assignableAux, ne, h2, g2, h5, g3, g5, Vm.isSubclass, n3]
theorem lenI_v {args : Array Value} {first s : State} {o : Option Outcome} {idx : List Nat} {t : Term} {a : Addr} {cl : Cell} {n : Int32} (h : (Term.length t).eval args first o idx s = some (.int n)) (ht : t.eval args first o idx s = some (.ref a)) (ha : s.arrayAt? a = some cl) : cl.slots.size < 2 ^ 31 ∧ cl.slots.size.toInt32 = n := by
  simp [Term.eval, ht, ha] at h; exact h
theorem size_le {cl : Cell} {n : Int32} {k : Nat} (q : cl.slots.size < 2 ^ 31 ∧ cl.slots.size.toInt32 = n) (hn : n.toInt = k) : cl.slots.size = k := by
  have := len_toInt q.1; rw [q.2, hn] at this; exact (Int.ofNat.inj this).symm
theorem eqR_v {args : Array Value} {first s : State} {o : Option Outcome} {idx : List Nat} {t u : Term} {w : Addr} (hu : u.eval args first o idx s = some (.ref w)) (h : (Jvm.Cond.eq t u).value args first o s idx = some true) : t.eval args first o idx s = some (.ref w) := by
  simp only [Cond.value, hu] at h
  cases ht : t.eval args first o idx s with
  | none => simp [ht] at h
  | some x => cases x <;> simp [ht] at h ⊢; exact h
theorem Old.le {n0 : Nat} (O : Old Z n0 h) : n0 ≤ h.size := O.1 ▸ O.2.1
end K
end Jvm.OwnKit
namespace Jvm.Pilot.@@N@@
open Jvm Jvm.ClassFile Sem Op Lib Jvm.Free Jvm.Stand Jvm.LawKit Jvm.RoadKit Jvm.OwnKit Bundle Jvm.Pilot.@@N@@.Jvm.D
theorem own_idxI {cl : Cell} {z : Int32} (S : cl.slots.size = (256 : Int32).toNatClampNeg) (h1 : ¬ z < (-128 : Int32)) (h2 : ¬ (127 : Int32) < z) : ¬ (z + (128 : Int32) < 0 ∨ cl.slots.size ≤ (z + (128 : Int32)).toNatClampNeg) := by
  rw [Int32.lt_iff_toInt_lt] at h1 h2
  have e1 : (-128 : Int32).toInt = -128 := rfl
  have e2 : (127 : Int32).toInt = 127 := rfl
  have e3 : (128 : Int32).toInt = 128 := rfl
  have q2 := c_iadd z (128 : Int32)
  have r2 := rng32 (z + (128 : Int32))
  refine inb_of S ⟨?_, ?_⟩ <;> rw [Int32.lt_iff_toInt_lt]
  · have e0 : (0 : Int32).toInt = 0 := rfl
    omega
  · have e0 : (256 : Int32).toInt = 256 := rfl
    omega
theorem own_boxI {z : Int32} (h1 : ¬ z < (-128 : Int32)) (h2 : ¬ (127 : Int32) < z) : z + (128 : Int32) - 128 = z := by
  apply Int32.toInt_inj.mp
  have e3 : (128 : Int32).toInt = 128 := rfl
  have q2 := c_iadd z (128 : Int32)
  have q3 := c_isub (z + (128 : Int32)) (128 : Int32)
  have r1 := rng32 z
  have r2 := rng32 (z + (128 : Int32))
  have r3 := rng32 (z + (128 : Int32) - 128)
  omega
theorem d_j18_m1_0 : decode jdk_18_method_1_code 0 = .ok (.aload_n 0, 1) := by decide +kernel
theorem d_j18_m1_1 : decode jdk_18_method_1_code 1 = .ok (.invokespecial 1, 3) := by decide +kernel
theorem d_j18_m1_4 : decode jdk_18_method_1_code 4 = .ok (.return_, 1) := by decide +kernel
theorem pn_Number_79 : plainName "java/lang/Number" = true := by first | (simp [plainName, overriddenIn]; done) | decide +kernel
theorem d_j33_m23_0 : decode jdk_33_method_23_code 0 = .ok (.aload_n 0, 1) := by decide +kernel
theorem pd___V_8334 : parseMethodDescriptor "()V" = some ⟨[], none⟩ := by decide +kernel
theorem d_j33_m23_1 : decode jdk_33_method_23_code 1 = .ok (.invokespecial 202, 3) := by decide +kernel
theorem d_j33_m23_4 : decode jdk_33_method_23_code 4 = .ok (.aload_n 0, 1) := by decide +kernel
theorem d_j33_m23_5 : decode jdk_33_method_23_code 5 = .ok (.iload_n 1, 1) := by decide +kernel
theorem d_j33_m23_6 : decode jdk_33_method_23_code 6 = .ok (.putfield 205, 3) := by decide +kernel
theorem d_j33_m23_9 : decode jdk_33_method_23_code 9 = .ok (.return_, 1) := by decide +kernel
theorem pn_Integer_491 : plainName "java/lang/Integer" = true := by first | (simp [plainName, overriddenIn]; done) | decide +kernel
theorem d_j33_m22_0 : decode jdk_33_method_22_code 0 = .ok (.iload_n 0, 1) := by decide +kernel
theorem d_j33_m22_1 : decode jdk_33_method_22_code 1 = .ok (.bipush (-128), 2) := by decide +kernel
theorem d_j33_m22_3 : decode jdk_33_method_22_code 3 = .ok (.if_icmp .lt 20, 3) := by decide +kernel
theorem d_j33_m22_23 : decode jdk_33_method_22_code 23 = .ok (.new 1, 3) := by decide +kernel
theorem d_j33_m22_26 : decode jdk_33_method_22_code 26 = .ok (.dup, 1) := by decide +kernel
theorem d_j33_m22_27 : decode jdk_33_method_22_code 27 = .ok (.iload_n 0, 1) := by decide +kernel
theorem pd__I_V_7776 : parseMethodDescriptor "(I)V" = some ⟨[.int], none⟩ := by decide +kernel
theorem d_j33_m22_28 : decode jdk_33_method_22_code 28 = .ok (.invokespecial 199, 3) := by decide +kernel
theorem d_j33_m22_31 : decode jdk_33_method_22_code 31 = .ok (.areturn, 1) := by decide +kernel
theorem d_j33_m22_6 : decode jdk_33_method_22_code 6 = .ok (.iload_n 0, 1) := by decide +kernel
theorem d_j33_m22_7 : decode jdk_33_method_22_code 7 = .ok (.getstatic 191, 3) := by decide +kernel
theorem d_j33_m22_10 : decode jdk_33_method_22_code 10 = .ok (.if_icmp .gt 13, 3) := by decide +kernel
theorem d_j33_m22_13 : decode jdk_33_method_22_code 13 = .ok (.getstatic 195, 3) := by decide +kernel
theorem d_j33_m22_16 : decode jdk_33_method_22_code 16 = .ok (.iload_n 0, 1) := by decide +kernel
theorem d_j33_m22_17 : decode jdk_33_method_22_code 17 = .ok (.sipush 128, 3) := by decide +kernel
theorem d_j33_m22_20 : decode jdk_33_method_22_code 20 = .ok (.iadd, 1) := by decide +kernel
theorem d_j33_m22_21 : decode jdk_33_method_22_code 21 = .ok (.aaload, 1) := by decide +kernel
theorem d_j33_m22_22 : decode jdk_33_method_22_code 22 = .ok (.areturn, 1) := by decide +kernel
theorem d_j30_m1_0 : decode jdk_30_method_1_code 0 = .ok (.aload_n 0, 1) := by decide +kernel
theorem d_j30_m1_1 : decode jdk_30_method_1_code 1 = .ok (.invokespecial 1, 3) := by decide +kernel
theorem d_j30_m1_4 : decode jdk_30_method_1_code 4 = .ok (.return_, 1) := by decide +kernel
theorem pn_Record_22 : plainName "java/lang/Record" = true := by first | (simp [plainName, overriddenIn]; done) | decide +kernel
theorem d_j33_m27_0 : decode jdk_33_method_27_code 0 = .ok (.aload_n 0, 1) := by decide +kernel
theorem d_j33_m27_1 : decode jdk_33_method_27_code 1 = .ok (.getfield 205, 3) := by decide +kernel
theorem d_j33_m27_4 : decode jdk_33_method_27_code 4 = .ok (.ireturn, 1) := by decide +kernel
theorem pd__I_Ljava_lang_Integer__4068 : parseMethodDescriptor "(I)Ljava/lang/Integer;" = some ⟨[.int], some (.object "java/lang/Integer")⟩ := by decide +kernel
theorem d_p25_m1_0 : decode prog_25_method_1_code 0 = .ok (.aload_n 0, 1) := by decide +kernel
theorem d_p25_m1_1 : decode prog_25_method_1_code 1 = .ok (.invokespecial 1, 3) := by decide +kernel
theorem d_p25_m1_4 : decode prog_25_method_1_code 4 = .ok (.iload_n 1, 1) := by decide +kernel
theorem d_p25_m1_5 : decode prog_25_method_1_code 5 = .ok (.ifCond .ne 17, 3) := by decide +kernel
theorem d_p25_m1_8 : decode prog_25_method_1_code 8 = .ok (.aload_n 2, 1) := by decide +kernel
theorem d_p25_m1_9 : decode prog_25_method_1_code 9 = .ok (.ifnull 13, 3) := by decide +kernel
theorem d_p25_m1_22 : decode prog_25_method_1_code 22 = .ok (.aload_n 0, 1) := by decide +kernel
theorem d_p25_m1_23 : decode prog_25_method_1_code 23 = .ok (.iload_n 1, 1) := by decide +kernel
theorem d_p25_m1_24 : decode prog_25_method_1_code 24 = .ok (.putfield 14, 3) := by decide +kernel
theorem d_p25_m1_27 : decode prog_25_method_1_code 27 = .ok (.aload_n 0, 1) := by decide +kernel
theorem d_p25_m1_28 : decode prog_25_method_1_code 28 = .ok (.aload_n 2, 1) := by decide +kernel
theorem d_p25_m1_29 : decode prog_25_method_1_code 29 = .ok (.putfield 20, 3) := by decide +kernel
theorem d_p25_m1_32 : decode prog_25_method_1_code 32 = .ok (.return_, 1) := by decide +kernel
theorem pn_Reported_484 : plainName "com/example/provenara/provenara/model/Reported" = true := by first | (simp [plainName, overriddenIn]; done) | decide +kernel
theorem pd__ZLjava_lang_Object__V_5641 : parseMethodDescriptor "(ZLjava/lang/Object;)V" = some ⟨[.boolean, (.object "java/lang/Object")], none⟩ := by decide +kernel
theorem d_p25_m5_0 : decode prog_25_method_5_code 0 = .ok (.aload_n 0, 1) := by decide +kernel
theorem d_p25_m5_1 : decode prog_25_method_5_code 1 = .ok (.getfield 20, 3) := by decide +kernel
theorem d_p25_m5_4 : decode prog_25_method_5_code 4 = .ok (.ifnonnull 7, 3) := by decide +kernel
theorem d_p25_m5_7 : decode prog_25_method_5_code 7 = .ok (.aload_n 1, 1) := by decide +kernel
theorem d_p25_m5_8 : decode prog_25_method_5_code 8 = .ok (.goto 7, 3) := by decide +kernel
theorem d_p25_m5_15 : decode prog_25_method_5_code 15 = .ok (.areturn, 1) := by decide +kernel
theorem pd__Ljava_lang_Object__Ljava_lang_Object__4766 : parseMethodDescriptor "(Ljava/lang/Object;)Ljava/lang/Object;" = some ⟨[(.object "java/lang/Object")], some (.object "java/lang/Object")⟩ := by decide +kernel
theorem pd___I_8321 : parseMethodDescriptor "()I" = some ⟨[], some .int⟩ := by decide +kernel
theorem d_p25_m5_11 : decode prog_25_method_5_code 11 = .ok (.aload_n 0, 1) := by decide +kernel
theorem d_p25_m5_12 : decode prog_25_method_5_code 12 = .ok (.getfield 20, 3) := by decide +kernel
theorem pn_ReportedOrElsePinLaw_317 : plainName "com/example/provenara/provenara/model/ReportedOrElsePinLaw" = true := by first | (simp [plainName, overriddenIn]; done) | decide +kernel
set_option maxRecDepth 65536 in
set_option maxHeartbeats 40000000 in
theorem ct_num_init (l : Launch) (Z : State) (a0 : Array Value) (hw : ∀ d ∈ tables_1, d.before a0 Z = true) (a1 : Addr) (h0 : Heap) (n0 : Nat) (O : Old Z n0 h0)  :
    Ct l (⟨"java/lang/Number", "<init>", "()V"⟩ : MethodName) jdk_18_method_1_code 1 none ({ frames := 1, cells := 0, slots := 0, locals := 12 } : Room) Z #[(.ref a1)] h0 (fun v h L => v = none ∧ Fr n0 L ∧ h0 = h) := by
  refine Ct.of (plainFor_of_name pn_Number_79) ?_
  intro p e s m below meth c T0 X0 hx hby hml hown hnm hret hlk hZ e0
  have hown : s.vm.findClass "java/lang/Number" = some m.cls := hown
  have hml : c.maxLocals = 1 := hml
  have N0 := Fr.nil n0
  refine Go.cast (g' := mkF m 0 #[.val (.ref a1)] []) (by first | (simp [entryFrame, mkF, argsToLocals, Value.category]; done) | rfl) ?_
  refine Go.by (T' := T0) (g' := (mkF m 1 #[.val (.ref a1)] [(.ref a1)])) (fun t k => ?_) ?_
  · show Steps p.tables e below (T0.setTop (mkF m 0 #[.val (.ref a1)] [])) _
    refine XS.aloadN X0.here hx rfl (hb hby d_j18_m1_0) rfl rfl ?_
    exact k
  refine Go.initO X0 hx hZ hown (wd hw 50 rfl) (wd hw 19 rfl) (wd hw 20 rfl) e0 (by rw [hml]; rfl) (hb hby d_j18_m1_1) (by decide) (W := 0) rfl (by decide) ?_
  intro T1 X1 e1
  show Go p e below _ T1 (mkF m 4 #[.val (.ref a1)] [])
  refine Go.retV X1 hx hlk hret (hb hby d_j18_m1_4) (by decide) (by decide) e1 ?_
  exact ⟨rfl, N0, rfl⟩
set_option maxRecDepth 65536 in
set_option maxHeartbeats 40000000 in
theorem ct_box_init (l : Launch) (Z : State) (a0 : Array Value) (hw : ∀ d ∈ tables_1, d.before a0 Z = true) (a1 : Addr) (z1 : Int32) (h0 : Heap) (n0 : Nat) (O : Old Z n0 h0) (E_a1 : Exa Z h0 a1 "java/lang/Integer") (F_a1_value : Fld Z h0 a1 "java/lang/Integer" "value" "I" (.int (0 : Int32))) (g_a1 : n0 ≤ a1) :
    Ct l (⟨"java/lang/Integer", "<init>", "(I)V"⟩ : MethodName) jdk_33_method_23_code 2 none ({ frames := 2, cells := 0, slots := 0, locals := 24 } : Room) Z #[(.ref a1), (.int z1)] h0 (fun v h L => v = none ∧ Fr n0 L ∧ Keep h0 h [a1] ∧ Fld Z h a1 "java/lang/Integer" "value" "I" (.int z1)) := by
  refine Ct.of (plainFor_of_name pn_Integer_491) ?_
  intro p e s m below meth c T0 X0 hx hby hml hown hnm hret hlk hZ e0
  have hown : s.vm.findClass "java/lang/Integer" = some m.cls := hown
  have hml : c.maxLocals = 2 := hml
  have N0 := Fr.nil n0
  refine Go.cast (g' := mkF m 0 #[.val (.ref a1), .val (.int z1)] []) (by first | (simp [entryFrame, mkF, argsToLocals, Value.category]; done) | rfl) ?_
  have K : Keep h0 h0 [a1] := Keep.refl _ _
  refine Go.by (T' := T0) (g' := (mkF m 1 #[.val (.ref a1), .val (.int z1)] [(.ref a1)])) (fun t k => ?_) ?_
  · show Steps p.tables e below (T0.setTop (mkF m 0 #[.val (.ref a1), .val (.int z1)] [])) _
    refine XS.aloadN X0.here hx rfl (hb hby d_j33_m23_0) rfl rfl ?_
    exact k
  refine Go.callC X0 hx hZ (W := 0) (argsL := []) (rest := []) hown rfl (wd hw 44 rfl) (wd hw 45 rfl) (wd hw 48 rfl) (wd hw 49 rfl) (by decide) (ct_num_init l Z a0 hw  a1 h0 n0 O ) e0 (by rw [hml]; rfl) (lenOf pd___V_8334 rfl) rfl rfl (hb hby d_j33_m23_1) (by decide) (by decide) (by decide) (by decide) ?_
  intro v1 T1 h1 L1 X1 e1 q1
  obtain ⟨rfl, N1, rfl⟩ := q1
  replace N1 := Fr.app N0 N1
  show Go p e below _ T1 (mkF m 4 #[.val (.ref a1), .val (.int z1)] [])
  refine Go.by (T' := T1) (g' := (mkF m 6 #[.val (.ref a1), .val (.int z1)] [(.int z1), (.ref a1)])) (fun t k => ?_) ?_
  · show Steps p.tables e below (T1.setTop (mkF m 4 #[.val (.ref a1), .val (.int z1)] [])) _
    refine XS.aloadN X1.here hx rfl (hb hby d_j33_m23_4) rfl rfl ?_
    show Steps p.tables e below (T1.setTop (mkF m 5 #[.val (.ref a1), .val (.int z1)] [(.ref a1)])) _
    refine XS.iloadN X1.here hx rfl (hb hby d_j33_m23_5) rfl ?_
    exact k
  refine Go.putF X1 hx hZ hown (wd hw 37 rfl) Via.refl e1 F_a1_value E_a1 (Or.inr ⟨(wd hw 38 rfl), rfl, hnm⟩) (wd hw 40 rfl) (ty := .int) (by decide) rfl rfl (hb hby d_j33_m23_6) ?_
  intro T2 h2 X2 e2 W2
  replace E_a1 := E_a1.wr W2
  replace F_a1_value := F_a1_value.same W2
  replace O := O.wr W2 g_a1
  have N2 := Fr.snoc X2 N1 g_a1
  replace K := K.wr W2 (Or.inl (List.mem_of_getElem? (i := 0) rfl))
  show Go p e below _ T2 (mkF m 9 #[.val (.ref a1), .val (.int z1)] [])
  refine Go.retV X2 hx hlk hret (hb hby d_j33_m23_9) (by decide) (by decide) e2 ?_
  exact ⟨rfl, N2, K, F_a1_value⟩
set_option maxRecDepth 65536 in
set_option maxHeartbeats 40000000 in
theorem ct_valueOf (l : Launch) (Z : State) (a0 : Array Value) (hw : ∀ d ∈ tables_1, d.before a0 Z = true) (w_cache : Addr) (cl_cache : Cell) (S_cache : Sta Z Z.heap "java/lang/Integer$IntegerCache" "cache" "[Ljava/lang/Integer;" (.ref w_cache)) (B_cache : Bxs Z w_cache cl_cache "java/lang/Integer" "I" (256 : Int32) (fun j => .int (j - 128))) (S_high : Sta Z Z.heap "java/lang/Integer$IntegerCache" "high" "I" (.int 127)) (z1 : Int32) (h0 : Heap) (n0 : Nat) (O : Old Z n0 h0)  :
    Ct l (⟨"java/lang/Integer", "valueOf", "(I)Ljava/lang/Integer;"⟩ : MethodName) jdk_33_method_22_code 1 (some (.object "java/lang/Integer")) ({ frames := 3, cells := 1, slots := 1, locals := 38 } : Room) Z #[(.int z1)] h0 (fun v h L => ∃ b, v = some (.ref b) ∧ Fr n0 L ∧ Keep h0 h [] ∧ Exa Z h b "java/lang/Integer" ∧ Fld Z h b "java/lang/Integer" "value" "I" (.int z1) ∧ (b < Z.heap.size ∨ h0.size ≤ b)) := by
  refine Ct.of (plainFor_of_name pn_Integer_491) ?_
  intro p e s m below meth c T0 X0 hx hby hml hown hnm hret hlk hZ e0
  have hown : s.vm.findClass "java/lang/Integer" = some m.cls := hown
  have hml : c.maxLocals = 1 := hml
  have N0 := Fr.nil n0
  refine Go.cast (g' := mkF m 0 #[.val (.int z1)] []) (by first | (simp [entryFrame, mkF, argsToLocals, Value.category]; done) | rfl) ?_
  have K : Keep h0 h0 [] := Keep.refl _ _
  refine Go.by (T' := T0) (g' := (mkF m 3 #[.val (.int z1)] [(.int (-128 : Int32)), (.int z1)])) (fun t k => ?_) ?_
  · show Steps p.tables e below (T0.setTop (mkF m 0 #[.val (.int z1)] [])) _
    refine XS.iloadN X0.here hx rfl (hb hby d_j33_m22_0) rfl ?_
    show Steps p.tables e below (T0.setTop (mkF m 1 #[.val (.int z1)] [(.int z1)])) _
    refine XS.bipush X0.here hx rfl (hb hby d_j33_m22_1) ?_
    exact k
  by_cases hy1 : z1 < (-128 : Int32)
  · skip
    refine Go.by (T' := T0) (g' := (mkF m 23 #[.val (.int z1)] [])) (fun t k => ?_) ?_
    · show Steps p.tables e below (T0.setTop (mkF m 3 #[.val (.int z1)] [(.int (-128 : Int32)), (.int z1)])) _
      refine XS.icmpYes X0.here hx rfl (pc0 := 3) (pc' := 23) rfl (hb hby d_j33_m22_3) rfl (tlt hy1).1 (by decide) (by decide) ?_
      exact k
    refine Go.newO X0 hx hZ hown (wd hw 39 rfl) (wd hw 40 rfl) (wd hw 2 rfl) e0 (hb hby d_j33_m22_23) (by decide) (by decide) ?_
    intro T2 h2 b2 X2 e2 E2 g2 A2 D2
    have lb2 := Nat.le_of_eq g2.symm
    have g_b2 : n0 ≤ b2 := Nat.le_trans (OwnKit.Old.le O) lb2
    have sz_b2 : h0.size ≤ b2 := Nat.le_trans K.1 lb2
    replace O := O.ext E2
    replace K := K.ext E2
    have E_b2 := A2
    have F_b2_value : Fld Z h2 b2 "java/lang/Integer" "value" "I" (.int (0 : Int32)) := D2 (Or.inr (wd hw 38 rfl)) (ty := .int) (by decide)
    show Go p e below _ T2 (mkF m 26 #[.val (.int z1)] [(.ref b2)])
    refine Go.by (T' := T2) (g' := (mkF m 28 #[.val (.int z1)] [(.int z1), (.ref b2), (.ref b2)])) (fun t k => ?_) ?_
    · show Steps p.tables e below (T2.setTop (mkF m 26 #[.val (.int z1)] [(.ref b2)])) _
      refine XS.dup X2.here hx rfl (hb hby d_j33_m22_26) rfl rfl ?_
      show Steps p.tables e below (T2.setTop (mkF m 27 #[.val (.int z1)] [(.ref b2), (.ref b2)])) _
      refine XS.iloadN X2.here hx rfl (hb hby d_j33_m22_27) rfl ?_
      exact k
    refine Go.callC X2 hx hZ (W := 1) (argsL := [(.int z1)]) (rest := [(.ref b2)]) hown rfl (wd hw 41 rfl) (wd hw 42 rfl) (wd hw 2 rfl) (wd hw 43 rfl) (by decide) (ct_box_init l Z a0 hw  b2 z1 h2 n0 O E_b2 F_b2_value g_b2) e2 (by rw [hml]; rfl) (lenOf pd__I_V_7776 rfl) rfl rfl (hb hby d_j33_m22_28) (by decide) (by decide) (by decide) (by decide) ?_
    intro v3 T3 h3 L3 X3 e3 q3
    obtain ⟨rfl, N3, K3, F_v3⟩ := q3
    replace N3 := Fr.app N0 N3
    replace E_b2 := E_b2.keep K3
    clear F_b2_value
    replace O := O.keep K3 (allS g_b2 all0)
    replace K := K.trans K3 (allS (Or.inr sz_b2) all0)
    show Go p e below _ T3 (mkF m 31 #[.val (.int z1)] [(.ref b2)])
    refine Go.retA X3 hx hlk hret rfl rfl (hb hby d_j33_m22_31) (by decide) (by decide) e3 ?_
    exact ⟨b2, rfl, N3, K, E_b2, F_v3, Or.inr sz_b2⟩
  · skip
    refine Go.by (T' := T0) (g' := (mkF m 7 #[.val (.int z1)] [(.int z1)])) (fun t k => ?_) ?_
    · show Steps p.tables e below (T0.setTop (mkF m 3 #[.val (.int z1)] [(.int (-128 : Int32)), (.int z1)])) _
      refine XS.icmpNo X0.here hx rfl (hb hby d_j33_m22_3) rfl (flt hy1).1 ?_
      show Steps p.tables e below (T0.setTop (mkF m 6 #[.val (.int z1)] [])) _
      refine XS.iloadN X0.here hx rfl (hb hby d_j33_m22_6) rfl ?_
      exact k
    refine Go.getS X0 hx hZ hown (wd hw 4 rfl) Via.refl e0 (S_high.ext O.2) (hb hby d_j33_m22_7) ?_
    intro T4 X4 e4
    show Go p e below _ T4 (mkF m 10 #[.val (.int z1)] [(.int (127 : Int32)), (.int z1)])
    by_cases hy5 : (127 : Int32) < z1
    · skip
      refine Go.by (T' := T4) (g' := (mkF m 23 #[.val (.int z1)] [])) (fun t k => ?_) ?_
      · show Steps p.tables e below (T4.setTop (mkF m 10 #[.val (.int z1)] [(.int (127 : Int32)), (.int z1)])) _
        refine XS.icmpYes X4.here hx rfl (pc0 := 10) (pc' := 23) rfl (hb hby d_j33_m22_10) rfl (tlt hy5).2.2.1 (by decide) (by decide) ?_
        exact k
      refine Go.newO X4 hx hZ hown (wd hw 39 rfl) (wd hw 40 rfl) (wd hw 2 rfl) e4 (hb hby d_j33_m22_23) (by decide) (by decide) ?_
      intro T6 h6 b6 X6 e6 E6 g6 A6 D6
      have lb6 := Nat.le_of_eq g6.symm
      have g_b6 : n0 ≤ b6 := Nat.le_trans (OwnKit.Old.le O) lb6
      have sz_b6 : h0.size ≤ b6 := Nat.le_trans K.1 lb6
      replace O := O.ext E6
      replace K := K.ext E6
      have E_b6 := A6
      have F_b6_value : Fld Z h6 b6 "java/lang/Integer" "value" "I" (.int (0 : Int32)) := D6 (Or.inr (wd hw 38 rfl)) (ty := .int) (by decide)
      show Go p e below _ T6 (mkF m 26 #[.val (.int z1)] [(.ref b6)])
      refine Go.by (T' := T6) (g' := (mkF m 28 #[.val (.int z1)] [(.int z1), (.ref b6), (.ref b6)])) (fun t k => ?_) ?_
      · show Steps p.tables e below (T6.setTop (mkF m 26 #[.val (.int z1)] [(.ref b6)])) _
        refine XS.dup X6.here hx rfl (hb hby d_j33_m22_26) rfl rfl ?_
        show Steps p.tables e below (T6.setTop (mkF m 27 #[.val (.int z1)] [(.ref b6), (.ref b6)])) _
        refine XS.iloadN X6.here hx rfl (hb hby d_j33_m22_27) rfl ?_
        exact k
      refine Go.callC X6 hx hZ (W := 1) (argsL := [(.int z1)]) (rest := [(.ref b6)]) hown rfl (wd hw 41 rfl) (wd hw 42 rfl) (wd hw 2 rfl) (wd hw 43 rfl) (by decide) (ct_box_init l Z a0 hw  b6 z1 h6 n0 O E_b6 F_b6_value g_b6) e6 (by rw [hml]; rfl) (lenOf pd__I_V_7776 rfl) rfl rfl (hb hby d_j33_m22_28) (by decide) (by decide) (by decide) (by decide) ?_
      intro v7 T7 h7 L7 X7 e7 q7
      obtain ⟨rfl, N7, K7, F_v7⟩ := q7
      replace N7 := Fr.app N0 N7
      replace E_b6 := E_b6.keep K7
      clear F_b6_value
      replace O := O.keep K7 (allS g_b6 all0)
      replace K := K.trans K7 (allS (Or.inr sz_b6) all0)
      show Go p e below _ T7 (mkF m 31 #[.val (.int z1)] [(.ref b6)])
      refine Go.retA X7 hx hlk hret rfl rfl (hb hby d_j33_m22_31) (by decide) (by decide) e7 ?_
      exact ⟨b6, rfl, N7, K, E_b6, F_v7, Or.inr sz_b6⟩
    · skip
      refine Go.by (T' := T4) (g' := (mkF m 13 #[.val (.int z1)] [])) (fun t k => ?_) ?_
      · show Steps p.tables e below (T4.setTop (mkF m 10 #[.val (.int z1)] [(.int (127 : Int32)), (.int z1)])) _
        refine XS.icmpNo X4.here hx rfl (hb hby d_j33_m22_10) rfl (flt hy5).2.2.1 ?_
        exact k
      refine Go.getS X4 hx hZ hown (wd hw 6 rfl) Via.refl e4 (S_cache.ext O.2) (hb hby d_j33_m22_13) ?_
      intro T8 X8 e8
      show Go p e below _ T8 (mkF m 16 #[.val (.int z1)] [(.ref w_cache)])
      refine Go.by (T' := T8) (g' := (mkF m 21 #[.val (.int z1)] [(.int (z1 + (128 : Int32))), (.ref w_cache)])) (fun t k => ?_) ?_
      · show Steps p.tables e below (T8.setTop (mkF m 16 #[.val (.int z1)] [(.ref w_cache)])) _
        refine XS.iloadN X8.here hx rfl (hb hby d_j33_m22_16) rfl ?_
        show Steps p.tables e below (T8.setTop (mkF m 17 #[.val (.int z1)] [(.int z1), (.ref w_cache)])) _
        refine XS.sipush X8.here hx rfl (hb hby d_j33_m22_17) ?_
        show Steps p.tables e below (T8.setTop (mkF m 20 #[.val (.int z1)] [(.int (128 : Int32)), (.int z1), (.ref w_cache)])) _
        refine XS.iadd X8.here hx rfl (hb hby d_j33_m22_20) rfl ?_
        exact k
      have hin := own_idxI B_cache.2.1 hy1 hy5
      obtain ⟨bx, hat, E_bx, F_bx⟩ := B_cache.2.2.2 _ hin
      refine Go.aload X8 hx hZ e8 (B_cache.1.ext O.2) hin hat (Or.inr (Or.inr (Or.inl ⟨rfl, rfl⟩))) (hb hby d_j33_m22_21) ?_
      show Go p e below _ T8 (mkF m 22 #[.val (.int z1)] [(.ref bx)])
      refine Go.retA X8 hx hlk hret rfl rfl (hb hby d_j33_m22_22) (by decide) (by decide) e8 ?_
      exact ⟨bx, rfl, N0, K, E_bx.ext O.2, by have e := own_boxI hy1 hy5; dsimp only at F_bx; rw [e] at F_bx; exact F_bx.ext O.2, Or.inl E_bx.lt⟩
set_option maxRecDepth 65536 in
set_option maxHeartbeats 40000000 in
theorem ct_intValue (l : Launch) (Z : State) (a0 : Array Value) (hw : ∀ d ∈ tables_1, d.before a0 Z = true) (a1 : Addr) (z1 : Int32) (h0 : Heap) (n0 : Nat) (O : Old Z n0 h0) (F_a1 : Fld Z h0 a1 "java/lang/Integer" "value" "I" (.int z1)) :
    Ct l (⟨"java/lang/Integer", "intValue", "()I"⟩ : MethodName) jdk_33_method_27_code 1 (some .int) ({ frames := 0, cells := 0, slots := 0, locals := 0 } : Room) Z #[(.ref a1)] h0 (fun v h L => v = some (.int z1) ∧ Fr n0 L ∧ h0 = h) := by
  refine Ct.of (plainFor_of_name pn_Integer_491) ?_
  intro p e s m below meth c T0 X0 hx hby hml hown hnm hret hlk hZ e0
  have hown : s.vm.findClass "java/lang/Integer" = some m.cls := hown
  have hml : c.maxLocals = 1 := hml
  have N0 := Fr.nil n0
  refine Go.cast (g' := mkF m 0 #[.val (.ref a1)] []) (by first | (simp [entryFrame, mkF, argsToLocals, Value.category]; done) | rfl) ?_
  refine Go.by (T' := T0) (g' := (mkF m 1 #[.val (.ref a1)] [(.ref a1)])) (fun t k => ?_) ?_
  · show Steps p.tables e below (T0.setTop (mkF m 0 #[.val (.ref a1)] [])) _
    refine XS.aloadN X0.here hx rfl (hb hby d_j33_m27_0) rfl rfl ?_
    exact k
  refine Go.getF X0 hx hZ hown (wd hw 37 rfl) Via.refl e0 F_a1 (hb hby d_j33_m27_1) ?_
  intro T1 X1 e1
  show Go p e below _ T1 (mkF m 4 #[.val (.ref a1)] [(.int z1)])
  refine Go.retI X1 hx hlk hret (hb hby d_j33_m27_4) (by decide) (by decide) e1 ?_
  exact ⟨rfl, N0, rfl⟩
set_option maxRecDepth 65536 in
set_option maxHeartbeats 40000000 in
theorem ct_rec_init (l : Launch) (Z : State) (a0 : Array Value) (hw : ∀ d ∈ tables_1, d.before a0 Z = true) (a1 : Addr) (h0 : Heap) (n0 : Nat) (O : Old Z n0 h0)  :
    Ct l (⟨"java/lang/Record", "<init>", "()V"⟩ : MethodName) jdk_30_method_1_code 1 none ({ frames := 1, cells := 0, slots := 0, locals := 12 } : Room) Z #[(.ref a1)] h0 (fun v h L => v = none ∧ Fr n0 L ∧ h0 = h) := by
  refine Ct.of (plainFor_of_name pn_Record_22) ?_
  intro p e s m below meth c T0 X0 hx hby hml hown hnm hret hlk hZ e0
  have hown : s.vm.findClass "java/lang/Record" = some m.cls := hown
  have hml : c.maxLocals = 1 := hml
  have N0 := Fr.nil n0
  refine Go.cast (g' := mkF m 0 #[.val (.ref a1)] []) (by first | (simp [entryFrame, mkF, argsToLocals, Value.category]; done) | rfl) ?_
  refine Go.by (T' := T0) (g' := (mkF m 1 #[.val (.ref a1)] [(.ref a1)])) (fun t k => ?_) ?_
  · show Steps p.tables e below (T0.setTop (mkF m 0 #[.val (.ref a1)] [])) _
    refine XS.aloadN X0.here hx rfl (hb hby d_j30_m1_0) rfl rfl ?_
    exact k
  refine Go.initO X0 hx hZ hown (wd hw 18 rfl) (wd hw 19 rfl) (wd hw 20 rfl) e0 (by rw [hml]; rfl) (hb hby d_j30_m1_1) (by decide) (W := 0) rfl (by decide) ?_
  intro T1 X1 e1
  show Go p e below _ T1 (mkF m 4 #[.val (.ref a1)] [])
  refine Go.retV X1 hx hlk hret (hb hby d_j30_m1_4) (by decide) (by decide) e1 ?_
  exact ⟨rfl, N0, rfl⟩
set_option maxRecDepth 65536 in
set_option maxHeartbeats 40000000 in
theorem ct_rep_init_0_null (l : Launch) (Z : State) (a0 : Array Value) (hw : ∀ d ∈ tables_1, d.before a0 Z = true) (a1 : Addr) (h0 : Heap) (n0 : Nat) (O : Old Z n0 h0) (E_a1 : Exa Z h0 a1 "com/example/provenara/provenara/model/Reported") (F_a1_reported : Fld Z h0 a1 "com/example/provenara/provenara/model/Reported" "reported" "Z" (.int (0 : Int32))) (F_a1_value : Fld Z h0 a1 "com/example/provenara/provenara/model/Reported" "value" "Ljava/lang/Object;" .null) (g_a1 : n0 ≤ a1) :
    Ct l (⟨"com/example/provenara/provenara/model/Reported", "<init>", "(ZLjava/lang/Object;)V"⟩ : MethodName) prog_25_method_1_code 3 none ({ frames := 2, cells := 0, slots := 0, locals := 24 } : Room) Z #[(.ref a1), (.int (0 : Int32)), .null] h0 (fun v h L => v = none ∧ Fr n0 L ∧ Keep h0 h [a1] ∧ Fld Z h a1 "com/example/provenara/provenara/model/Reported" "reported" "Z" (.int (0 : Int32)) ∧ Fld Z h a1 "com/example/provenara/provenara/model/Reported" "value" "Ljava/lang/Object;" .null) := by
  refine Ct.of (plainFor_of_name pn_Reported_484) ?_
  intro p e s m below meth c T0 X0 hx hby hml hown hnm hret hlk hZ e0
  have hown : s.vm.findClass "com/example/provenara/provenara/model/Reported" = some m.cls := hown
  have hml : c.maxLocals = 3 := hml
  have N0 := Fr.nil n0
  refine Go.cast (g' := mkF m 0 #[.val (.ref a1), .val (.int (0 : Int32)), .val .null] []) (by first | (simp [entryFrame, mkF, argsToLocals, Value.category]; done) | rfl) ?_
  have K : Keep h0 h0 [a1] := Keep.refl _ _
  refine Go.by (T' := T0) (g' := (mkF m 1 #[.val (.ref a1), .val (.int (0 : Int32)), .val .null] [(.ref a1)])) (fun t k => ?_) ?_
  · show Steps p.tables e below (T0.setTop (mkF m 0 #[.val (.ref a1), .val (.int (0 : Int32)), .val .null] [])) _
    refine XS.aloadN X0.here hx rfl (hb hby d_p25_m1_0) rfl rfl ?_
    exact k
  refine Go.callC X0 hx hZ (W := 0) (argsL := []) (rest := []) hown rfl (wd hw 13 rfl) (wd hw 14 rfl) (wd hw 16 rfl) (wd hw 17 rfl) (by decide) (ct_rec_init l Z a0 hw  a1 h0 n0 O ) e0 (by rw [hml]; rfl) (lenOf pd___V_8334 rfl) rfl rfl (hb hby d_p25_m1_1) (by decide) (by decide) (by decide) (by decide) ?_
  intro v1 T1 h1 L1 X1 e1 q1
  obtain ⟨rfl, N1, rfl⟩ := q1
  replace N1 := Fr.app N0 N1
  show Go p e below _ T1 (mkF m 4 #[.val (.ref a1), .val (.int (0 : Int32)), .val .null] [])
  refine Go.by (T' := T1) (g' := (mkF m 24 #[.val (.ref a1), .val (.int (0 : Int32)), .val .null] [(.int (0 : Int32)), (.ref a1)])) (fun t k => ?_) ?_
  · show Steps p.tables e below (T1.setTop (mkF m 4 #[.val (.ref a1), .val (.int (0 : Int32)), .val .null] [])) _
    refine XS.iloadN X1.here hx rfl (hb hby d_p25_m1_4) rfl ?_
    show Steps p.tables e below (T1.setTop (mkF m 5 #[.val (.ref a1), .val (.int (0 : Int32)), .val .null] [(.int (0 : Int32))])) _
    refine XS.ifNo X1.here hx rfl (hb hby d_p25_m1_5) rfl ((if0 _ _).trans (teq (by decide : (0 : Int32) = (0 : Int32))).2) ?_
    show Steps p.tables e below (T1.setTop (mkF m 8 #[.val (.ref a1), .val (.int (0 : Int32)), .val .null] [])) _
    refine XS.aloadN X1.here hx rfl (hb hby d_p25_m1_8) rfl rfl ?_
    show Steps p.tables e below (T1.setTop (mkF m 9 #[.val (.ref a1), .val (.int (0 : Int32)), .val .null] [.null])) _
    refine XS.ifnullYes X1.here hx rfl (pc0 := 9) (pc' := 22) rfl (hb hby d_p25_m1_9) rfl (by decide) (by decide) ?_
    show Steps p.tables e below (T1.setTop (mkF m 22 #[.val (.ref a1), .val (.int (0 : Int32)), .val .null] [])) _
    refine XS.aloadN X1.here hx rfl (hb hby d_p25_m1_22) rfl rfl ?_
    show Steps p.tables e below (T1.setTop (mkF m 23 #[.val (.ref a1), .val (.int (0 : Int32)), .val .null] [(.ref a1)])) _
    refine XS.iloadN X1.here hx rfl (hb hby d_p25_m1_23) rfl ?_
    exact k
  refine Go.putF X1 hx hZ hown (wd hw 21 rfl) Via.refl e1 F_a1_reported E_a1 (Or.inr ⟨(wd hw 22 rfl), rfl, hnm⟩) (wd hw 8 rfl) (ty := .boolean) (by decide) rfl rfl (hb hby d_p25_m1_24) ?_
  intro T2 h2 X2 e2 W2
  replace E_a1 := E_a1.wr W2
  replace F_a1_reported := F_a1_reported.same W2
  replace F_a1_value := F_a1_value.other W2 (Or.inr (slot_ne (a0 := a0) (Or.inr (wd hw 24 rfl)) (Or.inr (wd hw 22 rfl)) (by decide) (t := (.object "java/lang/Object")) (t' := .boolean) (by decide) (by decide)))
  replace O := O.wr W2 g_a1
  have N2 := Fr.snoc X2 N1 g_a1
  replace K := K.wr W2 (Or.inl (List.mem_of_getElem? (i := 0) rfl))
  show Go p e below _ T2 (mkF m 27 #[.val (.ref a1), .val (.int (0 : Int32)), .val .null] [])
  refine Go.by (T' := T2) (g' := (mkF m 29 #[.val (.ref a1), .val (.int (0 : Int32)), .val .null] [.null, (.ref a1)])) (fun t k => ?_) ?_
  · show Steps p.tables e below (T2.setTop (mkF m 27 #[.val (.ref a1), .val (.int (0 : Int32)), .val .null] [])) _
    refine XS.aloadN X2.here hx rfl (hb hby d_p25_m1_27) rfl rfl ?_
    show Steps p.tables e below (T2.setTop (mkF m 28 #[.val (.ref a1), .val (.int (0 : Int32)), .val .null] [(.ref a1)])) _
    refine XS.aloadN X2.here hx rfl (hb hby d_p25_m1_28) rfl rfl ?_
    exact k
  refine Go.putF X2 hx hZ hown (wd hw 23 rfl) Via.refl e2 F_a1_value E_a1 (Or.inr ⟨(wd hw 24 rfl), rfl, hnm⟩) (wd hw 8 rfl) (ty := (.object "java/lang/Object")) (by decide) rfl rfl (hb hby d_p25_m1_29) ?_
  intro T3 h3 X3 e3 W3
  replace E_a1 := E_a1.wr W3
  replace F_a1_reported := F_a1_reported.other W3 (Or.inr (slot_ne (a0 := a0) (Or.inr (wd hw 22 rfl)) (Or.inr (wd hw 24 rfl)) (by decide) (t := .boolean) (t' := (.object "java/lang/Object")) (by decide) (by decide)))
  replace F_a1_value := F_a1_value.same W3
  replace O := O.wr W3 g_a1
  have N3 := Fr.snoc X3 N2 g_a1
  replace K := K.wr W3 (Or.inl (List.mem_of_getElem? (i := 0) rfl))
  show Go p e below _ T3 (mkF m 32 #[.val (.ref a1), .val (.int (0 : Int32)), .val .null] [])
  refine Go.retV X3 hx hlk hret (hb hby d_p25_m1_32) (by decide) (by decide) e3 ?_
  exact ⟨rfl, N3, K, F_a1_reported, F_a1_value⟩
set_option maxRecDepth 65536 in
set_option maxHeartbeats 40000000 in
theorem ct_orElse_null_ref (l : Launch) (Z : State) (a0 : Array Value) (hw : ∀ d ∈ tables_1, d.before a0 Z = true) (a1 : Addr) (a3 : Addr) (h0 : Heap) (n0 : Nat) (O : Old Z n0 h0) (F_a1_value : Fld Z h0 a1 "com/example/provenara/provenara/model/Reported" "value" "Ljava/lang/Object;" .null) :
    Ct l (⟨"com/example/provenara/provenara/model/Reported", "orElse", "(Ljava/lang/Object;)Ljava/lang/Object;"⟩ : MethodName) prog_25_method_5_code 2 (some (.object "java/lang/Object")) ({ frames := 0, cells := 0, slots := 0, locals := 0 } : Room) Z #[(.ref a1), (.ref a3)] h0 (fun v h L => v = some (.ref a3) ∧ Fr n0 L ∧ h0 = h) := by
  refine Ct.of (plainFor_of_name pn_Reported_484) ?_
  intro p e s m below meth c T0 X0 hx hby hml hown hnm hret hlk hZ e0
  have hown : s.vm.findClass "com/example/provenara/provenara/model/Reported" = some m.cls := hown
  have hml : c.maxLocals = 2 := hml
  have N0 := Fr.nil n0
  refine Go.cast (g' := mkF m 0 #[.val (.ref a1), .val (.ref a3)] []) (by first | (simp [entryFrame, mkF, argsToLocals, Value.category]; done) | rfl) ?_
  refine Go.by (T' := T0) (g' := (mkF m 1 #[.val (.ref a1), .val (.ref a3)] [(.ref a1)])) (fun t k => ?_) ?_
  · show Steps p.tables e below (T0.setTop (mkF m 0 #[.val (.ref a1), .val (.ref a3)] [])) _
    refine XS.aloadN X0.here hx rfl (hb hby d_p25_m5_0) rfl rfl ?_
    exact k
  refine Go.getF X0 hx hZ hown (wd hw 23 rfl) Via.refl e0 F_a1_value (hb hby d_p25_m5_1) ?_
  intro T1 X1 e1
  show Go p e below _ T1 (mkF m 4 #[.val (.ref a1), .val (.ref a3)] [.null])
  refine Go.by (T' := T1) (g' := (mkF m 15 #[.val (.ref a1), .val (.ref a3)] [(.ref a3)])) (fun t k => ?_) ?_
  · show Steps p.tables e below (T1.setTop (mkF m 4 #[.val (.ref a1), .val (.ref a3)] [.null])) _
    refine XS.ifnonnullNo X1.here hx rfl (hb hby d_p25_m5_4) rfl ?_
    show Steps p.tables e below (T1.setTop (mkF m 7 #[.val (.ref a1), .val (.ref a3)] [])) _
    refine XS.aloadN X1.here hx rfl (hb hby d_p25_m5_7) rfl rfl ?_
    show Steps p.tables e below (T1.setTop (mkF m 8 #[.val (.ref a1), .val (.ref a3)] [(.ref a3)])) _
    refine XS.goto X1.here hx rfl (pc0 := 8) (pc' := 15) rfl (hb hby d_p25_m5_8) (by decide) (by decide) ?_
    exact k
  refine Go.retA X1 hx hlk hret rfl rfl (hb hby d_p25_m5_15) (by decide) (by decide) e1 ?_
  exact ⟨rfl, N0, rfl⟩
set_option maxRecDepth 65536 in
set_option maxHeartbeats 40000000 in
theorem ct_orElse_null_null (l : Launch) (Z : State) (a0 : Array Value) (hw : ∀ d ∈ tables_1, d.before a0 Z = true) (a1 : Addr) (h0 : Heap) (n0 : Nat) (O : Old Z n0 h0) (F_a1_value : Fld Z h0 a1 "com/example/provenara/provenara/model/Reported" "value" "Ljava/lang/Object;" .null) :
    Ct l (⟨"com/example/provenara/provenara/model/Reported", "orElse", "(Ljava/lang/Object;)Ljava/lang/Object;"⟩ : MethodName) prog_25_method_5_code 2 (some (.object "java/lang/Object")) ({ frames := 0, cells := 0, slots := 0, locals := 0 } : Room) Z #[(.ref a1), .null] h0 (fun v h L => v = some .null ∧ Fr n0 L ∧ h0 = h) := by
  refine Ct.of (plainFor_of_name pn_Reported_484) ?_
  intro p e s m below meth c T0 X0 hx hby hml hown hnm hret hlk hZ e0
  have hown : s.vm.findClass "com/example/provenara/provenara/model/Reported" = some m.cls := hown
  have hml : c.maxLocals = 2 := hml
  have N0 := Fr.nil n0
  refine Go.cast (g' := mkF m 0 #[.val (.ref a1), .val .null] []) (by first | (simp [entryFrame, mkF, argsToLocals, Value.category]; done) | rfl) ?_
  refine Go.by (T' := T0) (g' := (mkF m 1 #[.val (.ref a1), .val .null] [(.ref a1)])) (fun t k => ?_) ?_
  · show Steps p.tables e below (T0.setTop (mkF m 0 #[.val (.ref a1), .val .null] [])) _
    refine XS.aloadN X0.here hx rfl (hb hby d_p25_m5_0) rfl rfl ?_
    exact k
  refine Go.getF X0 hx hZ hown (wd hw 23 rfl) Via.refl e0 F_a1_value (hb hby d_p25_m5_1) ?_
  intro T1 X1 e1
  show Go p e below _ T1 (mkF m 4 #[.val (.ref a1), .val .null] [.null])
  refine Go.by (T' := T1) (g' := (mkF m 15 #[.val (.ref a1), .val .null] [.null])) (fun t k => ?_) ?_
  · show Steps p.tables e below (T1.setTop (mkF m 4 #[.val (.ref a1), .val .null] [.null])) _
    refine XS.ifnonnullNo X1.here hx rfl (hb hby d_p25_m5_4) rfl ?_
    show Steps p.tables e below (T1.setTop (mkF m 7 #[.val (.ref a1), .val .null] [])) _
    refine XS.aloadN X1.here hx rfl (hb hby d_p25_m5_7) rfl rfl ?_
    show Steps p.tables e below (T1.setTop (mkF m 8 #[.val (.ref a1), .val .null] [.null])) _
    refine XS.goto X1.here hx rfl (pc0 := 8) (pc' := 15) rfl (hb hby d_p25_m5_8) (by decide) (by decide) ?_
    exact k
  refine Go.retA X1 hx hlk hret rfl rfl (hb hby d_p25_m5_15) (by decide) (by decide) e1 ?_
  exact ⟨rfl, N0, rfl⟩
set_option maxRecDepth 65536 in
set_option maxHeartbeats 40000000 in
theorem ct_rep_init_1_null (l : Launch) (Z : State) (a0 : Array Value) (hw : ∀ d ∈ tables_1, d.before a0 Z = true) (a1 : Addr) (h0 : Heap) (n0 : Nat) (O : Old Z n0 h0) (E_a1 : Exa Z h0 a1 "com/example/provenara/provenara/model/Reported") (F_a1_reported : Fld Z h0 a1 "com/example/provenara/provenara/model/Reported" "reported" "Z" (.int (0 : Int32))) (F_a1_value : Fld Z h0 a1 "com/example/provenara/provenara/model/Reported" "value" "Ljava/lang/Object;" .null) (g_a1 : n0 ≤ a1) :
    Ct l (⟨"com/example/provenara/provenara/model/Reported", "<init>", "(ZLjava/lang/Object;)V"⟩ : MethodName) prog_25_method_1_code 3 none ({ frames := 2, cells := 0, slots := 0, locals := 24 } : Room) Z #[(.ref a1), (.int (1 : Int32)), .null] h0 (fun v h L => v = none ∧ Fr n0 L ∧ Keep h0 h [a1] ∧ Fld Z h a1 "com/example/provenara/provenara/model/Reported" "reported" "Z" (.int (1 : Int32)) ∧ Fld Z h a1 "com/example/provenara/provenara/model/Reported" "value" "Ljava/lang/Object;" .null) := by
  refine Ct.of (plainFor_of_name pn_Reported_484) ?_
  intro p e s m below meth c T0 X0 hx hby hml hown hnm hret hlk hZ e0
  have hown : s.vm.findClass "com/example/provenara/provenara/model/Reported" = some m.cls := hown
  have hml : c.maxLocals = 3 := hml
  have N0 := Fr.nil n0
  refine Go.cast (g' := mkF m 0 #[.val (.ref a1), .val (.int (1 : Int32)), .val .null] []) (by first | (simp [entryFrame, mkF, argsToLocals, Value.category]; done) | rfl) ?_
  have K : Keep h0 h0 [a1] := Keep.refl _ _
  refine Go.by (T' := T0) (g' := (mkF m 1 #[.val (.ref a1), .val (.int (1 : Int32)), .val .null] [(.ref a1)])) (fun t k => ?_) ?_
  · show Steps p.tables e below (T0.setTop (mkF m 0 #[.val (.ref a1), .val (.int (1 : Int32)), .val .null] [])) _
    refine XS.aloadN X0.here hx rfl (hb hby d_p25_m1_0) rfl rfl ?_
    exact k
  refine Go.callC X0 hx hZ (W := 0) (argsL := []) (rest := []) hown rfl (wd hw 13 rfl) (wd hw 14 rfl) (wd hw 16 rfl) (wd hw 17 rfl) (by decide) (ct_rec_init l Z a0 hw  a1 h0 n0 O ) e0 (by rw [hml]; rfl) (lenOf pd___V_8334 rfl) rfl rfl (hb hby d_p25_m1_1) (by decide) (by decide) (by decide) (by decide) ?_
  intro v1 T1 h1 L1 X1 e1 q1
  obtain ⟨rfl, N1, rfl⟩ := q1
  replace N1 := Fr.app N0 N1
  show Go p e below _ T1 (mkF m 4 #[.val (.ref a1), .val (.int (1 : Int32)), .val .null] [])
  refine Go.by (T' := T1) (g' := (mkF m 24 #[.val (.ref a1), .val (.int (1 : Int32)), .val .null] [(.int (1 : Int32)), (.ref a1)])) (fun t k => ?_) ?_
  · show Steps p.tables e below (T1.setTop (mkF m 4 #[.val (.ref a1), .val (.int (1 : Int32)), .val .null] [])) _
    refine XS.iloadN X1.here hx rfl (hb hby d_p25_m1_4) rfl ?_
    show Steps p.tables e below (T1.setTop (mkF m 5 #[.val (.ref a1), .val (.int (1 : Int32)), .val .null] [(.int (1 : Int32))])) _
    refine XS.ifYes X1.here hx rfl (pc0 := 5) (pc' := 22) rfl (hb hby d_p25_m1_5) rfl ((if0 _ _).trans (feq (by decide : ¬ (1 : Int32) = (0 : Int32))).2) (by decide) (by decide) ?_
    show Steps p.tables e below (T1.setTop (mkF m 22 #[.val (.ref a1), .val (.int (1 : Int32)), .val .null] [])) _
    refine XS.aloadN X1.here hx rfl (hb hby d_p25_m1_22) rfl rfl ?_
    show Steps p.tables e below (T1.setTop (mkF m 23 #[.val (.ref a1), .val (.int (1 : Int32)), .val .null] [(.ref a1)])) _
    refine XS.iloadN X1.here hx rfl (hb hby d_p25_m1_23) rfl ?_
    exact k
  refine Go.putF X1 hx hZ hown (wd hw 21 rfl) Via.refl e1 F_a1_reported E_a1 (Or.inr ⟨(wd hw 22 rfl), rfl, hnm⟩) (wd hw 8 rfl) (ty := .boolean) (by decide) rfl rfl (hb hby d_p25_m1_24) ?_
  intro T2 h2 X2 e2 W2
  replace E_a1 := E_a1.wr W2
  replace F_a1_reported := F_a1_reported.same W2
  replace F_a1_value := F_a1_value.other W2 (Or.inr (slot_ne (a0 := a0) (Or.inr (wd hw 24 rfl)) (Or.inr (wd hw 22 rfl)) (by decide) (t := (.object "java/lang/Object")) (t' := .boolean) (by decide) (by decide)))
  replace O := O.wr W2 g_a1
  have N2 := Fr.snoc X2 N1 g_a1
  replace K := K.wr W2 (Or.inl (List.mem_of_getElem? (i := 0) rfl))
  show Go p e below _ T2 (mkF m 27 #[.val (.ref a1), .val (.int (1 : Int32)), .val .null] [])
  refine Go.by (T' := T2) (g' := (mkF m 29 #[.val (.ref a1), .val (.int (1 : Int32)), .val .null] [.null, (.ref a1)])) (fun t k => ?_) ?_
  · show Steps p.tables e below (T2.setTop (mkF m 27 #[.val (.ref a1), .val (.int (1 : Int32)), .val .null] [])) _
    refine XS.aloadN X2.here hx rfl (hb hby d_p25_m1_27) rfl rfl ?_
    show Steps p.tables e below (T2.setTop (mkF m 28 #[.val (.ref a1), .val (.int (1 : Int32)), .val .null] [(.ref a1)])) _
    refine XS.aloadN X2.here hx rfl (hb hby d_p25_m1_28) rfl rfl ?_
    exact k
  refine Go.putF X2 hx hZ hown (wd hw 23 rfl) Via.refl e2 F_a1_value E_a1 (Or.inr ⟨(wd hw 24 rfl), rfl, hnm⟩) (wd hw 8 rfl) (ty := (.object "java/lang/Object")) (by decide) rfl rfl (hb hby d_p25_m1_29) ?_
  intro T3 h3 X3 e3 W3
  replace E_a1 := E_a1.wr W3
  replace F_a1_reported := F_a1_reported.other W3 (Or.inr (slot_ne (a0 := a0) (Or.inr (wd hw 22 rfl)) (Or.inr (wd hw 24 rfl)) (by decide) (t := .boolean) (t' := (.object "java/lang/Object")) (by decide) (by decide)))
  replace F_a1_value := F_a1_value.same W3
  replace O := O.wr W3 g_a1
  have N3 := Fr.snoc X3 N2 g_a1
  replace K := K.wr W3 (Or.inl (List.mem_of_getElem? (i := 0) rfl))
  show Go p e below _ T3 (mkF m 32 #[.val (.ref a1), .val (.int (1 : Int32)), .val .null] [])
  refine Go.retV X3 hx hlk hret (hb hby d_p25_m1_32) (by decide) (by decide) e3 ?_
  exact ⟨rfl, N3, K, F_a1_reported, F_a1_value⟩
set_option maxRecDepth 65536 in
set_option maxHeartbeats 40000000 in
theorem ct_rep_init_1_ref (l : Launch) (Z : State) (a0 : Array Value) (hw : ∀ d ∈ tables_1, d.before a0 Z = true) (a1 : Addr) (a2 : Addr) (h0 : Heap) (n0 : Nat) (O : Old Z n0 h0) (E_a1 : Exa Z h0 a1 "com/example/provenara/provenara/model/Reported") (F_a1_reported : Fld Z h0 a1 "com/example/provenara/provenara/model/Reported" "reported" "Z" (.int (0 : Int32))) (F_a1_value : Fld Z h0 a1 "com/example/provenara/provenara/model/Reported" "value" "Ljava/lang/Object;" .null) (g_a1 : n0 ≤ a1) :
    Ct l (⟨"com/example/provenara/provenara/model/Reported", "<init>", "(ZLjava/lang/Object;)V"⟩ : MethodName) prog_25_method_1_code 3 none ({ frames := 2, cells := 0, slots := 0, locals := 24 } : Room) Z #[(.ref a1), (.int (1 : Int32)), (.ref a2)] h0 (fun v h L => v = none ∧ Fr n0 L ∧ Keep h0 h [a1] ∧ Fld Z h a1 "com/example/provenara/provenara/model/Reported" "reported" "Z" (.int (1 : Int32)) ∧ Fld Z h a1 "com/example/provenara/provenara/model/Reported" "value" "Ljava/lang/Object;" (.ref a2)) := by
  refine Ct.of (plainFor_of_name pn_Reported_484) ?_
  intro p e s m below meth c T0 X0 hx hby hml hown hnm hret hlk hZ e0
  have hown : s.vm.findClass "com/example/provenara/provenara/model/Reported" = some m.cls := hown
  have hml : c.maxLocals = 3 := hml
  have N0 := Fr.nil n0
  refine Go.cast (g' := mkF m 0 #[.val (.ref a1), .val (.int (1 : Int32)), .val (.ref a2)] []) (by first | (simp [entryFrame, mkF, argsToLocals, Value.category]; done) | rfl) ?_
  have K : Keep h0 h0 [a1] := Keep.refl _ _
  refine Go.by (T' := T0) (g' := (mkF m 1 #[.val (.ref a1), .val (.int (1 : Int32)), .val (.ref a2)] [(.ref a1)])) (fun t k => ?_) ?_
  · show Steps p.tables e below (T0.setTop (mkF m 0 #[.val (.ref a1), .val (.int (1 : Int32)), .val (.ref a2)] [])) _
    refine XS.aloadN X0.here hx rfl (hb hby d_p25_m1_0) rfl rfl ?_
    exact k
  refine Go.callC X0 hx hZ (W := 0) (argsL := []) (rest := []) hown rfl (wd hw 13 rfl) (wd hw 14 rfl) (wd hw 16 rfl) (wd hw 17 rfl) (by decide) (ct_rec_init l Z a0 hw  a1 h0 n0 O ) e0 (by rw [hml]; rfl) (lenOf pd___V_8334 rfl) rfl rfl (hb hby d_p25_m1_1) (by decide) (by decide) (by decide) (by decide) ?_
  intro v1 T1 h1 L1 X1 e1 q1
  obtain ⟨rfl, N1, rfl⟩ := q1
  replace N1 := Fr.app N0 N1
  show Go p e below _ T1 (mkF m 4 #[.val (.ref a1), .val (.int (1 : Int32)), .val (.ref a2)] [])
  refine Go.by (T' := T1) (g' := (mkF m 24 #[.val (.ref a1), .val (.int (1 : Int32)), .val (.ref a2)] [(.int (1 : Int32)), (.ref a1)])) (fun t k => ?_) ?_
  · show Steps p.tables e below (T1.setTop (mkF m 4 #[.val (.ref a1), .val (.int (1 : Int32)), .val (.ref a2)] [])) _
    refine XS.iloadN X1.here hx rfl (hb hby d_p25_m1_4) rfl ?_
    show Steps p.tables e below (T1.setTop (mkF m 5 #[.val (.ref a1), .val (.int (1 : Int32)), .val (.ref a2)] [(.int (1 : Int32))])) _
    refine XS.ifYes X1.here hx rfl (pc0 := 5) (pc' := 22) rfl (hb hby d_p25_m1_5) rfl ((if0 _ _).trans (feq (by decide : ¬ (1 : Int32) = (0 : Int32))).2) (by decide) (by decide) ?_
    show Steps p.tables e below (T1.setTop (mkF m 22 #[.val (.ref a1), .val (.int (1 : Int32)), .val (.ref a2)] [])) _
    refine XS.aloadN X1.here hx rfl (hb hby d_p25_m1_22) rfl rfl ?_
    show Steps p.tables e below (T1.setTop (mkF m 23 #[.val (.ref a1), .val (.int (1 : Int32)), .val (.ref a2)] [(.ref a1)])) _
    refine XS.iloadN X1.here hx rfl (hb hby d_p25_m1_23) rfl ?_
    exact k
  refine Go.putF X1 hx hZ hown (wd hw 21 rfl) Via.refl e1 F_a1_reported E_a1 (Or.inr ⟨(wd hw 22 rfl), rfl, hnm⟩) (wd hw 8 rfl) (ty := .boolean) (by decide) rfl rfl (hb hby d_p25_m1_24) ?_
  intro T2 h2 X2 e2 W2
  replace E_a1 := E_a1.wr W2
  replace F_a1_reported := F_a1_reported.same W2
  replace F_a1_value := F_a1_value.other W2 (Or.inr (slot_ne (a0 := a0) (Or.inr (wd hw 24 rfl)) (Or.inr (wd hw 22 rfl)) (by decide) (t := (.object "java/lang/Object")) (t' := .boolean) (by decide) (by decide)))
  replace O := O.wr W2 g_a1
  have N2 := Fr.snoc X2 N1 g_a1
  replace K := K.wr W2 (Or.inl (List.mem_of_getElem? (i := 0) rfl))
  show Go p e below _ T2 (mkF m 27 #[.val (.ref a1), .val (.int (1 : Int32)), .val (.ref a2)] [])
  refine Go.by (T' := T2) (g' := (mkF m 29 #[.val (.ref a1), .val (.int (1 : Int32)), .val (.ref a2)] [(.ref a2), (.ref a1)])) (fun t k => ?_) ?_
  · show Steps p.tables e below (T2.setTop (mkF m 27 #[.val (.ref a1), .val (.int (1 : Int32)), .val (.ref a2)] [])) _
    refine XS.aloadN X2.here hx rfl (hb hby d_p25_m1_27) rfl rfl ?_
    show Steps p.tables e below (T2.setTop (mkF m 28 #[.val (.ref a1), .val (.int (1 : Int32)), .val (.ref a2)] [(.ref a1)])) _
    refine XS.aloadN X2.here hx rfl (hb hby d_p25_m1_28) rfl rfl ?_
    exact k
  refine Go.putF X2 hx hZ hown (wd hw 23 rfl) Via.refl e2 F_a1_value E_a1 (Or.inr ⟨(wd hw 24 rfl), rfl, hnm⟩) (wd hw 8 rfl) (ty := (.object "java/lang/Object")) (by decide) rfl rfl (hb hby d_p25_m1_29) ?_
  intro T3 h3 X3 e3 W3
  replace E_a1 := E_a1.wr W3
  replace F_a1_reported := F_a1_reported.other W3 (Or.inr (slot_ne (a0 := a0) (Or.inr (wd hw 22 rfl)) (Or.inr (wd hw 24 rfl)) (by decide) (t := .boolean) (t' := (.object "java/lang/Object")) (by decide) (by decide)))
  replace F_a1_value := F_a1_value.same W3
  replace O := O.wr W3 g_a1
  have N3 := Fr.snoc X3 N2 g_a1
  replace K := K.wr W3 (Or.inl (List.mem_of_getElem? (i := 0) rfl))
  show Go p e below _ T3 (mkF m 32 #[.val (.ref a1), .val (.int (1 : Int32)), .val (.ref a2)] [])
  refine Go.retV X3 hx hlk hret (hb hby d_p25_m1_32) (by decide) (by decide) e3 ?_
  exact ⟨rfl, N3, K, F_a1_reported, F_a1_value⟩
set_option maxRecDepth 65536 in
set_option maxHeartbeats 40000000 in
theorem ct_orElse_ref_ref (l : Launch) (Z : State) (a0 : Array Value) (hw : ∀ d ∈ tables_1, d.before a0 Z = true) (a1 : Addr) (a2 : Addr) (a3 : Addr) (h0 : Heap) (n0 : Nat) (O : Old Z n0 h0) (F_a1_value : Fld Z h0 a1 "com/example/provenara/provenara/model/Reported" "value" "Ljava/lang/Object;" (.ref a2)) :
    Ct l (⟨"com/example/provenara/provenara/model/Reported", "orElse", "(Ljava/lang/Object;)Ljava/lang/Object;"⟩ : MethodName) prog_25_method_5_code 2 (some (.object "java/lang/Object")) ({ frames := 0, cells := 0, slots := 0, locals := 0 } : Room) Z #[(.ref a1), (.ref a3)] h0 (fun v h L => v = some (.ref a2) ∧ Fr n0 L ∧ h0 = h) := by
  refine Ct.of (plainFor_of_name pn_Reported_484) ?_
  intro p e s m below meth c T0 X0 hx hby hml hown hnm hret hlk hZ e0
  have hown : s.vm.findClass "com/example/provenara/provenara/model/Reported" = some m.cls := hown
  have hml : c.maxLocals = 2 := hml
  have N0 := Fr.nil n0
  refine Go.cast (g' := mkF m 0 #[.val (.ref a1), .val (.ref a3)] []) (by first | (simp [entryFrame, mkF, argsToLocals, Value.category]; done) | rfl) ?_
  refine Go.by (T' := T0) (g' := (mkF m 1 #[.val (.ref a1), .val (.ref a3)] [(.ref a1)])) (fun t k => ?_) ?_
  · show Steps p.tables e below (T0.setTop (mkF m 0 #[.val (.ref a1), .val (.ref a3)] [])) _
    refine XS.aloadN X0.here hx rfl (hb hby d_p25_m5_0) rfl rfl ?_
    exact k
  refine Go.getF X0 hx hZ hown (wd hw 23 rfl) Via.refl e0 F_a1_value (hb hby d_p25_m5_1) ?_
  intro T1 X1 e1
  show Go p e below _ T1 (mkF m 4 #[.val (.ref a1), .val (.ref a3)] [(.ref a2)])
  refine Go.by (T' := T1) (g' := (mkF m 12 #[.val (.ref a1), .val (.ref a3)] [(.ref a1)])) (fun t k => ?_) ?_
  · show Steps p.tables e below (T1.setTop (mkF m 4 #[.val (.ref a1), .val (.ref a3)] [(.ref a2)])) _
    refine XS.ifnonnullYes X1.here hx rfl (pc0 := 4) (pc' := 11) rfl (hb hby d_p25_m5_4) rfl (by decide) (by decide) ?_
    show Steps p.tables e below (T1.setTop (mkF m 11 #[.val (.ref a1), .val (.ref a3)] [])) _
    refine XS.aloadN X1.here hx rfl (hb hby d_p25_m5_11) rfl rfl ?_
    exact k
  refine Go.getF X1 hx hZ hown (wd hw 23 rfl) Via.refl e1 F_a1_value (hb hby d_p25_m5_12) ?_
  intro T2 X2 e2
  show Go p e below _ T2 (mkF m 15 #[.val (.ref a1), .val (.ref a3)] [(.ref a2)])
  refine Go.retA X2 hx hlk hret rfl rfl (hb hby d_p25_m5_15) (by decide) (by decide) e2 ?_
  exact ⟨rfl, N0, rfl⟩
set_option maxRecDepth 65536 in
set_option maxHeartbeats 40000000 in
theorem ct_orElse_ref_null (l : Launch) (Z : State) (a0 : Array Value) (hw : ∀ d ∈ tables_1, d.before a0 Z = true) (a1 : Addr) (a2 : Addr) (h0 : Heap) (n0 : Nat) (O : Old Z n0 h0) (F_a1_value : Fld Z h0 a1 "com/example/provenara/provenara/model/Reported" "value" "Ljava/lang/Object;" (.ref a2)) :
    Ct l (⟨"com/example/provenara/provenara/model/Reported", "orElse", "(Ljava/lang/Object;)Ljava/lang/Object;"⟩ : MethodName) prog_25_method_5_code 2 (some (.object "java/lang/Object")) ({ frames := 0, cells := 0, slots := 0, locals := 0 } : Room) Z #[(.ref a1), .null] h0 (fun v h L => v = some (.ref a2) ∧ Fr n0 L ∧ h0 = h) := by
  refine Ct.of (plainFor_of_name pn_Reported_484) ?_
  intro p e s m below meth c T0 X0 hx hby hml hown hnm hret hlk hZ e0
  have hown : s.vm.findClass "com/example/provenara/provenara/model/Reported" = some m.cls := hown
  have hml : c.maxLocals = 2 := hml
  have N0 := Fr.nil n0
  refine Go.cast (g' := mkF m 0 #[.val (.ref a1), .val .null] []) (by first | (simp [entryFrame, mkF, argsToLocals, Value.category]; done) | rfl) ?_
  refine Go.by (T' := T0) (g' := (mkF m 1 #[.val (.ref a1), .val .null] [(.ref a1)])) (fun t k => ?_) ?_
  · show Steps p.tables e below (T0.setTop (mkF m 0 #[.val (.ref a1), .val .null] [])) _
    refine XS.aloadN X0.here hx rfl (hb hby d_p25_m5_0) rfl rfl ?_
    exact k
  refine Go.getF X0 hx hZ hown (wd hw 23 rfl) Via.refl e0 F_a1_value (hb hby d_p25_m5_1) ?_
  intro T1 X1 e1
  show Go p e below _ T1 (mkF m 4 #[.val (.ref a1), .val .null] [(.ref a2)])
  refine Go.by (T' := T1) (g' := (mkF m 12 #[.val (.ref a1), .val .null] [(.ref a1)])) (fun t k => ?_) ?_
  · show Steps p.tables e below (T1.setTop (mkF m 4 #[.val (.ref a1), .val .null] [(.ref a2)])) _
    refine XS.ifnonnullYes X1.here hx rfl (pc0 := 4) (pc' := 11) rfl (hb hby d_p25_m5_4) rfl (by decide) (by decide) ?_
    show Steps p.tables e below (T1.setTop (mkF m 11 #[.val (.ref a1), .val .null] [])) _
    refine XS.aloadN X1.here hx rfl (hb hby d_p25_m5_11) rfl rfl ?_
    exact k
  refine Go.getF X1 hx hZ hown (wd hw 23 rfl) Via.refl e1 F_a1_value (hb hby d_p25_m5_12) ?_
  intro T2 X2 e2
  show Go p e below _ T2 (mkF m 15 #[.val (.ref a1), .val .null] [(.ref a2)])
  refine Go.retA X2 hx hlk hret rfl rfl (hb hby d_p25_m5_15) (by decide) (by decide) e2 ?_
  exact ⟨rfl, N0, rfl⟩
set_option maxRecDepth 65536 in
set_option maxHeartbeats 40000000 in
theorem ct_law (l : Launch) (Z : State) (a0 : Array Value) (hw : ∀ d ∈ tables_1, d.before a0 Z = true) (w_cache : Addr) (cl_cache : Cell) (S_cache : Sta Z Z.heap "java/lang/Integer$IntegerCache" "cache" "[Ljava/lang/Integer;" (.ref w_cache)) (B_cache : Bxs Z w_cache cl_cache "java/lang/Integer" "I" (256 : Int32) (fun j => .int (j - 128))) (S_high : Sta Z Z.heap "java/lang/Integer$IntegerCache" "high" "I" (.int 127)) (p0 : Int32) (p1 : Int32) (p2 : Int32) (h0 : Heap) (n0 : Nat) (O : Old Z n0 h0)  :
    Ct l x code maxLocals ret room_1 Z #[(.int p0), (.int p1), (.int p2)] h0 (fun v h L => v = some (.int 1) ∧ Fr n0 L) := by
  refine Ct.of (plainFor_of_name pn_ReportedOrElsePinLaw_317) ?_
  intro p e s m below meth c T0 X0 hx hby hml hown hnm hret hlk hZ e0
  have hown : s.vm.findClass "com/example/provenara/provenara/model/ReportedOrElsePinLaw" = some m.cls := hown
  have hml : c.maxLocals = 10 := hml
  have N0 := Fr.nil n0
  refine Go.cast (g' := mkF m 0 #[.val (.int p0), .val (.int p1), .val (.int p2), .unset, .unset, .unset, .unset, .unset, .unset, .unset] []) (by first | (simp [entryFrame, mkF, argsToLocals, Value.category, maxLocals]; done) | rfl) ?_
  refine Go.by (T' := T0) (g' := (mkF m 6 #[.val (.int p0), .val (.int p1), .val (.int p2), .val (.int (p2 &&& (3 : Int32))), .unset, .unset, .unset, .unset, .unset, .unset] [(.int (2 : Int32)), (.int (p2 &&& (3 : Int32)))])) (fun t k => ?_) ?_
  · show Steps p.tables e below (T0.setTop (mkF m 0 #[.val (.int p0), .val (.int p1), .val (.int p2), .unset, .unset, .unset, .unset, .unset, .unset, .unset] [])) _
    refine XS.iloadN X0.here hx rfl (hb hby at_0) rfl ?_
    show Steps p.tables e below (T0.setTop (mkF m 1 #[.val (.int p0), .val (.int p1), .val (.int p2), .unset, .unset, .unset, .unset, .unset, .unset, .unset] [(.int p2)])) _
    refine XS.iconst X0.here hx rfl (hb hby at_1) ?_
    show Steps p.tables e below (T0.setTop (mkF m 2 #[.val (.int p0), .val (.int p1), .val (.int p2), .unset, .unset, .unset, .unset, .unset, .unset, .unset] [(.int (3 : Int32)), (.int p2)])) _
    refine XS.iand X0.here hx rfl (hb hby at_2) rfl ?_
    show Steps p.tables e below (T0.setTop (mkF m 3 #[.val (.int p0), .val (.int p1), .val (.int p2), .unset, .unset, .unset, .unset, .unset, .unset, .unset] [(.int (p2 &&& (3 : Int32)))])) _
    refine XS.istoreN X0.here hx rfl (hb hby at_3) rfl (l' := #[.val (.int p0), .val (.int p1), .val (.int p2), .val (.int (p2 &&& (3 : Int32))), .unset, .unset, .unset, .unset, .unset, .unset]) rfl ?_
    show Steps p.tables e below (T0.setTop (mkF m 4 #[.val (.int p0), .val (.int p1), .val (.int p2), .val (.int (p2 &&& (3 : Int32))), .unset, .unset, .unset, .unset, .unset, .unset] [])) _
    refine XS.iloadN X0.here hx rfl (hb hby at_4) rfl ?_
    show Steps p.tables e below (T0.setTop (mkF m 5 #[.val (.int p0), .val (.int p1), .val (.int p2), .val (.int (p2 &&& (3 : Int32))), .unset, .unset, .unset, .unset, .unset, .unset] [(.int (p2 &&& (3 : Int32)))])) _
    refine XS.iconst X0.here hx rfl (hb hby at_5) ?_
    exact k
  by_cases hy1 : (p2 &&& (3 : Int32)) < (2 : Int32)
  · skip
    refine Go.by (T' := T0) (g' := (mkF m 17 #[.val (.int p0), .val (.int p1), .val (.int p2), .val (.int (p2 &&& (3 : Int32))), .val (.int (0 : Int32)), .unset, .unset, .unset, .unset, .unset] [(.int (p2 &&& (3 : Int32)))])) (fun t k => ?_) ?_
    · show Steps p.tables e below (T0.setTop (mkF m 6 #[.val (.int p0), .val (.int p1), .val (.int p2), .val (.int (p2 &&& (3 : Int32))), .unset, .unset, .unset, .unset, .unset, .unset] [(.int (2 : Int32)), (.int (p2 &&& (3 : Int32)))])) _
      refine XS.icmpYes X0.here hx rfl (pc0 := 6) (pc' := 13) rfl (hb hby at_6) rfl (tlt hy1).1 (by decide) (by decide) ?_
      show Steps p.tables e below (T0.setTop (mkF m 13 #[.val (.int p0), .val (.int p1), .val (.int p2), .val (.int (p2 &&& (3 : Int32))), .unset, .unset, .unset, .unset, .unset, .unset] [])) _
      refine XS.iconst X0.here hx rfl (hb hby at_13) ?_
      show Steps p.tables e below (T0.setTop (mkF m 14 #[.val (.int p0), .val (.int p1), .val (.int p2), .val (.int (p2 &&& (3 : Int32))), .unset, .unset, .unset, .unset, .unset, .unset] [(.int (0 : Int32))])) _
      refine XS.istore X0.here hx rfl (hb hby at_14) rfl (l' := #[.val (.int p0), .val (.int p1), .val (.int p2), .val (.int (p2 &&& (3 : Int32))), .val (.int (0 : Int32)), .unset, .unset, .unset, .unset, .unset]) rfl ?_
      show Steps p.tables e below (T0.setTop (mkF m 16 #[.val (.int p0), .val (.int p1), .val (.int p2), .val (.int (p2 &&& (3 : Int32))), .val (.int (0 : Int32)), .unset, .unset, .unset, .unset, .unset] [])) _
      refine XS.iloadN X0.here hx rfl (hb hby at_16) rfl ?_
      exact k
    by_cases hy2 : (p2 &&& (3 : Int32)) = (0 : Int32)
    · skip
      refine Go.by (T' := T0) (g' := (mkF m 28 #[.val (.int p0), .val (.int p1), .val (.int p2), .val (.int (p2 &&& (3 : Int32))), .val (.int (0 : Int32)), .val (.int (0 : Int32)), .unset, .unset, .unset, .unset] [(.int p0)])) (fun t k => ?_) ?_
      · show Steps p.tables e below (T0.setTop (mkF m 17 #[.val (.int p0), .val (.int p1), .val (.int p2), .val (.int (p2 &&& (3 : Int32))), .val (.int (0 : Int32)), .unset, .unset, .unset, .unset, .unset] [(.int (p2 &&& (3 : Int32)))])) _
        refine XS.ifYes X0.here hx rfl (pc0 := 17) (pc' := 24) rfl (hb hby at_17) rfl ((if0 _ _).trans (teq hy2).1) (by decide) (by decide) ?_
        show Steps p.tables e below (T0.setTop (mkF m 24 #[.val (.int p0), .val (.int p1), .val (.int p2), .val (.int (p2 &&& (3 : Int32))), .val (.int (0 : Int32)), .unset, .unset, .unset, .unset, .unset] [])) _
        refine XS.iconst X0.here hx rfl (hb hby at_24) ?_
        show Steps p.tables e below (T0.setTop (mkF m 25 #[.val (.int p0), .val (.int p1), .val (.int p2), .val (.int (p2 &&& (3 : Int32))), .val (.int (0 : Int32)), .unset, .unset, .unset, .unset, .unset] [(.int (0 : Int32))])) _
        refine XS.istore X0.here hx rfl (hb hby at_25) rfl (l' := #[.val (.int p0), .val (.int p1), .val (.int p2), .val (.int (p2 &&& (3 : Int32))), .val (.int (0 : Int32)), .val (.int (0 : Int32)), .unset, .unset, .unset, .unset]) rfl ?_
        show Steps p.tables e below (T0.setTop (mkF m 27 #[.val (.int p0), .val (.int p1), .val (.int p2), .val (.int (p2 &&& (3 : Int32))), .val (.int (0 : Int32)), .val (.int (0 : Int32)), .unset, .unset, .unset, .unset] [])) _
        refine XS.iloadN X0.here hx rfl (hb hby at_27) rfl ?_
        exact k
      refine Go.callS X0 hx hZ (W := 0) (argsL := [(.int p0)]) (rest := []) hown (wd hw 0 rfl) (wd hw 1 rfl) (wd hw 2 rfl) (wd hw 3 rfl) (by decide) (ct_valueOf l Z a0 hw w_cache cl_cache S_cache B_cache S_high p0 h0 n0 O ) e0 (by rw [hml]; rfl) (lenOf pd__I_Ljava_lang_Integer__4068 rfl) rfl rfl (hb hby at_28) (by decide) (by decide) (by decide) (by decide) ?_
      intro v3 T3 h3 L3 X3 e3 q3
      obtain ⟨bx3, rfl, N3, K3, E_bx3, F_bx3, hbx3⟩ := q3
      replace N3 := Fr.app N0 N3
      replace O := O.keep K3 all0
      show Go p e below _ T3 (mkF m 31 #[.val (.int p0), .val (.int p1), .val (.int p2), .val (.int (p2 &&& (3 : Int32))), .val (.int (0 : Int32)), .val (.int (0 : Int32)), .unset, .unset, .unset, .unset] [(.ref bx3)])
      refine Go.by (T' := T3) (g' := (mkF m 36 #[.val (.int p0), .val (.int p1), .val (.int p2), .val (.int (p2 &&& (3 : Int32))), .val (.int (0 : Int32)), .val (.int (0 : Int32)), .val (.ref bx3), .unset, .unset, .unset] [(.int (p2 &&& (4 : Int32)))])) (fun t k => ?_) ?_
      · show Steps p.tables e below (T3.setTop (mkF m 31 #[.val (.int p0), .val (.int p1), .val (.int p2), .val (.int (p2 &&& (3 : Int32))), .val (.int (0 : Int32)), .val (.int (0 : Int32)), .unset, .unset, .unset, .unset] [(.ref bx3)])) _
        refine XS.astore X3.here hx rfl (hb hby at_31) rfl rfl (l' := #[.val (.int p0), .val (.int p1), .val (.int p2), .val (.int (p2 &&& (3 : Int32))), .val (.int (0 : Int32)), .val (.int (0 : Int32)), .val (.ref bx3), .unset, .unset, .unset]) rfl ?_
        show Steps p.tables e below (T3.setTop (mkF m 33 #[.val (.int p0), .val (.int p1), .val (.int p2), .val (.int (p2 &&& (3 : Int32))), .val (.int (0 : Int32)), .val (.int (0 : Int32)), .val (.ref bx3), .unset, .unset, .unset] [])) _
        refine XS.iloadN X3.here hx rfl (hb hby at_33) rfl ?_
        show Steps p.tables e below (T3.setTop (mkF m 34 #[.val (.int p0), .val (.int p1), .val (.int p2), .val (.int (p2 &&& (3 : Int32))), .val (.int (0 : Int32)), .val (.int (0 : Int32)), .val (.ref bx3), .unset, .unset, .unset] [(.int p2)])) _
        refine XS.iconst X3.here hx rfl (hb hby at_34) ?_
        show Steps p.tables e below (T3.setTop (mkF m 35 #[.val (.int p0), .val (.int p1), .val (.int p2), .val (.int (p2 &&& (3 : Int32))), .val (.int (0 : Int32)), .val (.int (0 : Int32)), .val (.ref bx3), .unset, .unset, .unset] [(.int (4 : Int32)), (.int p2)])) _
        refine XS.iand X3.here hx rfl (hb hby at_35) rfl ?_
        exact k
      by_cases hy4 : (p2 &&& (4 : Int32)) = (0 : Int32)
      · skip
        refine Go.by (T' := T3) (g' := (mkF m 44 #[.val (.int p0), .val (.int p1), .val (.int p2), .val (.int (p2 &&& (3 : Int32))), .val (.int (0 : Int32)), .val (.int (0 : Int32)), .val (.ref bx3), .unset, .unset, .unset] [(.int p1)])) (fun t k => ?_) ?_
        · show Steps p.tables e below (T3.setTop (mkF m 36 #[.val (.int p0), .val (.int p1), .val (.int p2), .val (.int (p2 &&& (3 : Int32))), .val (.int (0 : Int32)), .val (.int (0 : Int32)), .val (.ref bx3), .unset, .unset, .unset] [(.int (p2 &&& (4 : Int32)))])) _
          refine XS.ifYes X3.here hx rfl (pc0 := 36) (pc' := 43) rfl (hb hby at_36) rfl ((if0 _ _).trans (teq hy4).1) (by decide) (by decide) ?_
          show Steps p.tables e below (T3.setTop (mkF m 43 #[.val (.int p0), .val (.int p1), .val (.int p2), .val (.int (p2 &&& (3 : Int32))), .val (.int (0 : Int32)), .val (.int (0 : Int32)), .val (.ref bx3), .unset, .unset, .unset] [])) _
          refine XS.iloadN X3.here hx rfl (hb hby at_43) rfl ?_
          exact k
        refine Go.callS X3 hx hZ (W := 0) (argsL := [(.int p1)]) (rest := []) hown (wd hw 0 rfl) (wd hw 1 rfl) (wd hw 2 rfl) (wd hw 3 rfl) (by decide) (ct_valueOf l Z a0 hw w_cache cl_cache S_cache B_cache S_high p1 h3 n0 O ) e3 (by rw [hml]; rfl) (lenOf pd__I_Ljava_lang_Integer__4068 rfl) rfl rfl (hb hby at_44) (by decide) (by decide) (by decide) (by decide) ?_
        intro v5 T5 h5 L5 X5 e5 q5
        obtain ⟨bx5, rfl, N5, K5, E_bx5, F_bx5, hbx5⟩ := q5
        replace N5 := Fr.app N3 N5
        replace E_bx3 := E_bx3.keep K5
        replace F_bx3 := F_bx3.keep K5 nin0
        replace O := O.keep K5 all0
        show Go p e below _ T5 (mkF m 47 #[.val (.int p0), .val (.int p1), .val (.int p2), .val (.int (p2 &&& (3 : Int32))), .val (.int (0 : Int32)), .val (.int (0 : Int32)), .val (.ref bx3), .unset, .unset, .unset] [(.ref bx5)])
        refine Go.by (T' := T5) (g' := (mkF m 49 #[.val (.int p0), .val (.int p1), .val (.int p2), .val (.int (p2 &&& (3 : Int32))), .val (.int (0 : Int32)), .val (.int (0 : Int32)), .val (.ref bx3), .val (.ref bx5), .unset, .unset] [])) (fun t k => ?_) ?_
        · show Steps p.tables e below (T5.setTop (mkF m 47 #[.val (.int p0), .val (.int p1), .val (.int p2), .val (.int (p2 &&& (3 : Int32))), .val (.int (0 : Int32)), .val (.int (0 : Int32)), .val (.ref bx3), .unset, .unset, .unset] [(.ref bx5)])) _
          refine XS.astore X5.here hx rfl (hb hby at_47) rfl rfl (l' := #[.val (.int p0), .val (.int p1), .val (.int p2), .val (.int (p2 &&& (3 : Int32))), .val (.int (0 : Int32)), .val (.int (0 : Int32)), .val (.ref bx3), .val (.ref bx5), .unset, .unset]) rfl ?_
          exact k
        refine Go.newO X5 hx hZ hown (wd hw 7 rfl) (wd hw 8 rfl) (wd hw 9 rfl) e5 (hb hby at_49) (by decide) (by decide) ?_
        intro T6 h6 b6 X6 e6 E6 g6 A6 D6
        have lb6 := Nat.le_of_eq g6.symm
        have ne_bx3_b6 : bx3 ≠ b6 := Nat.ne_of_lt (Nat.lt_of_lt_of_le E_bx3.lt lb6)
        have ne_bx5_b6 : bx5 ≠ b6 := Nat.ne_of_lt (Nat.lt_of_lt_of_le E_bx5.lt lb6)
        have g_b6 : n0 ≤ b6 := Nat.le_trans (OwnKit.Old.le O) lb6
        replace E_bx3 := E_bx3.ext E6
        replace F_bx3 := F_bx3.ext E6
        replace E_bx5 := E_bx5.ext E6
        replace F_bx5 := F_bx5.ext E6
        replace O := O.ext E6
        have E_b6 := A6
        have F_b6_reported : Fld Z h6 b6 "com/example/provenara/provenara/model/Reported" "reported" "Z" (.int (0 : Int32)) := D6 (Or.inr (wd hw 22 rfl)) (ty := .boolean) (by decide)
        have F_b6_value : Fld Z h6 b6 "com/example/provenara/provenara/model/Reported" "value" "Ljava/lang/Object;" .null := D6 (Or.inr (wd hw 24 rfl)) (ty := (.object "java/lang/Object")) (by decide)
        show Go p e below _ T6 (mkF m 52 #[.val (.int p0), .val (.int p1), .val (.int p2), .val (.int (p2 &&& (3 : Int32))), .val (.int (0 : Int32)), .val (.int (0 : Int32)), .val (.ref bx3), .val (.ref bx5), .unset, .unset] [(.ref b6)])
        refine Go.by (T' := T6) (g' := (mkF m 66 #[.val (.int p0), .val (.int p1), .val (.int p2), .val (.int (p2 &&& (3 : Int32))), .val (.int (0 : Int32)), .val (.int (0 : Int32)), .val (.ref bx3), .val (.ref bx5), .unset, .unset] [.null, (.int (0 : Int32)), (.ref b6), (.ref b6)])) (fun t k => ?_) ?_
        · show Steps p.tables e below (T6.setTop (mkF m 52 #[.val (.int p0), .val (.int p1), .val (.int p2), .val (.int (p2 &&& (3 : Int32))), .val (.int (0 : Int32)), .val (.int (0 : Int32)), .val (.ref bx3), .val (.ref bx5), .unset, .unset] [(.ref b6)])) _
          refine XS.dup X6.here hx rfl (hb hby at_52) rfl rfl ?_
          show Steps p.tables e below (T6.setTop (mkF m 53 #[.val (.int p0), .val (.int p1), .val (.int p2), .val (.int (p2 &&& (3 : Int32))), .val (.int (0 : Int32)), .val (.int (0 : Int32)), .val (.ref bx3), .val (.ref bx5), .unset, .unset] [(.ref b6), (.ref b6)])) _
          refine XS.iload X6.here hx rfl (hb hby at_53) rfl ?_
          show Steps p.tables e below (T6.setTop (mkF m 55 #[.val (.int p0), .val (.int p1), .val (.int p2), .val (.int (p2 &&& (3 : Int32))), .val (.int (0 : Int32)), .val (.int (0 : Int32)), .val (.ref bx3), .val (.ref bx5), .unset, .unset] [(.int (0 : Int32)), (.ref b6), (.ref b6)])) _
          refine XS.iload X6.here hx rfl (hb hby at_55) rfl ?_
          show Steps p.tables e below (T6.setTop (mkF m 57 #[.val (.int p0), .val (.int p1), .val (.int p2), .val (.int (p2 &&& (3 : Int32))), .val (.int (0 : Int32)), .val (.int (0 : Int32)), .val (.ref bx3), .val (.ref bx5), .unset, .unset] [(.int (0 : Int32)), (.int (0 : Int32)), (.ref b6), (.ref b6)])) _
          refine XS.ifYes X6.here hx rfl (pc0 := 57) (pc' := 65) rfl (hb hby at_57) rfl ((if0 _ _).trans (teq (by decide : (0 : Int32) = (0 : Int32))).1) (by decide) (by decide) ?_
          show Steps p.tables e below (T6.setTop (mkF m 65 #[.val (.int p0), .val (.int p1), .val (.int p2), .val (.int (p2 &&& (3 : Int32))), .val (.int (0 : Int32)), .val (.int (0 : Int32)), .val (.ref bx3), .val (.ref bx5), .unset, .unset] [(.int (0 : Int32)), (.ref b6), (.ref b6)])) _
          refine XS.aconstNull X6.here hx rfl (hb hby at_65) ?_
          exact k
        refine Go.callC X6 hx hZ (W := 1) (argsL := [(.int (0 : Int32)), .null]) (rest := [(.ref b6)]) hown rfl (wd hw 10 rfl) (wd hw 11 rfl) (wd hw 9 rfl) (wd hw 12 rfl) (by decide) (ct_rep_init_0_null l Z a0 hw  b6 h6 n0 O E_b6 F_b6_reported F_b6_value g_b6) e6 (by rw [hml]; rfl) (lenOf pd__ZLjava_lang_Object__V_5641 rfl) rfl rfl (hb hby at_66) (by decide) (by decide) (by decide) (by decide) ?_
        intro v7 T7 h7 L7 X7 e7 q7
        obtain ⟨rfl, N7, K7, Fr_7, Fv_7⟩ := q7
        replace N7 := Fr.app N5 N7
        replace E_bx3 := E_bx3.keep K7
        replace F_bx3 := F_bx3.keep K7 (ninS ne_bx3_b6 nin0)
        replace E_bx5 := E_bx5.keep K7
        replace F_bx5 := F_bx5.keep K7 (ninS ne_bx5_b6 nin0)
        replace E_b6 := E_b6.keep K7
        clear F_b6_reported
        clear F_b6_value
        replace O := O.keep K7 (allS g_b6 all0)
        show Go p e below _ T7 (mkF m 69 #[.val (.int p0), .val (.int p1), .val (.int p2), .val (.int (p2 &&& (3 : Int32))), .val (.int (0 : Int32)), .val (.int (0 : Int32)), .val (.ref bx3), .val (.ref bx5), .unset, .unset] [(.ref b6)])
        refine Go.by (T' := T7) (g' := (mkF m 75 #[.val (.int p0), .val (.int p1), .val (.int p2), .val (.int (p2 &&& (3 : Int32))), .val (.int (0 : Int32)), .val (.int (0 : Int32)), .val (.ref bx3), .val (.ref bx5), .val (.ref b6), .unset] [(.ref bx5), (.ref b6)])) (fun t k => ?_) ?_
        · show Steps p.tables e below (T7.setTop (mkF m 69 #[.val (.int p0), .val (.int p1), .val (.int p2), .val (.int (p2 &&& (3 : Int32))), .val (.int (0 : Int32)), .val (.int (0 : Int32)), .val (.ref bx3), .val (.ref bx5), .unset, .unset] [(.ref b6)])) _
          refine XS.astore X7.here hx rfl (hb hby at_69) rfl rfl (l' := #[.val (.int p0), .val (.int p1), .val (.int p2), .val (.int (p2 &&& (3 : Int32))), .val (.int (0 : Int32)), .val (.int (0 : Int32)), .val (.ref bx3), .val (.ref bx5), .val (.ref b6), .unset]) rfl ?_
          show Steps p.tables e below (T7.setTop (mkF m 71 #[.val (.int p0), .val (.int p1), .val (.int p2), .val (.int (p2 &&& (3 : Int32))), .val (.int (0 : Int32)), .val (.int (0 : Int32)), .val (.ref bx3), .val (.ref bx5), .val (.ref b6), .unset] [])) _
          refine XS.aload X7.here hx rfl (hb hby at_71) rfl rfl ?_
          show Steps p.tables e below (T7.setTop (mkF m 73 #[.val (.int p0), .val (.int p1), .val (.int p2), .val (.int (p2 &&& (3 : Int32))), .val (.int (0 : Int32)), .val (.int (0 : Int32)), .val (.ref bx3), .val (.ref bx5), .val (.ref b6), .unset] [(.ref b6)])) _
          refine XS.aload X7.here hx rfl (hb hby at_73) rfl rfl ?_
          exact k
        refine Go.callV X7 hx hZ (W := 0) (argsL := [(.ref bx5)]) (rest := []) hown (wd hw 25 rfl) (wd hw 26 rfl) (notFace_of_selects (args := #[]) (mvT hZ (wd hw 28 rfl))) (wd hw 28 rfl) (wd hw 27 rfl) (wd hw 9 rfl) (wd hw 29 rfl) (by decide) E_b6 (ct_orElse_null_ref l Z a0 hw  b6 bx5 h7 n0 O Fv_7) e7 (by rw [hml]; rfl) (lenOf pd__Ljava_lang_Object__Ljava_lang_Object__4766 rfl) rfl rfl (hb hby at_75) (by decide) (by decide) (by decide) (by decide) ?_
        intro v8 T8 h8 L8 X8 e8 q8
        obtain ⟨rfl, N8, rfl⟩ := q8
        replace N8 := Fr.app N7 N8
        show Go p e below _ T8 (mkF m 78 #[.val (.int p0), .val (.int p1), .val (.int p2), .val (.int (p2 &&& (3 : Int32))), .val (.int (0 : Int32)), .val (.int (0 : Int32)), .val (.ref bx3), .val (.ref bx5), .val (.ref b6), .unset] [(.ref bx5)])
        refine Go.castY X8 hx hZ hown (wd hw 30 rfl) e8 (Ins.self E_bx5) (hb hby at_78) ?_
        intro T9 X9 e9
        show Go p e below _ T9 (mkF m 81 #[.val (.int p0), .val (.int p1), .val (.int p2), .val (.int (p2 &&& (3 : Int32))), .val (.int (0 : Int32)), .val (.int (0 : Int32)), .val (.ref bx3), .val (.ref bx5), .val (.ref b6), .unset] [(.ref bx5)])
        refine Go.by (T' := T9) (g' := (mkF m 140 #[.val (.int p0), .val (.int p1), .val (.int p2), .val (.int (p2 &&& (3 : Int32))), .val (.int (0 : Int32)), .val (.int (0 : Int32)), .val (.ref bx3), .val (.ref bx5), .val (.ref b6), .val (.ref bx5)] [(.ref bx5)])) (fun t k => ?_) ?_
        · show Steps p.tables e below (T9.setTop (mkF m 81 #[.val (.int p0), .val (.int p1), .val (.int p2), .val (.int (p2 &&& (3 : Int32))), .val (.int (0 : Int32)), .val (.int (0 : Int32)), .val (.ref bx3), .val (.ref bx5), .val (.ref b6), .unset] [(.ref bx5)])) _
          refine XS.astore X9.here hx rfl (hb hby at_81) rfl rfl (l' := #[.val (.int p0), .val (.int p1), .val (.int p2), .val (.int (p2 &&& (3 : Int32))), .val (.int (0 : Int32)), .val (.int (0 : Int32)), .val (.ref bx3), .val (.ref bx5), .val (.ref b6), .val (.ref bx5)]) rfl ?_
          show Steps p.tables e below (T9.setTop (mkF m 83 #[.val (.int p0), .val (.int p1), .val (.int p2), .val (.int (p2 &&& (3 : Int32))), .val (.int (0 : Int32)), .val (.int (0 : Int32)), .val (.ref bx3), .val (.ref bx5), .val (.ref b6), .val (.ref bx5)] [])) _
          refine XS.iload X9.here hx rfl (hb hby at_83) rfl ?_
          show Steps p.tables e below (T9.setTop (mkF m 85 #[.val (.int p0), .val (.int p1), .val (.int p2), .val (.int (p2 &&& (3 : Int32))), .val (.int (0 : Int32)), .val (.int (0 : Int32)), .val (.ref bx3), .val (.ref bx5), .val (.ref b6), .val (.ref bx5)] [(.int (0 : Int32))])) _
          refine XS.ifYes X9.here hx rfl (pc0 := 85) (pc' := 115) rfl (hb hby at_85) rfl ((if0 _ _).trans (teq (by decide : (0 : Int32) = (0 : Int32))).1) (by decide) (by decide) ?_
          show Steps p.tables e below (T9.setTop (mkF m 115 #[.val (.int p0), .val (.int p1), .val (.int p2), .val (.int (p2 &&& (3 : Int32))), .val (.int (0 : Int32)), .val (.int (0 : Int32)), .val (.ref bx3), .val (.ref bx5), .val (.ref b6), .val (.ref bx5)] [])) _
          refine XS.aload X9.here hx rfl (hb hby at_115) rfl rfl ?_
          show Steps p.tables e below (T9.setTop (mkF m 117 #[.val (.int p0), .val (.int p1), .val (.int p2), .val (.int (p2 &&& (3 : Int32))), .val (.int (0 : Int32)), .val (.int (0 : Int32)), .val (.ref bx3), .val (.ref bx5), .val (.ref b6), .val (.ref bx5)] [(.ref bx5)])) _
          refine XS.ifnonnullYes X9.here hx rfl (pc0 := 117) (pc' := 131) rfl (hb hby at_117) rfl (by decide) (by decide) ?_
          show Steps p.tables e below (T9.setTop (mkF m 131 #[.val (.int p0), .val (.int p1), .val (.int p2), .val (.int (p2 &&& (3 : Int32))), .val (.int (0 : Int32)), .val (.int (0 : Int32)), .val (.ref bx3), .val (.ref bx5), .val (.ref b6), .val (.ref bx5)] [])) _
          refine XS.aload X9.here hx rfl (hb hby at_131) rfl rfl ?_
          show Steps p.tables e below (T9.setTop (mkF m 133 #[.val (.int p0), .val (.int p1), .val (.int p2), .val (.int (p2 &&& (3 : Int32))), .val (.int (0 : Int32)), .val (.int (0 : Int32)), .val (.ref bx3), .val (.ref bx5), .val (.ref b6), .val (.ref bx5)] [(.ref bx5)])) _
          refine XS.aload X9.here hx rfl (hb hby at_133) rfl rfl ?_
          show Steps p.tables e below (T9.setTop (mkF m 135 #[.val (.int p0), .val (.int p1), .val (.int p2), .val (.int (p2 &&& (3 : Int32))), .val (.int (0 : Int32)), .val (.int (0 : Int32)), .val (.ref bx3), .val (.ref bx5), .val (.ref b6), .val (.ref bx5)] [(.ref bx5), (.ref bx5)])) _
          refine Jvm.RoadKit.acmp (g := (mkF m 135 #[.val (.int p0), .val (.int p1), .val (.int p2), .val (.int (p2 &&& (3 : Int32))), .val (.int (0 : Int32)), .val (.int (0 : Int32)), .val (.ref bx3), .val (.ref bx5), .val (.ref b6), .val (.ref bx5)] [(.ref bx5), (.ref bx5)])) X9 hx rfl rfl rfl (pc0 := 135) (pc' := 138) (same := true) rfl (hb hby at_135) rfl (decide_eq_true rfl) (by decide) (by decide) ?_
          show Steps p.tables e below (T9.setTop (mkF m 138 #[.val (.int p0), .val (.int p1), .val (.int p2), .val (.int (p2 &&& (3 : Int32))), .val (.int (0 : Int32)), .val (.int (0 : Int32)), .val (.ref bx3), .val (.ref bx5), .val (.ref b6), .val (.ref bx5)] [])) _
          refine XS.aload X9.here hx rfl (hb hby at_138) rfl rfl ?_
          exact k
        refine Go.callV X9 hx hZ (W := 0) (argsL := []) (rest := []) hown (wd hw 32 rfl) (wd hw 33 rfl) (notFace_of_selects (args := #[]) (mvT hZ (wd hw 35 rfl))) (wd hw 35 rfl) (wd hw 34 rfl) (wd hw 2 rfl) (wd hw 36 rfl) (by decide) E_bx5 (ct_intValue l Z a0 hw  bx5 p1 h7 n0 O F_bx5) e9 (by rw [hml]; rfl) (lenOf pd___I_8321 rfl) rfl rfl (hb hby at_140) (by decide) (by decide) (by decide) (by decide) ?_
        intro v10 T10 h10 L10 X10 e10 q10
        obtain ⟨rfl, N10, rfl⟩ := q10
        replace N10 := Fr.app N8 N10
        show Go p e below _ T10 (mkF m 143 #[.val (.int p0), .val (.int p1), .val (.int p2), .val (.int (p2 &&& (3 : Int32))), .val (.int (0 : Int32)), .val (.int (0 : Int32)), .val (.ref bx3), .val (.ref bx5), .val (.ref b6), .val (.ref bx5)] [(.int p1)])
        refine Go.by (T' := T10) (g' := (mkF m 152 #[.val (.int p0), .val (.int p1), .val (.int p2), .val (.int (p2 &&& (3 : Int32))), .val (.int (0 : Int32)), .val (.int (0 : Int32)), .val (.ref bx3), .val (.ref bx5), .val (.ref b6), .val (.ref bx5)] [(.int (1 : Int32))])) (fun t k => ?_) ?_
        · show Steps p.tables e below (T10.setTop (mkF m 143 #[.val (.int p0), .val (.int p1), .val (.int p2), .val (.int (p2 &&& (3 : Int32))), .val (.int (0 : Int32)), .val (.int (0 : Int32)), .val (.ref bx3), .val (.ref bx5), .val (.ref b6), .val (.ref bx5)] [(.int p1)])) _
          refine XS.iloadN X10.here hx rfl (hb hby at_143) rfl ?_
          show Steps p.tables e below (T10.setTop (mkF m 144 #[.val (.int p0), .val (.int p1), .val (.int p2), .val (.int (p2 &&& (3 : Int32))), .val (.int (0 : Int32)), .val (.int (0 : Int32)), .val (.ref bx3), .val (.ref bx5), .val (.ref b6), .val (.ref bx5)] [(.int p1), (.int p1)])) _
          refine XS.icmpNo X10.here hx rfl (hb hby at_144) rfl (teq (rfl : p1 = p1)).2 ?_
          show Steps p.tables e below (T10.setTop (mkF m 147 #[.val (.int p0), .val (.int p1), .val (.int p2), .val (.int (p2 &&& (3 : Int32))), .val (.int (0 : Int32)), .val (.int (0 : Int32)), .val (.ref bx3), .val (.ref bx5), .val (.ref b6), .val (.ref bx5)] [])) _
          refine XS.iconst X10.here hx rfl (hb hby at_147) ?_
          show Steps p.tables e below (T10.setTop (mkF m 148 #[.val (.int p0), .val (.int p1), .val (.int p2), .val (.int (p2 &&& (3 : Int32))), .val (.int (0 : Int32)), .val (.int (0 : Int32)), .val (.ref bx3), .val (.ref bx5), .val (.ref b6), .val (.ref bx5)] [(.int (1 : Int32))])) _
          refine XS.goto X10.here hx rfl (pc0 := 148) (pc' := 152) rfl (hb hby at_148) (by decide) (by decide) ?_
          exact k
        refine Go.retZ X10 hx hlk hret (Or.inr rfl) (hb hby at_152) (by decide) (by decide) e10 ?_
        exact ⟨rfl, N10⟩
      · skip
        refine Go.by (T' := T3) (g' := (mkF m 49 #[.val (.int p0), .val (.int p1), .val (.int p2), .val (.int (p2 &&& (3 : Int32))), .val (.int (0 : Int32)), .val (.int (0 : Int32)), .val (.ref bx3), .val .null, .unset, .unset] [])) (fun t k => ?_) ?_
        · show Steps p.tables e below (T3.setTop (mkF m 36 #[.val (.int p0), .val (.int p1), .val (.int p2), .val (.int (p2 &&& (3 : Int32))), .val (.int (0 : Int32)), .val (.int (0 : Int32)), .val (.ref bx3), .unset, .unset, .unset] [(.int (p2 &&& (4 : Int32)))])) _
          refine XS.ifNo X3.here hx rfl (hb hby at_36) rfl ((if0 _ _).trans (feq hy4).1) ?_
          show Steps p.tables e below (T3.setTop (mkF m 39 #[.val (.int p0), .val (.int p1), .val (.int p2), .val (.int (p2 &&& (3 : Int32))), .val (.int (0 : Int32)), .val (.int (0 : Int32)), .val (.ref bx3), .unset, .unset, .unset] [])) _
          refine XS.aconstNull X3.here hx rfl (hb hby at_39) ?_
          show Steps p.tables e below (T3.setTop (mkF m 40 #[.val (.int p0), .val (.int p1), .val (.int p2), .val (.int (p2 &&& (3 : Int32))), .val (.int (0 : Int32)), .val (.int (0 : Int32)), .val (.ref bx3), .unset, .unset, .unset] [.null])) _
          refine XS.goto X3.here hx rfl (pc0 := 40) (pc' := 47) rfl (hb hby at_40) (by decide) (by decide) ?_
          show Steps p.tables e below (T3.setTop (mkF m 47 #[.val (.int p0), .val (.int p1), .val (.int p2), .val (.int (p2 &&& (3 : Int32))), .val (.int (0 : Int32)), .val (.int (0 : Int32)), .val (.ref bx3), .unset, .unset, .unset] [.null])) _
          refine XS.astore X3.here hx rfl (hb hby at_47) rfl rfl (l' := #[.val (.int p0), .val (.int p1), .val (.int p2), .val (.int (p2 &&& (3 : Int32))), .val (.int (0 : Int32)), .val (.int (0 : Int32)), .val (.ref bx3), .val .null, .unset, .unset]) rfl ?_
          exact k
        refine Go.newO X3 hx hZ hown (wd hw 7 rfl) (wd hw 8 rfl) (wd hw 9 rfl) e3 (hb hby at_49) (by decide) (by decide) ?_
        intro T11 h11 b11 X11 e11 E11 g11 A11 D11
        have lb11 := Nat.le_of_eq g11.symm
        have ne_bx3_b11 : bx3 ≠ b11 := Nat.ne_of_lt (Nat.lt_of_lt_of_le E_bx3.lt lb11)
        have g_b11 : n0 ≤ b11 := Nat.le_trans (OwnKit.Old.le O) lb11
        replace E_bx3 := E_bx3.ext E11
        replace F_bx3 := F_bx3.ext E11
        replace O := O.ext E11
        have E_b11 := A11
        have F_b11_reported : Fld Z h11 b11 "com/example/provenara/provenara/model/Reported" "reported" "Z" (.int (0 : Int32)) := D11 (Or.inr (wd hw 22 rfl)) (ty := .boolean) (by decide)
        have F_b11_value : Fld Z h11 b11 "com/example/provenara/provenara/model/Reported" "value" "Ljava/lang/Object;" .null := D11 (Or.inr (wd hw 24 rfl)) (ty := (.object "java/lang/Object")) (by decide)
        show Go p e below _ T11 (mkF m 52 #[.val (.int p0), .val (.int p1), .val (.int p2), .val (.int (p2 &&& (3 : Int32))), .val (.int (0 : Int32)), .val (.int (0 : Int32)), .val (.ref bx3), .val .null, .unset, .unset] [(.ref b11)])
        refine Go.by (T' := T11) (g' := (mkF m 66 #[.val (.int p0), .val (.int p1), .val (.int p2), .val (.int (p2 &&& (3 : Int32))), .val (.int (0 : Int32)), .val (.int (0 : Int32)), .val (.ref bx3), .val .null, .unset, .unset] [.null, (.int (0 : Int32)), (.ref b11), (.ref b11)])) (fun t k => ?_) ?_
        · show Steps p.tables e below (T11.setTop (mkF m 52 #[.val (.int p0), .val (.int p1), .val (.int p2), .val (.int (p2 &&& (3 : Int32))), .val (.int (0 : Int32)), .val (.int (0 : Int32)), .val (.ref bx3), .val .null, .unset, .unset] [(.ref b11)])) _
          refine XS.dup X11.here hx rfl (hb hby at_52) rfl rfl ?_
          show Steps p.tables e below (T11.setTop (mkF m 53 #[.val (.int p0), .val (.int p1), .val (.int p2), .val (.int (p2 &&& (3 : Int32))), .val (.int (0 : Int32)), .val (.int (0 : Int32)), .val (.ref bx3), .val .null, .unset, .unset] [(.ref b11), (.ref b11)])) _
          refine XS.iload X11.here hx rfl (hb hby at_53) rfl ?_
          show Steps p.tables e below (T11.setTop (mkF m 55 #[.val (.int p0), .val (.int p1), .val (.int p2), .val (.int (p2 &&& (3 : Int32))), .val (.int (0 : Int32)), .val (.int (0 : Int32)), .val (.ref bx3), .val .null, .unset, .unset] [(.int (0 : Int32)), (.ref b11), (.ref b11)])) _
          refine XS.iload X11.here hx rfl (hb hby at_55) rfl ?_
          show Steps p.tables e below (T11.setTop (mkF m 57 #[.val (.int p0), .val (.int p1), .val (.int p2), .val (.int (p2 &&& (3 : Int32))), .val (.int (0 : Int32)), .val (.int (0 : Int32)), .val (.ref bx3), .val .null, .unset, .unset] [(.int (0 : Int32)), (.int (0 : Int32)), (.ref b11), (.ref b11)])) _
          refine XS.ifYes X11.here hx rfl (pc0 := 57) (pc' := 65) rfl (hb hby at_57) rfl ((if0 _ _).trans (teq (by decide : (0 : Int32) = (0 : Int32))).1) (by decide) (by decide) ?_
          show Steps p.tables e below (T11.setTop (mkF m 65 #[.val (.int p0), .val (.int p1), .val (.int p2), .val (.int (p2 &&& (3 : Int32))), .val (.int (0 : Int32)), .val (.int (0 : Int32)), .val (.ref bx3), .val .null, .unset, .unset] [(.int (0 : Int32)), (.ref b11), (.ref b11)])) _
          refine XS.aconstNull X11.here hx rfl (hb hby at_65) ?_
          exact k
        refine Go.callC X11 hx hZ (W := 1) (argsL := [(.int (0 : Int32)), .null]) (rest := [(.ref b11)]) hown rfl (wd hw 10 rfl) (wd hw 11 rfl) (wd hw 9 rfl) (wd hw 12 rfl) (by decide) (ct_rep_init_0_null l Z a0 hw  b11 h11 n0 O E_b11 F_b11_reported F_b11_value g_b11) e11 (by rw [hml]; rfl) (lenOf pd__ZLjava_lang_Object__V_5641 rfl) rfl rfl (hb hby at_66) (by decide) (by decide) (by decide) (by decide) ?_
        intro v12 T12 h12 L12 X12 e12 q12
        obtain ⟨rfl, N12, K12, Fr_12, Fv_12⟩ := q12
        replace N12 := Fr.app N3 N12
        replace E_bx3 := E_bx3.keep K12
        replace F_bx3 := F_bx3.keep K12 (ninS ne_bx3_b11 nin0)
        replace E_b11 := E_b11.keep K12
        clear F_b11_reported
        clear F_b11_value
        replace O := O.keep K12 (allS g_b11 all0)
        show Go p e below _ T12 (mkF m 69 #[.val (.int p0), .val (.int p1), .val (.int p2), .val (.int (p2 &&& (3 : Int32))), .val (.int (0 : Int32)), .val (.int (0 : Int32)), .val (.ref bx3), .val .null, .unset, .unset] [(.ref b11)])
        refine Go.by (T' := T12) (g' := (mkF m 75 #[.val (.int p0), .val (.int p1), .val (.int p2), .val (.int (p2 &&& (3 : Int32))), .val (.int (0 : Int32)), .val (.int (0 : Int32)), .val (.ref bx3), .val .null, .val (.ref b11), .unset] [.null, (.ref b11)])) (fun t k => ?_) ?_
        · show Steps p.tables e below (T12.setTop (mkF m 69 #[.val (.int p0), .val (.int p1), .val (.int p2), .val (.int (p2 &&& (3 : Int32))), .val (.int (0 : Int32)), .val (.int (0 : Int32)), .val (.ref bx3), .val .null, .unset, .unset] [(.ref b11)])) _
          refine XS.astore X12.here hx rfl (hb hby at_69) rfl rfl (l' := #[.val (.int p0), .val (.int p1), .val (.int p2), .val (.int (p2 &&& (3 : Int32))), .val (.int (0 : Int32)), .val (.int (0 : Int32)), .val (.ref bx3), .val .null, .val (.ref b11), .unset]) rfl ?_
          show Steps p.tables e below (T12.setTop (mkF m 71 #[.val (.int p0), .val (.int p1), .val (.int p2), .val (.int (p2 &&& (3 : Int32))), .val (.int (0 : Int32)), .val (.int (0 : Int32)), .val (.ref bx3), .val .null, .val (.ref b11), .unset] [])) _
          refine XS.aload X12.here hx rfl (hb hby at_71) rfl rfl ?_
          show Steps p.tables e below (T12.setTop (mkF m 73 #[.val (.int p0), .val (.int p1), .val (.int p2), .val (.int (p2 &&& (3 : Int32))), .val (.int (0 : Int32)), .val (.int (0 : Int32)), .val (.ref bx3), .val .null, .val (.ref b11), .unset] [(.ref b11)])) _
          refine XS.aload X12.here hx rfl (hb hby at_73) rfl rfl ?_
          exact k
        refine Go.callV X12 hx hZ (W := 0) (argsL := [.null]) (rest := []) hown (wd hw 25 rfl) (wd hw 26 rfl) (notFace_of_selects (args := #[]) (mvT hZ (wd hw 28 rfl))) (wd hw 28 rfl) (wd hw 27 rfl) (wd hw 9 rfl) (wd hw 29 rfl) (by decide) E_b11 (ct_orElse_null_null l Z a0 hw  b11 h12 n0 O Fv_12) e12 (by rw [hml]; rfl) (lenOf pd__Ljava_lang_Object__Ljava_lang_Object__4766 rfl) rfl rfl (hb hby at_75) (by decide) (by decide) (by decide) (by decide) ?_
        intro v13 T13 h13 L13 X13 e13 q13
        obtain ⟨rfl, N13, rfl⟩ := q13
        replace N13 := Fr.app N12 N13
        show Go p e below _ T13 (mkF m 78 #[.val (.int p0), .val (.int p1), .val (.int p2), .val (.int (p2 &&& (3 : Int32))), .val (.int (0 : Int32)), .val (.int (0 : Int32)), .val (.ref bx3), .val .null, .val (.ref b11), .unset] [.null])
        refine Go.by (T' := T13) (g' := (mkF m 130 #[.val (.int p0), .val (.int p1), .val (.int p2), .val (.int (p2 &&& (3 : Int32))), .val (.int (0 : Int32)), .val (.int (0 : Int32)), .val (.ref bx3), .val .null, .val (.ref b11), .val .null] [(.int (1 : Int32))])) (fun t k => ?_) ?_
        · show Steps p.tables e below (T13.setTop (mkF m 78 #[.val (.int p0), .val (.int p1), .val (.int p2), .val (.int (p2 &&& (3 : Int32))), .val (.int (0 : Int32)), .val (.int (0 : Int32)), .val (.ref bx3), .val .null, .val (.ref b11), .unset] [.null])) _
          refine X13.checkcastNull hx (g := (mkF m 78 #[.val (.int p0), .val (.int p1), .val (.int p2), .val (.int (p2 &&& (3 : Int32))), .val (.int (0 : Int32)), .val (.int (0 : Int32)), .val (.ref bx3), .val .null, .val (.ref b11), .unset] [.null])) rfl rfl (hb hby at_78) _ ?_
          show Steps p.tables e below (T13.setTop (mkF m 81 #[.val (.int p0), .val (.int p1), .val (.int p2), .val (.int (p2 &&& (3 : Int32))), .val (.int (0 : Int32)), .val (.int (0 : Int32)), .val (.ref bx3), .val .null, .val (.ref b11), .unset] [.null])) _
          refine XS.astore X13.here hx rfl (hb hby at_81) rfl rfl (l' := #[.val (.int p0), .val (.int p1), .val (.int p2), .val (.int (p2 &&& (3 : Int32))), .val (.int (0 : Int32)), .val (.int (0 : Int32)), .val (.ref bx3), .val .null, .val (.ref b11), .val .null]) rfl ?_
          show Steps p.tables e below (T13.setTop (mkF m 83 #[.val (.int p0), .val (.int p1), .val (.int p2), .val (.int (p2 &&& (3 : Int32))), .val (.int (0 : Int32)), .val (.int (0 : Int32)), .val (.ref bx3), .val .null, .val (.ref b11), .val .null] [])) _
          refine XS.iload X13.here hx rfl (hb hby at_83) rfl ?_
          show Steps p.tables e below (T13.setTop (mkF m 85 #[.val (.int p0), .val (.int p1), .val (.int p2), .val (.int (p2 &&& (3 : Int32))), .val (.int (0 : Int32)), .val (.int (0 : Int32)), .val (.ref bx3), .val .null, .val (.ref b11), .val .null] [(.int (0 : Int32))])) _
          refine XS.ifYes X13.here hx rfl (pc0 := 85) (pc' := 115) rfl (hb hby at_85) rfl ((if0 _ _).trans (teq (by decide : (0 : Int32) = (0 : Int32))).1) (by decide) (by decide) ?_
          show Steps p.tables e below (T13.setTop (mkF m 115 #[.val (.int p0), .val (.int p1), .val (.int p2), .val (.int (p2 &&& (3 : Int32))), .val (.int (0 : Int32)), .val (.int (0 : Int32)), .val (.ref bx3), .val .null, .val (.ref b11), .val .null] [])) _
          refine XS.aload X13.here hx rfl (hb hby at_115) rfl rfl ?_
          show Steps p.tables e below (T13.setTop (mkF m 117 #[.val (.int p0), .val (.int p1), .val (.int p2), .val (.int (p2 &&& (3 : Int32))), .val (.int (0 : Int32)), .val (.int (0 : Int32)), .val (.ref bx3), .val .null, .val (.ref b11), .val .null] [.null])) _
          refine XS.ifnonnullNo X13.here hx rfl (hb hby at_117) rfl ?_
          show Steps p.tables e below (T13.setTop (mkF m 120 #[.val (.int p0), .val (.int p1), .val (.int p2), .val (.int (p2 &&& (3 : Int32))), .val (.int (0 : Int32)), .val (.int (0 : Int32)), .val (.ref bx3), .val .null, .val (.ref b11), .val .null] [])) _
          refine XS.aload X13.here hx rfl (hb hby at_120) rfl rfl ?_
          show Steps p.tables e below (T13.setTop (mkF m 122 #[.val (.int p0), .val (.int p1), .val (.int p2), .val (.int (p2 &&& (3 : Int32))), .val (.int (0 : Int32)), .val (.int (0 : Int32)), .val (.ref bx3), .val .null, .val (.ref b11), .val .null] [.null])) _
          refine XS.ifnonnullNo X13.here hx rfl (hb hby at_122) rfl ?_
          show Steps p.tables e below (T13.setTop (mkF m 125 #[.val (.int p0), .val (.int p1), .val (.int p2), .val (.int (p2 &&& (3 : Int32))), .val (.int (0 : Int32)), .val (.int (0 : Int32)), .val (.ref bx3), .val .null, .val (.ref b11), .val .null] [])) _
          refine XS.iconst X13.here hx rfl (hb hby at_125) ?_
          show Steps p.tables e below (T13.setTop (mkF m 126 #[.val (.int p0), .val (.int p1), .val (.int p2), .val (.int (p2 &&& (3 : Int32))), .val (.int (0 : Int32)), .val (.int (0 : Int32)), .val (.ref bx3), .val .null, .val (.ref b11), .val .null] [(.int (1 : Int32))])) _
          refine XS.goto X13.here hx rfl (pc0 := 126) (pc' := 130) rfl (hb hby at_126) (by decide) (by decide) ?_
          exact k
        refine Go.retZ X13 hx hlk hret (Or.inr rfl) (hb hby at_130) (by decide) (by decide) e13 ?_
        exact ⟨rfl, N13⟩
    · skip
      refine Go.by (T' := T0) (g' := (mkF m 28 #[.val (.int p0), .val (.int p1), .val (.int p2), .val (.int (p2 &&& (3 : Int32))), .val (.int (0 : Int32)), .val (.int (1 : Int32)), .unset, .unset, .unset, .unset] [(.int p0)])) (fun t k => ?_) ?_
      · show Steps p.tables e below (T0.setTop (mkF m 17 #[.val (.int p0), .val (.int p1), .val (.int p2), .val (.int (p2 &&& (3 : Int32))), .val (.int (0 : Int32)), .unset, .unset, .unset, .unset, .unset] [(.int (p2 &&& (3 : Int32)))])) _
        refine XS.ifNo X0.here hx rfl (hb hby at_17) rfl ((if0 _ _).trans (feq hy2).1) ?_
        show Steps p.tables e below (T0.setTop (mkF m 20 #[.val (.int p0), .val (.int p1), .val (.int p2), .val (.int (p2 &&& (3 : Int32))), .val (.int (0 : Int32)), .unset, .unset, .unset, .unset, .unset] [])) _
        refine XS.iconst X0.here hx rfl (hb hby at_20) ?_
        show Steps p.tables e below (T0.setTop (mkF m 21 #[.val (.int p0), .val (.int p1), .val (.int p2), .val (.int (p2 &&& (3 : Int32))), .val (.int (0 : Int32)), .unset, .unset, .unset, .unset, .unset] [(.int (1 : Int32))])) _
        refine XS.goto X0.here hx rfl (pc0 := 21) (pc' := 25) rfl (hb hby at_21) (by decide) (by decide) ?_
        show Steps p.tables e below (T0.setTop (mkF m 25 #[.val (.int p0), .val (.int p1), .val (.int p2), .val (.int (p2 &&& (3 : Int32))), .val (.int (0 : Int32)), .unset, .unset, .unset, .unset, .unset] [(.int (1 : Int32))])) _
        refine XS.istore X0.here hx rfl (hb hby at_25) rfl (l' := #[.val (.int p0), .val (.int p1), .val (.int p2), .val (.int (p2 &&& (3 : Int32))), .val (.int (0 : Int32)), .val (.int (1 : Int32)), .unset, .unset, .unset, .unset]) rfl ?_
        show Steps p.tables e below (T0.setTop (mkF m 27 #[.val (.int p0), .val (.int p1), .val (.int p2), .val (.int (p2 &&& (3 : Int32))), .val (.int (0 : Int32)), .val (.int (1 : Int32)), .unset, .unset, .unset, .unset] [])) _
        refine XS.iloadN X0.here hx rfl (hb hby at_27) rfl ?_
        exact k
      refine Go.callS X0 hx hZ (W := 0) (argsL := [(.int p0)]) (rest := []) hown (wd hw 0 rfl) (wd hw 1 rfl) (wd hw 2 rfl) (wd hw 3 rfl) (by decide) (ct_valueOf l Z a0 hw w_cache cl_cache S_cache B_cache S_high p0 h0 n0 O ) e0 (by rw [hml]; rfl) (lenOf pd__I_Ljava_lang_Integer__4068 rfl) rfl rfl (hb hby at_28) (by decide) (by decide) (by decide) (by decide) ?_
      intro v14 T14 h14 L14 X14 e14 q14
      obtain ⟨bx14, rfl, N14, K14, E_bx14, F_bx14, hbx14⟩ := q14
      replace N14 := Fr.app N0 N14
      replace O := O.keep K14 all0
      show Go p e below _ T14 (mkF m 31 #[.val (.int p0), .val (.int p1), .val (.int p2), .val (.int (p2 &&& (3 : Int32))), .val (.int (0 : Int32)), .val (.int (1 : Int32)), .unset, .unset, .unset, .unset] [(.ref bx14)])
      refine Go.by (T' := T14) (g' := (mkF m 36 #[.val (.int p0), .val (.int p1), .val (.int p2), .val (.int (p2 &&& (3 : Int32))), .val (.int (0 : Int32)), .val (.int (1 : Int32)), .val (.ref bx14), .unset, .unset, .unset] [(.int (p2 &&& (4 : Int32)))])) (fun t k => ?_) ?_
      · show Steps p.tables e below (T14.setTop (mkF m 31 #[.val (.int p0), .val (.int p1), .val (.int p2), .val (.int (p2 &&& (3 : Int32))), .val (.int (0 : Int32)), .val (.int (1 : Int32)), .unset, .unset, .unset, .unset] [(.ref bx14)])) _
        refine XS.astore X14.here hx rfl (hb hby at_31) rfl rfl (l' := #[.val (.int p0), .val (.int p1), .val (.int p2), .val (.int (p2 &&& (3 : Int32))), .val (.int (0 : Int32)), .val (.int (1 : Int32)), .val (.ref bx14), .unset, .unset, .unset]) rfl ?_
        show Steps p.tables e below (T14.setTop (mkF m 33 #[.val (.int p0), .val (.int p1), .val (.int p2), .val (.int (p2 &&& (3 : Int32))), .val (.int (0 : Int32)), .val (.int (1 : Int32)), .val (.ref bx14), .unset, .unset, .unset] [])) _
        refine XS.iloadN X14.here hx rfl (hb hby at_33) rfl ?_
        show Steps p.tables e below (T14.setTop (mkF m 34 #[.val (.int p0), .val (.int p1), .val (.int p2), .val (.int (p2 &&& (3 : Int32))), .val (.int (0 : Int32)), .val (.int (1 : Int32)), .val (.ref bx14), .unset, .unset, .unset] [(.int p2)])) _
        refine XS.iconst X14.here hx rfl (hb hby at_34) ?_
        show Steps p.tables e below (T14.setTop (mkF m 35 #[.val (.int p0), .val (.int p1), .val (.int p2), .val (.int (p2 &&& (3 : Int32))), .val (.int (0 : Int32)), .val (.int (1 : Int32)), .val (.ref bx14), .unset, .unset, .unset] [(.int (4 : Int32)), (.int p2)])) _
        refine XS.iand X14.here hx rfl (hb hby at_35) rfl ?_
        exact k
      by_cases hy15 : (p2 &&& (4 : Int32)) = (0 : Int32)
      · skip
        refine Go.by (T' := T14) (g' := (mkF m 44 #[.val (.int p0), .val (.int p1), .val (.int p2), .val (.int (p2 &&& (3 : Int32))), .val (.int (0 : Int32)), .val (.int (1 : Int32)), .val (.ref bx14), .unset, .unset, .unset] [(.int p1)])) (fun t k => ?_) ?_
        · show Steps p.tables e below (T14.setTop (mkF m 36 #[.val (.int p0), .val (.int p1), .val (.int p2), .val (.int (p2 &&& (3 : Int32))), .val (.int (0 : Int32)), .val (.int (1 : Int32)), .val (.ref bx14), .unset, .unset, .unset] [(.int (p2 &&& (4 : Int32)))])) _
          refine XS.ifYes X14.here hx rfl (pc0 := 36) (pc' := 43) rfl (hb hby at_36) rfl ((if0 _ _).trans (teq hy15).1) (by decide) (by decide) ?_
          show Steps p.tables e below (T14.setTop (mkF m 43 #[.val (.int p0), .val (.int p1), .val (.int p2), .val (.int (p2 &&& (3 : Int32))), .val (.int (0 : Int32)), .val (.int (1 : Int32)), .val (.ref bx14), .unset, .unset, .unset] [])) _
          refine XS.iloadN X14.here hx rfl (hb hby at_43) rfl ?_
          exact k
        refine Go.callS X14 hx hZ (W := 0) (argsL := [(.int p1)]) (rest := []) hown (wd hw 0 rfl) (wd hw 1 rfl) (wd hw 2 rfl) (wd hw 3 rfl) (by decide) (ct_valueOf l Z a0 hw w_cache cl_cache S_cache B_cache S_high p1 h14 n0 O ) e14 (by rw [hml]; rfl) (lenOf pd__I_Ljava_lang_Integer__4068 rfl) rfl rfl (hb hby at_44) (by decide) (by decide) (by decide) (by decide) ?_
        intro v16 T16 h16 L16 X16 e16 q16
        obtain ⟨bx16, rfl, N16, K16, E_bx16, F_bx16, hbx16⟩ := q16
        replace N16 := Fr.app N14 N16
        replace E_bx14 := E_bx14.keep K16
        replace F_bx14 := F_bx14.keep K16 nin0
        replace O := O.keep K16 all0
        show Go p e below _ T16 (mkF m 47 #[.val (.int p0), .val (.int p1), .val (.int p2), .val (.int (p2 &&& (3 : Int32))), .val (.int (0 : Int32)), .val (.int (1 : Int32)), .val (.ref bx14), .unset, .unset, .unset] [(.ref bx16)])
        refine Go.by (T' := T16) (g' := (mkF m 49 #[.val (.int p0), .val (.int p1), .val (.int p2), .val (.int (p2 &&& (3 : Int32))), .val (.int (0 : Int32)), .val (.int (1 : Int32)), .val (.ref bx14), .val (.ref bx16), .unset, .unset] [])) (fun t k => ?_) ?_
        · show Steps p.tables e below (T16.setTop (mkF m 47 #[.val (.int p0), .val (.int p1), .val (.int p2), .val (.int (p2 &&& (3 : Int32))), .val (.int (0 : Int32)), .val (.int (1 : Int32)), .val (.ref bx14), .unset, .unset, .unset] [(.ref bx16)])) _
          refine XS.astore X16.here hx rfl (hb hby at_47) rfl rfl (l' := #[.val (.int p0), .val (.int p1), .val (.int p2), .val (.int (p2 &&& (3 : Int32))), .val (.int (0 : Int32)), .val (.int (1 : Int32)), .val (.ref bx14), .val (.ref bx16), .unset, .unset]) rfl ?_
          exact k
        refine Go.newO X16 hx hZ hown (wd hw 7 rfl) (wd hw 8 rfl) (wd hw 9 rfl) e16 (hb hby at_49) (by decide) (by decide) ?_
        intro T17 h17 b17 X17 e17 E17 g17 A17 D17
        have lb17 := Nat.le_of_eq g17.symm
        have ne_bx14_b17 : bx14 ≠ b17 := Nat.ne_of_lt (Nat.lt_of_lt_of_le E_bx14.lt lb17)
        have ne_bx16_b17 : bx16 ≠ b17 := Nat.ne_of_lt (Nat.lt_of_lt_of_le E_bx16.lt lb17)
        have g_b17 : n0 ≤ b17 := Nat.le_trans (OwnKit.Old.le O) lb17
        replace E_bx14 := E_bx14.ext E17
        replace F_bx14 := F_bx14.ext E17
        replace E_bx16 := E_bx16.ext E17
        replace F_bx16 := F_bx16.ext E17
        replace O := O.ext E17
        have E_b17 := A17
        have F_b17_reported : Fld Z h17 b17 "com/example/provenara/provenara/model/Reported" "reported" "Z" (.int (0 : Int32)) := D17 (Or.inr (wd hw 22 rfl)) (ty := .boolean) (by decide)
        have F_b17_value : Fld Z h17 b17 "com/example/provenara/provenara/model/Reported" "value" "Ljava/lang/Object;" .null := D17 (Or.inr (wd hw 24 rfl)) (ty := (.object "java/lang/Object")) (by decide)
        show Go p e below _ T17 (mkF m 52 #[.val (.int p0), .val (.int p1), .val (.int p2), .val (.int (p2 &&& (3 : Int32))), .val (.int (0 : Int32)), .val (.int (1 : Int32)), .val (.ref bx14), .val (.ref bx16), .unset, .unset] [(.ref b17)])
        refine Go.by (T' := T17) (g' := (mkF m 66 #[.val (.int p0), .val (.int p1), .val (.int p2), .val (.int (p2 &&& (3 : Int32))), .val (.int (0 : Int32)), .val (.int (1 : Int32)), .val (.ref bx14), .val (.ref bx16), .unset, .unset] [.null, (.int (1 : Int32)), (.ref b17), (.ref b17)])) (fun t k => ?_) ?_
        · show Steps p.tables e below (T17.setTop (mkF m 52 #[.val (.int p0), .val (.int p1), .val (.int p2), .val (.int (p2 &&& (3 : Int32))), .val (.int (0 : Int32)), .val (.int (1 : Int32)), .val (.ref bx14), .val (.ref bx16), .unset, .unset] [(.ref b17)])) _
          refine XS.dup X17.here hx rfl (hb hby at_52) rfl rfl ?_
          show Steps p.tables e below (T17.setTop (mkF m 53 #[.val (.int p0), .val (.int p1), .val (.int p2), .val (.int (p2 &&& (3 : Int32))), .val (.int (0 : Int32)), .val (.int (1 : Int32)), .val (.ref bx14), .val (.ref bx16), .unset, .unset] [(.ref b17), (.ref b17)])) _
          refine XS.iload X17.here hx rfl (hb hby at_53) rfl ?_
          show Steps p.tables e below (T17.setTop (mkF m 55 #[.val (.int p0), .val (.int p1), .val (.int p2), .val (.int (p2 &&& (3 : Int32))), .val (.int (0 : Int32)), .val (.int (1 : Int32)), .val (.ref bx14), .val (.ref bx16), .unset, .unset] [(.int (1 : Int32)), (.ref b17), (.ref b17)])) _
          refine XS.iload X17.here hx rfl (hb hby at_55) rfl ?_
          show Steps p.tables e below (T17.setTop (mkF m 57 #[.val (.int p0), .val (.int p1), .val (.int p2), .val (.int (p2 &&& (3 : Int32))), .val (.int (0 : Int32)), .val (.int (1 : Int32)), .val (.ref bx14), .val (.ref bx16), .unset, .unset] [(.int (0 : Int32)), (.int (1 : Int32)), (.ref b17), (.ref b17)])) _
          refine XS.ifYes X17.here hx rfl (pc0 := 57) (pc' := 65) rfl (hb hby at_57) rfl ((if0 _ _).trans (teq (by decide : (0 : Int32) = (0 : Int32))).1) (by decide) (by decide) ?_
          show Steps p.tables e below (T17.setTop (mkF m 65 #[.val (.int p0), .val (.int p1), .val (.int p2), .val (.int (p2 &&& (3 : Int32))), .val (.int (0 : Int32)), .val (.int (1 : Int32)), .val (.ref bx14), .val (.ref bx16), .unset, .unset] [(.int (1 : Int32)), (.ref b17), (.ref b17)])) _
          refine XS.aconstNull X17.here hx rfl (hb hby at_65) ?_
          exact k
        refine Go.callC X17 hx hZ (W := 1) (argsL := [(.int (1 : Int32)), .null]) (rest := [(.ref b17)]) hown rfl (wd hw 10 rfl) (wd hw 11 rfl) (wd hw 9 rfl) (wd hw 12 rfl) (by decide) (ct_rep_init_1_null l Z a0 hw  b17 h17 n0 O E_b17 F_b17_reported F_b17_value g_b17) e17 (by rw [hml]; rfl) (lenOf pd__ZLjava_lang_Object__V_5641 rfl) rfl rfl (hb hby at_66) (by decide) (by decide) (by decide) (by decide) ?_
        intro v18 T18 h18 L18 X18 e18 q18
        obtain ⟨rfl, N18, K18, Fr_18, Fv_18⟩ := q18
        replace N18 := Fr.app N16 N18
        replace E_bx14 := E_bx14.keep K18
        replace F_bx14 := F_bx14.keep K18 (ninS ne_bx14_b17 nin0)
        replace E_bx16 := E_bx16.keep K18
        replace F_bx16 := F_bx16.keep K18 (ninS ne_bx16_b17 nin0)
        replace E_b17 := E_b17.keep K18
        clear F_b17_reported
        clear F_b17_value
        replace O := O.keep K18 (allS g_b17 all0)
        show Go p e below _ T18 (mkF m 69 #[.val (.int p0), .val (.int p1), .val (.int p2), .val (.int (p2 &&& (3 : Int32))), .val (.int (0 : Int32)), .val (.int (1 : Int32)), .val (.ref bx14), .val (.ref bx16), .unset, .unset] [(.ref b17)])
        refine Go.by (T' := T18) (g' := (mkF m 75 #[.val (.int p0), .val (.int p1), .val (.int p2), .val (.int (p2 &&& (3 : Int32))), .val (.int (0 : Int32)), .val (.int (1 : Int32)), .val (.ref bx14), .val (.ref bx16), .val (.ref b17), .unset] [(.ref bx16), (.ref b17)])) (fun t k => ?_) ?_
        · show Steps p.tables e below (T18.setTop (mkF m 69 #[.val (.int p0), .val (.int p1), .val (.int p2), .val (.int (p2 &&& (3 : Int32))), .val (.int (0 : Int32)), .val (.int (1 : Int32)), .val (.ref bx14), .val (.ref bx16), .unset, .unset] [(.ref b17)])) _
          refine XS.astore X18.here hx rfl (hb hby at_69) rfl rfl (l' := #[.val (.int p0), .val (.int p1), .val (.int p2), .val (.int (p2 &&& (3 : Int32))), .val (.int (0 : Int32)), .val (.int (1 : Int32)), .val (.ref bx14), .val (.ref bx16), .val (.ref b17), .unset]) rfl ?_
          show Steps p.tables e below (T18.setTop (mkF m 71 #[.val (.int p0), .val (.int p1), .val (.int p2), .val (.int (p2 &&& (3 : Int32))), .val (.int (0 : Int32)), .val (.int (1 : Int32)), .val (.ref bx14), .val (.ref bx16), .val (.ref b17), .unset] [])) _
          refine XS.aload X18.here hx rfl (hb hby at_71) rfl rfl ?_
          show Steps p.tables e below (T18.setTop (mkF m 73 #[.val (.int p0), .val (.int p1), .val (.int p2), .val (.int (p2 &&& (3 : Int32))), .val (.int (0 : Int32)), .val (.int (1 : Int32)), .val (.ref bx14), .val (.ref bx16), .val (.ref b17), .unset] [(.ref b17)])) _
          refine XS.aload X18.here hx rfl (hb hby at_73) rfl rfl ?_
          exact k
        refine Go.callV X18 hx hZ (W := 0) (argsL := [(.ref bx16)]) (rest := []) hown (wd hw 25 rfl) (wd hw 26 rfl) (notFace_of_selects (args := #[]) (mvT hZ (wd hw 28 rfl))) (wd hw 28 rfl) (wd hw 27 rfl) (wd hw 9 rfl) (wd hw 29 rfl) (by decide) E_b17 (ct_orElse_null_ref l Z a0 hw  b17 bx16 h18 n0 O Fv_18) e18 (by rw [hml]; rfl) (lenOf pd__Ljava_lang_Object__Ljava_lang_Object__4766 rfl) rfl rfl (hb hby at_75) (by decide) (by decide) (by decide) (by decide) ?_
        intro v19 T19 h19 L19 X19 e19 q19
        obtain ⟨rfl, N19, rfl⟩ := q19
        replace N19 := Fr.app N18 N19
        show Go p e below _ T19 (mkF m 78 #[.val (.int p0), .val (.int p1), .val (.int p2), .val (.int (p2 &&& (3 : Int32))), .val (.int (0 : Int32)), .val (.int (1 : Int32)), .val (.ref bx14), .val (.ref bx16), .val (.ref b17), .unset] [(.ref bx16)])
        refine Go.castY X19 hx hZ hown (wd hw 30 rfl) e19 (Ins.self E_bx16) (hb hby at_78) ?_
        intro T20 X20 e20
        show Go p e below _ T20 (mkF m 81 #[.val (.int p0), .val (.int p1), .val (.int p2), .val (.int (p2 &&& (3 : Int32))), .val (.int (0 : Int32)), .val (.int (1 : Int32)), .val (.ref bx14), .val (.ref bx16), .val (.ref b17), .unset] [(.ref bx16)])
        refine Go.by (T' := T20) (g' := (mkF m 140 #[.val (.int p0), .val (.int p1), .val (.int p2), .val (.int (p2 &&& (3 : Int32))), .val (.int (0 : Int32)), .val (.int (1 : Int32)), .val (.ref bx14), .val (.ref bx16), .val (.ref b17), .val (.ref bx16)] [(.ref bx16)])) (fun t k => ?_) ?_
        · show Steps p.tables e below (T20.setTop (mkF m 81 #[.val (.int p0), .val (.int p1), .val (.int p2), .val (.int (p2 &&& (3 : Int32))), .val (.int (0 : Int32)), .val (.int (1 : Int32)), .val (.ref bx14), .val (.ref bx16), .val (.ref b17), .unset] [(.ref bx16)])) _
          refine XS.astore X20.here hx rfl (hb hby at_81) rfl rfl (l' := #[.val (.int p0), .val (.int p1), .val (.int p2), .val (.int (p2 &&& (3 : Int32))), .val (.int (0 : Int32)), .val (.int (1 : Int32)), .val (.ref bx14), .val (.ref bx16), .val (.ref b17), .val (.ref bx16)]) rfl ?_
          show Steps p.tables e below (T20.setTop (mkF m 83 #[.val (.int p0), .val (.int p1), .val (.int p2), .val (.int (p2 &&& (3 : Int32))), .val (.int (0 : Int32)), .val (.int (1 : Int32)), .val (.ref bx14), .val (.ref bx16), .val (.ref b17), .val (.ref bx16)] [])) _
          refine XS.iload X20.here hx rfl (hb hby at_83) rfl ?_
          show Steps p.tables e below (T20.setTop (mkF m 85 #[.val (.int p0), .val (.int p1), .val (.int p2), .val (.int (p2 &&& (3 : Int32))), .val (.int (0 : Int32)), .val (.int (1 : Int32)), .val (.ref bx14), .val (.ref bx16), .val (.ref b17), .val (.ref bx16)] [(.int (0 : Int32))])) _
          refine XS.ifYes X20.here hx rfl (pc0 := 85) (pc' := 115) rfl (hb hby at_85) rfl ((if0 _ _).trans (teq (by decide : (0 : Int32) = (0 : Int32))).1) (by decide) (by decide) ?_
          show Steps p.tables e below (T20.setTop (mkF m 115 #[.val (.int p0), .val (.int p1), .val (.int p2), .val (.int (p2 &&& (3 : Int32))), .val (.int (0 : Int32)), .val (.int (1 : Int32)), .val (.ref bx14), .val (.ref bx16), .val (.ref b17), .val (.ref bx16)] [])) _
          refine XS.aload X20.here hx rfl (hb hby at_115) rfl rfl ?_
          show Steps p.tables e below (T20.setTop (mkF m 117 #[.val (.int p0), .val (.int p1), .val (.int p2), .val (.int (p2 &&& (3 : Int32))), .val (.int (0 : Int32)), .val (.int (1 : Int32)), .val (.ref bx14), .val (.ref bx16), .val (.ref b17), .val (.ref bx16)] [(.ref bx16)])) _
          refine XS.ifnonnullYes X20.here hx rfl (pc0 := 117) (pc' := 131) rfl (hb hby at_117) rfl (by decide) (by decide) ?_
          show Steps p.tables e below (T20.setTop (mkF m 131 #[.val (.int p0), .val (.int p1), .val (.int p2), .val (.int (p2 &&& (3 : Int32))), .val (.int (0 : Int32)), .val (.int (1 : Int32)), .val (.ref bx14), .val (.ref bx16), .val (.ref b17), .val (.ref bx16)] [])) _
          refine XS.aload X20.here hx rfl (hb hby at_131) rfl rfl ?_
          show Steps p.tables e below (T20.setTop (mkF m 133 #[.val (.int p0), .val (.int p1), .val (.int p2), .val (.int (p2 &&& (3 : Int32))), .val (.int (0 : Int32)), .val (.int (1 : Int32)), .val (.ref bx14), .val (.ref bx16), .val (.ref b17), .val (.ref bx16)] [(.ref bx16)])) _
          refine XS.aload X20.here hx rfl (hb hby at_133) rfl rfl ?_
          show Steps p.tables e below (T20.setTop (mkF m 135 #[.val (.int p0), .val (.int p1), .val (.int p2), .val (.int (p2 &&& (3 : Int32))), .val (.int (0 : Int32)), .val (.int (1 : Int32)), .val (.ref bx14), .val (.ref bx16), .val (.ref b17), .val (.ref bx16)] [(.ref bx16), (.ref bx16)])) _
          refine Jvm.RoadKit.acmp (g := (mkF m 135 #[.val (.int p0), .val (.int p1), .val (.int p2), .val (.int (p2 &&& (3 : Int32))), .val (.int (0 : Int32)), .val (.int (1 : Int32)), .val (.ref bx14), .val (.ref bx16), .val (.ref b17), .val (.ref bx16)] [(.ref bx16), (.ref bx16)])) X20 hx rfl rfl rfl (pc0 := 135) (pc' := 138) (same := true) rfl (hb hby at_135) rfl (decide_eq_true rfl) (by decide) (by decide) ?_
          show Steps p.tables e below (T20.setTop (mkF m 138 #[.val (.int p0), .val (.int p1), .val (.int p2), .val (.int (p2 &&& (3 : Int32))), .val (.int (0 : Int32)), .val (.int (1 : Int32)), .val (.ref bx14), .val (.ref bx16), .val (.ref b17), .val (.ref bx16)] [])) _
          refine XS.aload X20.here hx rfl (hb hby at_138) rfl rfl ?_
          exact k
        refine Go.callV X20 hx hZ (W := 0) (argsL := []) (rest := []) hown (wd hw 32 rfl) (wd hw 33 rfl) (notFace_of_selects (args := #[]) (mvT hZ (wd hw 35 rfl))) (wd hw 35 rfl) (wd hw 34 rfl) (wd hw 2 rfl) (wd hw 36 rfl) (by decide) E_bx16 (ct_intValue l Z a0 hw  bx16 p1 h18 n0 O F_bx16) e20 (by rw [hml]; rfl) (lenOf pd___I_8321 rfl) rfl rfl (hb hby at_140) (by decide) (by decide) (by decide) (by decide) ?_
        intro v21 T21 h21 L21 X21 e21 q21
        obtain ⟨rfl, N21, rfl⟩ := q21
        replace N21 := Fr.app N19 N21
        show Go p e below _ T21 (mkF m 143 #[.val (.int p0), .val (.int p1), .val (.int p2), .val (.int (p2 &&& (3 : Int32))), .val (.int (0 : Int32)), .val (.int (1 : Int32)), .val (.ref bx14), .val (.ref bx16), .val (.ref b17), .val (.ref bx16)] [(.int p1)])
        refine Go.by (T' := T21) (g' := (mkF m 152 #[.val (.int p0), .val (.int p1), .val (.int p2), .val (.int (p2 &&& (3 : Int32))), .val (.int (0 : Int32)), .val (.int (1 : Int32)), .val (.ref bx14), .val (.ref bx16), .val (.ref b17), .val (.ref bx16)] [(.int (1 : Int32))])) (fun t k => ?_) ?_
        · show Steps p.tables e below (T21.setTop (mkF m 143 #[.val (.int p0), .val (.int p1), .val (.int p2), .val (.int (p2 &&& (3 : Int32))), .val (.int (0 : Int32)), .val (.int (1 : Int32)), .val (.ref bx14), .val (.ref bx16), .val (.ref b17), .val (.ref bx16)] [(.int p1)])) _
          refine XS.iloadN X21.here hx rfl (hb hby at_143) rfl ?_
          show Steps p.tables e below (T21.setTop (mkF m 144 #[.val (.int p0), .val (.int p1), .val (.int p2), .val (.int (p2 &&& (3 : Int32))), .val (.int (0 : Int32)), .val (.int (1 : Int32)), .val (.ref bx14), .val (.ref bx16), .val (.ref b17), .val (.ref bx16)] [(.int p1), (.int p1)])) _
          refine XS.icmpNo X21.here hx rfl (hb hby at_144) rfl (teq (rfl : p1 = p1)).2 ?_
          show Steps p.tables e below (T21.setTop (mkF m 147 #[.val (.int p0), .val (.int p1), .val (.int p2), .val (.int (p2 &&& (3 : Int32))), .val (.int (0 : Int32)), .val (.int (1 : Int32)), .val (.ref bx14), .val (.ref bx16), .val (.ref b17), .val (.ref bx16)] [])) _
          refine XS.iconst X21.here hx rfl (hb hby at_147) ?_
          show Steps p.tables e below (T21.setTop (mkF m 148 #[.val (.int p0), .val (.int p1), .val (.int p2), .val (.int (p2 &&& (3 : Int32))), .val (.int (0 : Int32)), .val (.int (1 : Int32)), .val (.ref bx14), .val (.ref bx16), .val (.ref b17), .val (.ref bx16)] [(.int (1 : Int32))])) _
          refine XS.goto X21.here hx rfl (pc0 := 148) (pc' := 152) rfl (hb hby at_148) (by decide) (by decide) ?_
          exact k
        refine Go.retZ X21 hx hlk hret (Or.inr rfl) (hb hby at_152) (by decide) (by decide) e21 ?_
        exact ⟨rfl, N21⟩
      · skip
        refine Go.by (T' := T14) (g' := (mkF m 49 #[.val (.int p0), .val (.int p1), .val (.int p2), .val (.int (p2 &&& (3 : Int32))), .val (.int (0 : Int32)), .val (.int (1 : Int32)), .val (.ref bx14), .val .null, .unset, .unset] [])) (fun t k => ?_) ?_
        · show Steps p.tables e below (T14.setTop (mkF m 36 #[.val (.int p0), .val (.int p1), .val (.int p2), .val (.int (p2 &&& (3 : Int32))), .val (.int (0 : Int32)), .val (.int (1 : Int32)), .val (.ref bx14), .unset, .unset, .unset] [(.int (p2 &&& (4 : Int32)))])) _
          refine XS.ifNo X14.here hx rfl (hb hby at_36) rfl ((if0 _ _).trans (feq hy15).1) ?_
          show Steps p.tables e below (T14.setTop (mkF m 39 #[.val (.int p0), .val (.int p1), .val (.int p2), .val (.int (p2 &&& (3 : Int32))), .val (.int (0 : Int32)), .val (.int (1 : Int32)), .val (.ref bx14), .unset, .unset, .unset] [])) _
          refine XS.aconstNull X14.here hx rfl (hb hby at_39) ?_
          show Steps p.tables e below (T14.setTop (mkF m 40 #[.val (.int p0), .val (.int p1), .val (.int p2), .val (.int (p2 &&& (3 : Int32))), .val (.int (0 : Int32)), .val (.int (1 : Int32)), .val (.ref bx14), .unset, .unset, .unset] [.null])) _
          refine XS.goto X14.here hx rfl (pc0 := 40) (pc' := 47) rfl (hb hby at_40) (by decide) (by decide) ?_
          show Steps p.tables e below (T14.setTop (mkF m 47 #[.val (.int p0), .val (.int p1), .val (.int p2), .val (.int (p2 &&& (3 : Int32))), .val (.int (0 : Int32)), .val (.int (1 : Int32)), .val (.ref bx14), .unset, .unset, .unset] [.null])) _
          refine XS.astore X14.here hx rfl (hb hby at_47) rfl rfl (l' := #[.val (.int p0), .val (.int p1), .val (.int p2), .val (.int (p2 &&& (3 : Int32))), .val (.int (0 : Int32)), .val (.int (1 : Int32)), .val (.ref bx14), .val .null, .unset, .unset]) rfl ?_
          exact k
        refine Go.newO X14 hx hZ hown (wd hw 7 rfl) (wd hw 8 rfl) (wd hw 9 rfl) e14 (hb hby at_49) (by decide) (by decide) ?_
        intro T22 h22 b22 X22 e22 E22 g22 A22 D22
        have lb22 := Nat.le_of_eq g22.symm
        have ne_bx14_b22 : bx14 ≠ b22 := Nat.ne_of_lt (Nat.lt_of_lt_of_le E_bx14.lt lb22)
        have g_b22 : n0 ≤ b22 := Nat.le_trans (OwnKit.Old.le O) lb22
        replace E_bx14 := E_bx14.ext E22
        replace F_bx14 := F_bx14.ext E22
        replace O := O.ext E22
        have E_b22 := A22
        have F_b22_reported : Fld Z h22 b22 "com/example/provenara/provenara/model/Reported" "reported" "Z" (.int (0 : Int32)) := D22 (Or.inr (wd hw 22 rfl)) (ty := .boolean) (by decide)
        have F_b22_value : Fld Z h22 b22 "com/example/provenara/provenara/model/Reported" "value" "Ljava/lang/Object;" .null := D22 (Or.inr (wd hw 24 rfl)) (ty := (.object "java/lang/Object")) (by decide)
        show Go p e below _ T22 (mkF m 52 #[.val (.int p0), .val (.int p1), .val (.int p2), .val (.int (p2 &&& (3 : Int32))), .val (.int (0 : Int32)), .val (.int (1 : Int32)), .val (.ref bx14), .val .null, .unset, .unset] [(.ref b22)])
        refine Go.by (T' := T22) (g' := (mkF m 66 #[.val (.int p0), .val (.int p1), .val (.int p2), .val (.int (p2 &&& (3 : Int32))), .val (.int (0 : Int32)), .val (.int (1 : Int32)), .val (.ref bx14), .val .null, .unset, .unset] [.null, (.int (1 : Int32)), (.ref b22), (.ref b22)])) (fun t k => ?_) ?_
        · show Steps p.tables e below (T22.setTop (mkF m 52 #[.val (.int p0), .val (.int p1), .val (.int p2), .val (.int (p2 &&& (3 : Int32))), .val (.int (0 : Int32)), .val (.int (1 : Int32)), .val (.ref bx14), .val .null, .unset, .unset] [(.ref b22)])) _
          refine XS.dup X22.here hx rfl (hb hby at_52) rfl rfl ?_
          show Steps p.tables e below (T22.setTop (mkF m 53 #[.val (.int p0), .val (.int p1), .val (.int p2), .val (.int (p2 &&& (3 : Int32))), .val (.int (0 : Int32)), .val (.int (1 : Int32)), .val (.ref bx14), .val .null, .unset, .unset] [(.ref b22), (.ref b22)])) _
          refine XS.iload X22.here hx rfl (hb hby at_53) rfl ?_
          show Steps p.tables e below (T22.setTop (mkF m 55 #[.val (.int p0), .val (.int p1), .val (.int p2), .val (.int (p2 &&& (3 : Int32))), .val (.int (0 : Int32)), .val (.int (1 : Int32)), .val (.ref bx14), .val .null, .unset, .unset] [(.int (1 : Int32)), (.ref b22), (.ref b22)])) _
          refine XS.iload X22.here hx rfl (hb hby at_55) rfl ?_
          show Steps p.tables e below (T22.setTop (mkF m 57 #[.val (.int p0), .val (.int p1), .val (.int p2), .val (.int (p2 &&& (3 : Int32))), .val (.int (0 : Int32)), .val (.int (1 : Int32)), .val (.ref bx14), .val .null, .unset, .unset] [(.int (0 : Int32)), (.int (1 : Int32)), (.ref b22), (.ref b22)])) _
          refine XS.ifYes X22.here hx rfl (pc0 := 57) (pc' := 65) rfl (hb hby at_57) rfl ((if0 _ _).trans (teq (by decide : (0 : Int32) = (0 : Int32))).1) (by decide) (by decide) ?_
          show Steps p.tables e below (T22.setTop (mkF m 65 #[.val (.int p0), .val (.int p1), .val (.int p2), .val (.int (p2 &&& (3 : Int32))), .val (.int (0 : Int32)), .val (.int (1 : Int32)), .val (.ref bx14), .val .null, .unset, .unset] [(.int (1 : Int32)), (.ref b22), (.ref b22)])) _
          refine XS.aconstNull X22.here hx rfl (hb hby at_65) ?_
          exact k
        refine Go.callC X22 hx hZ (W := 1) (argsL := [(.int (1 : Int32)), .null]) (rest := [(.ref b22)]) hown rfl (wd hw 10 rfl) (wd hw 11 rfl) (wd hw 9 rfl) (wd hw 12 rfl) (by decide) (ct_rep_init_1_null l Z a0 hw  b22 h22 n0 O E_b22 F_b22_reported F_b22_value g_b22) e22 (by rw [hml]; rfl) (lenOf pd__ZLjava_lang_Object__V_5641 rfl) rfl rfl (hb hby at_66) (by decide) (by decide) (by decide) (by decide) ?_
        intro v23 T23 h23 L23 X23 e23 q23
        obtain ⟨rfl, N23, K23, Fr_23, Fv_23⟩ := q23
        replace N23 := Fr.app N14 N23
        replace E_bx14 := E_bx14.keep K23
        replace F_bx14 := F_bx14.keep K23 (ninS ne_bx14_b22 nin0)
        replace E_b22 := E_b22.keep K23
        clear F_b22_reported
        clear F_b22_value
        replace O := O.keep K23 (allS g_b22 all0)
        show Go p e below _ T23 (mkF m 69 #[.val (.int p0), .val (.int p1), .val (.int p2), .val (.int (p2 &&& (3 : Int32))), .val (.int (0 : Int32)), .val (.int (1 : Int32)), .val (.ref bx14), .val .null, .unset, .unset] [(.ref b22)])
        refine Go.by (T' := T23) (g' := (mkF m 75 #[.val (.int p0), .val (.int p1), .val (.int p2), .val (.int (p2 &&& (3 : Int32))), .val (.int (0 : Int32)), .val (.int (1 : Int32)), .val (.ref bx14), .val .null, .val (.ref b22), .unset] [.null, (.ref b22)])) (fun t k => ?_) ?_
        · show Steps p.tables e below (T23.setTop (mkF m 69 #[.val (.int p0), .val (.int p1), .val (.int p2), .val (.int (p2 &&& (3 : Int32))), .val (.int (0 : Int32)), .val (.int (1 : Int32)), .val (.ref bx14), .val .null, .unset, .unset] [(.ref b22)])) _
          refine XS.astore X23.here hx rfl (hb hby at_69) rfl rfl (l' := #[.val (.int p0), .val (.int p1), .val (.int p2), .val (.int (p2 &&& (3 : Int32))), .val (.int (0 : Int32)), .val (.int (1 : Int32)), .val (.ref bx14), .val .null, .val (.ref b22), .unset]) rfl ?_
          show Steps p.tables e below (T23.setTop (mkF m 71 #[.val (.int p0), .val (.int p1), .val (.int p2), .val (.int (p2 &&& (3 : Int32))), .val (.int (0 : Int32)), .val (.int (1 : Int32)), .val (.ref bx14), .val .null, .val (.ref b22), .unset] [])) _
          refine XS.aload X23.here hx rfl (hb hby at_71) rfl rfl ?_
          show Steps p.tables e below (T23.setTop (mkF m 73 #[.val (.int p0), .val (.int p1), .val (.int p2), .val (.int (p2 &&& (3 : Int32))), .val (.int (0 : Int32)), .val (.int (1 : Int32)), .val (.ref bx14), .val .null, .val (.ref b22), .unset] [(.ref b22)])) _
          refine XS.aload X23.here hx rfl (hb hby at_73) rfl rfl ?_
          exact k
        refine Go.callV X23 hx hZ (W := 0) (argsL := [.null]) (rest := []) hown (wd hw 25 rfl) (wd hw 26 rfl) (notFace_of_selects (args := #[]) (mvT hZ (wd hw 28 rfl))) (wd hw 28 rfl) (wd hw 27 rfl) (wd hw 9 rfl) (wd hw 29 rfl) (by decide) E_b22 (ct_orElse_null_null l Z a0 hw  b22 h23 n0 O Fv_23) e23 (by rw [hml]; rfl) (lenOf pd__Ljava_lang_Object__Ljava_lang_Object__4766 rfl) rfl rfl (hb hby at_75) (by decide) (by decide) (by decide) (by decide) ?_
        intro v24 T24 h24 L24 X24 e24 q24
        obtain ⟨rfl, N24, rfl⟩ := q24
        replace N24 := Fr.app N23 N24
        show Go p e below _ T24 (mkF m 78 #[.val (.int p0), .val (.int p1), .val (.int p2), .val (.int (p2 &&& (3 : Int32))), .val (.int (0 : Int32)), .val (.int (1 : Int32)), .val (.ref bx14), .val .null, .val (.ref b22), .unset] [.null])
        refine Go.by (T' := T24) (g' := (mkF m 130 #[.val (.int p0), .val (.int p1), .val (.int p2), .val (.int (p2 &&& (3 : Int32))), .val (.int (0 : Int32)), .val (.int (1 : Int32)), .val (.ref bx14), .val .null, .val (.ref b22), .val .null] [(.int (1 : Int32))])) (fun t k => ?_) ?_
        · show Steps p.tables e below (T24.setTop (mkF m 78 #[.val (.int p0), .val (.int p1), .val (.int p2), .val (.int (p2 &&& (3 : Int32))), .val (.int (0 : Int32)), .val (.int (1 : Int32)), .val (.ref bx14), .val .null, .val (.ref b22), .unset] [.null])) _
          refine X24.checkcastNull hx (g := (mkF m 78 #[.val (.int p0), .val (.int p1), .val (.int p2), .val (.int (p2 &&& (3 : Int32))), .val (.int (0 : Int32)), .val (.int (1 : Int32)), .val (.ref bx14), .val .null, .val (.ref b22), .unset] [.null])) rfl rfl (hb hby at_78) _ ?_
          show Steps p.tables e below (T24.setTop (mkF m 81 #[.val (.int p0), .val (.int p1), .val (.int p2), .val (.int (p2 &&& (3 : Int32))), .val (.int (0 : Int32)), .val (.int (1 : Int32)), .val (.ref bx14), .val .null, .val (.ref b22), .unset] [.null])) _
          refine XS.astore X24.here hx rfl (hb hby at_81) rfl rfl (l' := #[.val (.int p0), .val (.int p1), .val (.int p2), .val (.int (p2 &&& (3 : Int32))), .val (.int (0 : Int32)), .val (.int (1 : Int32)), .val (.ref bx14), .val .null, .val (.ref b22), .val .null]) rfl ?_
          show Steps p.tables e below (T24.setTop (mkF m 83 #[.val (.int p0), .val (.int p1), .val (.int p2), .val (.int (p2 &&& (3 : Int32))), .val (.int (0 : Int32)), .val (.int (1 : Int32)), .val (.ref bx14), .val .null, .val (.ref b22), .val .null] [])) _
          refine XS.iload X24.here hx rfl (hb hby at_83) rfl ?_
          show Steps p.tables e below (T24.setTop (mkF m 85 #[.val (.int p0), .val (.int p1), .val (.int p2), .val (.int (p2 &&& (3 : Int32))), .val (.int (0 : Int32)), .val (.int (1 : Int32)), .val (.ref bx14), .val .null, .val (.ref b22), .val .null] [(.int (0 : Int32))])) _
          refine XS.ifYes X24.here hx rfl (pc0 := 85) (pc' := 115) rfl (hb hby at_85) rfl ((if0 _ _).trans (teq (by decide : (0 : Int32) = (0 : Int32))).1) (by decide) (by decide) ?_
          show Steps p.tables e below (T24.setTop (mkF m 115 #[.val (.int p0), .val (.int p1), .val (.int p2), .val (.int (p2 &&& (3 : Int32))), .val (.int (0 : Int32)), .val (.int (1 : Int32)), .val (.ref bx14), .val .null, .val (.ref b22), .val .null] [])) _
          refine XS.aload X24.here hx rfl (hb hby at_115) rfl rfl ?_
          show Steps p.tables e below (T24.setTop (mkF m 117 #[.val (.int p0), .val (.int p1), .val (.int p2), .val (.int (p2 &&& (3 : Int32))), .val (.int (0 : Int32)), .val (.int (1 : Int32)), .val (.ref bx14), .val .null, .val (.ref b22), .val .null] [.null])) _
          refine XS.ifnonnullNo X24.here hx rfl (hb hby at_117) rfl ?_
          show Steps p.tables e below (T24.setTop (mkF m 120 #[.val (.int p0), .val (.int p1), .val (.int p2), .val (.int (p2 &&& (3 : Int32))), .val (.int (0 : Int32)), .val (.int (1 : Int32)), .val (.ref bx14), .val .null, .val (.ref b22), .val .null] [])) _
          refine XS.aload X24.here hx rfl (hb hby at_120) rfl rfl ?_
          show Steps p.tables e below (T24.setTop (mkF m 122 #[.val (.int p0), .val (.int p1), .val (.int p2), .val (.int (p2 &&& (3 : Int32))), .val (.int (0 : Int32)), .val (.int (1 : Int32)), .val (.ref bx14), .val .null, .val (.ref b22), .val .null] [.null])) _
          refine XS.ifnonnullNo X24.here hx rfl (hb hby at_122) rfl ?_
          show Steps p.tables e below (T24.setTop (mkF m 125 #[.val (.int p0), .val (.int p1), .val (.int p2), .val (.int (p2 &&& (3 : Int32))), .val (.int (0 : Int32)), .val (.int (1 : Int32)), .val (.ref bx14), .val .null, .val (.ref b22), .val .null] [])) _
          refine XS.iconst X24.here hx rfl (hb hby at_125) ?_
          show Steps p.tables e below (T24.setTop (mkF m 126 #[.val (.int p0), .val (.int p1), .val (.int p2), .val (.int (p2 &&& (3 : Int32))), .val (.int (0 : Int32)), .val (.int (1 : Int32)), .val (.ref bx14), .val .null, .val (.ref b22), .val .null] [(.int (1 : Int32))])) _
          refine XS.goto X24.here hx rfl (pc0 := 126) (pc' := 130) rfl (hb hby at_126) (by decide) (by decide) ?_
          exact k
        refine Go.retZ X24 hx hlk hret (Or.inr rfl) (hb hby at_130) (by decide) (by decide) e24 ?_
        exact ⟨rfl, N24⟩
  · skip
    refine Go.by (T' := T0) (g' := (mkF m 28 #[.val (.int p0), .val (.int p1), .val (.int p2), .val (.int (p2 &&& (3 : Int32))), .val (.int (1 : Int32)), .val (.int (1 : Int32)), .unset, .unset, .unset, .unset] [(.int p0)])) (fun t k => ?_) ?_
    · show Steps p.tables e below (T0.setTop (mkF m 6 #[.val (.int p0), .val (.int p1), .val (.int p2), .val (.int (p2 &&& (3 : Int32))), .unset, .unset, .unset, .unset, .unset, .unset] [(.int (2 : Int32)), (.int (p2 &&& (3 : Int32)))])) _
      refine XS.icmpNo X0.here hx rfl (hb hby at_6) rfl (flt hy1).1 ?_
      show Steps p.tables e below (T0.setTop (mkF m 9 #[.val (.int p0), .val (.int p1), .val (.int p2), .val (.int (p2 &&& (3 : Int32))), .unset, .unset, .unset, .unset, .unset, .unset] [])) _
      refine XS.iconst X0.here hx rfl (hb hby at_9) ?_
      show Steps p.tables e below (T0.setTop (mkF m 10 #[.val (.int p0), .val (.int p1), .val (.int p2), .val (.int (p2 &&& (3 : Int32))), .unset, .unset, .unset, .unset, .unset, .unset] [(.int (1 : Int32))])) _
      refine XS.goto X0.here hx rfl (pc0 := 10) (pc' := 14) rfl (hb hby at_10) (by decide) (by decide) ?_
      show Steps p.tables e below (T0.setTop (mkF m 14 #[.val (.int p0), .val (.int p1), .val (.int p2), .val (.int (p2 &&& (3 : Int32))), .unset, .unset, .unset, .unset, .unset, .unset] [(.int (1 : Int32))])) _
      refine XS.istore X0.here hx rfl (hb hby at_14) rfl (l' := #[.val (.int p0), .val (.int p1), .val (.int p2), .val (.int (p2 &&& (3 : Int32))), .val (.int (1 : Int32)), .unset, .unset, .unset, .unset, .unset]) rfl ?_
      show Steps p.tables e below (T0.setTop (mkF m 16 #[.val (.int p0), .val (.int p1), .val (.int p2), .val (.int (p2 &&& (3 : Int32))), .val (.int (1 : Int32)), .unset, .unset, .unset, .unset, .unset] [])) _
      refine XS.iloadN X0.here hx rfl (hb hby at_16) rfl ?_
      show Steps p.tables e below (T0.setTop (mkF m 17 #[.val (.int p0), .val (.int p1), .val (.int p2), .val (.int (p2 &&& (3 : Int32))), .val (.int (1 : Int32)), .unset, .unset, .unset, .unset, .unset] [(.int (p2 &&& (3 : Int32)))])) _
      refine XS.ifNo X0.here hx rfl (hb hby at_17) rfl ((if0 _ _).trans (feq (fun q => hy1 (by rw [q]; decide))).1) ?_
      show Steps p.tables e below (T0.setTop (mkF m 20 #[.val (.int p0), .val (.int p1), .val (.int p2), .val (.int (p2 &&& (3 : Int32))), .val (.int (1 : Int32)), .unset, .unset, .unset, .unset, .unset] [])) _
      refine XS.iconst X0.here hx rfl (hb hby at_20) ?_
      show Steps p.tables e below (T0.setTop (mkF m 21 #[.val (.int p0), .val (.int p1), .val (.int p2), .val (.int (p2 &&& (3 : Int32))), .val (.int (1 : Int32)), .unset, .unset, .unset, .unset, .unset] [(.int (1 : Int32))])) _
      refine XS.goto X0.here hx rfl (pc0 := 21) (pc' := 25) rfl (hb hby at_21) (by decide) (by decide) ?_
      show Steps p.tables e below (T0.setTop (mkF m 25 #[.val (.int p0), .val (.int p1), .val (.int p2), .val (.int (p2 &&& (3 : Int32))), .val (.int (1 : Int32)), .unset, .unset, .unset, .unset, .unset] [(.int (1 : Int32))])) _
      refine XS.istore X0.here hx rfl (hb hby at_25) rfl (l' := #[.val (.int p0), .val (.int p1), .val (.int p2), .val (.int (p2 &&& (3 : Int32))), .val (.int (1 : Int32)), .val (.int (1 : Int32)), .unset, .unset, .unset, .unset]) rfl ?_
      show Steps p.tables e below (T0.setTop (mkF m 27 #[.val (.int p0), .val (.int p1), .val (.int p2), .val (.int (p2 &&& (3 : Int32))), .val (.int (1 : Int32)), .val (.int (1 : Int32)), .unset, .unset, .unset, .unset] [])) _
      refine XS.iloadN X0.here hx rfl (hb hby at_27) rfl ?_
      exact k
    refine Go.callS X0 hx hZ (W := 0) (argsL := [(.int p0)]) (rest := []) hown (wd hw 0 rfl) (wd hw 1 rfl) (wd hw 2 rfl) (wd hw 3 rfl) (by decide) (ct_valueOf l Z a0 hw w_cache cl_cache S_cache B_cache S_high p0 h0 n0 O ) e0 (by rw [hml]; rfl) (lenOf pd__I_Ljava_lang_Integer__4068 rfl) rfl rfl (hb hby at_28) (by decide) (by decide) (by decide) (by decide) ?_
    intro v25 T25 h25 L25 X25 e25 q25
    obtain ⟨bx25, rfl, N25, K25, E_bx25, F_bx25, hbx25⟩ := q25
    replace N25 := Fr.app N0 N25
    replace O := O.keep K25 all0
    show Go p e below _ T25 (mkF m 31 #[.val (.int p0), .val (.int p1), .val (.int p2), .val (.int (p2 &&& (3 : Int32))), .val (.int (1 : Int32)), .val (.int (1 : Int32)), .unset, .unset, .unset, .unset] [(.ref bx25)])
    refine Go.by (T' := T25) (g' := (mkF m 36 #[.val (.int p0), .val (.int p1), .val (.int p2), .val (.int (p2 &&& (3 : Int32))), .val (.int (1 : Int32)), .val (.int (1 : Int32)), .val (.ref bx25), .unset, .unset, .unset] [(.int (p2 &&& (4 : Int32)))])) (fun t k => ?_) ?_
    · show Steps p.tables e below (T25.setTop (mkF m 31 #[.val (.int p0), .val (.int p1), .val (.int p2), .val (.int (p2 &&& (3 : Int32))), .val (.int (1 : Int32)), .val (.int (1 : Int32)), .unset, .unset, .unset, .unset] [(.ref bx25)])) _
      refine XS.astore X25.here hx rfl (hb hby at_31) rfl rfl (l' := #[.val (.int p0), .val (.int p1), .val (.int p2), .val (.int (p2 &&& (3 : Int32))), .val (.int (1 : Int32)), .val (.int (1 : Int32)), .val (.ref bx25), .unset, .unset, .unset]) rfl ?_
      show Steps p.tables e below (T25.setTop (mkF m 33 #[.val (.int p0), .val (.int p1), .val (.int p2), .val (.int (p2 &&& (3 : Int32))), .val (.int (1 : Int32)), .val (.int (1 : Int32)), .val (.ref bx25), .unset, .unset, .unset] [])) _
      refine XS.iloadN X25.here hx rfl (hb hby at_33) rfl ?_
      show Steps p.tables e below (T25.setTop (mkF m 34 #[.val (.int p0), .val (.int p1), .val (.int p2), .val (.int (p2 &&& (3 : Int32))), .val (.int (1 : Int32)), .val (.int (1 : Int32)), .val (.ref bx25), .unset, .unset, .unset] [(.int p2)])) _
      refine XS.iconst X25.here hx rfl (hb hby at_34) ?_
      show Steps p.tables e below (T25.setTop (mkF m 35 #[.val (.int p0), .val (.int p1), .val (.int p2), .val (.int (p2 &&& (3 : Int32))), .val (.int (1 : Int32)), .val (.int (1 : Int32)), .val (.ref bx25), .unset, .unset, .unset] [(.int (4 : Int32)), (.int p2)])) _
      refine XS.iand X25.here hx rfl (hb hby at_35) rfl ?_
      exact k
    by_cases hy26 : (p2 &&& (4 : Int32)) = (0 : Int32)
    · skip
      refine Go.by (T' := T25) (g' := (mkF m 44 #[.val (.int p0), .val (.int p1), .val (.int p2), .val (.int (p2 &&& (3 : Int32))), .val (.int (1 : Int32)), .val (.int (1 : Int32)), .val (.ref bx25), .unset, .unset, .unset] [(.int p1)])) (fun t k => ?_) ?_
      · show Steps p.tables e below (T25.setTop (mkF m 36 #[.val (.int p0), .val (.int p1), .val (.int p2), .val (.int (p2 &&& (3 : Int32))), .val (.int (1 : Int32)), .val (.int (1 : Int32)), .val (.ref bx25), .unset, .unset, .unset] [(.int (p2 &&& (4 : Int32)))])) _
        refine XS.ifYes X25.here hx rfl (pc0 := 36) (pc' := 43) rfl (hb hby at_36) rfl ((if0 _ _).trans (teq hy26).1) (by decide) (by decide) ?_
        show Steps p.tables e below (T25.setTop (mkF m 43 #[.val (.int p0), .val (.int p1), .val (.int p2), .val (.int (p2 &&& (3 : Int32))), .val (.int (1 : Int32)), .val (.int (1 : Int32)), .val (.ref bx25), .unset, .unset, .unset] [])) _
        refine XS.iloadN X25.here hx rfl (hb hby at_43) rfl ?_
        exact k
      refine Go.callS X25 hx hZ (W := 0) (argsL := [(.int p1)]) (rest := []) hown (wd hw 0 rfl) (wd hw 1 rfl) (wd hw 2 rfl) (wd hw 3 rfl) (by decide) (ct_valueOf l Z a0 hw w_cache cl_cache S_cache B_cache S_high p1 h25 n0 O ) e25 (by rw [hml]; rfl) (lenOf pd__I_Ljava_lang_Integer__4068 rfl) rfl rfl (hb hby at_44) (by decide) (by decide) (by decide) (by decide) ?_
      intro v27 T27 h27 L27 X27 e27 q27
      obtain ⟨bx27, rfl, N27, K27, E_bx27, F_bx27, hbx27⟩ := q27
      replace N27 := Fr.app N25 N27
      replace E_bx25 := E_bx25.keep K27
      replace F_bx25 := F_bx25.keep K27 nin0
      replace O := O.keep K27 all0
      show Go p e below _ T27 (mkF m 47 #[.val (.int p0), .val (.int p1), .val (.int p2), .val (.int (p2 &&& (3 : Int32))), .val (.int (1 : Int32)), .val (.int (1 : Int32)), .val (.ref bx25), .unset, .unset, .unset] [(.ref bx27)])
      refine Go.by (T' := T27) (g' := (mkF m 49 #[.val (.int p0), .val (.int p1), .val (.int p2), .val (.int (p2 &&& (3 : Int32))), .val (.int (1 : Int32)), .val (.int (1 : Int32)), .val (.ref bx25), .val (.ref bx27), .unset, .unset] [])) (fun t k => ?_) ?_
      · show Steps p.tables e below (T27.setTop (mkF m 47 #[.val (.int p0), .val (.int p1), .val (.int p2), .val (.int (p2 &&& (3 : Int32))), .val (.int (1 : Int32)), .val (.int (1 : Int32)), .val (.ref bx25), .unset, .unset, .unset] [(.ref bx27)])) _
        refine XS.astore X27.here hx rfl (hb hby at_47) rfl rfl (l' := #[.val (.int p0), .val (.int p1), .val (.int p2), .val (.int (p2 &&& (3 : Int32))), .val (.int (1 : Int32)), .val (.int (1 : Int32)), .val (.ref bx25), .val (.ref bx27), .unset, .unset]) rfl ?_
        exact k
      refine Go.newO X27 hx hZ hown (wd hw 7 rfl) (wd hw 8 rfl) (wd hw 9 rfl) e27 (hb hby at_49) (by decide) (by decide) ?_
      intro T28 h28 b28 X28 e28 E28 g28 A28 D28
      have lb28 := Nat.le_of_eq g28.symm
      have ne_bx25_b28 : bx25 ≠ b28 := Nat.ne_of_lt (Nat.lt_of_lt_of_le E_bx25.lt lb28)
      have ne_bx27_b28 : bx27 ≠ b28 := Nat.ne_of_lt (Nat.lt_of_lt_of_le E_bx27.lt lb28)
      have g_b28 : n0 ≤ b28 := Nat.le_trans (OwnKit.Old.le O) lb28
      replace E_bx25 := E_bx25.ext E28
      replace F_bx25 := F_bx25.ext E28
      replace E_bx27 := E_bx27.ext E28
      replace F_bx27 := F_bx27.ext E28
      replace O := O.ext E28
      have E_b28 := A28
      have F_b28_reported : Fld Z h28 b28 "com/example/provenara/provenara/model/Reported" "reported" "Z" (.int (0 : Int32)) := D28 (Or.inr (wd hw 22 rfl)) (ty := .boolean) (by decide)
      have F_b28_value : Fld Z h28 b28 "com/example/provenara/provenara/model/Reported" "value" "Ljava/lang/Object;" .null := D28 (Or.inr (wd hw 24 rfl)) (ty := (.object "java/lang/Object")) (by decide)
      show Go p e below _ T28 (mkF m 52 #[.val (.int p0), .val (.int p1), .val (.int p2), .val (.int (p2 &&& (3 : Int32))), .val (.int (1 : Int32)), .val (.int (1 : Int32)), .val (.ref bx25), .val (.ref bx27), .unset, .unset] [(.ref b28)])
      refine Go.by (T' := T28) (g' := (mkF m 66 #[.val (.int p0), .val (.int p1), .val (.int p2), .val (.int (p2 &&& (3 : Int32))), .val (.int (1 : Int32)), .val (.int (1 : Int32)), .val (.ref bx25), .val (.ref bx27), .unset, .unset] [(.ref bx25), (.int (1 : Int32)), (.ref b28), (.ref b28)])) (fun t k => ?_) ?_
      · show Steps p.tables e below (T28.setTop (mkF m 52 #[.val (.int p0), .val (.int p1), .val (.int p2), .val (.int (p2 &&& (3 : Int32))), .val (.int (1 : Int32)), .val (.int (1 : Int32)), .val (.ref bx25), .val (.ref bx27), .unset, .unset] [(.ref b28)])) _
        refine XS.dup X28.here hx rfl (hb hby at_52) rfl rfl ?_
        show Steps p.tables e below (T28.setTop (mkF m 53 #[.val (.int p0), .val (.int p1), .val (.int p2), .val (.int (p2 &&& (3 : Int32))), .val (.int (1 : Int32)), .val (.int (1 : Int32)), .val (.ref bx25), .val (.ref bx27), .unset, .unset] [(.ref b28), (.ref b28)])) _
        refine XS.iload X28.here hx rfl (hb hby at_53) rfl ?_
        show Steps p.tables e below (T28.setTop (mkF m 55 #[.val (.int p0), .val (.int p1), .val (.int p2), .val (.int (p2 &&& (3 : Int32))), .val (.int (1 : Int32)), .val (.int (1 : Int32)), .val (.ref bx25), .val (.ref bx27), .unset, .unset] [(.int (1 : Int32)), (.ref b28), (.ref b28)])) _
        refine XS.iload X28.here hx rfl (hb hby at_55) rfl ?_
        show Steps p.tables e below (T28.setTop (mkF m 57 #[.val (.int p0), .val (.int p1), .val (.int p2), .val (.int (p2 &&& (3 : Int32))), .val (.int (1 : Int32)), .val (.int (1 : Int32)), .val (.ref bx25), .val (.ref bx27), .unset, .unset] [(.int (1 : Int32)), (.int (1 : Int32)), (.ref b28), (.ref b28)])) _
        refine XS.ifNo X28.here hx rfl (hb hby at_57) rfl ((if0 _ _).trans (feq (by decide : ¬ (1 : Int32) = (0 : Int32))).1) ?_
        show Steps p.tables e below (T28.setTop (mkF m 60 #[.val (.int p0), .val (.int p1), .val (.int p2), .val (.int (p2 &&& (3 : Int32))), .val (.int (1 : Int32)), .val (.int (1 : Int32)), .val (.ref bx25), .val (.ref bx27), .unset, .unset] [(.int (1 : Int32)), (.ref b28), (.ref b28)])) _
        refine XS.aload X28.here hx rfl (hb hby at_60) rfl rfl ?_
        show Steps p.tables e below (T28.setTop (mkF m 62 #[.val (.int p0), .val (.int p1), .val (.int p2), .val (.int (p2 &&& (3 : Int32))), .val (.int (1 : Int32)), .val (.int (1 : Int32)), .val (.ref bx25), .val (.ref bx27), .unset, .unset] [(.ref bx25), (.int (1 : Int32)), (.ref b28), (.ref b28)])) _
        refine XS.goto X28.here hx rfl (pc0 := 62) (pc' := 66) rfl (hb hby at_62) (by decide) (by decide) ?_
        exact k
      refine Go.callC X28 hx hZ (W := 1) (argsL := [(.int (1 : Int32)), (.ref bx25)]) (rest := [(.ref b28)]) hown rfl (wd hw 10 rfl) (wd hw 11 rfl) (wd hw 9 rfl) (wd hw 12 rfl) (by decide) (ct_rep_init_1_ref l Z a0 hw  b28 bx25 h28 n0 O E_b28 F_b28_reported F_b28_value g_b28) e28 (by rw [hml]; rfl) (lenOf pd__ZLjava_lang_Object__V_5641 rfl) rfl rfl (hb hby at_66) (by decide) (by decide) (by decide) (by decide) ?_
      intro v29 T29 h29 L29 X29 e29 q29
      obtain ⟨rfl, N29, K29, Fr_29, Fv_29⟩ := q29
      replace N29 := Fr.app N27 N29
      replace E_bx25 := E_bx25.keep K29
      replace F_bx25 := F_bx25.keep K29 (ninS ne_bx25_b28 nin0)
      replace E_bx27 := E_bx27.keep K29
      replace F_bx27 := F_bx27.keep K29 (ninS ne_bx27_b28 nin0)
      replace E_b28 := E_b28.keep K29
      clear F_b28_reported
      clear F_b28_value
      replace O := O.keep K29 (allS g_b28 all0)
      show Go p e below _ T29 (mkF m 69 #[.val (.int p0), .val (.int p1), .val (.int p2), .val (.int (p2 &&& (3 : Int32))), .val (.int (1 : Int32)), .val (.int (1 : Int32)), .val (.ref bx25), .val (.ref bx27), .unset, .unset] [(.ref b28)])
      refine Go.by (T' := T29) (g' := (mkF m 75 #[.val (.int p0), .val (.int p1), .val (.int p2), .val (.int (p2 &&& (3 : Int32))), .val (.int (1 : Int32)), .val (.int (1 : Int32)), .val (.ref bx25), .val (.ref bx27), .val (.ref b28), .unset] [(.ref bx27), (.ref b28)])) (fun t k => ?_) ?_
      · show Steps p.tables e below (T29.setTop (mkF m 69 #[.val (.int p0), .val (.int p1), .val (.int p2), .val (.int (p2 &&& (3 : Int32))), .val (.int (1 : Int32)), .val (.int (1 : Int32)), .val (.ref bx25), .val (.ref bx27), .unset, .unset] [(.ref b28)])) _
        refine XS.astore X29.here hx rfl (hb hby at_69) rfl rfl (l' := #[.val (.int p0), .val (.int p1), .val (.int p2), .val (.int (p2 &&& (3 : Int32))), .val (.int (1 : Int32)), .val (.int (1 : Int32)), .val (.ref bx25), .val (.ref bx27), .val (.ref b28), .unset]) rfl ?_
        show Steps p.tables e below (T29.setTop (mkF m 71 #[.val (.int p0), .val (.int p1), .val (.int p2), .val (.int (p2 &&& (3 : Int32))), .val (.int (1 : Int32)), .val (.int (1 : Int32)), .val (.ref bx25), .val (.ref bx27), .val (.ref b28), .unset] [])) _
        refine XS.aload X29.here hx rfl (hb hby at_71) rfl rfl ?_
        show Steps p.tables e below (T29.setTop (mkF m 73 #[.val (.int p0), .val (.int p1), .val (.int p2), .val (.int (p2 &&& (3 : Int32))), .val (.int (1 : Int32)), .val (.int (1 : Int32)), .val (.ref bx25), .val (.ref bx27), .val (.ref b28), .unset] [(.ref b28)])) _
        refine XS.aload X29.here hx rfl (hb hby at_73) rfl rfl ?_
        exact k
      refine Go.callV X29 hx hZ (W := 0) (argsL := [(.ref bx27)]) (rest := []) hown (wd hw 25 rfl) (wd hw 26 rfl) (notFace_of_selects (args := #[]) (mvT hZ (wd hw 28 rfl))) (wd hw 28 rfl) (wd hw 27 rfl) (wd hw 9 rfl) (wd hw 29 rfl) (by decide) E_b28 (ct_orElse_ref_ref l Z a0 hw  b28 bx25 bx27 h29 n0 O Fv_29) e29 (by rw [hml]; rfl) (lenOf pd__Ljava_lang_Object__Ljava_lang_Object__4766 rfl) rfl rfl (hb hby at_75) (by decide) (by decide) (by decide) (by decide) ?_
      intro v30 T30 h30 L30 X30 e30 q30
      obtain ⟨rfl, N30, rfl⟩ := q30
      replace N30 := Fr.app N29 N30
      show Go p e below _ T30 (mkF m 78 #[.val (.int p0), .val (.int p1), .val (.int p2), .val (.int (p2 &&& (3 : Int32))), .val (.int (1 : Int32)), .val (.int (1 : Int32)), .val (.ref bx25), .val (.ref bx27), .val (.ref b28), .unset] [(.ref bx25)])
      refine Go.castY X30 hx hZ hown (wd hw 30 rfl) e30 (Ins.self E_bx25) (hb hby at_78) ?_
      intro T31 X31 e31
      show Go p e below _ T31 (mkF m 81 #[.val (.int p0), .val (.int p1), .val (.int p2), .val (.int (p2 &&& (3 : Int32))), .val (.int (1 : Int32)), .val (.int (1 : Int32)), .val (.ref bx25), .val (.ref bx27), .val (.ref b28), .unset] [(.ref bx25)])
      refine Go.by (T' := T31) (g' := (mkF m 102 #[.val (.int p0), .val (.int p1), .val (.int p2), .val (.int (p2 &&& (3 : Int32))), .val (.int (1 : Int32)), .val (.int (1 : Int32)), .val (.ref bx25), .val (.ref bx27), .val (.ref b28), .val (.ref bx25)] [(.ref bx25)])) (fun t k => ?_) ?_
      · show Steps p.tables e below (T31.setTop (mkF m 81 #[.val (.int p0), .val (.int p1), .val (.int p2), .val (.int (p2 &&& (3 : Int32))), .val (.int (1 : Int32)), .val (.int (1 : Int32)), .val (.ref bx25), .val (.ref bx27), .val (.ref b28), .unset] [(.ref bx25)])) _
        refine XS.astore X31.here hx rfl (hb hby at_81) rfl rfl (l' := #[.val (.int p0), .val (.int p1), .val (.int p2), .val (.int (p2 &&& (3 : Int32))), .val (.int (1 : Int32)), .val (.int (1 : Int32)), .val (.ref bx25), .val (.ref bx27), .val (.ref b28), .val (.ref bx25)]) rfl ?_
        show Steps p.tables e below (T31.setTop (mkF m 83 #[.val (.int p0), .val (.int p1), .val (.int p2), .val (.int (p2 &&& (3 : Int32))), .val (.int (1 : Int32)), .val (.int (1 : Int32)), .val (.ref bx25), .val (.ref bx27), .val (.ref b28), .val (.ref bx25)] [])) _
        refine XS.iload X31.here hx rfl (hb hby at_83) rfl ?_
        show Steps p.tables e below (T31.setTop (mkF m 85 #[.val (.int p0), .val (.int p1), .val (.int p2), .val (.int (p2 &&& (3 : Int32))), .val (.int (1 : Int32)), .val (.int (1 : Int32)), .val (.ref bx25), .val (.ref bx27), .val (.ref b28), .val (.ref bx25)] [(.int (1 : Int32))])) _
        refine XS.ifNo X31.here hx rfl (hb hby at_85) rfl ((if0 _ _).trans (feq (by decide : ¬ (1 : Int32) = (0 : Int32))).1) ?_
        show Steps p.tables e below (T31.setTop (mkF m 88 #[.val (.int p0), .val (.int p1), .val (.int p2), .val (.int (p2 &&& (3 : Int32))), .val (.int (1 : Int32)), .val (.int (1 : Int32)), .val (.ref bx25), .val (.ref bx27), .val (.ref b28), .val (.ref bx25)] [])) _
        refine XS.aload X31.here hx rfl (hb hby at_88) rfl rfl ?_
        show Steps p.tables e below (T31.setTop (mkF m 90 #[.val (.int p0), .val (.int p1), .val (.int p2), .val (.int (p2 &&& (3 : Int32))), .val (.int (1 : Int32)), .val (.int (1 : Int32)), .val (.ref bx25), .val (.ref bx27), .val (.ref b28), .val (.ref bx25)] [(.ref bx25)])) _
        refine XS.aload X31.here hx rfl (hb hby at_90) rfl rfl ?_
        show Steps p.tables e below (T31.setTop (mkF m 92 #[.val (.int p0), .val (.int p1), .val (.int p2), .val (.int (p2 &&& (3 : Int32))), .val (.int (1 : Int32)), .val (.int (1 : Int32)), .val (.ref bx25), .val (.ref bx27), .val (.ref b28), .val (.ref bx25)] [(.ref bx25), (.ref bx25)])) _
        refine Jvm.RoadKit.acmp (g := (mkF m 92 #[.val (.int p0), .val (.int p1), .val (.int p2), .val (.int (p2 &&& (3 : Int32))), .val (.int (1 : Int32)), .val (.int (1 : Int32)), .val (.ref bx25), .val (.ref bx27), .val (.ref b28), .val (.ref bx25)] [(.ref bx25), (.ref bx25)])) X31 hx rfl rfl rfl (pc0 := 92) (pc' := 95) (same := true) rfl (hb hby at_92) rfl (decide_eq_true rfl) (by decide) (by decide) ?_
        show Steps p.tables e below (T31.setTop (mkF m 95 #[.val (.int p0), .val (.int p1), .val (.int p2), .val (.int (p2 &&& (3 : Int32))), .val (.int (1 : Int32)), .val (.int (1 : Int32)), .val (.ref bx25), .val (.ref bx27), .val (.ref b28), .val (.ref bx25)] [])) _
        refine XS.aload X31.here hx rfl (hb hby at_95) rfl rfl ?_
        show Steps p.tables e below (T31.setTop (mkF m 97 #[.val (.int p0), .val (.int p1), .val (.int p2), .val (.int (p2 &&& (3 : Int32))), .val (.int (1 : Int32)), .val (.int (1 : Int32)), .val (.ref bx25), .val (.ref bx27), .val (.ref b28), .val (.ref bx25)] [(.ref bx25)])) _
        refine XS.ifnullNo X31.here hx rfl (hb hby at_97) rfl ?_
        show Steps p.tables e below (T31.setTop (mkF m 100 #[.val (.int p0), .val (.int p1), .val (.int p2), .val (.int (p2 &&& (3 : Int32))), .val (.int (1 : Int32)), .val (.int (1 : Int32)), .val (.ref bx25), .val (.ref bx27), .val (.ref b28), .val (.ref bx25)] [])) _
        refine XS.aload X31.here hx rfl (hb hby at_100) rfl rfl ?_
        exact k
      refine Go.callV X31 hx hZ (W := 0) (argsL := []) (rest := []) hown (wd hw 32 rfl) (wd hw 33 rfl) (notFace_of_selects (args := #[]) (mvT hZ (wd hw 35 rfl))) (wd hw 35 rfl) (wd hw 34 rfl) (wd hw 2 rfl) (wd hw 36 rfl) (by decide) E_bx25 (ct_intValue l Z a0 hw  bx25 p0 h29 n0 O F_bx25) e31 (by rw [hml]; rfl) (lenOf pd___I_8321 rfl) rfl rfl (hb hby at_102) (by decide) (by decide) (by decide) (by decide) ?_
      intro v32 T32 h32 L32 X32 e32 q32
      obtain ⟨rfl, N32, rfl⟩ := q32
      replace N32 := Fr.app N30 N32
      show Go p e below _ T32 (mkF m 105 #[.val (.int p0), .val (.int p1), .val (.int p2), .val (.int (p2 &&& (3 : Int32))), .val (.int (1 : Int32)), .val (.int (1 : Int32)), .val (.ref bx25), .val (.ref bx27), .val (.ref b28), .val (.ref bx25)] [(.int p0)])
      refine Go.by (T' := T32) (g' := (mkF m 114 #[.val (.int p0), .val (.int p1), .val (.int p2), .val (.int (p2 &&& (3 : Int32))), .val (.int (1 : Int32)), .val (.int (1 : Int32)), .val (.ref bx25), .val (.ref bx27), .val (.ref b28), .val (.ref bx25)] [(.int (1 : Int32))])) (fun t k => ?_) ?_
      · show Steps p.tables e below (T32.setTop (mkF m 105 #[.val (.int p0), .val (.int p1), .val (.int p2), .val (.int (p2 &&& (3 : Int32))), .val (.int (1 : Int32)), .val (.int (1 : Int32)), .val (.ref bx25), .val (.ref bx27), .val (.ref b28), .val (.ref bx25)] [(.int p0)])) _
        refine XS.iloadN X32.here hx rfl (hb hby at_105) rfl ?_
        show Steps p.tables e below (T32.setTop (mkF m 106 #[.val (.int p0), .val (.int p1), .val (.int p2), .val (.int (p2 &&& (3 : Int32))), .val (.int (1 : Int32)), .val (.int (1 : Int32)), .val (.ref bx25), .val (.ref bx27), .val (.ref b28), .val (.ref bx25)] [(.int p0), (.int p0)])) _
        refine XS.icmpNo X32.here hx rfl (hb hby at_106) rfl (teq (rfl : p0 = p0)).2 ?_
        show Steps p.tables e below (T32.setTop (mkF m 109 #[.val (.int p0), .val (.int p1), .val (.int p2), .val (.int (p2 &&& (3 : Int32))), .val (.int (1 : Int32)), .val (.int (1 : Int32)), .val (.ref bx25), .val (.ref bx27), .val (.ref b28), .val (.ref bx25)] [])) _
        refine XS.iconst X32.here hx rfl (hb hby at_109) ?_
        show Steps p.tables e below (T32.setTop (mkF m 110 #[.val (.int p0), .val (.int p1), .val (.int p2), .val (.int (p2 &&& (3 : Int32))), .val (.int (1 : Int32)), .val (.int (1 : Int32)), .val (.ref bx25), .val (.ref bx27), .val (.ref b28), .val (.ref bx25)] [(.int (1 : Int32))])) _
        refine XS.goto X32.here hx rfl (pc0 := 110) (pc' := 114) rfl (hb hby at_110) (by decide) (by decide) ?_
        exact k
      refine Go.retZ X32 hx hlk hret (Or.inr rfl) (hb hby at_114) (by decide) (by decide) e32 ?_
      exact ⟨rfl, N32⟩
    · skip
      refine Go.by (T' := T25) (g' := (mkF m 49 #[.val (.int p0), .val (.int p1), .val (.int p2), .val (.int (p2 &&& (3 : Int32))), .val (.int (1 : Int32)), .val (.int (1 : Int32)), .val (.ref bx25), .val .null, .unset, .unset] [])) (fun t k => ?_) ?_
      · show Steps p.tables e below (T25.setTop (mkF m 36 #[.val (.int p0), .val (.int p1), .val (.int p2), .val (.int (p2 &&& (3 : Int32))), .val (.int (1 : Int32)), .val (.int (1 : Int32)), .val (.ref bx25), .unset, .unset, .unset] [(.int (p2 &&& (4 : Int32)))])) _
        refine XS.ifNo X25.here hx rfl (hb hby at_36) rfl ((if0 _ _).trans (feq hy26).1) ?_
        show Steps p.tables e below (T25.setTop (mkF m 39 #[.val (.int p0), .val (.int p1), .val (.int p2), .val (.int (p2 &&& (3 : Int32))), .val (.int (1 : Int32)), .val (.int (1 : Int32)), .val (.ref bx25), .unset, .unset, .unset] [])) _
        refine XS.aconstNull X25.here hx rfl (hb hby at_39) ?_
        show Steps p.tables e below (T25.setTop (mkF m 40 #[.val (.int p0), .val (.int p1), .val (.int p2), .val (.int (p2 &&& (3 : Int32))), .val (.int (1 : Int32)), .val (.int (1 : Int32)), .val (.ref bx25), .unset, .unset, .unset] [.null])) _
        refine XS.goto X25.here hx rfl (pc0 := 40) (pc' := 47) rfl (hb hby at_40) (by decide) (by decide) ?_
        show Steps p.tables e below (T25.setTop (mkF m 47 #[.val (.int p0), .val (.int p1), .val (.int p2), .val (.int (p2 &&& (3 : Int32))), .val (.int (1 : Int32)), .val (.int (1 : Int32)), .val (.ref bx25), .unset, .unset, .unset] [.null])) _
        refine XS.astore X25.here hx rfl (hb hby at_47) rfl rfl (l' := #[.val (.int p0), .val (.int p1), .val (.int p2), .val (.int (p2 &&& (3 : Int32))), .val (.int (1 : Int32)), .val (.int (1 : Int32)), .val (.ref bx25), .val .null, .unset, .unset]) rfl ?_
        exact k
      refine Go.newO X25 hx hZ hown (wd hw 7 rfl) (wd hw 8 rfl) (wd hw 9 rfl) e25 (hb hby at_49) (by decide) (by decide) ?_
      intro T33 h33 b33 X33 e33 E33 g33 A33 D33
      have lb33 := Nat.le_of_eq g33.symm
      have ne_bx25_b33 : bx25 ≠ b33 := Nat.ne_of_lt (Nat.lt_of_lt_of_le E_bx25.lt lb33)
      have g_b33 : n0 ≤ b33 := Nat.le_trans (OwnKit.Old.le O) lb33
      replace E_bx25 := E_bx25.ext E33
      replace F_bx25 := F_bx25.ext E33
      replace O := O.ext E33
      have E_b33 := A33
      have F_b33_reported : Fld Z h33 b33 "com/example/provenara/provenara/model/Reported" "reported" "Z" (.int (0 : Int32)) := D33 (Or.inr (wd hw 22 rfl)) (ty := .boolean) (by decide)
      have F_b33_value : Fld Z h33 b33 "com/example/provenara/provenara/model/Reported" "value" "Ljava/lang/Object;" .null := D33 (Or.inr (wd hw 24 rfl)) (ty := (.object "java/lang/Object")) (by decide)
      show Go p e below _ T33 (mkF m 52 #[.val (.int p0), .val (.int p1), .val (.int p2), .val (.int (p2 &&& (3 : Int32))), .val (.int (1 : Int32)), .val (.int (1 : Int32)), .val (.ref bx25), .val .null, .unset, .unset] [(.ref b33)])
      refine Go.by (T' := T33) (g' := (mkF m 66 #[.val (.int p0), .val (.int p1), .val (.int p2), .val (.int (p2 &&& (3 : Int32))), .val (.int (1 : Int32)), .val (.int (1 : Int32)), .val (.ref bx25), .val .null, .unset, .unset] [(.ref bx25), (.int (1 : Int32)), (.ref b33), (.ref b33)])) (fun t k => ?_) ?_
      · show Steps p.tables e below (T33.setTop (mkF m 52 #[.val (.int p0), .val (.int p1), .val (.int p2), .val (.int (p2 &&& (3 : Int32))), .val (.int (1 : Int32)), .val (.int (1 : Int32)), .val (.ref bx25), .val .null, .unset, .unset] [(.ref b33)])) _
        refine XS.dup X33.here hx rfl (hb hby at_52) rfl rfl ?_
        show Steps p.tables e below (T33.setTop (mkF m 53 #[.val (.int p0), .val (.int p1), .val (.int p2), .val (.int (p2 &&& (3 : Int32))), .val (.int (1 : Int32)), .val (.int (1 : Int32)), .val (.ref bx25), .val .null, .unset, .unset] [(.ref b33), (.ref b33)])) _
        refine XS.iload X33.here hx rfl (hb hby at_53) rfl ?_
        show Steps p.tables e below (T33.setTop (mkF m 55 #[.val (.int p0), .val (.int p1), .val (.int p2), .val (.int (p2 &&& (3 : Int32))), .val (.int (1 : Int32)), .val (.int (1 : Int32)), .val (.ref bx25), .val .null, .unset, .unset] [(.int (1 : Int32)), (.ref b33), (.ref b33)])) _
        refine XS.iload X33.here hx rfl (hb hby at_55) rfl ?_
        show Steps p.tables e below (T33.setTop (mkF m 57 #[.val (.int p0), .val (.int p1), .val (.int p2), .val (.int (p2 &&& (3 : Int32))), .val (.int (1 : Int32)), .val (.int (1 : Int32)), .val (.ref bx25), .val .null, .unset, .unset] [(.int (1 : Int32)), (.int (1 : Int32)), (.ref b33), (.ref b33)])) _
        refine XS.ifNo X33.here hx rfl (hb hby at_57) rfl ((if0 _ _).trans (feq (by decide : ¬ (1 : Int32) = (0 : Int32))).1) ?_
        show Steps p.tables e below (T33.setTop (mkF m 60 #[.val (.int p0), .val (.int p1), .val (.int p2), .val (.int (p2 &&& (3 : Int32))), .val (.int (1 : Int32)), .val (.int (1 : Int32)), .val (.ref bx25), .val .null, .unset, .unset] [(.int (1 : Int32)), (.ref b33), (.ref b33)])) _
        refine XS.aload X33.here hx rfl (hb hby at_60) rfl rfl ?_
        show Steps p.tables e below (T33.setTop (mkF m 62 #[.val (.int p0), .val (.int p1), .val (.int p2), .val (.int (p2 &&& (3 : Int32))), .val (.int (1 : Int32)), .val (.int (1 : Int32)), .val (.ref bx25), .val .null, .unset, .unset] [(.ref bx25), (.int (1 : Int32)), (.ref b33), (.ref b33)])) _
        refine XS.goto X33.here hx rfl (pc0 := 62) (pc' := 66) rfl (hb hby at_62) (by decide) (by decide) ?_
        exact k
      refine Go.callC X33 hx hZ (W := 1) (argsL := [(.int (1 : Int32)), (.ref bx25)]) (rest := [(.ref b33)]) hown rfl (wd hw 10 rfl) (wd hw 11 rfl) (wd hw 9 rfl) (wd hw 12 rfl) (by decide) (ct_rep_init_1_ref l Z a0 hw  b33 bx25 h33 n0 O E_b33 F_b33_reported F_b33_value g_b33) e33 (by rw [hml]; rfl) (lenOf pd__ZLjava_lang_Object__V_5641 rfl) rfl rfl (hb hby at_66) (by decide) (by decide) (by decide) (by decide) ?_
      intro v34 T34 h34 L34 X34 e34 q34
      obtain ⟨rfl, N34, K34, Fr_34, Fv_34⟩ := q34
      replace N34 := Fr.app N25 N34
      replace E_bx25 := E_bx25.keep K34
      replace F_bx25 := F_bx25.keep K34 (ninS ne_bx25_b33 nin0)
      replace E_b33 := E_b33.keep K34
      clear F_b33_reported
      clear F_b33_value
      replace O := O.keep K34 (allS g_b33 all0)
      show Go p e below _ T34 (mkF m 69 #[.val (.int p0), .val (.int p1), .val (.int p2), .val (.int (p2 &&& (3 : Int32))), .val (.int (1 : Int32)), .val (.int (1 : Int32)), .val (.ref bx25), .val .null, .unset, .unset] [(.ref b33)])
      refine Go.by (T' := T34) (g' := (mkF m 75 #[.val (.int p0), .val (.int p1), .val (.int p2), .val (.int (p2 &&& (3 : Int32))), .val (.int (1 : Int32)), .val (.int (1 : Int32)), .val (.ref bx25), .val .null, .val (.ref b33), .unset] [.null, (.ref b33)])) (fun t k => ?_) ?_
      · show Steps p.tables e below (T34.setTop (mkF m 69 #[.val (.int p0), .val (.int p1), .val (.int p2), .val (.int (p2 &&& (3 : Int32))), .val (.int (1 : Int32)), .val (.int (1 : Int32)), .val (.ref bx25), .val .null, .unset, .unset] [(.ref b33)])) _
        refine XS.astore X34.here hx rfl (hb hby at_69) rfl rfl (l' := #[.val (.int p0), .val (.int p1), .val (.int p2), .val (.int (p2 &&& (3 : Int32))), .val (.int (1 : Int32)), .val (.int (1 : Int32)), .val (.ref bx25), .val .null, .val (.ref b33), .unset]) rfl ?_
        show Steps p.tables e below (T34.setTop (mkF m 71 #[.val (.int p0), .val (.int p1), .val (.int p2), .val (.int (p2 &&& (3 : Int32))), .val (.int (1 : Int32)), .val (.int (1 : Int32)), .val (.ref bx25), .val .null, .val (.ref b33), .unset] [])) _
        refine XS.aload X34.here hx rfl (hb hby at_71) rfl rfl ?_
        show Steps p.tables e below (T34.setTop (mkF m 73 #[.val (.int p0), .val (.int p1), .val (.int p2), .val (.int (p2 &&& (3 : Int32))), .val (.int (1 : Int32)), .val (.int (1 : Int32)), .val (.ref bx25), .val .null, .val (.ref b33), .unset] [(.ref b33)])) _
        refine XS.aload X34.here hx rfl (hb hby at_73) rfl rfl ?_
        exact k
      refine Go.callV X34 hx hZ (W := 0) (argsL := [.null]) (rest := []) hown (wd hw 25 rfl) (wd hw 26 rfl) (notFace_of_selects (args := #[]) (mvT hZ (wd hw 28 rfl))) (wd hw 28 rfl) (wd hw 27 rfl) (wd hw 9 rfl) (wd hw 29 rfl) (by decide) E_b33 (ct_orElse_ref_null l Z a0 hw  b33 bx25 h34 n0 O Fv_34) e34 (by rw [hml]; rfl) (lenOf pd__Ljava_lang_Object__Ljava_lang_Object__4766 rfl) rfl rfl (hb hby at_75) (by decide) (by decide) (by decide) (by decide) ?_
      intro v35 T35 h35 L35 X35 e35 q35
      obtain ⟨rfl, N35, rfl⟩ := q35
      replace N35 := Fr.app N34 N35
      show Go p e below _ T35 (mkF m 78 #[.val (.int p0), .val (.int p1), .val (.int p2), .val (.int (p2 &&& (3 : Int32))), .val (.int (1 : Int32)), .val (.int (1 : Int32)), .val (.ref bx25), .val .null, .val (.ref b33), .unset] [(.ref bx25)])
      refine Go.castY X35 hx hZ hown (wd hw 30 rfl) e35 (Ins.self E_bx25) (hb hby at_78) ?_
      intro T36 X36 e36
      show Go p e below _ T36 (mkF m 81 #[.val (.int p0), .val (.int p1), .val (.int p2), .val (.int (p2 &&& (3 : Int32))), .val (.int (1 : Int32)), .val (.int (1 : Int32)), .val (.ref bx25), .val .null, .val (.ref b33), .unset] [(.ref bx25)])
      refine Go.by (T' := T36) (g' := (mkF m 102 #[.val (.int p0), .val (.int p1), .val (.int p2), .val (.int (p2 &&& (3 : Int32))), .val (.int (1 : Int32)), .val (.int (1 : Int32)), .val (.ref bx25), .val .null, .val (.ref b33), .val (.ref bx25)] [(.ref bx25)])) (fun t k => ?_) ?_
      · show Steps p.tables e below (T36.setTop (mkF m 81 #[.val (.int p0), .val (.int p1), .val (.int p2), .val (.int (p2 &&& (3 : Int32))), .val (.int (1 : Int32)), .val (.int (1 : Int32)), .val (.ref bx25), .val .null, .val (.ref b33), .unset] [(.ref bx25)])) _
        refine XS.astore X36.here hx rfl (hb hby at_81) rfl rfl (l' := #[.val (.int p0), .val (.int p1), .val (.int p2), .val (.int (p2 &&& (3 : Int32))), .val (.int (1 : Int32)), .val (.int (1 : Int32)), .val (.ref bx25), .val .null, .val (.ref b33), .val (.ref bx25)]) rfl ?_
        show Steps p.tables e below (T36.setTop (mkF m 83 #[.val (.int p0), .val (.int p1), .val (.int p2), .val (.int (p2 &&& (3 : Int32))), .val (.int (1 : Int32)), .val (.int (1 : Int32)), .val (.ref bx25), .val .null, .val (.ref b33), .val (.ref bx25)] [])) _
        refine XS.iload X36.here hx rfl (hb hby at_83) rfl ?_
        show Steps p.tables e below (T36.setTop (mkF m 85 #[.val (.int p0), .val (.int p1), .val (.int p2), .val (.int (p2 &&& (3 : Int32))), .val (.int (1 : Int32)), .val (.int (1 : Int32)), .val (.ref bx25), .val .null, .val (.ref b33), .val (.ref bx25)] [(.int (1 : Int32))])) _
        refine XS.ifNo X36.here hx rfl (hb hby at_85) rfl ((if0 _ _).trans (feq (by decide : ¬ (1 : Int32) = (0 : Int32))).1) ?_
        show Steps p.tables e below (T36.setTop (mkF m 88 #[.val (.int p0), .val (.int p1), .val (.int p2), .val (.int (p2 &&& (3 : Int32))), .val (.int (1 : Int32)), .val (.int (1 : Int32)), .val (.ref bx25), .val .null, .val (.ref b33), .val (.ref bx25)] [])) _
        refine XS.aload X36.here hx rfl (hb hby at_88) rfl rfl ?_
        show Steps p.tables e below (T36.setTop (mkF m 90 #[.val (.int p0), .val (.int p1), .val (.int p2), .val (.int (p2 &&& (3 : Int32))), .val (.int (1 : Int32)), .val (.int (1 : Int32)), .val (.ref bx25), .val .null, .val (.ref b33), .val (.ref bx25)] [(.ref bx25)])) _
        refine XS.aload X36.here hx rfl (hb hby at_90) rfl rfl ?_
        show Steps p.tables e below (T36.setTop (mkF m 92 #[.val (.int p0), .val (.int p1), .val (.int p2), .val (.int (p2 &&& (3 : Int32))), .val (.int (1 : Int32)), .val (.int (1 : Int32)), .val (.ref bx25), .val .null, .val (.ref b33), .val (.ref bx25)] [(.ref bx25), (.ref bx25)])) _
        refine Jvm.RoadKit.acmp (g := (mkF m 92 #[.val (.int p0), .val (.int p1), .val (.int p2), .val (.int (p2 &&& (3 : Int32))), .val (.int (1 : Int32)), .val (.int (1 : Int32)), .val (.ref bx25), .val .null, .val (.ref b33), .val (.ref bx25)] [(.ref bx25), (.ref bx25)])) X36 hx rfl rfl rfl (pc0 := 92) (pc' := 95) (same := true) rfl (hb hby at_92) rfl (decide_eq_true rfl) (by decide) (by decide) ?_
        show Steps p.tables e below (T36.setTop (mkF m 95 #[.val (.int p0), .val (.int p1), .val (.int p2), .val (.int (p2 &&& (3 : Int32))), .val (.int (1 : Int32)), .val (.int (1 : Int32)), .val (.ref bx25), .val .null, .val (.ref b33), .val (.ref bx25)] [])) _
        refine XS.aload X36.here hx rfl (hb hby at_95) rfl rfl ?_
        show Steps p.tables e below (T36.setTop (mkF m 97 #[.val (.int p0), .val (.int p1), .val (.int p2), .val (.int (p2 &&& (3 : Int32))), .val (.int (1 : Int32)), .val (.int (1 : Int32)), .val (.ref bx25), .val .null, .val (.ref b33), .val (.ref bx25)] [(.ref bx25)])) _
        refine XS.ifnullNo X36.here hx rfl (hb hby at_97) rfl ?_
        show Steps p.tables e below (T36.setTop (mkF m 100 #[.val (.int p0), .val (.int p1), .val (.int p2), .val (.int (p2 &&& (3 : Int32))), .val (.int (1 : Int32)), .val (.int (1 : Int32)), .val (.ref bx25), .val .null, .val (.ref b33), .val (.ref bx25)] [])) _
        refine XS.aload X36.here hx rfl (hb hby at_100) rfl rfl ?_
        exact k
      refine Go.callV X36 hx hZ (W := 0) (argsL := []) (rest := []) hown (wd hw 32 rfl) (wd hw 33 rfl) (notFace_of_selects (args := #[]) (mvT hZ (wd hw 35 rfl))) (wd hw 35 rfl) (wd hw 34 rfl) (wd hw 2 rfl) (wd hw 36 rfl) (by decide) E_bx25 (ct_intValue l Z a0 hw  bx25 p0 h34 n0 O F_bx25) e36 (by rw [hml]; rfl) (lenOf pd___I_8321 rfl) rfl rfl (hb hby at_102) (by decide) (by decide) (by decide) (by decide) ?_
      intro v37 T37 h37 L37 X37 e37 q37
      obtain ⟨rfl, N37, rfl⟩ := q37
      replace N37 := Fr.app N35 N37
      show Go p e below _ T37 (mkF m 105 #[.val (.int p0), .val (.int p1), .val (.int p2), .val (.int (p2 &&& (3 : Int32))), .val (.int (1 : Int32)), .val (.int (1 : Int32)), .val (.ref bx25), .val .null, .val (.ref b33), .val (.ref bx25)] [(.int p0)])
      refine Go.by (T' := T37) (g' := (mkF m 114 #[.val (.int p0), .val (.int p1), .val (.int p2), .val (.int (p2 &&& (3 : Int32))), .val (.int (1 : Int32)), .val (.int (1 : Int32)), .val (.ref bx25), .val .null, .val (.ref b33), .val (.ref bx25)] [(.int (1 : Int32))])) (fun t k => ?_) ?_
      · show Steps p.tables e below (T37.setTop (mkF m 105 #[.val (.int p0), .val (.int p1), .val (.int p2), .val (.int (p2 &&& (3 : Int32))), .val (.int (1 : Int32)), .val (.int (1 : Int32)), .val (.ref bx25), .val .null, .val (.ref b33), .val (.ref bx25)] [(.int p0)])) _
        refine XS.iloadN X37.here hx rfl (hb hby at_105) rfl ?_
        show Steps p.tables e below (T37.setTop (mkF m 106 #[.val (.int p0), .val (.int p1), .val (.int p2), .val (.int (p2 &&& (3 : Int32))), .val (.int (1 : Int32)), .val (.int (1 : Int32)), .val (.ref bx25), .val .null, .val (.ref b33), .val (.ref bx25)] [(.int p0), (.int p0)])) _
        refine XS.icmpNo X37.here hx rfl (hb hby at_106) rfl (teq (rfl : p0 = p0)).2 ?_
        show Steps p.tables e below (T37.setTop (mkF m 109 #[.val (.int p0), .val (.int p1), .val (.int p2), .val (.int (p2 &&& (3 : Int32))), .val (.int (1 : Int32)), .val (.int (1 : Int32)), .val (.ref bx25), .val .null, .val (.ref b33), .val (.ref bx25)] [])) _
        refine XS.iconst X37.here hx rfl (hb hby at_109) ?_
        show Steps p.tables e below (T37.setTop (mkF m 110 #[.val (.int p0), .val (.int p1), .val (.int p2), .val (.int (p2 &&& (3 : Int32))), .val (.int (1 : Int32)), .val (.int (1 : Int32)), .val (.ref bx25), .val .null, .val (.ref b33), .val (.ref bx25)] [(.int (1 : Int32))])) _
        refine XS.goto X37.here hx rfl (pc0 := 110) (pc' := 114) rfl (hb hby at_110) (by decide) (by decide) ?_
        exact k
      refine Go.retZ X37 hx hlk hret (Or.inr rfl) (hb hby at_114) (by decide) (by decide) e37 ?_
      exact ⟨rfl, N37⟩
set_option maxRecDepth 65536 in
set_option maxHeartbeats 40000000 in
theorem comes_1 {Post : Tables → Env → Array Value → State → Outcome → State → Prop} (hpost : ∀ tb e args s v u, (limb_1_1.after args s (.returned v) u = true ∧ limb_1_2.after args s (.returned v) u = true ∧ True) → FrameEnd s (.returned v) u (Jvm.fieldLocs frame_1_writes args s ++ Jvm.arrayLocs frame_1_arrays args s ++ Jvm.staticLocs frame_1_statics s) 16 128 → Post tb e args s (.returned v) u) :
    ArmFor flags0 classFile x code maxLocals ret World_1 tables_1 room_1 Calls_1 rest_1 Pre_1 Post := by
  intro l hfl _ _ p e ha hc hk s m args below hf hA hF happ hP
  obtain ⟨hcalls, hrest, hpre⟩ := hP
  obtain ⟨-, -, -, hnamed, -, -, -, hat⟩ := (Spec.applies_iff hf).mp happ
  obtain ⟨hg, hn⟩ := and_e (Cond.before_iff.mp (show (Jvm.Cond.and given_1 narrow_1).before args s = true from hpre))
  obtain ⟨hcnt, hg⟩ := and_e hg
  obtain ⟨ha0, hg⟩ := and_e hg
  obtain ⟨ha1, hg⟩ := and_e hg
  have ha2 := hg
  obtain ⟨u0, u1, u2, rfl⟩ : ∃ u0 u1 u2 : Value, args = #[u0, u1, u2] := by
    have hs : args.size = 3 := by simpa [Cond.value] using hcnt
    obtain ⟨L⟩ := args
    match L, hs with
    | [u0, u1, u2], _ => exact ⟨u0, u1, u2, rfl⟩
  have hw := fun d (hd : d ∈ tables_1) => atoms_spec (ws := Jvm.Cond.code x code maxLocals ret :: tables_1) hat d (List.mem_cons_of_mem _ hd)
  have hfit : Fit s := fun {y c} hc i hi => by
    obtain ⟨ha, rfl⟩ := Array.getElem?_eq_some_iff.mp hc
    have q := List.all_eq_true.mp ((Array.all_eq_true_iff_forall_mem.mp hF) _ (Array.getElem_mem ha)) i (List.mem_range.mpr hi)
    simpa [Array.getElem?_eq_getElem hi] using q
  obtain ⟨hsets, hown0⟩ := atoms_of _ (rest_1_c_eq ▸ (show rest_1_c.before _ s = true from hrest))
  obtain ⟨i0, ei0⟩ := is_v ha0
  obtain rfl : u0 = (.int i0) := Option.some.inj ei0
  obtain ⟨i1, ei1⟩ := is_v ha1
  obtain rfl : u1 = (.int i1) := Option.some.inj ei1
  obtain ⟨i2, ei2⟩ := is_v ha2
  obtain rfl : u2 = (.int i2) := Option.some.inj ei2
  have k_arr := Cond.before_iff.mp (hsets _ (List.mem_of_getElem? (i := 4) rfl))
  have k_len := Cond.before_iff.mp (hsets _ (List.mem_of_getElem? (i := 6) rfl))
  have k_all := Cond.before_iff.mp (hsets _ (List.mem_of_getElem? (i := 7) rfl))
  obtain ⟨w_cache, ev_cache⟩ := arr_v k_arr
  have S_cache := Sta.start ev_cache (Or.inr ⟨(wd hw 5 rfl), (hsets _ (List.mem_of_getElem? (i := 2) rfl))⟩)
  obtain ⟨cl_cache, A_cache⟩ := Arr.start ev_cache k_arr
  obtain ⟨k_sz, k_z⟩ := lenI_v (eqI_v k_len) ev_cache (A_cache.fin (Vm.Alike.refl _))
  have B_cache := Bxs.start (val := fun j => .int (j - 128)) (fun _ => ev_cache) A_cache k_sz k_z (by decide) k_all (fun X j nn hq => eqv_i (Term.sub_int (idx_at nn) (Term.int_eval _)) hq)
  have S_high := Sta.start (eqI_v (Cond.before_iff.mp (hsets _ (List.mem_of_getElem? (i := 3) rfl)))) (Or.inr ⟨(wd hw 5 rfl), (hsets _ (List.mem_of_getElem? (i := 0) rfl))⟩)
  obtain ⟨n, o, h1, h2, h3, _, L, rfl, ⟨rfl, N⟩, hq⟩ := ct_law l s _ hw w_cache cl_cache S_cache B_cache S_high i0 i1 i2 s.heap s.heap.size (Old.start s)  tables_1 p e ha hc hk s m _ below hf ((Spec.applies_iff_loose hf).mp happ).1 ⟨rfl, State.Warmed39.refl s, rfl⟩ trivial
  refine ⟨n, _, h1, h2, h3, hpost _ _ _ _ _ _ ⟨Cond.after_iff.mpr rfl, Cond.after_iff.mpr (eq_i res_at (Term.int_eval (1)) rfl), trivial⟩ ⟨hq.1, hq.2.1, (hq.2.2.sift fun y hy => Or.inr (N y hy)).mono (by decide) (by decide)⟩⟩
theorem main_1_1 : Claimed_1_1 := comes_1 fun _ _ _ _ _ _ h hF => ⟨h.1, hF⟩
theorem main_1_2 : Claimed_1_2 := comes_1 fun _ _ _ _ _ _ h hF => ⟨h.2.1, hF⟩
end Jvm.Pilot.@@N@@
namespace Jvm.Pilot.@@N@@
open Jvm Jvm.ClassFile Sem Op Lib Jvm.Free Jvm.Stand Jvm.Pilot.@@N@@.Jvm.D
/-! MADE BY PROGRAM (witnessworld.py) out of the Statement's table words and the real class files: 17 classes; the members and pool entries that the words name. The judged class is class 1, her method 1. -/
namespace start1
open Jvm.ClassFile
def u (s : String) : CpInfo := .utf8 (stringToUtf16 s)
/-- a pool by its gaps: so many unusable entries, then the entry; so many at the end -/
def gap : Nat → List CpInfo → List CpInfo
  | 0, r => r
  | n + 1, r => .unusable :: gap n r
def poolList (es : List (Nat × CpInfo)) (last : Nat) : List CpInfo := es.foldr (fun e r => gap e.1 (e.2 :: r)) (gap last [])
def pool (es : List (Nat × CpInfo)) (last : Nat) : Array CpInfo := ⟨poolList es last⟩
def fileOf (pool : Array CpInfo) (this : Nat) (attrs : Array Attribute := #[]) (ms : Array MethodInfo := #[]) (fl : Nat := 33) (sup : Nat := 0) (ifs : Array Nat := #[]) (fds : Array FieldInfo := #[]) : ClassFile where
  minorVersion := 0
  majorVersion := 65
  constantPool := pool
  accessFlags := fl
  thisClass := this
  superClass := sup
  interfaces := ifs
  fields := fds
  methods := ms
  attributes := attrs
def plain (name : String) (sup : Option ClassId) : Class where
  name := name
  kind := .ordinary
  loader := none
  accessFlags := 33
  super := sup
  interfaces := #[]
  cf := none
  fields := #[]
  methods := #[]
  instanceTypes := #[]
  staticTypes := #[]
  resolved := #[]
  callSites := []
  init := .initialized
  statics := none
  mirror := none

def pool0 : Array CpInfo := pool [(5, u "<init>"), (0, u "()V"), (1, .class_ 10), (1, u "java/lang/Object")] 113

def k0c0 : Code := { maxStack := 0, maxLocals := 1, code := object_method_1_code, exceptionTable := #[], attributes := #[] }
def k0m0 : Method := { name := "<init>", desc := "()V", sig := { parameters := [], returnType := none }, accessFlags := 1, code := some k0c0 }
/-- java/lang/Object -/
def k0 : Class := { plain "java/lang/Object" none with
  accessFlags := 33
  interfaces := #[]
  cf := some (fileOf pool0 8 #[] #[{ accessFlags := 1, nameIndex := 5, descriptorIndex := 6, attributes := #[] }] 33 0 #[] #[])
  fields := #[]
  methods := #[k0m0]
  instanceTypes := #[]
  staticTypes := #[]
  resolved := Array.replicate 124 none
  statics := none }

def pool1 : Array CpInfo := pool [(2, .class_ 4), (1, u "java/lang/Object"), (0, u "<init>"), (0, u "()V"), (0, .methodref 8 9), (0, .class_ 10), (0, .nameAndType 11 12), (0, u "java/lang/Integer"), (0, u "valueOf"), (0, u "(I)Ljava/lang/Integer;"), (0, .class_ 14), (0, u "com/example/provenara/provenara/model/Reported"), (0, .methodref 13 16), (0, .nameAndType 5 17), (0, u "(ZLjava/lang/Object;)V"), (0, .methodref 13 19), (0, .nameAndType 20 21), (0, u "orElse"), (0, u "(Ljava/lang/Object;)Ljava/lang/Object;"), (0, .methodref 8 23), (0, .nameAndType 24 25), (0, u "intValue"), (0, u "()I"), (0, .class_ 27), (0, u "com/example/provenara/provenara/model/ReportedOrElsePinLaw"), (2, u "law"), (0, u "(III)Z")] 3

def k1m0 : Method := { name := "<init>", desc := "()V", sig := { parameters := [], returnType := none }, accessFlags := 1, code := none }
def k1c1 : Code := { maxStack := 4, maxLocals := 10, code := code, exceptionTable := #[], attributes := #[] }
def k1m1 : Method := { name := "law", desc := "(III)Z", sig := { parameters := [.int, .int, .int], returnType := some .boolean }, accessFlags := 9, code := some k1c1 }
/-- com/example/provenara/provenara/model/ReportedOrElsePinLaw -/
def k1 : Class := { plain "com/example/provenara/provenara/model/ReportedOrElsePinLaw" (some 0) with
  accessFlags := 49
  interfaces := #[]
  cf := some (fileOf pool1 26 #[] #[{ accessFlags := 1, nameIndex := 5, descriptorIndex := 6, attributes := #[] }, { accessFlags := 9, nameIndex := 30, descriptorIndex := 31, attributes := #[] }] 49 2 #[] #[])
  fields := #[]
  methods := #[k1m0, k1m1]
  instanceTypes := #[]
  staticTypes := #[]
  resolved := Array.replicate 35 none
  statics := none }

def pool2 : Array CpInfo := pool [(1, .class_ 2), (0, u "java/io/Serializable"), (0, .class_ 4), (0, u "java/lang/Object")] 2

/-- java/io/Serializable -/
def k2 : Class := { plain "java/io/Serializable" (some 0) with
  accessFlags := 1537
  interfaces := #[]
  cf := some (fileOf pool2 1 #[] #[] 1537 3 #[] #[])
  fields := #[]
  methods := #[]
  instanceTypes := #[]
  staticTypes := #[]
  resolved := Array.replicate 7 none
  statics := none }

def pool3 : Array CpInfo := pool [(1, .methodref 2 3), (0, .class_ 4), (0, .nameAndType 5 6), (0, u "java/lang/Object"), (0, u "<init>"), (0, u "()V"), (1, .class_ 10), (1, u "java/lang/Number"), (2, .class_ 14), (0, u "java/io/Serializable"), (0, u "serialVersionUID"), (0, u "J")] 20

def k3c0 : Code := { maxStack := 1, maxLocals := 1, code := jdk_18_method_1_code, exceptionTable := #[], attributes := #[] }
def k3m0 : Method := { name := "<init>", desc := "()V", sig := { parameters := [], returnType := none }, accessFlags := 1, code := some k3c0 }
/-- java/lang/Number -/
def k3 : Class := { plain "java/lang/Number" (some 0) with
  accessFlags := 1057
  interfaces := #[2]
  cf := some (fileOf pool3 8 #[] #[{ accessFlags := 1, nameIndex := 5, descriptorIndex := 6, attributes := #[] }] 1057 2 #[13] #[{ accessFlags := 26, nameIndex := 15, descriptorIndex := 16, attributes := #[] }])
  fields := #[{ name := "serialVersionUID", type := .long, accessFlags := 26, slot := 0, constantValue := 0 }]
  methods := #[k3m0]
  instanceTypes := #[]
  staticTypes := #[.long]
  resolved := Array.replicate 37 none
  statics := none }

def pool4 : Array CpInfo := pool [(1, .class_ 2), (0, u "java/lang/Comparable"), (0, .class_ 4), (0, u "java/lang/Object")] 7

/-- java/lang/Comparable -/
def k4 : Class := { plain "java/lang/Comparable" (some 0) with
  accessFlags := 1537
  interfaces := #[]
  cf := some (fileOf pool4 1 #[] #[] 1537 3 #[] #[])
  fields := #[]
  methods := #[]
  instanceTypes := #[]
  staticTypes := #[]
  resolved := Array.replicate 12 none
  statics := none }

def pool5 : Array CpInfo := pool [(1, .class_ 2), (0, u "java/lang/constant/Constable"), (0, .class_ 4), (0, u "java/lang/Object")] 6

/-- java/lang/constant/Constable -/
def k5 : Class := { plain "java/lang/constant/Constable" (some 0) with
  accessFlags := 1537
  interfaces := #[]
  cf := some (fileOf pool5 1 #[] #[] 1537 3 #[] #[])
  fields := #[]
  methods := #[]
  instanceTypes := #[]
  staticTypes := #[]
  resolved := Array.replicate 11 none
  statics := none }

def pool6 : Array CpInfo := pool [(1, .class_ 2), (0, u "java/lang/constant/ConstantDesc"), (0, .class_ 4), (0, u "java/lang/Object")] 32

/-- java/lang/constant/ConstantDesc -/
def k6 : Class := { plain "java/lang/constant/ConstantDesc" (some 0) with
  accessFlags := 1537
  interfaces := #[]
  cf := some (fileOf pool6 1 #[] #[] 1537 3 #[] #[])
  fields := #[]
  methods := #[]
  instanceTypes := #[]
  staticTypes := #[]
  resolved := Array.replicate 37 none
  statics := none }

def pool7 : Array CpInfo := pool [(1, .class_ 2), (0, u "java/lang/Integer"), (16, u "digits"), (0, u "[C"), (46, u "<init>"), (17, u "DigitOnes"), (0, u "[B"), (2, u "DigitTens"), (10, .nameAndType 67 101), (0, u "()V"), (19, u "()I"), (65, u "valueOf"), (0, u "(I)Ljava/lang/Integer;"), (0, .class_ 190), (0, u "java/lang/Integer$IntegerCache"), (0, .fieldref 189 192), (0, .nameAndType 193 194), (0, u "high"), (0, u "I"), (0, .fieldref 189 196), (0, .nameAndType 197 198), (0, u "cache"), (0, u "[Ljava/lang/Integer;"), (0, .methodref 1 200), (0, .nameAndType 67 201), (0, u "(I)V"), (0, .methodref 203 100), (0, .class_ 204), (0, u "java/lang/Number"), (0, .fieldref 1 206), (0, .nameAndType 207 194), (0, u "value"), (5, u "intValue"), (88, u "TYPE"), (0, u "Ljava/lang/Class;"), (0, .class_ 305), (0, u "java/lang/Comparable"), (0, .class_ 307), (0, u "java/lang/constant/Constable"), (0, .class_ 309), (0, u "java/lang/constant/ConstantDesc"), (0, u "MIN_VALUE"), (1, u "MAX_VALUE"), (3, u "SIZE"), (1, u "BYTES"), (1, u "serialVersionUID"), (0, u "J")] 131

def k7c0 : Code := { maxStack := 3, maxLocals := 1, code := jdk_33_method_22_code, exceptionTable := #[], attributes := #[] }
def k7m0 : Method := { name := "valueOf", desc := "(I)Ljava/lang/Integer;", sig := { parameters := [.int], returnType := some (.object "java/lang/Integer") }, accessFlags := 9, code := some k7c0 }
def k7c1 : Code := { maxStack := 2, maxLocals := 2, code := jdk_33_method_23_code, exceptionTable := #[], attributes := #[] }
def k7m1 : Method := { name := "<init>", desc := "(I)V", sig := { parameters := [.int], returnType := none }, accessFlags := 1, code := some k7c1 }
def k7c2 : Code := { maxStack := 1, maxLocals := 1, code := jdk_33_method_27_code, exceptionTable := #[], attributes := #[] }
def k7m2 : Method := { name := "intValue", desc := "()I", sig := { parameters := [], returnType := some .int }, accessFlags := 1, code := some k7c2 }
/-- java/lang/Integer -/
def k7 : Class := { plain "java/lang/Integer" (some 3) with
  accessFlags := 49
  interfaces := #[4, 5, 6]
  cf := some (fileOf pool7 1 #[.nestMembers #[189]] #[{ accessFlags := 9, nameIndex := 187, descriptorIndex := 188, attributes := #[] }, { accessFlags := 1, nameIndex := 67, descriptorIndex := 201, attributes := #[] }, { accessFlags := 1, nameIndex := 213, descriptorIndex := 121, attributes := #[] }] 49 203 #[304, 306, 308] #[{ accessFlags := 25, nameIndex := 310, descriptorIndex := 194, attributes := #[] }, { accessFlags := 25, nameIndex := 312, descriptorIndex := 194, attributes := #[] }, { accessFlags := 25, nameIndex := 302, descriptorIndex := 303, attributes := #[] }, { accessFlags := 24, nameIndex := 19, descriptorIndex := 20, attributes := #[] }, { accessFlags := 24, nameIndex := 89, descriptorIndex := 86, attributes := #[] }, { accessFlags := 24, nameIndex := 85, descriptorIndex := 86, attributes := #[] }, { accessFlags := 18, nameIndex := 207, descriptorIndex := 194, attributes := #[] }, { accessFlags := 25, nameIndex := 316, descriptorIndex := 194, attributes := #[] }, { accessFlags := 25, nameIndex := 318, descriptorIndex := 194, attributes := #[] }, { accessFlags := 26, nameIndex := 320, descriptorIndex := 321, attributes := #[] }])
  fields := #[{ name := "MIN_VALUE", type := .int, accessFlags := 25, slot := 0, constantValue := 0 }, { name := "MAX_VALUE", type := .int, accessFlags := 25, slot := 1, constantValue := 0 }, { name := "TYPE", type := (.object "java/lang/Class"), accessFlags := 25, slot := 2, constantValue := 0 }, { name := "digits", type := (.array .char), accessFlags := 24, slot := 3, constantValue := 0 }, { name := "DigitTens", type := (.array .byte), accessFlags := 24, slot := 4, constantValue := 0 }, { name := "DigitOnes", type := (.array .byte), accessFlags := 24, slot := 5, constantValue := 0 }, { name := "value", type := .int, accessFlags := 18, slot := 0, constantValue := 0 }, { name := "SIZE", type := .int, accessFlags := 25, slot := 6, constantValue := 0 }, { name := "BYTES", type := .int, accessFlags := 25, slot := 7, constantValue := 0 }, { name := "serialVersionUID", type := .long, accessFlags := 26, slot := 8, constantValue := 0 }]
  methods := #[k7m0, k7m1, k7m2]
  instanceTypes := #[.int]
  staticTypes := #[.int, .int, (.object "java/lang/Class"), (.array .char), (.array .byte), (.array .byte), .int, .int, .long]
  resolved := Array.replicate 453 none
  statics := none }

def pool8 : Array CpInfo := pool [(2, .class_ 4), (1, u "java/lang/Object"), (0, u "<init>"), (0, u "()V"), (0, .class_ 8), (0, u "java/lang/Integer"), (7, .class_ 18), (1, u "java/lang/Integer$IntegerCache"), (0, u "$assertionsDisabled"), (0, u "Z"), (26, u "high"), (0, u "I"), (8, u "archivedCache"), (0, u "[Ljava/lang/Integer;"), (12, u "cache"), (0, u "low")] 27

def k8m0 : Method := { name := "<init>", desc := "()V", sig := { parameters := [], returnType := none }, accessFlags := 2, code := none }
/-- java/lang/Integer$IntegerCache -/
def k8 : Class := { plain "java/lang/Integer$IntegerCache" (some 0) with
  accessFlags := 48
  interfaces := #[]
  cf := some (fileOf pool8 16 #[.nestHost 7] #[{ accessFlags := 2, nameIndex := 5, descriptorIndex := 6, attributes := #[] }] 48 2 #[] #[{ accessFlags := 24, nameIndex := 72, descriptorIndex := 48, attributes := #[] }, { accessFlags := 24, nameIndex := 47, descriptorIndex := 48, attributes := #[] }, { accessFlags := 24, nameIndex := 71, descriptorIndex := 58, attributes := #[] }, { accessFlags := 8, nameIndex := 57, descriptorIndex := 58, attributes := #[] }, { accessFlags := 4120, nameIndex := 19, descriptorIndex := 20, attributes := #[] }])
  fields := #[{ name := "low", type := .int, accessFlags := 24, slot := 0, constantValue := 0 }, { name := "high", type := .int, accessFlags := 24, slot := 1, constantValue := 0 }, { name := "cache", type := (.array (.object "java/lang/Integer")), accessFlags := 24, slot := 2, constantValue := 0 }, { name := "archivedCache", type := (.array (.object "java/lang/Integer")), accessFlags := 8, slot := 3, constantValue := 0 }, { name := "$assertionsDisabled", type := .boolean, accessFlags := 4120, slot := 4, constantValue := 0 }]
  methods := #[k8m0]
  instanceTypes := #[]
  staticTypes := #[.int, .int, (.array (.object "java/lang/Integer")), (.array (.object "java/lang/Integer")), .boolean]
  resolved := Array.replicate 100 none
  statics := some 0 }

def pool9 : Array CpInfo := pool [(1, .methodref 2 3), (0, .class_ 4), (0, .nameAndType 5 6), (0, u "java/lang/Object"), (0, u "<init>"), (0, u "()V"), (0, .class_ 8), (0, u "java/lang/Record")] 13

def k9c0 : Code := { maxStack := 1, maxLocals := 1, code := jdk_30_method_1_code, exceptionTable := #[], attributes := #[] }
def k9m0 : Method := { name := "<init>", desc := "()V", sig := { parameters := [], returnType := none }, accessFlags := 4, code := some k9c0 }
/-- java/lang/Record -/
def k9 : Class := { plain "java/lang/Record" (some 0) with
  accessFlags := 1057
  interfaces := #[]
  cf := some (fileOf pool9 7 #[] #[{ accessFlags := 4, nameIndex := 5, descriptorIndex := 6, attributes := #[] }] 1057 2 #[] #[])
  fields := #[]
  methods := #[k9m0]
  instanceTypes := #[]
  staticTypes := #[]
  resolved := Array.replicate 22 none
  statics := none }

def pool10 : Array CpInfo := pool [(1, .methodref 2 3), (0, .class_ 4), (0, .nameAndType 5 6), (0, u "java/lang/Record"), (0, u "<init>"), (0, u "()V"), (7, .fieldref 15 16), (0, .class_ 17), (0, .nameAndType 18 19), (0, u "com/example/provenara/provenara/model/Reported"), (0, u "reported"), (0, u "Z"), (0, .fieldref 15 21), (0, .nameAndType 22 23), (0, u "value"), (0, u "Ljava/lang/Object;"), (2, u "(ZLjava/lang/Object;)V"), (12, u "(Ljava/lang/Object;)Ljava/lang/Object;"), (30, u "orElse")] 32

def k10c0 : Code := { maxStack := 3, maxLocals := 3, code := prog_25_method_1_code, exceptionTable := #[], attributes := #[] }
def k10m0 : Method := { name := "<init>", desc := "(ZLjava/lang/Object;)V", sig := { parameters := [.boolean, (.object "java/lang/Object")], returnType := none }, accessFlags := 1, code := some k10c0 }
def k10c1 : Code := { maxStack := 1, maxLocals := 2, code := prog_25_method_5_code, exceptionTable := #[], attributes := #[] }
def k10m1 : Method := { name := "orElse", desc := "(Ljava/lang/Object;)Ljava/lang/Object;", sig := { parameters := [(.object "java/lang/Object")], returnType := some (.object "java/lang/Object") }, accessFlags := 1, code := some k10c1 }
/-- com/example/provenara/provenara/model/Reported -/
def k10 : Class := { plain "com/example/provenara/provenara/model/Reported" (some 9) with
  accessFlags := 49
  interfaces := #[]
  cf := some (fileOf pool10 15 #[] #[{ accessFlags := 1, nameIndex := 5, descriptorIndex := 26, attributes := #[] }, { accessFlags := 1, nameIndex := 70, descriptorIndex := 39, attributes := #[] }] 49 2 #[] #[{ accessFlags := 18, nameIndex := 18, descriptorIndex := 19, attributes := #[] }, { accessFlags := 18, nameIndex := 22, descriptorIndex := 23, attributes := #[] }])
  fields := #[{ name := "reported", type := .boolean, accessFlags := 18, slot := 0, constantValue := 0 }, { name := "value", type := (.object "java/lang/Object"), accessFlags := 18, slot := 1, constantValue := 0 }]
  methods := #[k10m0, k10m1]
  instanceTypes := #[.boolean, (.object "java/lang/Object")]
  staticTypes := #[]
  resolved := Array.replicate 103 none
  statics := none }

def pool11 : Array CpInfo := pool [(1, u "java/lang/Cloneable"), (0, .class_ 1), (0, u "java/lang/Object"), (0, .class_ 3)] 3

/-- java/lang/Cloneable -/
def k11 : Class := { plain "java/lang/Cloneable" (some 0) with
  accessFlags := 1537
  interfaces := #[]
  cf := some (fileOf pool11 2 #[] #[] 1537 4 #[] #[])
  fields := #[]
  methods := #[]
  instanceTypes := #[]
  staticTypes := #[]
  resolved := Array.replicate 8 none
  statics := none }

/-- the primitive byte -/
def k12 : Class := { plain "byte" none with kind := .primitive 'B', accessFlags := 0x411 }
/-- [B -/
def k13 : Class := { plain "[B" (some 0) with kind := .array 12 .byte, interfaces := #[11, 2], accessFlags := 1041 }

/-- the primitive int -/
def k14 : Class := { plain "int" none with kind := .primitive 'I', accessFlags := 0x411 }
/-- [I -/
def k15 : Class := { plain "[I" (some 0) with kind := .array 14 .int, interfaces := #[11, 2], accessFlags := 1041 }

/-- [Ljava/lang/Integer; -/
def k16 : Class := { plain "[Ljava/lang/Integer;" (some 0) with kind := .array 7 (.object "java/lang/Integer"), interfaces := #[11, 2], accessFlags := 1041 }

def heap : Heap := #[{ cls := 8, slots := #[.int 0, .int 127, .ref 1, .null, .int 0], vm := .statics 8 },
  { cls := 16, slots := #[.ref 2, .ref 3, .ref 4, .ref 5, .ref 6, .ref 7, .ref 8, .ref 9, .ref 10, .ref 11, .ref 12, .ref 13, .ref 14, .ref 15, .ref 16, .ref 17, .ref 18, .ref 19, .ref 20, .ref 21, .ref 22, .ref 23, .ref 24, .ref 25, .ref 26, .ref 27, .ref 28, .ref 29, .ref 30, .ref 31, .ref 32, .ref 33, .ref 34, .ref 35, .ref 36, .ref 37, .ref 38, .ref 39, .ref 40, .ref 41, .ref 42, .ref 43, .ref 44, .ref 45, .ref 46, .ref 47, .ref 48, .ref 49, .ref 50, .ref 51, .ref 52, .ref 53, .ref 54, .ref 55, .ref 56, .ref 57, .ref 58, .ref 59, .ref 60, .ref 61, .ref 62, .ref 63, .ref 64, .ref 65, .ref 66, .ref 67, .ref 68, .ref 69, .ref 70, .ref 71, .ref 72, .ref 73, .ref 74, .ref 75, .ref 76, .ref 77, .ref 78, .ref 79, .ref 80, .ref 81, .ref 82, .ref 83, .ref 84, .ref 85, .ref 86, .ref 87, .ref 88, .ref 89, .ref 90, .ref 91, .ref 92, .ref 93, .ref 94, .ref 95, .ref 96, .ref 97, .ref 98, .ref 99, .ref 100, .ref 101, .ref 102, .ref 103, .ref 104, .ref 105, .ref 106, .ref 107, .ref 108, .ref 109, .ref 110, .ref 111, .ref 112, .ref 113, .ref 114, .ref 115, .ref 116, .ref 117, .ref 118, .ref 119, .ref 120, .ref 121, .ref 122, .ref 123, .ref 124, .ref 125, .ref 126, .ref 127, .ref 128, .ref 129, .ref 130, .ref 131, .ref 132, .ref 133, .ref 134, .ref 135, .ref 136, .ref 137, .ref 138, .ref 139, .ref 140, .ref 141, .ref 142, .ref 143, .ref 144, .ref 145, .ref 146, .ref 147, .ref 148, .ref 149, .ref 150, .ref 151, .ref 152, .ref 153, .ref 154, .ref 155, .ref 156, .ref 157, .ref 158, .ref 159, .ref 160, .ref 161, .ref 162, .ref 163, .ref 164, .ref 165, .ref 166, .ref 167, .ref 168, .ref 169, .ref 170, .ref 171, .ref 172, .ref 173, .ref 174, .ref 175, .ref 176, .ref 177, .ref 178, .ref 179, .ref 180, .ref 181, .ref 182, .ref 183, .ref 184, .ref 185, .ref 186, .ref 187, .ref 188, .ref 189, .ref 190, .ref 191, .ref 192, .ref 193, .ref 194, .ref 195, .ref 196, .ref 197, .ref 198, .ref 199, .ref 200, .ref 201, .ref 202, .ref 203, .ref 204, .ref 205, .ref 206, .ref 207, .ref 208, .ref 209, .ref 210, .ref 211, .ref 212, .ref 213, .ref 214, .ref 215, .ref 216, .ref 217, .ref 218, .ref 219, .ref 220, .ref 221, .ref 222, .ref 223, .ref 224, .ref 225, .ref 226, .ref 227, .ref 228, .ref 229, .ref 230, .ref 231, .ref 232, .ref 233, .ref 234, .ref 235, .ref 236, .ref 237, .ref 238, .ref 239, .ref 240, .ref 241, .ref 242, .ref 243, .ref 244, .ref 245, .ref 246, .ref 247, .ref 248, .ref 249, .ref 250, .ref 251, .ref 252, .ref 253, .ref 254, .ref 255, .ref 256, .ref 257], vm := .none },
  { cls := 7, slots := #[.int (-128)], vm := .none },
  { cls := 7, slots := #[.int (-127)], vm := .none },
  { cls := 7, slots := #[.int (-126)], vm := .none },
  { cls := 7, slots := #[.int (-125)], vm := .none },
  { cls := 7, slots := #[.int (-124)], vm := .none },
  { cls := 7, slots := #[.int (-123)], vm := .none },
  { cls := 7, slots := #[.int (-122)], vm := .none },
  { cls := 7, slots := #[.int (-121)], vm := .none },
  { cls := 7, slots := #[.int (-120)], vm := .none },
  { cls := 7, slots := #[.int (-119)], vm := .none },
  { cls := 7, slots := #[.int (-118)], vm := .none },
  { cls := 7, slots := #[.int (-117)], vm := .none },
  { cls := 7, slots := #[.int (-116)], vm := .none },
  { cls := 7, slots := #[.int (-115)], vm := .none },
  { cls := 7, slots := #[.int (-114)], vm := .none },
  { cls := 7, slots := #[.int (-113)], vm := .none },
  { cls := 7, slots := #[.int (-112)], vm := .none },
  { cls := 7, slots := #[.int (-111)], vm := .none },
  { cls := 7, slots := #[.int (-110)], vm := .none },
  { cls := 7, slots := #[.int (-109)], vm := .none },
  { cls := 7, slots := #[.int (-108)], vm := .none },
  { cls := 7, slots := #[.int (-107)], vm := .none },
  { cls := 7, slots := #[.int (-106)], vm := .none },
  { cls := 7, slots := #[.int (-105)], vm := .none },
  { cls := 7, slots := #[.int (-104)], vm := .none },
  { cls := 7, slots := #[.int (-103)], vm := .none },
  { cls := 7, slots := #[.int (-102)], vm := .none },
  { cls := 7, slots := #[.int (-101)], vm := .none },
  { cls := 7, slots := #[.int (-100)], vm := .none },
  { cls := 7, slots := #[.int (-99)], vm := .none },
  { cls := 7, slots := #[.int (-98)], vm := .none },
  { cls := 7, slots := #[.int (-97)], vm := .none },
  { cls := 7, slots := #[.int (-96)], vm := .none },
  { cls := 7, slots := #[.int (-95)], vm := .none },
  { cls := 7, slots := #[.int (-94)], vm := .none },
  { cls := 7, slots := #[.int (-93)], vm := .none },
  { cls := 7, slots := #[.int (-92)], vm := .none },
  { cls := 7, slots := #[.int (-91)], vm := .none },
  { cls := 7, slots := #[.int (-90)], vm := .none },
  { cls := 7, slots := #[.int (-89)], vm := .none },
  { cls := 7, slots := #[.int (-88)], vm := .none },
  { cls := 7, slots := #[.int (-87)], vm := .none },
  { cls := 7, slots := #[.int (-86)], vm := .none },
  { cls := 7, slots := #[.int (-85)], vm := .none },
  { cls := 7, slots := #[.int (-84)], vm := .none },
  { cls := 7, slots := #[.int (-83)], vm := .none },
  { cls := 7, slots := #[.int (-82)], vm := .none },
  { cls := 7, slots := #[.int (-81)], vm := .none },
  { cls := 7, slots := #[.int (-80)], vm := .none },
  { cls := 7, slots := #[.int (-79)], vm := .none },
  { cls := 7, slots := #[.int (-78)], vm := .none },
  { cls := 7, slots := #[.int (-77)], vm := .none },
  { cls := 7, slots := #[.int (-76)], vm := .none },
  { cls := 7, slots := #[.int (-75)], vm := .none },
  { cls := 7, slots := #[.int (-74)], vm := .none },
  { cls := 7, slots := #[.int (-73)], vm := .none },
  { cls := 7, slots := #[.int (-72)], vm := .none },
  { cls := 7, slots := #[.int (-71)], vm := .none },
  { cls := 7, slots := #[.int (-70)], vm := .none },
  { cls := 7, slots := #[.int (-69)], vm := .none },
  { cls := 7, slots := #[.int (-68)], vm := .none },
  { cls := 7, slots := #[.int (-67)], vm := .none },
  { cls := 7, slots := #[.int (-66)], vm := .none },
  { cls := 7, slots := #[.int (-65)], vm := .none },
  { cls := 7, slots := #[.int (-64)], vm := .none },
  { cls := 7, slots := #[.int (-63)], vm := .none },
  { cls := 7, slots := #[.int (-62)], vm := .none },
  { cls := 7, slots := #[.int (-61)], vm := .none },
  { cls := 7, slots := #[.int (-60)], vm := .none },
  { cls := 7, slots := #[.int (-59)], vm := .none },
  { cls := 7, slots := #[.int (-58)], vm := .none },
  { cls := 7, slots := #[.int (-57)], vm := .none },
  { cls := 7, slots := #[.int (-56)], vm := .none },
  { cls := 7, slots := #[.int (-55)], vm := .none },
  { cls := 7, slots := #[.int (-54)], vm := .none },
  { cls := 7, slots := #[.int (-53)], vm := .none },
  { cls := 7, slots := #[.int (-52)], vm := .none },
  { cls := 7, slots := #[.int (-51)], vm := .none },
  { cls := 7, slots := #[.int (-50)], vm := .none },
  { cls := 7, slots := #[.int (-49)], vm := .none },
  { cls := 7, slots := #[.int (-48)], vm := .none },
  { cls := 7, slots := #[.int (-47)], vm := .none },
  { cls := 7, slots := #[.int (-46)], vm := .none },
  { cls := 7, slots := #[.int (-45)], vm := .none },
  { cls := 7, slots := #[.int (-44)], vm := .none },
  { cls := 7, slots := #[.int (-43)], vm := .none },
  { cls := 7, slots := #[.int (-42)], vm := .none },
  { cls := 7, slots := #[.int (-41)], vm := .none },
  { cls := 7, slots := #[.int (-40)], vm := .none },
  { cls := 7, slots := #[.int (-39)], vm := .none },
  { cls := 7, slots := #[.int (-38)], vm := .none },
  { cls := 7, slots := #[.int (-37)], vm := .none },
  { cls := 7, slots := #[.int (-36)], vm := .none },
  { cls := 7, slots := #[.int (-35)], vm := .none },
  { cls := 7, slots := #[.int (-34)], vm := .none },
  { cls := 7, slots := #[.int (-33)], vm := .none },
  { cls := 7, slots := #[.int (-32)], vm := .none },
  { cls := 7, slots := #[.int (-31)], vm := .none },
  { cls := 7, slots := #[.int (-30)], vm := .none },
  { cls := 7, slots := #[.int (-29)], vm := .none },
  { cls := 7, slots := #[.int (-28)], vm := .none },
  { cls := 7, slots := #[.int (-27)], vm := .none },
  { cls := 7, slots := #[.int (-26)], vm := .none },
  { cls := 7, slots := #[.int (-25)], vm := .none },
  { cls := 7, slots := #[.int (-24)], vm := .none },
  { cls := 7, slots := #[.int (-23)], vm := .none },
  { cls := 7, slots := #[.int (-22)], vm := .none },
  { cls := 7, slots := #[.int (-21)], vm := .none },
  { cls := 7, slots := #[.int (-20)], vm := .none },
  { cls := 7, slots := #[.int (-19)], vm := .none },
  { cls := 7, slots := #[.int (-18)], vm := .none },
  { cls := 7, slots := #[.int (-17)], vm := .none },
  { cls := 7, slots := #[.int (-16)], vm := .none },
  { cls := 7, slots := #[.int (-15)], vm := .none },
  { cls := 7, slots := #[.int (-14)], vm := .none },
  { cls := 7, slots := #[.int (-13)], vm := .none },
  { cls := 7, slots := #[.int (-12)], vm := .none },
  { cls := 7, slots := #[.int (-11)], vm := .none },
  { cls := 7, slots := #[.int (-10)], vm := .none },
  { cls := 7, slots := #[.int (-9)], vm := .none },
  { cls := 7, slots := #[.int (-8)], vm := .none },
  { cls := 7, slots := #[.int (-7)], vm := .none },
  { cls := 7, slots := #[.int (-6)], vm := .none },
  { cls := 7, slots := #[.int (-5)], vm := .none },
  { cls := 7, slots := #[.int (-4)], vm := .none },
  { cls := 7, slots := #[.int (-3)], vm := .none },
  { cls := 7, slots := #[.int (-2)], vm := .none },
  { cls := 7, slots := #[.int (-1)], vm := .none },
  { cls := 7, slots := #[.int 0], vm := .none },
  { cls := 7, slots := #[.int 1], vm := .none },
  { cls := 7, slots := #[.int 2], vm := .none },
  { cls := 7, slots := #[.int 3], vm := .none },
  { cls := 7, slots := #[.int 4], vm := .none },
  { cls := 7, slots := #[.int 5], vm := .none },
  { cls := 7, slots := #[.int 6], vm := .none },
  { cls := 7, slots := #[.int 7], vm := .none },
  { cls := 7, slots := #[.int 8], vm := .none },
  { cls := 7, slots := #[.int 9], vm := .none },
  { cls := 7, slots := #[.int 10], vm := .none },
  { cls := 7, slots := #[.int 11], vm := .none },
  { cls := 7, slots := #[.int 12], vm := .none },
  { cls := 7, slots := #[.int 13], vm := .none },
  { cls := 7, slots := #[.int 14], vm := .none },
  { cls := 7, slots := #[.int 15], vm := .none },
  { cls := 7, slots := #[.int 16], vm := .none },
  { cls := 7, slots := #[.int 17], vm := .none },
  { cls := 7, slots := #[.int 18], vm := .none },
  { cls := 7, slots := #[.int 19], vm := .none },
  { cls := 7, slots := #[.int 20], vm := .none },
  { cls := 7, slots := #[.int 21], vm := .none },
  { cls := 7, slots := #[.int 22], vm := .none },
  { cls := 7, slots := #[.int 23], vm := .none },
  { cls := 7, slots := #[.int 24], vm := .none },
  { cls := 7, slots := #[.int 25], vm := .none },
  { cls := 7, slots := #[.int 26], vm := .none },
  { cls := 7, slots := #[.int 27], vm := .none },
  { cls := 7, slots := #[.int 28], vm := .none },
  { cls := 7, slots := #[.int 29], vm := .none },
  { cls := 7, slots := #[.int 30], vm := .none },
  { cls := 7, slots := #[.int 31], vm := .none },
  { cls := 7, slots := #[.int 32], vm := .none },
  { cls := 7, slots := #[.int 33], vm := .none },
  { cls := 7, slots := #[.int 34], vm := .none },
  { cls := 7, slots := #[.int 35], vm := .none },
  { cls := 7, slots := #[.int 36], vm := .none },
  { cls := 7, slots := #[.int 37], vm := .none },
  { cls := 7, slots := #[.int 38], vm := .none },
  { cls := 7, slots := #[.int 39], vm := .none },
  { cls := 7, slots := #[.int 40], vm := .none },
  { cls := 7, slots := #[.int 41], vm := .none },
  { cls := 7, slots := #[.int 42], vm := .none },
  { cls := 7, slots := #[.int 43], vm := .none },
  { cls := 7, slots := #[.int 44], vm := .none },
  { cls := 7, slots := #[.int 45], vm := .none },
  { cls := 7, slots := #[.int 46], vm := .none },
  { cls := 7, slots := #[.int 47], vm := .none },
  { cls := 7, slots := #[.int 48], vm := .none },
  { cls := 7, slots := #[.int 49], vm := .none },
  { cls := 7, slots := #[.int 50], vm := .none },
  { cls := 7, slots := #[.int 51], vm := .none },
  { cls := 7, slots := #[.int 52], vm := .none },
  { cls := 7, slots := #[.int 53], vm := .none },
  { cls := 7, slots := #[.int 54], vm := .none },
  { cls := 7, slots := #[.int 55], vm := .none },
  { cls := 7, slots := #[.int 56], vm := .none },
  { cls := 7, slots := #[.int 57], vm := .none },
  { cls := 7, slots := #[.int 58], vm := .none },
  { cls := 7, slots := #[.int 59], vm := .none },
  { cls := 7, slots := #[.int 60], vm := .none },
  { cls := 7, slots := #[.int 61], vm := .none },
  { cls := 7, slots := #[.int 62], vm := .none },
  { cls := 7, slots := #[.int 63], vm := .none },
  { cls := 7, slots := #[.int 64], vm := .none },
  { cls := 7, slots := #[.int 65], vm := .none },
  { cls := 7, slots := #[.int 66], vm := .none },
  { cls := 7, slots := #[.int 67], vm := .none },
  { cls := 7, slots := #[.int 68], vm := .none },
  { cls := 7, slots := #[.int 69], vm := .none },
  { cls := 7, slots := #[.int 70], vm := .none },
  { cls := 7, slots := #[.int 71], vm := .none },
  { cls := 7, slots := #[.int 72], vm := .none },
  { cls := 7, slots := #[.int 73], vm := .none },
  { cls := 7, slots := #[.int 74], vm := .none },
  { cls := 7, slots := #[.int 75], vm := .none },
  { cls := 7, slots := #[.int 76], vm := .none },
  { cls := 7, slots := #[.int 77], vm := .none },
  { cls := 7, slots := #[.int 78], vm := .none },
  { cls := 7, slots := #[.int 79], vm := .none },
  { cls := 7, slots := #[.int 80], vm := .none },
  { cls := 7, slots := #[.int 81], vm := .none },
  { cls := 7, slots := #[.int 82], vm := .none },
  { cls := 7, slots := #[.int 83], vm := .none },
  { cls := 7, slots := #[.int 84], vm := .none },
  { cls := 7, slots := #[.int 85], vm := .none },
  { cls := 7, slots := #[.int 86], vm := .none },
  { cls := 7, slots := #[.int 87], vm := .none },
  { cls := 7, slots := #[.int 88], vm := .none },
  { cls := 7, slots := #[.int 89], vm := .none },
  { cls := 7, slots := #[.int 90], vm := .none },
  { cls := 7, slots := #[.int 91], vm := .none },
  { cls := 7, slots := #[.int 92], vm := .none },
  { cls := 7, slots := #[.int 93], vm := .none },
  { cls := 7, slots := #[.int 94], vm := .none },
  { cls := 7, slots := #[.int 95], vm := .none },
  { cls := 7, slots := #[.int 96], vm := .none },
  { cls := 7, slots := #[.int 97], vm := .none },
  { cls := 7, slots := #[.int 98], vm := .none },
  { cls := 7, slots := #[.int 99], vm := .none },
  { cls := 7, slots := #[.int 100], vm := .none },
  { cls := 7, slots := #[.int 101], vm := .none },
  { cls := 7, slots := #[.int 102], vm := .none },
  { cls := 7, slots := #[.int 103], vm := .none },
  { cls := 7, slots := #[.int 104], vm := .none },
  { cls := 7, slots := #[.int 105], vm := .none },
  { cls := 7, slots := #[.int 106], vm := .none },
  { cls := 7, slots := #[.int 107], vm := .none },
  { cls := 7, slots := #[.int 108], vm := .none },
  { cls := 7, slots := #[.int 109], vm := .none },
  { cls := 7, slots := #[.int 110], vm := .none },
  { cls := 7, slots := #[.int 111], vm := .none },
  { cls := 7, slots := #[.int 112], vm := .none },
  { cls := 7, slots := #[.int 113], vm := .none },
  { cls := 7, slots := #[.int 114], vm := .none },
  { cls := 7, slots := #[.int 115], vm := .none },
  { cls := 7, slots := #[.int 116], vm := .none },
  { cls := 7, slots := #[.int 117], vm := .none },
  { cls := 7, slots := #[.int 118], vm := .none },
  { cls := 7, slots := #[.int 119], vm := .none },
  { cls := 7, slots := #[.int 120], vm := .none },
  { cls := 7, slots := #[.int 121], vm := .none },
  { cls := 7, slots := #[.int 122], vm := .none },
  { cls := 7, slots := #[.int 123], vm := .none },
  { cls := 7, slots := #[.int 124], vm := .none },
  { cls := 7, slots := #[.int 125], vm := .none },
  { cls := 7, slots := #[.int 126], vm := .none },
  { cls := 7, slots := #[.int 127], vm := .none }]
def classes : Array Class := #[k0, k1, k2, k3, k4, k5, k6, k7, k8, k9, k10, k11, k12, k13, k14, k15, k16]
def interned : List (Array UInt16 × Addr) := []
def slotsUsed : Nat := 517
def theMethod : MethodId := ⟨1, 1⟩
def args0 : Array Value := #[.int 500, .int 5, .int 5]
def aboutOver (below : List Frame) : State where
  vm := { classes := classes, interned := interned.toArray }
  heap := heap
  slotsUsed := slotsUsed
  threads := #[{ frames := .invoking theMethod args0 :: below }]
def below0 : List Frame := [.native { method := ⟨0, 0⟩, args := #[] }]
def about1 : State := aboutOver below0
def p0 : Program := .bare "" "" ""
def e0 : Env := launch0.env 0 0 0
theorem w_frames : about1.frames = Frame.invoking theMethod args0 :: below0 := rfl
set_option maxRecDepth 65536 in
theorem w_args : argsFit about1.vm theMethod args0 = true := by decide +kernel
set_option maxRecDepth 65536 in
theorem w_heap : heapFits about1 = true := by decide +kernel
set_option maxRecDepth 65536 in
theorem w_runnable : about1.curStatus? = some .runnable := by decide +kernel
set_option maxRecDepth 65536 in
theorem w_alone : about1.alone = true := by decide +kernel
set_option maxRecDepth 65536 in
theorem w_named : about1.methodNamed? x = some theMethod := by decide +kernel
set_option maxRecDepth 65536 in
theorem w_hears : about1.hears theMethod below0 = true := by decide +kernel
set_option maxRecDepth 65536 in
theorem w_ripe : about1.ripe theMethod args0 below0 = true := by decide +kernel
theorem w_running : about1.status = .running := rfl
set_option maxRecDepth 65536 in
theorem w_room : about1.hasRoom e0.platform room_1 = true :=
  launch0.hasRoom_least _ room_1 (by decide +kernel) (by decide +kernel) (by decide +kernel) (by decide +kernel) (by decide +kernel) (by decide +kernel)
theorem allAtoms_all (ts : List Jvm.Cond) (a : Array Jvm.Value) (st : Jvm.State) : (allAtoms ts).before a st = ts.all (fun c => c.before a st) := by
  induction ts with
  | nil => rfl
  | cons c t ih =>
    show (Jvm.Cond.and c (allAtoms t)).before a st = _
    rw [Jvm.Cond.before_and, ih, List.all_cons]
def words1 : List Jvm.Cond := Jvm.Cond.code x code maxLocals ret :: tables_1
/-- a 'code' word, met by the world's own term for the bytes: nothing is compared byte by byte -/
theorem code_word {y : MethodName} {bytes : ByteArray} {mx : Nat} {rt : Option FieldType} {a : Array Value} {s : State} {m : MethodId} {meth : Method} {c : Code} (h1 : s.methodNamed? y = some m) (h2 : s.vm.method? m = some meth) (h3 : meth.code = some c) (h4 : c.code = bytes)
    (h5 : (c.maxLocals == mx && c.exceptionTable.isEmpty && decide (c.maxStack ≤ mostOperands) && decide (meth.sig.returnType = rt) && !meth.locks && decide (parseMethodDescriptor y.desc = some meth.sig)) = true) : (Jvm.Cond.code y bytes mx rt).before a s = true := by
  simp only [Bool.and_eq_true, beq_iff_eq, Bool.not_eq_true', decide_eq_true_eq] at h5
  obtain ⟨⟨⟨⟨⟨g1, g2⟩, g3⟩, g4⟩, g5⟩, g6⟩ := h5
  simp [Cond.before, Cond.holds, Cond.value, h1, h2, h3, h4, g1, g2, g3, g4, g5, g6]
def isCode : Jvm.Cond → Bool
  | .code _ _ _ _ => true
  | _ => false
theorem all_split {L : List Jvm.Cond} {P : Jvm.Cond → Bool} (h1 : L.all (fun c => isCode c || P c) = true) (h2 : ∀ c ∈ L.filter isCode, P c = true) : L.all P = true := by
  refine List.all_eq_true.mpr fun c hc => ?_
  have h := List.all_eq_true.mp h1 c hc
  rcases Bool.eq_false_or_eq_true (isCode c) with hi | hi
  · exact h2 c (List.mem_filter.mpr ⟨hc, hi⟩)
  · simpa [hi] using h
set_option maxRecDepth 65536 in
theorem w_c0 : (Jvm.Cond.code x code maxLocals ret).before args0 about1 = true := code_word (m := ⟨1, 1⟩) (meth := k1m1) (c := k1c1) (by decide +kernel) rfl rfl rfl (by decide +kernel)
set_option maxRecDepth 65536 in
theorem w_c1 : (Jvm.Cond.code ({ cls := "java/lang/Integer", name := "valueOf", desc := "(I)Ljava/lang/Integer;" } : Jvm.MethodName) jdk_33_method_22_code (1 : Nat) (Option.some (Jvm.ClassFile.FieldType.object "java/lang/Integer"))).before args0 about1 = true := code_word (m := ⟨7, 0⟩) (meth := k7m0) (c := k7c0) (by decide +kernel) rfl rfl rfl (by decide +kernel)
set_option maxRecDepth 65536 in
theorem w_c2 : (Jvm.Cond.code ({ cls := "com/example/provenara/provenara/model/Reported", name := "<init>", desc := "(ZLjava/lang/Object;)V" } : Jvm.MethodName) prog_25_method_1_code (3 : Nat) (Option.none : Option Jvm.ClassFile.FieldType)).before args0 about1 = true := code_word (m := ⟨10, 0⟩) (meth := k10m0) (c := k10c0) (by decide +kernel) rfl rfl rfl (by decide +kernel)
set_option maxRecDepth 65536 in
theorem w_c3 : (Jvm.Cond.code ({ cls := "java/lang/Record", name := "<init>", desc := "()V" } : Jvm.MethodName) jdk_30_method_1_code (1 : Nat) (Option.none : Option Jvm.ClassFile.FieldType)).before args0 about1 = true := code_word (m := ⟨9, 0⟩) (meth := k9m0) (c := k9c0) (by decide +kernel) rfl rfl rfl (by decide +kernel)
set_option maxRecDepth 65536 in
theorem w_c4 : (Jvm.Cond.code ({ cls := "java/lang/Object", name := "<init>", desc := "()V" } : Jvm.MethodName) object_method_1_code (1 : Nat) (Option.none : Option Jvm.ClassFile.FieldType)).before args0 about1 = true := code_word (m := ⟨0, 0⟩) (meth := k0m0) (c := k0c0) (by decide +kernel) rfl rfl rfl (by decide +kernel)
set_option maxRecDepth 65536 in
theorem w_c5 : (Jvm.Cond.code ({ cls := "com/example/provenara/provenara/model/Reported", name := "orElse", desc := "(Ljava/lang/Object;)Ljava/lang/Object;" } : Jvm.MethodName) prog_25_method_5_code (2 : Nat) (Option.some (Jvm.ClassFile.FieldType.object "java/lang/Object"))).before args0 about1 = true := code_word (m := ⟨10, 1⟩) (meth := k10m1) (c := k10c1) (by decide +kernel) rfl rfl rfl (by decide +kernel)
set_option maxRecDepth 65536 in
theorem w_c6 : (Jvm.Cond.code ({ cls := "java/lang/Integer", name := "intValue", desc := "()I" } : Jvm.MethodName) jdk_33_method_27_code (1 : Nat) (Option.some Jvm.ClassFile.FieldType.int)).before args0 about1 = true := code_word (m := ⟨7, 2⟩) (meth := k7m2) (c := k7c2) (by decide +kernel) rfl rfl rfl (by decide +kernel)
set_option maxRecDepth 65536 in
theorem w_c7 : (Jvm.Cond.code ({ cls := "java/lang/Integer", name := "<init>", desc := "(I)V" } : Jvm.MethodName) jdk_33_method_23_code (2 : Nat) (Option.none : Option Jvm.ClassFile.FieldType)).before args0 about1 = true := code_word (m := ⟨7, 1⟩) (meth := k7m1) (c := k7c1) (by decide +kernel) rfl rfl rfl (by decide +kernel)
set_option maxRecDepth 65536 in
theorem w_c8 : (Jvm.Cond.code ({ cls := "java/lang/Number", name := "<init>", desc := "()V" } : Jvm.MethodName) jdk_18_method_1_code (1 : Nat) (Option.none : Option Jvm.ClassFile.FieldType)).before args0 about1 = true := code_word (m := ⟨3, 0⟩) (meth := k3m0) (c := k3c0) (by decide +kernel) rfl rfl rfl (by decide +kernel)
def codes1 : List Jvm.Cond := [Jvm.Cond.code x code maxLocals ret, Jvm.Cond.code ({ cls := "java/lang/Integer", name := "valueOf", desc := "(I)Ljava/lang/Integer;" } : Jvm.MethodName) jdk_33_method_22_code (1 : Nat) (Option.some (Jvm.ClassFile.FieldType.object "java/lang/Integer")), Jvm.Cond.code ({ cls := "com/example/provenara/provenara/model/Reported", name := "<init>", desc := "(ZLjava/lang/Object;)V" } : Jvm.MethodName) prog_25_method_1_code (3 : Nat) (Option.none : Option Jvm.ClassFile.FieldType), Jvm.Cond.code ({ cls := "java/lang/Record", name := "<init>", desc := "()V" } : Jvm.MethodName) jdk_30_method_1_code (1 : Nat) (Option.none : Option Jvm.ClassFile.FieldType), Jvm.Cond.code ({ cls := "java/lang/Object", name := "<init>", desc := "()V" } : Jvm.MethodName) object_method_1_code (1 : Nat) (Option.none : Option Jvm.ClassFile.FieldType), Jvm.Cond.code ({ cls := "com/example/provenara/provenara/model/Reported", name := "orElse", desc := "(Ljava/lang/Object;)Ljava/lang/Object;" } : Jvm.MethodName) prog_25_method_5_code (2 : Nat) (Option.some (Jvm.ClassFile.FieldType.object "java/lang/Object")), Jvm.Cond.code ({ cls := "java/lang/Integer", name := "intValue", desc := "()I" } : Jvm.MethodName) jdk_33_method_27_code (1 : Nat) (Option.some Jvm.ClassFile.FieldType.int), Jvm.Cond.code ({ cls := "java/lang/Integer", name := "<init>", desc := "(I)V" } : Jvm.MethodName) jdk_33_method_23_code (2 : Nat) (Option.none : Option Jvm.ClassFile.FieldType), Jvm.Cond.code ({ cls := "java/lang/Number", name := "<init>", desc := "()V" } : Jvm.MethodName) jdk_18_method_1_code (1 : Nat) (Option.none : Option Jvm.ClassFile.FieldType)]
set_option maxRecDepth 65536 in
theorem codes_eq : words1.filter isCode = codes1 := rfl
theorem w_codes : ∀ c ∈ words1.filter isCode, c.before args0 about1 = true := by
  rw [codes_eq]
  intro c hc
  simp only [codes1, List.mem_cons, List.not_mem_nil, or_false] at hc
  rcases hc with rfl | rfl | rfl | rfl | rfl | rfl | rfl | rfl | rfl
  · exact w_c0
  · exact w_c1
  · exact w_c2
  · exact w_c3
  · exact w_c4
  · exact w_c5
  · exact w_c6
  · exact w_c7
  · exact w_c8
set_option maxRecDepth 65536 in
theorem w_t1 : (words1.take 24).all (fun c => isCode c || c.before args0 about1) = true := by decide +kernel
set_option maxRecDepth 65536 in
theorem w_t2 : ((words1.drop 24).take 24).all (fun c => isCode c || c.before args0 about1) = true := by decide +kernel
set_option maxRecDepth 65536 in
theorem w_t3 : ((words1.drop 24).drop 24).all (fun c => isCode c || c.before args0 about1) = true := by decide +kernel
theorem w_tables : (allAtoms (Jvm.Cond.code x code maxLocals ret :: tables_1)).before args0 about1 = true := by
  rw [allAtoms_all]
  show words1.all (fun c => c.before args0 about1) = true
  refine all_split ?_ w_codes
  rw [← List.take_append_drop 24 words1, List.all_append, w_t1, ← List.take_append_drop 24 (words1.drop 24), List.all_append, w_t2, w_t3]
  rfl
set_option maxRecDepth 65536 in
theorem w_rest : rest_1_c.before args0 about1 = true := by decide +kernel
set_option maxRecDepth 65536 in
theorem w_case : (Jvm.Cond.and given_1 narrow_1).before args0 about1 = true := by decide +kernel
theorem w_applies : (headSpec (Jvm.Cond.code x code maxLocals ret :: tables_1) room_1).applies x e0.platform about1 = true :=
  (Spec.applies_iff w_frames).mpr ⟨w_running, w_runnable, w_alone, w_named, w_hears, w_ripe, w_room, w_tables⟩
theorem atStart : AtStart classFile x code maxLocals ret World_1 tables_1 room_1 Calls_1 rest_1 Pre_1 launch0 p0 e0 about1 theMethod args0 below0 :=
  ⟨lists_1, trivial, launch0.admits_env _ _ _, launch0.least_env, fairChoices_fair.cas, fairChoices_fair.clock, w_frames, w_args, w_heap, w_applies, trivial, w_rest, w_case⟩
end start1
theorem witness_1 : WitnessClaimed_1 := ⟨start1.p0, start1.e0, start1.about1, start1.theMethod, start1.args0, start1.below0, start1.atStart⟩
end Jvm.Pilot.@@N@@
