import JvmDerived
import JvmDerived.Pilot.@@N@@Statement
import JvmDerived.Pilot.@@N@@Code
set_option linter.unusedVariables false
set_option linter.unusedSimpArgs false
namespace Jvm.OwnKit
open Jvm Sem ClassFile Op Lib Jvm.Stand Jvm.Free Jvm.LawKit Jvm.RoadKit
section K
variable {p : Program} {l : Launch} {e : Env} {R : Room} {s : State} {m : MethodId} {args : Array Value} {below : List Frame} {meth : Method} {c : Code} {T T' : State} {locs : List Loc} {cells slots : Nat} {Z : State} {a0 : Array Value} {h h0 : Heap} {ce sl : Nat} {Q : Option Value → Heap → List Loc → Prop} {P : Option Value → State → List Loc → Prop} {pc : Nat} {Ls : Array Slot} {rest : List Value}
/-- from this state and frame the body runs to its end, and Q holds there -/
def Go (p : Program) (e : Env) (below : List Frame) (P : Option Value → State → List Loc → Prop) (T : State) (g : JFrame) : Prop :=
  ∃ u v L, Steps p.tables e below (T.setTop g) u ∧ u.status = .running ∧ Ended u below (.returned v) ∧ P v u L
/-- the end of a body that interns nothing -/
def EndF (s : State) (ce sl : Nat) (Q : Option Value → Heap → List Loc → Prop) (v : Option Value) (u : State) (L : List Loc) : Prop := Q v u.heap L ∧ FrameEnd s (.returned v) u L ce sl
theorem Go.by {g g' : JFrame} (st : ∀ t, Steps p.tables e below (T'.setTop g') t → Steps p.tables e below (T.setTop g) t) (k : Go p e below P T' g') : Go p e below P T g := by
  obtain ⟨u, v, L, h1, r⟩ := k; exact ⟨u, v, L, st u h1, r⟩
theorem Go.cast {g g' : JFrame} (q : g = g') (k : Go p e below P T g') : Go p e below P T g := q ▸ k
/-- a body's contract at given arguments and a given heap -/
def Ct (l : Launch) (y : MethodName) (bytes : ByteArray) (maxL : Nat) (ret : Option FieldType) (rm : Room) (Z : State) (as' : Array Value) (h0 : Heap) (Q : Option Value → Heap → List Loc → Prop) : Prop :=
  ∀ ws : List Jvm.Cond, MetFree l y (head1 (Jvm.Cond.code y bytes maxL ret :: ws) rm) (fun a U => a = as' ∧ Z.Warmed39 U.vm ∧ U.heap = h0) (fun _ _ _ _ _ => True) (fun _ U o U' => ∃ v L, o = .returned v ∧ Q v U'.heap L ∧ FrameEnd U o U' L rm.cells rm.slots)
theorem Ct.of {y : MethodName} {bytes : ByteArray} {maxL : Nat} {ret : Option FieldType} {rm : Room} {as' : Array Value} (hpl : plainFor y = true)
    (body : ∀ (p : Program) (e : Env) (s : State) (m : MethodId) (below : List Frame) (meth : Method) (c : Code) (T : State), Stand p l e rm s m as' below meth c T [] 0 0 → p.tables.exec = Jvm.exec → c.code = bytes → c.maxLocals = maxL → s.vm.findClass y.cls = some m.cls → meth.name = y.name → meth.sig.returnType = ret → meth.locks = false → Z.Warmed39 s.vm → T.heap = h0 →
      Go p e below (EndF s rm.cells rm.slots Q) T (entryFrame m as' maxL)) : Ct l y bytes maxL ret rm Z as' h0 Q := by
  intro ws
  refine MetFree.of_bodySF hpl hisR ?_
  intro p e s m args below meth c s₁ Bd hml0 hP hK
  obtain ⟨rfl, hZ, hh⟩ := hP
  obtain ⟨u, v, L, h1, h2, h3, r⟩ := body p e s m below meth c s₁ (Stand.of_body Bd) Bd.exec Bd.bytes hml0 (findClass_of_methodNamed Bd.named) (name_of_methodNamed Bd.named Bd.method).1 Bd.returns (BodyLoose.notSynchronized Bd) hZ (by rw [← hh, Bd.state]; rfl)
  exact ⟨u, _, h1, h2, h3, v, L, rfl, r.1, r.2⟩
theorem Ct.mono {y : MethodName} {bytes : ByteArray} {maxL : Nat} {ret : Option FieldType} {rm : Room} {as' : Array Value} {Q' : Option Value → Heap → List Loc → Prop} (k : Ct l y bytes maxL ret rm Z as' h0 Q) (q : ∀ v h L, Q v h L → Q' v h L) : Ct l y bytes maxL ret rm Z as' h0 Q' := by
  intro ws p e ha hc hk s m args below hf happ hP hK
  obtain ⟨n, o, h1, h2, h3, v, L, h4, h5, h6⟩ := k ws p e ha hc hk s m args below hf happ hP hK
  exact ⟨n, o, h1, h2, h3, v, L, h4, q _ _ _ h5, h6⟩
theorem wd {ws : List Jvm.Cond} (hw : ∀ d ∈ ws, d.before a0 Z = true) {d : Jvm.Cond} (i : Nat) (q : ws[i]? = some d) : d.before a0 Z = true := hw _ (List.mem_of_getElem? q)
theorem Go.fin (X : Stand p l e R s m args below meth c T locs cells slots) (hlk : meth.locks = false) {v : Option Value} (hv : meth.sig.returnType = none → v = none) {g : JFrame}
    (st : ∀ fs, (∀ (f : JFrame) (acts : List Action), f.method = m → f.locked = none → f.entered = [] → (doReturn e (T.setTop f) acts v).1 = T.setFrames fs) → Steps p.tables e below (T.setTop g) (T.setFrames fs)) (hc : cells ≤ ce) (hs : slots ≤ sl) (eT : T.heap = h) (q : Q v h locs) : Go p e below (EndF s ce sl Q) T g := by
  obtain ⟨fs, hr, hrun, hended, hW, hsame⟩ := X.leave (v := v) hv hlk
  subst eT
  exact ⟨_, _, _, st fs hr, hrun, hended, q, ⟨_, rfl⟩, hW, hsame.mono hc hs⟩
theorem Go.retI (X : Stand p l e R s m args below meth c T locs cells slots) (hx : p.tables.exec = Jvm.exec) (hlk : meth.locks = false) (hret : meth.sig.returnType = some .int) {z : Int32} (hd : decode c.code pc = .ok (.ireturn, 1)) (hc : cells ≤ ce) (hs : slots ≤ sl) (eT : T.heap = h) (q : Q (some (.int z)) h locs) : Go p e below (EndF s ce sl Q) T (mkF m pc Ls (.int z :: rest)) :=
  Go.fin X hlk (fun h => by rw [hret] at h; cases h) (fun fs hl => retOut X hx hret rfl (Or.inl ⟨rfl, Or.inl rfl, z, rfl⟩) hd hl) hc hs eT q
theorem Go.retZ (X : Stand p l e R s m args below meth c T locs cells slots) (hx : p.tables.exec = Jvm.exec) (hlk : meth.locks = false) (hret : meth.sig.returnType = some .boolean) {z : Int32} (hz : z = 0 ∨ z = 1) (hd : decode c.code pc = .ok (.ireturn, 1)) (hc : cells ≤ ce) (hs : slots ≤ sl) (eT : T.heap = h) (q : Q (some (.int z)) h locs) : Go p e below (EndF s ce sl Q) T (mkF m pc Ls (.int z :: rest)) :=
  Go.fin X hlk (fun h => by rw [hret] at h; cases h) (fun fs hl => retOut X hx hret (by rcases hz with rfl | rfl <;> rfl) (Or.inl ⟨rfl, Or.inr (Or.inl rfl), z, rfl⟩) hd hl) hc hs eT q
theorem Go.retS (X : Stand p l e R s m args below meth c T locs cells slots) (hx : p.tables.exec = Jvm.exec) (hlk : meth.locks = false) {t : FieldType} (hret : meth.sig.returnType = some t) (ht : t = .byte ∨ t = .char ∨ t = .short) {z : Int32} (hz : narrow t (.int z) = .int z) (hd : decode c.code pc = .ok (.ireturn, 1)) (hc : cells ≤ ce) (hs : slots ≤ sl) (eT : T.heap = h) (q : Q (some (.int z)) h locs) : Go p e below (EndF s ce sl Q) T (mkF m pc Ls (.int z :: rest)) :=
  Go.fin X hlk (fun h => by rw [hret] at h; cases h) (fun fs hl => retOut X hx hret hz (Or.inl ⟨rfl, Or.inr (Or.inr ht), z, rfl⟩) hd hl) hc hs eT q
theorem Go.retJ (X : Stand p l e R s m args below meth c T locs cells slots) (hx : p.tables.exec = Jvm.exec) (hlk : meth.locks = false) (hret : meth.sig.returnType = some .long) {z : Int64} (hd : decode c.code pc = .ok (.lreturn, 1)) (hc : cells ≤ ce) (hs : slots ≤ sl) (eT : T.heap = h) (q : Q (some (.long z)) h locs) : Go p e below (EndF s ce sl Q) T (mkF m pc Ls (.long z :: rest)) :=
  Go.fin X hlk (fun h => by rw [hret] at h; cases h) (fun fs hl => retOut X hx hret rfl (Or.inr (Or.inl ⟨rfl, rfl, z, rfl⟩)) hd hl) hc hs eT q
theorem Go.retA (X : Stand p l e R s m args below meth c T locs cells slots) (hx : p.tables.exec = Jvm.exec) (hlk : meth.locks = false) {t : FieldType} (hret : meth.sig.returnType = some t) (ht : t.isReference = true) {v : Value} (hv : v.isRef = true) (hd : decode c.code pc = .ok (.areturn, 1)) (hc : cells ≤ ce) (hs : slots ≤ sl) (eT : T.heap = h) (q : Q (some v) h locs) : Go p e below (EndF s ce sl Q) T (mkF m pc Ls (v :: rest)) :=
  Go.fin X hlk (fun h => by rw [hret] at h; cases h) (fun fs hl => retOut X hx hret (by cases t <;> simp_all [FieldType.isReference, narrow]) (Or.inr (Or.inr (Or.inr (Or.inr ⟨rfl, ht, hv⟩)))) hd hl) hc hs eT q
theorem Go.retV (X : Stand p l e R s m args below meth c T locs cells slots) (hx : p.tables.exec = Jvm.exec) (hlk : meth.locks = false) (hret : meth.sig.returnType = none) (hd : decode c.code pc = .ok (.return_, 1)) (hc : cells ≤ ce) (hs : slots ≤ sl) (eT : T.heap = h) (q : Q none h locs) : Go p e below (EndF s ce sl Q) T (mkF m pc Ls []) :=
  Go.fin X hlk (fun _ => rfl) (fun fs hl => X.returnOut hx hret hd hl) hc hs eT q
/-! one law a step that reads the tables or the heap -/
theorem Go.getF (X : Stand p l e R s m args below meth c T locs cells slots) (hx : p.tables.exec = Jvm.exec) (hZ : Z.Warmed39 s.vm) {own R0 O n d : String} {index : Nat} (hown : s.vm.findClass own = some m.cls) (w : (Jvm.Cond.fieldLink own index R0 n d).before a0 Z = true) (via : Via Z R0 O n d) (eT : T.heap = h) {a : Addr} {v : Value} (F : Fld Z h a O n d v)
    (hd : decode c.code pc = .ok (.getfield index, 3)) (k : ∀ T', Stand p l e R s m args below meth c T' locs cells slots → T'.heap = h → Go p e below P T' (mkF m (pc + 3) Ls (v :: rest))) : Go p e below P T (mkF m pc Ls (.ref a :: rest)) := by
  obtain ⟨T', X', e', st⟩ := RoadKit.getF X hx hZ hown (host := "") (Or.inl w) via eT F (g := mkF m pc Ls (.ref a :: rest)) rfl rfl hd
  exact Go.by st (k T' X' e')
theorem Go.getFN (X : Stand p l e R s m args below meth c T locs cells slots) (hx : p.tables.exec = Jvm.exec) (hZ : Z.Warmed39 s.vm) {own R0 O n d host : String} {index : Nat} (hown : s.vm.findClass own = some m.cls) (w : (Jvm.Cond.fieldLinkNest own index R0 n d host).before a0 Z = true) (via : Via Z R0 O n d) (eT : T.heap = h) {a : Addr} {v : Value} (F : Fld Z h a O n d v)
    (hd : decode c.code pc = .ok (.getfield index, 3)) (k : ∀ T', Stand p l e R s m args below meth c T' locs cells slots → T'.heap = h → Go p e below P T' (mkF m (pc + 3) Ls (v :: rest))) : Go p e below P T (mkF m pc Ls (.ref a :: rest)) := by
  obtain ⟨T', X', e', st⟩ := RoadKit.getF X hx hZ hown (host := host) (Or.inr w) via eT F (g := mkF m pc Ls (.ref a :: rest)) rfl rfl hd
  exact Go.by st (k T' X' e')
theorem Go.putF (X : Stand p l e R s m args below meth c T locs cells slots) (hx : p.tables.exec = Jvm.exec) (hZ : Z.Warmed39 s.vm) {own R0 O n d C : String} {index kk : Nat} {ty : FieldType} (hown : s.vm.findClass own = some m.cls) (w : (Jvm.Cond.fieldLink own index R0 n d).before a0 Z = true) (via : Via Z R0 O n d) (eT : T.heap = h) {a : Addr} {v old : Value} (F : Fld Z h a O n d old) (E : Exa Z h a C)
    (L : (Jvm.Cond.lays C O n d).before a0 Z = true ∨ ((Jvm.Cond.laysFinal C O n d).before a0 Z = true ∧ own = O ∧ meth.name = "<init>")) (wi : (Jvm.Cond.instantiable C kk).before a0 Z = true) (hty : parseFieldDescriptor d = some ty) (hn : narrow ty v = v) (hf : fits ty v = true) (hd : decode c.code pc = .ok (.putfield index, 3))
    (k : ∀ T' h', Stand p l e R s m args below meth c T' (locs ++ [⟨a, RoadKit.slotOf Z O n d⟩]) cells slots → T'.heap = h' → Wr h h' a (RoadKit.slotOf Z O n d) v → Go p e below P T' (mkF m (pc + 3) Ls rest)) : Go p e below P T (mkF m pc Ls (v :: .ref a :: rest)) := by
  obtain ⟨T', h', X', e', W', st⟩ := RoadKit.putF X hx hZ hown (host := "") (Or.inl w) via eT F E L wi hty hn hf (g := mkF m pc Ls (v :: .ref a :: rest)) rfl rfl hd
  exact Go.by st (k T' h' X' e' W')
theorem Go.getS (X : Stand p l e R s m args below meth c T locs cells slots) (hx : p.tables.exec = Jvm.exec) (hZ : Z.Warmed39 s.vm) {own R0 O n d : String} {index : Nat} (hown : s.vm.findClass own = some m.cls) (w : (Jvm.Cond.fieldLink own index R0 n d).before a0 Z = true) (via : Via Z R0 O n d) (eT : T.heap = h) {v : Value} (F : Sta Z h O n d v) {st : List Value}
    (hd : decode c.code pc = .ok (.getstatic index, 3)) (k : ∀ T', Stand p l e R s m args below meth c T' locs cells slots → T'.heap = h → Go p e below P T' (mkF m (pc + 3) Ls (v :: st))) : Go p e below P T (mkF m pc Ls st) := by
  obtain ⟨T', X', e', st'⟩ := RoadKit.getS X hx hZ hown (host := "") w via eT F (g := mkF m pc Ls st) rfl hd
  exact Go.by st' (k T' X' e')
theorem Go.getSN (X : Stand p l e R s m args below meth c T locs cells slots) (hx : p.tables.exec = Jvm.exec) (hZ : Z.Warmed39 s.vm) {own R0 O n d host : String} {index : Nat} (hown : s.vm.findClass own = some m.cls) (w : (Jvm.Cond.fieldLinkNest own index R0 n d host).before a0 Z = true) (via : Via Z R0 O n d) (eT : T.heap = h) {v : Value} (F : Sta Z h O n d v) {st : List Value}
    (hd : decode c.code pc = .ok (.getstatic index, 3)) (k : ∀ T', Stand p l e R s m args below meth c T' locs cells slots → T'.heap = h → Go p e below P T' (mkF m (pc + 3) Ls (v :: st))) : Go p e below P T (mkF m pc Ls st) := by
  obtain ⟨T', X', e', st'⟩ := getS2 X hx hZ hown (Or.inr w) via eT F (g := mkF m pc Ls st) rfl hd
  exact Go.by st' (k T' X' e')
theorem Go.newO (X : Stand p l e R s m args below meth c T locs cells slots) (hx : p.tables.exec = Jvm.exec) (hZ : Z.Warmed39 s.vm) {own C : String} {index n : Nat} (hown : s.vm.findClass own = some m.cls) (w : (Jvm.Cond.classLink own index C).before a0 Z = true) (wi : (Jvm.Cond.instantiable C n).before a0 Z = true) (wz : (Jvm.Cond.initialized C).before a0 Z = true) (eT : T.heap = h) {st : List Value}
    (hd : decode c.code pc = .ok (.new index, 3)) (hc : cells + 1 ≤ R.cells) (hl : slots + n ≤ R.slots)
    (k : ∀ T' h' b, Stand p l e R s m args below meth c T' locs (cells + 1) (slots + n) → T'.heap = h' → Ext h h' → b = h.size → Exa Z h' b C → (∀ {O nm d : String} {ty : FieldType}, Laid Z a0 C O nm d → parseFieldDescriptor d = some ty → Fld Z h' b O nm d (defaultValue ty)) → Go p e below P T' (mkF m (pc + 3) Ls (.ref b :: st))) : Go p e below P T (mkF m pc Ls st) := by
  obtain ⟨T', h', X', e', E', A', D', -, st'⟩ := RoadKit.newO X hx hZ hown w wi wz eT (g := mkF m pc Ls st) rfl hd hc hl
  exact Go.by st' (k T' h' _ X' e' E' rfl A' D')
theorem Go.newP (X : Stand p l e R s m args below meth c T locs cells slots) (hx : p.tables.exec = Jvm.exec) (hZ : Z.Warmed39 s.vm) {aty : ArrayType} (w : (Jvm.Cond.arrayClass (newarray.typeOf aty)).before a0 Z = true) (eT : T.heap = h) {n : Int32} (hd : decode c.code pc = .ok (.newarray aty, 2)) (hn : ¬ n < 0) {cap : Nat} (hcap : n.toNatClampNeg ≤ cap) (hb : cap * 8 ≤ 536870912) (hc : cells + 1 ≤ R.cells) (hl : slots + cap ≤ R.slots)
    (k : ∀ T' h' b kA, Stand p l e R s m args below meth c T' locs (cells + 1) (slots + cap) → T'.heap = h' → Ext h h' → b = h.size → Arv Z h' b kA (newarray.typeOf aty) n [] (defaultValue (newarray.typeOf aty)) → Go p e below P T' (mkF m (pc + 2) Ls (.ref b :: rest))) : Go p e below P T (mkF m pc Ls (.int n :: rest)) := by
  obtain ⟨T', h', kA, X', e', E', A', st'⟩ := RoadKit.newP X hx hZ w eT (g := mkF m pc Ls (.int n :: rest)) rfl hd rfl hn hcap hb hc hl
  exact Go.by st' (k T' h' _ kA X' e' E' rfl (Arv.new A' hn))
theorem Go.initO (X : Stand p l e R s m args below meth c T locs cells slots) (hx : p.tables.exec = Jvm.exec) (hZ : Z.Warmed39 s.vm) {own : String} {idx : Nat} (hown : s.vm.findClass own = some m.cls) (w1 : (Jvm.Cond.methodLink own idx Lib.objectInit).before a0 Z = true) (w2 : (Jvm.Cond.instanceMethod Lib.objectInit).before a0 Z = true) (w3 : (Jvm.Cond.code Lib.objectInit ⟨#[0xb1]⟩ 1 none).before a0 Z = true) (eT : T.heap = h)
    {a : Addr} (hsz : Ls.size = c.maxLocals) (hd : decode c.code pc = .ok (.invokespecial idx, 3)) (hf : 1 ≤ R.frames) {W : Nat} (hW : (rest.map fun v => v.category).sum = W) (hl : W + 12 ≤ R.locals)
    (k : ∀ T', Stand p l e R s m args below meth c T' locs cells slots → T'.heap = h → Go p e below P T' (mkF m (pc + 3) Ls rest)) : Go p e below P T (mkF m pc Ls (.ref a :: rest)) := by
  obtain ⟨T', X', e', st⟩ := RoadKit.initO X hx hZ hown w1 w2 w3 eT (g := mkF m pc Ls (.ref a :: rest)) rfl hsz rfl hd hf (W := W) (by subst hW; show 2 * 0 + _ ≤ _; omega) hl
  exact Go.by st (k T' X' e')
theorem Go.castY (X : Stand p l e R s m args below meth c T locs cells slots) (hx : p.tables.exec = Jvm.exec) (hZ : Z.Warmed39 s.vm) {own K : String} {index : Nat} (hown : s.vm.findClass own = some m.cls) (w : (Jvm.Cond.classLink own index K).before a0 Z = true) (eT : T.heap = h) {a : Addr} (F : Ins Z h a K true) (hd : decode c.code pc = .ok (.checkcast index, 3))
    (k : ∀ T', Stand p l e R s m args below meth c T' locs cells slots → T'.heap = h → Go p e below P T' (mkF m (pc + 3) Ls (.ref a :: rest))) : Go p e below P T (mkF m pc Ls (.ref a :: rest)) := by
  obtain ⟨T', X', e', st⟩ := RoadKit.castY X hx hZ hown w eT F (g := mkF m pc Ls (.ref a :: rest)) rfl rfl hd
  exact Go.by st (k T' X' e')
theorem Go.instY (X : Stand p l e R s m args below meth c T locs cells slots) (hx : p.tables.exec = Jvm.exec) (hZ : Z.Warmed39 s.vm) {own K : String} {index : Nat} (hown : s.vm.findClass own = some m.cls) (w : (Jvm.Cond.classLink own index K).before a0 Z = true) (eT : T.heap = h) {a : Addr} (F : Ins Z h a K true) (hd : decode c.code pc = .ok (.instanceof index, 3))
    (k : ∀ T', Stand p l e R s m args below meth c T' locs cells slots → T'.heap = h → Go p e below P T' (mkF m (pc + 3) Ls (.int 1 :: rest))) : Go p e below P T (mkF m pc Ls (.ref a :: rest)) := by
  obtain ⟨T', X', e', st⟩ := RoadKit.instY X hx hZ hown w eT F (g := mkF m pc Ls (.ref a :: rest)) rfl rfl hd
  exact Go.by st (k T' X' e')
theorem Go.instN (X : Stand p l e R s m args below meth c T locs cells slots) (hx : p.tables.exec = Jvm.exec) (hZ : Z.Warmed39 s.vm) {own K C : String} {index : Nat} (hown : s.vm.findClass own = some m.cls) (w : (Jvm.Cond.classLink own index K).before a0 Z = true) (eT : T.heap = h) {a : Addr} (E : Exa Z h a C) (F : ∃ c t, Z.vm.findClass C = some c ∧ Z.vm.findClass K = some t ∧ Z.vm.assignable c t = false) (hd : decode c.code pc = .ok (.instanceof index, 3))
    (k : ∀ T', Stand p l e R s m args below meth c T' locs cells slots → T'.heap = h → Go p e below P T' (mkF m (pc + 3) Ls (.int 0 :: rest))) : Go p e below P T (mkF m pc Ls (.ref a :: rest)) := by
  obtain ⟨T', X', e', st⟩ := RoadKit.instNo X hx hZ hown w eT E F (g := mkF m pc Ls (.ref a :: rest)) rfl rfl hd
  exact Go.by st (k T' X' e')
theorem Go.aload (X : Stand p l e R s m args below meth c T locs cells slots) (hx : p.tables.exec = Jvm.exec) (hZ : Z.Warmed39 s.vm) (eT : T.heap = h) {a : Addr} {cl : Cell} {ty : FieldType} (A : Arr Z h a cl ty) {j : Int32} {v : Value} (hin : ¬ (j < 0 ∨ cl.slots.size ≤ j.toNatClampNeg)) (hat : cl.slots[j.toNatClampNeg]? = some v) {i : Instr}
    (hi : (i = .iaload ∧ ty = .int) ∨ (i = .laload ∧ ty = .long) ∨ (i = .aaload ∧ ty.isReference = true) ∨ (i = .caload ∧ ty = .char) ∨ (i = .saload ∧ ty = .short) ∨ (i = .baload ∧ ty = .byte)) (hd : decode c.code pc = .ok (i, 1)) (k : Go p e below P T (mkF m (pc + 1) Ls (v :: rest))) : Go p e below P T (mkF m pc Ls (.int j :: .ref a :: rest)) := by
  refine Go.by (fun t kk => ?_) k
  have hc : T.heap[a]? = some cl := by rw [eT]; exact A.1
  have ha := State.isArrayOf_alike hZ.alike A.2.1
  rcases hi with ⟨rfl, rfl⟩ | ⟨rfl, rfl⟩ | ⟨rfl, hr⟩ | ⟨rfl, rfl⟩ | ⟨rfl, rfl⟩ | ⟨rfl, rfl⟩
  · exact X.iaload hx hc ha A.2.2 hin hat (g := mkF m pc Ls (.int j :: .ref a :: rest)) rfl rfl hd _ kk
  · exact X.laload hx hc ha A.2.2 hin hat (g := mkF m pc Ls (.int j :: .ref a :: rest)) rfl rfl hd _ kk
  · exact X.aaload hx hc ha hr A.2.2 hin hat (g := mkF m pc Ls (.int j :: .ref a :: rest)) rfl rfl hd _ kk
  · exact X.caload hx hc ha A.2.2 hin hat (g := mkF m pc Ls (.int j :: .ref a :: rest)) rfl rfl hd _ kk
  · exact X.saload hx hc ha A.2.2 hin hat (g := mkF m pc Ls (.int j :: .ref a :: rest)) rfl rfl hd _ kk
  · exact X.baloadBytes hx hc ha A.2.2 hin hat (g := mkF m pc Ls (.int j :: .ref a :: rest)) rfl rfl hd _ kk
theorem Go.alen (X : Stand p l e R s m args below meth c T locs cells slots) (hx : p.tables.exec = Jvm.exec) (hZ : Z.Warmed39 s.vm) (eT : T.heap = h) {a : Addr} {cl : Cell} {ty : FieldType} (A : Arr Z h a cl ty) {z : Int32} (hz : cl.slots.size.toInt32 = z) (hd : decode c.code pc = .ok (.arraylength, 1)) (k : Go p e below P T (mkF m (pc + 1) Ls (.int z :: rest))) : Go p e below P T (mkF m pc Ls (.ref a :: rest)) := by
  refine Go.by (fun t kk => ?_) k
  subst hz
  exact X.arraylength hx (by rw [eT]; exact A.1) (State.isArrayOf_alike hZ.alike A.2.1) (g := mkF m pc Ls (.ref a :: rest)) rfl rfl hd _ kk
theorem Go.alenV (X : Stand p l e R s m args below meth c T locs cells slots) (hx : p.tables.exec = Jvm.exec) (hZ : Z.Warmed39 s.vm) (eT : T.heap = h) {a : Addr} {k : ClassId} {ty : FieldType} {z : Int32} {vs : List Value} {dv : Value} (F : Arv Z h a k ty z vs dv) (hd : decode c.code pc = .ok (.arraylength, 1)) (kk : Go p e below P T (mkF m (pc + 1) Ls (.int z :: rest))) : Go p e below P T (mkF m pc Ls (.ref a :: rest)) := by
  obtain ⟨cl, A, -, S, q, -, -⟩ := F; exact Go.alen X hx hZ eT A (len_of S q) hd kk
theorem Go.aloadV (X : Stand p l e R s m args below meth c T locs cells slots) (hx : p.tables.exec = Jvm.exec) (hZ : Z.Warmed39 s.vm) (eT : T.heap = h) {a : Addr} {k : ClassId} {ty : FieldType} {z : Int32} {vs : List Value} {dv : Value} (F : Arv Z h a k ty z vs dv) {j : Int32} {v : Value} (hj : ¬ j < 0 ∧ j < z) (hv : vs.getD j.toNatClampNeg dv = v) {i : Instr}
    (hi : (i = .iaload ∧ ty = .int) ∨ (i = .laload ∧ ty = .long) ∨ (i = .aaload ∧ ty.isReference = true) ∨ (i = .caload ∧ ty = .char) ∨ (i = .saload ∧ ty = .short) ∨ (i = .baload ∧ ty = .byte)) (hd : decode c.code pc = .ok (i, 1)) (kk : Go p e below P T (mkF m (pc + 1) Ls (v :: rest))) : Go p e below P T (mkF m pc Ls (.int j :: .ref a :: rest)) := by
  obtain ⟨cl, A, -, S, q, H, -⟩ := F
  have hin := inb_of S hj
  exact Go.aload X hx hZ eT A hin (H.at hin hv) hi hd kk
theorem Go.istV (X : Stand p l e R s m args below meth c T locs cells slots) (hx : p.tables.exec = Jvm.exec) (hZ : Z.Warmed39 s.vm) (eT : T.heap = h) {a : Addr} {k : ClassId} {z : Int32} {vs : List Value} {dv : Value} (F : Arv Z h a k .int z vs dv) {j x : Int32} (hj : ¬ j < 0 ∧ j < z) (i : Nat) (hji : j.toNatClampNeg = i) (hi : i < vs.length) (hd : decode c.code pc = .ok (.iastore, 1))
    (kk : ∀ T' h', Stand p l e R s m args below meth c T' (locs ++ [⟨a, j.toNatClampNeg⟩]) cells slots → T'.heap = h' → Wr h h' a j.toNatClampNeg (.int x) → Arv Z h' a k .int z (vs.set i (.int x)) dv → Go p e below P T' (mkF m (pc + 1) Ls rest)) : Go p e below P T (mkF m pc Ls (.int x :: .int j :: .ref a :: rest)) := by
  obtain ⟨cl, A, q1, S, q3, H, G⟩ := F
  have hin := inb_of S hj
  obtain ⟨T', h', X', e', W', st⟩ := stI X hx hZ eT A (j := j) (x := x) hin (g := mkF m pc Ls (.int x :: .int j :: .ref a :: rest)) rfl rfl hd
  exact Go.by st (kk T' h' X' e' W' (Arv.set A q1 S q3 H G rfl W' i hji hi))
theorem Go.jstV (X : Stand p l e R s m args below meth c T locs cells slots) (hx : p.tables.exec = Jvm.exec) (hZ : Z.Warmed39 s.vm) (eT : T.heap = h) {a : Addr} {k : ClassId} {z : Int32} {vs : List Value} {dv : Value} (F : Arv Z h a k .long z vs dv) {j : Int32} {x : Int64} (hj : ¬ j < 0 ∧ j < z) (i : Nat) (hji : j.toNatClampNeg = i) (hi : i < vs.length) (hd : decode c.code pc = .ok (.lastore, 1))
    (kk : ∀ T' h', Stand p l e R s m args below meth c T' (locs ++ [⟨a, j.toNatClampNeg⟩]) cells slots → T'.heap = h' → Wr h h' a j.toNatClampNeg (.long x) → Arv Z h' a k .long z (vs.set i (.long x)) dv → Go p e below P T' (mkF m (pc + 1) Ls rest)) : Go p e below P T (mkF m pc Ls (.long x :: .int j :: .ref a :: rest)) := by
  obtain ⟨cl, A, q1, S, q3, H, G⟩ := F
  have hin := inb_of S hj
  obtain ⟨T', h', X', e', W', st⟩ := stJ X hx hZ eT A (j := j) (x := x) hin (g := mkF m pc Ls (.long x :: .int j :: .ref a :: rest)) rfl rfl hd
  exact Go.by st (kk T' h' X' e' W' (Arv.set A q1 S q3 H G rfl W' i hji hi))
theorem Go.cloneA (X : Stand p l e R s m args below meth c T locs cells slots) (hx : p.tables.exec = Jvm.exec) (hZ : Z.Warmed39 s.vm) {own ad : String} {index : Nat} (hown : s.vm.findClass own = some m.cls) (w1 : (Jvm.Cond.methodLink own index ⟨ad, "clone", "()Ljava/lang/Object;"⟩).before a0 Z = true) (w2 : (Jvm.Cond.sameMethod ad "java/lang/Object" "clone" "()Ljava/lang/Object;").before a0 Z = true) (w3 : (Jvm.Cond.native ⟨"java/lang/Object", "clone", "()Ljava/lang/Object;"⟩).before a0 Z = true)
    (w4 : (Jvm.Cond.instanceMethod ⟨"java/lang/Object", "clone", "()Ljava/lang/Object;"⟩).before a0 Z = true) (w5 : (Jvm.Cond.selects ad ⟨ad, "clone", "()Ljava/lang/Object;"⟩ ⟨"java/lang/Object", "clone", "()Ljava/lang/Object;"⟩).before a0 Z = true) (w6 : (Jvm.Cond.castable ad "java/lang/Cloneable").before a0 Z = true) (eT : T.heap = h) {a : Addr} {cl : Cell} {ty : FieldType} (A : Arr Z h a cl ty) (E : Exa Z h a ad) (F : FitC Z cl)
    (hsz : Ls.size = c.maxLocals) (hd : decode c.code pc = .ok (.invokevirtual index, 3)) (hf : 1 ≤ R.frames) {W cap : Nat} (hW : (rest.map fun v => v.category).sum = W) (hl : W + 14 ≤ R.locals) (hcap : cl.slots.size ≤ cap) (hc : cells + 1 ≤ R.cells) (hsl : slots + cap ≤ R.slots)
    (k : ∀ T' h' b, Stand p l e R s m args below meth c T' locs (cells + 1) (slots + cap) → T'.heap = h' → Ext h h' → b = h.size → Arr Z h' b (cloneOf cl) ty → Exa Z h' b ad → Go p e below P T' (mkF m (pc + 3) Ls (.ref b :: rest))) : Go p e below P T (mkF m pc Ls (.ref a :: rest)) := by
  obtain ⟨T', h', X', e', E', A', X2, st⟩ := RoadKit.cloneA X hx hZ hown w1 w2 w3 w4 w5 w6 eT A E F (g := mkF m pc Ls (.ref a :: rest)) rfl hsz rfl hd hf (W := W) (cap := cap) (by subst hW; show 2 * 0 + _ ≤ _; omega) hl hcap hc hsl
  exact Go.by st (k T' h' _ X' e' E' rfl A' X2)
/-! calls by the callee's contract -/
section Call
variable {own : String} {index : Nat} {y : MethodName} {bytes : ByteArray} {maxL : Nat} {ret : Option FieldType} {rm : Room} {argsL : List Value} {Q' : Option Value → Heap → List Loc → Prop} {st : List Value} {W : Nat}
theorem Go.callS (X : Stand p l e R s m args below meth c T locs cells slots) (hx : p.tables.exec = Jvm.exec) (hZ : Z.Warmed39 s.vm) (hown : s.vm.findClass own = some m.cls) (w1 : (Jvm.Cond.methodLink own index y).before a0 Z = true) (w2 : (Jvm.Cond.static y).before a0 Z = true) (w3 : (Jvm.Cond.initialized y.cls).before a0 Z = true) (w4 : (Jvm.Cond.code y bytes maxL ret).before a0 Z = true)
    (hy : y.cls ≠ "java/lang/invoke/MethodHandle" ∧ y.cls ≠ "java/lang/invoke/VarHandle") (ct : Ct l y bytes maxL ret rm Z argsL.toArray h Q') (eT : T.heap = h) (hsz : Ls.size = c.maxLocals) (hlen : ∀ sig, parseMethodDescriptor y.desc = some sig → argsL.length = sig.parameters.length) (hst : st = argsL.reverse ++ rest) (hW : (rest.map fun v => v.category).sum = W)
    (hd : decode c.code pc = .ok (.invokestatic index, 3)) (hf : rm.frames + 1 ≤ R.frames) (hl : W + (maxL + 11) + rm.locals ≤ R.locals) (hc : cells + rm.cells ≤ R.cells) (hs : slots + rm.slots ≤ R.slots)
    (k : ∀ v T' h' L, Stand p l e R s m args below meth c T' (locs ++ L) (cells + rm.cells) (slots + rm.slots) → T'.heap = h' → Q' v h' L → Go p e below P T' (mkF m (pc + 3) Ls (v.toList ++ rest))) : Go p e below P T (mkF m pc Ls st) := by
  obtain ⟨v, _, ⟨T', L, k', n'⟩, -, X', ⟨Lc, hQ, hl', hk', hn'⟩, st'⟩ := Jvm.LawKit.callS X hx (y := y) hown (mvT hZ w1) (mvT hZ w2) (mvT hZ w3) (mvT hZ w4) hy (backOf (W := W) (ct []) hZ w4 w3 hf hl) (g := mkF m pc Ls st) rfl hsz (argsL := argsL) (rest := rest) hlen hst (by subst hW; show 2 * 0 + _ ≤ _; omega) hd (fun _ _ => ⟨rfl, eT, hc, hs⟩)
  dsimp only [Pt.U, Pt.locs, Pt.cells, Pt.slots] at X' hl' hk' hn' st' hQ
  subst hl' hk' hn'
  exact Go.by st' (k v T' _ Lc X' rfl hQ)
theorem Go.callC (X : Stand p l e R s m args below meth c T locs cells slots) (hx : p.tables.exec = Jvm.exec) (hZ : Z.Warmed39 s.vm) (hown : s.vm.findClass own = some m.cls) (hy1 : y.name = "<init>") (w1 : (Jvm.Cond.methodLink own index y).before a0 Z = true) (w2 : (Jvm.Cond.instanceMethod y).before a0 Z = true) (w3 : (Jvm.Cond.initialized y.cls).before a0 Z = true) (w4 : (Jvm.Cond.code y bytes maxL none).before a0 Z = true)
    (hy : y.cls ≠ "java/lang/invoke/MethodHandle" ∧ y.cls ≠ "java/lang/invoke/VarHandle") {a : Addr} (ct : Ct l y bytes maxL none rm Z (.ref a :: argsL).toArray h Q') (eT : T.heap = h) (hsz : Ls.size = c.maxLocals) (hlen : ∀ sig, parseMethodDescriptor y.desc = some sig → argsL.length = sig.parameters.length) (hst : st = argsL.reverse ++ .ref a :: rest) (hW : (rest.map fun v => v.category).sum = W)
    (hd : decode c.code pc = .ok (.invokespecial index, 3)) (hf : rm.frames + 1 ≤ R.frames) (hl : W + (maxL + 11) + rm.locals ≤ R.locals) (hc : cells + rm.cells ≤ R.cells) (hs : slots + rm.slots ≤ R.slots)
    (k : ∀ v T' h' L, Stand p l e R s m args below meth c T' (locs ++ L) (cells + rm.cells) (slots + rm.slots) → T'.heap = h' → Q' v h' L → Go p e below P T' (mkF m (pc + 3) Ls (v.toList ++ rest))) : Go p e below P T (mkF m pc Ls st) := by
  obtain ⟨v, _, ⟨T', L, k', n'⟩, -, X', ⟨Lc, hQ, hl', hk', hn'⟩, st'⟩ := X.specialBack hx (y := y) hy1 hown (mvT hZ w1) (mvT hZ w2) (mvT hZ w4) hy (backOf (W := W) (ct []) hZ w4 w3 hf hl) (g := mkF m pc Ls st) rfl hsz (Steps.refl _) (a := a) (argsL := argsL) (rest := rest) hlen hst (by subst hW; show 2 * 0 + _ ≤ _; omega) hd (fun _ _ => ⟨rfl, eT, hc, hs⟩)
  dsimp only [Pt.U, Pt.locs, Pt.cells, Pt.slots] at X' hl' hk' hn' st' hQ
  subst hl' hk' hn'
  exact Go.by (fun _ kk => st'.trans kk) (k v T' _ Lc X' rfl hQ)
theorem Go.callV (X : Stand p l e R s m args below meth c T locs cells slots) (hx : p.tables.exec = Jvm.exec) (hZ : Z.Warmed39 s.vm) (hown : s.vm.findClass own = some m.cls) {C : String} {z : MethodName} (w1 : (Jvm.Cond.methodLink own index y).before a0 Z = true) (w2 : (Jvm.Cond.declares y).before a0 Z = true) (nf : NotFace s y) (w5 : (Jvm.Cond.selects C y z).before a0 Z = true) (w6 : (Jvm.Cond.instanceMethod z).before a0 Z = true) (w3 : (Jvm.Cond.initialized z.cls).before a0 Z = true) (w4 : (Jvm.Cond.code z bytes maxL ret).before a0 Z = true)
    (hy : y.cls ≠ "java/lang/invoke/MethodHandle" ∧ y.cls ≠ "java/lang/invoke/VarHandle") {a : Addr} (E : Exa Z h a C) (ct : Ct l z bytes maxL ret rm Z (.ref a :: argsL).toArray h Q') (eT : T.heap = h) (hsz : Ls.size = c.maxLocals) (hlen : ∀ sig, parseMethodDescriptor y.desc = some sig → argsL.length = sig.parameters.length) (hst : st = argsL.reverse ++ .ref a :: rest) (hW : (rest.map fun v => v.category).sum = W)
    (hd : decode c.code pc = .ok (.invokevirtual index, 3)) (hf : rm.frames + 1 ≤ R.frames) (hl : W + (maxL + 11) + rm.locals ≤ R.locals) (hc : cells + rm.cells ≤ R.cells) (hs : slots + rm.slots ≤ R.slots)
    (k : ∀ v T' h' L, Stand p l e R s m args below meth c T' (locs ++ L) (cells + rm.cells) (slots + rm.slots) → T'.heap = h' → Q' v h' L → Go p e below P T' (mkF m (pc + 3) Ls (v.toList ++ rest))) : Go p e below P T (mkF m pc Ls st) := by
  obtain ⟨cq, kq, qa, qb, qc⟩ := isOf hZ eT E
  obtain ⟨v, _, ⟨T', L, k', n'⟩, -, X', ⟨Lc, hQ, hl', hk', hn'⟩, st'⟩ := X.virtualBack hx (y := y) (z := z) hown (mvT hZ w1) (mvT hZ w2) nf (mvT hZ w5) (mvT hZ w6) hy (backOf (W := W) (ct []) hZ w4 w3 hf hl) qa qc (g := mkF m pc Ls st) rfl hsz (Steps.refl _) (argsL := argsL) (rest := rest) hlen hst (by subst hW; show 2 * 0 + _ ≤ _; omega) hd (fun _ _ => ⟨rfl, eT, hc, hs⟩)
  dsimp only [Pt.U, Pt.locs, Pt.cells, Pt.slots] at X' hl' hk' hn' st' hQ
  subst hl' hk' hn'
  exact Go.by (fun _ kk => st'.trans kk) (k v T' _ Lc X' rfl hQ)
theorem Go.callVU (X : Stand p l e R s m args below meth c T locs cells slots) (hx : p.tables.exec = Jvm.exec) (hZ : Z.Warmed39 s.vm) (hown : s.vm.findClass own = some m.cls) {C owner : String} {z : MethodName} (w1 : (Jvm.Cond.methodLink own index y).before a0 Z = true) (ws : (Jvm.Cond.sameMethod y.cls owner y.name y.desc).before a0 Z = true) (w2 : (Jvm.Cond.declares ⟨owner, y.name, y.desc⟩).before a0 Z = true) (ho : owner ≠ "java/lang/invoke/MethodHandle" ∧ owner ≠ "java/lang/invoke/VarHandle") (w5 : (Jvm.Cond.selects C y z).before a0 Z = true) (w6 : (Jvm.Cond.instanceMethod z).before a0 Z = true) (w3 : (Jvm.Cond.initialized z.cls).before a0 Z = true) (w4 : (Jvm.Cond.code z bytes maxL ret).before a0 Z = true)
    {a : Addr} (E : Exa Z h a C) (ct : Ct l z bytes maxL ret rm Z (.ref a :: argsL).toArray h Q') (eT : T.heap = h) (hsz : Ls.size = c.maxLocals) (hlen : ∀ sig, parseMethodDescriptor y.desc = some sig → argsL.length = sig.parameters.length) (hst : st = argsL.reverse ++ .ref a :: rest) (hW : (rest.map fun v => v.category).sum = W)
    (hd : decode c.code pc = .ok (.invokevirtual index, 3)) (hf : rm.frames + 1 ≤ R.frames) (hl : W + (maxL + 11) + rm.locals ≤ R.locals) (hc : cells + rm.cells ≤ R.cells) (hs : slots + rm.slots ≤ R.slots)
    (k : ∀ v T' h' L, Stand p l e R s m args below meth c T' (locs ++ L) (cells + rm.cells) (slots + rm.slots) → T'.heap = h' → Q' v h' L → Go p e below P T' (mkF m (pc + 3) Ls (v.toList ++ rest))) : Go p e below P T (mkF m pc Ls st) := by
  obtain ⟨cq, kq, qa, qb, qc⟩ := isOf hZ eT E
  obtain ⟨v, _, ⟨T', L, k', n'⟩, -, X', ⟨Lc, hQ, hl', hk', hn'⟩, st'⟩ := X.virtualBackUp hx (x := y) (y := z) (owner := owner) hown (mvT hZ w1) (mvT hZ ws) (mvT hZ w2) ho (mvT hZ w5) (mvT hZ w6) (backOf (W := W) (ct []) hZ w4 w3 hf hl) qa qc (g := mkF m pc Ls st) rfl hsz (Steps.refl _) (argsL := argsL) (rest := rest) hlen hst (by subst hW; show 2 * 0 + _ ≤ _; omega) hd (fun _ _ => ⟨rfl, eT, hc, hs⟩)
  dsimp only [Pt.U, Pt.locs, Pt.cells, Pt.slots] at X' hl' hk' hn' st' hQ
  subst hl' hk' hn'
  exact Go.by (fun _ kk => st'.trans kk) (k v T' _ Lc X' rfl hQ)
end Call
theorem eqI_v {args : Array Value} {first s : State} {o : Option Outcome} {idx : List Nat} {t : Term} {n : Int32} (h : (Jvm.Cond.eq t (.int n)).value args first o s idx = some true) : t.eval args first o idx s = some (.int n) := by
  simp only [Cond.value, Term.eval] at h
  cases ht : t.eval args first o idx s with
  | none => simp [ht] at h
  | some x => cases x <;> simp [ht] at h ⊢; exact h
theorem nsRoot {O K : String} {n : Nat} (w : (Jvm.Cond.noSuperclass O).before a0 Z = true) (wk : (Jvm.Cond.instantiable K n).before a0 Z = true) (hn : O ≠ K) : NS Z O K := by
  obtain ⟨c, k, h1, h2, h3, -, -⟩ := Cond.noSuperclass_spec w
  obtain ⟨t, kt, g1, -⟩ := Cond.instantiable_spec wk
  have ne := ids_ne h1 g1 hn
  refine ⟨c, t, h1, g1, fun fuel => ?_⟩
  cases fuel with
  | zero => rfl
  | succ f => simp [Vm.isSubclassAux, ne, h2, h3]
theorem nsNo {C S K : String} {n : Nat} (w : (Jvm.Cond.superclass C S).before a0 Z = true) (wk : (Jvm.Cond.instantiable K n).before a0 Z = true) (ns : NS Z C K) (hn : C ≠ K) : ∃ c t, Z.vm.findClass C = some c ∧ Z.vm.findClass K = some t ∧ Z.vm.assignable c t = false := by
  obtain ⟨c, t, h0, g0, n3⟩ := ns
  obtain ⟨p, k, kp, h1, h2, h3, h4, h5, -, h7⟩ := Cond.superclass_spec h0 w
  obtain ⟨t', k', g1, g2, g3, g4, -⟩ := Cond.instantiable_spec wk
  cases g0.symm.trans g1
  have ne := ids_ne h0 g0 hn
  have g5 : k'.isInterface = false := by cases hq : k'.isInterface <;> simp [hq] at g4 ⊢
  refine ⟨c, t, h0, g0, ?_⟩
  show Z.vm.assignableAux (255 + 1) c t = false
  simp [Vm.assignableAux, ne, h2, g2, h5, g3, g5, Vm.isSubclass, n3]
theorem lenI_v {args : Array Value} {first s : State} {o : Option Outcome} {idx : List Nat} {t : Term} {a : Addr} {cl : Cell} {n : Int32} (h : (Term.length t).eval args first o idx s = some (.int n)) (ht : t.eval args first o idx s = some (.ref a)) (ha : s.arrayAt? a = some cl) : cl.slots.size < 2 ^ 31 ∧ cl.slots.size.toInt32 = n := by
  simp [Term.eval, ht, ha] at h; exact h
theorem size_le {cl : Cell} {n : Int32} {k : Nat} (q : cl.slots.size < 2 ^ 31 ∧ cl.slots.size.toInt32 = n) (hn : n.toInt = k) : cl.slots.size = k := by
  have := len_toInt q.1; rw [q.2, hn] at this; exact (Int.ofNat.inj this).symm
theorem eqR_v {args : Array Value} {first s : State} {o : Option Outcome} {idx : List Nat} {t u : Term} {w : Addr} (hu : u.eval args first o idx s = some (.ref w)) (h : (Jvm.Cond.eq t u).value args first o s idx = some true) : t.eval args first o idx s = some (.ref w) := by
  simp only [Cond.value, hu] at h
  cases ht : t.eval args first o idx s with
  | none => simp [ht] at h
  | some x => cases x <;> simp [ht] at h ⊢; exact h
theorem Old.le {n0 : Nat} (O : Old Z n0 h) : n0 ≤ h.size := O.1 ▸ O.2.1
end K
end Jvm.OwnKit
namespace Jvm.Pilot.@@N@@
open Jvm Jvm.ClassFile Sem Op Lib Jvm.Free Jvm.Stand Jvm.LawKit Jvm.RoadKit Jvm.OwnKit Bundle Jvm.Pilot.@@N@@.Jvm.D
theorem own_mod3 (x : Int32) : ((x &&& (2147483647 : Int32)) % (3 : Int32)) = (0 : Int32) ∨ ((x &&& (2147483647 : Int32)) % (3 : Int32)) = (1 : Int32) ∨ ((x &&& (2147483647 : Int32)) % (3 : Int32)) = (2 : Int32) := by
  have h1 := c_and x (2147483647 : Int32) (by decide)
  have h2 := (c_iremV (x &&& (2147483647 : Int32)) (3 : Int32)).1 h1.1 (by decide)
  have e3 : (3 : Int32).toInt = 3 := rfl
  have h3 : ((x &&& (2147483647 : Int32)) % (3 : Int32)).toInt = 0 ∨ ((x &&& (2147483647 : Int32)) % (3 : Int32)).toInt = 1 ∨ ((x &&& (2147483647 : Int32)) % (3 : Int32)).toInt = 2 := by omega
  rcases h3 with h | h | h
  · exact Or.inl (Int32.toInt_inj.mp h)
  · exact Or.inr (Or.inl (Int32.toInt_inj.mp h))
  · exact Or.inr (Or.inr (Int32.toInt_inj.mp h))
theorem d_m2_0 : decode method_2_code 0 = .ok (.iload_n 0, 1) := by decide +kernel
theorem d_m2_1 : decode method_2_code 1 = .ok (.ifCond .ne 7, 3) := by decide +kernel
theorem d_m2_4 : decode method_2_code 4 = .ok (.getstatic 7, 3) := by decide +kernel
theorem d_m2_7 : decode method_2_code 7 = .ok (.areturn, 1) := by decide +kernel
theorem d_m2_8 : decode method_2_code 8 = .ok (.iload_n 0, 1) := by decide +kernel
theorem d_m2_9 : decode method_2_code 9 = .ok (.iconst 1, 1) := by decide +kernel
theorem d_m2_10 : decode method_2_code 10 = .ok (.if_icmp .ne 7, 3) := by decide +kernel
theorem d_m2_13 : decode method_2_code 13 = .ok (.getstatic 13, 3) := by decide +kernel
theorem d_m2_16 : decode method_2_code 16 = .ok (.areturn, 1) := by decide +kernel
theorem d_m2_17 : decode method_2_code 17 = .ok (.getstatic 16, 3) := by decide +kernel
theorem d_m2_20 : decode method_2_code 20 = .ok (.areturn, 1) := by decide +kernel
theorem pn_AnswerAndPinLaw_691 : plainName "com/example/tagfold/tagfold/algebra/AnswerAndPinLaw" = true := by first | (simp [plainName, overriddenIn]; done) | decide +kernel
theorem d_p25_m5_0 : decode prog_25_method_5_code 0 = .ok (.aload_n 0, 1) := by decide +kernel
theorem d_p25_m5_1 : decode prog_25_method_5_code 1 = .ok (.getstatic 7, 3) := by decide +kernel
theorem d_p25_m5_4 : decode prog_25_method_5_code 4 = .ok (.if_acmp .eq 10, 3) := by decide +kernel
theorem d_p25_m5_14 : decode prog_25_method_5_code 14 = .ok (.getstatic 7, 3) := by decide +kernel
theorem d_p25_m5_17 : decode prog_25_method_5_code 17 = .ok (.areturn, 1) := by decide +kernel
theorem d_p25_m5_7 : decode prog_25_method_5_code 7 = .ok (.aload_n 1, 1) := by decide +kernel
theorem d_p25_m5_8 : decode prog_25_method_5_code 8 = .ok (.getstatic 7, 3) := by decide +kernel
theorem d_p25_m5_11 : decode prog_25_method_5_code 11 = .ok (.if_acmp .ne 7, 3) := by decide +kernel
theorem d_p25_m5_18 : decode prog_25_method_5_code 18 = .ok (.aload_n 0, 1) := by decide +kernel
theorem d_p25_m5_19 : decode prog_25_method_5_code 19 = .ok (.getstatic 10, 3) := by decide +kernel
theorem d_p25_m5_22 : decode prog_25_method_5_code 22 = .ok (.if_acmp .eq 10, 3) := by decide +kernel
theorem d_p25_m5_32 : decode prog_25_method_5_code 32 = .ok (.getstatic 10, 3) := by decide +kernel
theorem d_p25_m5_35 : decode prog_25_method_5_code 35 = .ok (.goto 6, 3) := by decide +kernel
theorem d_p25_m5_41 : decode prog_25_method_5_code 41 = .ok (.areturn, 1) := by decide +kernel
theorem d_p25_m5_25 : decode prog_25_method_5_code 25 = .ok (.aload_n 1, 1) := by decide +kernel
theorem d_p25_m5_26 : decode prog_25_method_5_code 26 = .ok (.getstatic 10, 3) := by decide +kernel
theorem d_p25_m5_29 : decode prog_25_method_5_code 29 = .ok (.if_acmp .ne 9, 3) := by decide +kernel
theorem d_p25_m5_38 : decode prog_25_method_5_code 38 = .ok (.getstatic 3, 3) := by decide +kernel
theorem pn_Answer_739 : plainName "com/example/tagfold/tagfold/algebra/Answer" = true := by first | (simp [plainName, overriddenIn]; done) | decide +kernel
theorem d_m3_0 : decode method_3_code 0 = .ok (.aload_n 0, 1) := by decide +kernel
theorem d_m3_1 : decode method_3_code 1 = .ok (.getstatic 7, 3) := by decide +kernel
theorem d_m3_4 : decode method_3_code 4 = .ok (.if_acmp .ne 5, 3) := by decide +kernel
theorem d_m3_7 : decode method_3_code 7 = .ok (.iconst 0, 1) := by decide +kernel
theorem d_m3_8 : decode method_3_code 8 = .ok (.ireturn, 1) := by decide +kernel
theorem d_m3_9 : decode method_3_code 9 = .ok (.aload_n 0, 1) := by decide +kernel
theorem d_m3_10 : decode method_3_code 10 = .ok (.getstatic 13, 3) := by decide +kernel
theorem d_m3_13 : decode method_3_code 13 = .ok (.if_acmp .ne 5, 3) := by decide +kernel
theorem d_m3_16 : decode method_3_code 16 = .ok (.iconst 1, 1) := by decide +kernel
theorem d_m3_17 : decode method_3_code 17 = .ok (.ireturn, 1) := by decide +kernel
theorem d_m3_18 : decode method_3_code 18 = .ok (.aload_n 0, 1) := by decide +kernel
theorem d_m3_19 : decode method_3_code 19 = .ok (.getstatic 16, 3) := by decide +kernel
theorem d_m3_22 : decode method_3_code 22 = .ok (.if_acmp .ne 5, 3) := by decide +kernel
theorem d_m3_25 : decode method_3_code 25 = .ok (.iconst 2, 1) := by decide +kernel
theorem d_m3_26 : decode method_3_code 26 = .ok (.ireturn, 1) := by decide +kernel
theorem d_m3_27 : decode method_3_code 27 = .ok (.iconst (-1), 1) := by decide +kernel
theorem d_m3_28 : decode method_3_code 28 = .ok (.ireturn, 1) := by decide +kernel
theorem d_j29_m69_0 : decode jdk_29_method_69_code 0 = .ok (.iload_n 0, 1) := by decide +kernel
theorem d_j29_m69_1 : decode jdk_29_method_69_code 1 = .ok (.iload_n 1, 1) := by decide +kernel
theorem d_j29_m69_2 : decode jdk_29_method_69_code 2 = .ok (.if_icmp .gt 7, 3) := by decide +kernel
theorem d_j29_m69_9 : decode jdk_29_method_69_code 9 = .ok (.iload_n 1, 1) := by decide +kernel
theorem d_j29_m69_10 : decode jdk_29_method_69_code 10 = .ok (.ireturn, 1) := by decide +kernel
theorem d_j29_m69_5 : decode jdk_29_method_69_code 5 = .ok (.iload_n 0, 1) := by decide +kernel
theorem d_j29_m69_6 : decode jdk_29_method_69_code 6 = .ok (.goto 4, 3) := by decide +kernel
theorem pd__I_Lcom_example_tagfold_tagfold_algebra__6053 : parseMethodDescriptor "(I)Lcom/example/tagfold/tagfold/algebra/Answer;" = some ⟨[.int], some (.object "com/example/tagfold/tagfold/algebra/Answer")⟩ := by decide +kernel
theorem pd__Lcom_example_tagfold_tagfold_algebra_An_1275 : parseMethodDescriptor "(Lcom/example/tagfold/tagfold/algebra/Answer;)Lcom/example/tagfold/tagfold/algebra/Answer;" = some ⟨[(.object "com/example/tagfold/tagfold/algebra/Answer")], some (.object "com/example/tagfold/tagfold/algebra/Answer")⟩ := by decide +kernel
theorem pd__Lcom_example_tagfold_tagfold_algebra_An_2213 : parseMethodDescriptor "(Lcom/example/tagfold/tagfold/algebra/Answer;)I" = some ⟨[(.object "com/example/tagfold/tagfold/algebra/Answer")], some .int⟩ := by decide +kernel
theorem pd__II_I_420 : parseMethodDescriptor "(II)I" = some ⟨[.int, .int], some .int⟩ := by decide +kernel
set_option maxRecDepth 65536 in
set_option maxHeartbeats 40000000 in
theorem ct_pick (l : Launch) (Z : State) (a0 : Array Value) (hw : ∀ d ∈ tables_1, d.before a0 Z = true) (w_NO : Addr) (w_UNDECIDED : Addr) (w_YES : Addr) (S_NO : Sta Z Z.heap "com/example/tagfold/tagfold/algebra/Answer" "NO" "Lcom/example/tagfold/tagfold/algebra/Answer;" (.ref w_NO)) (S_UNDECIDED : Sta Z Z.heap "com/example/tagfold/tagfold/algebra/Answer" "UNDECIDED" "Lcom/example/tagfold/tagfold/algebra/Answer;" (.ref w_UNDECIDED)) (S_YES : Sta Z Z.heap "com/example/tagfold/tagfold/algebra/Answer" "YES" "Lcom/example/tagfold/tagfold/algebra/Answer;" (.ref w_YES)) (E_NO : Exa Z Z.heap w_NO "com/example/tagfold/tagfold/algebra/Answer") (E_UNDECIDED : Exa Z Z.heap w_UNDECIDED "com/example/tagfold/tagfold/algebra/Answer") (E_YES : Exa Z Z.heap w_YES "com/example/tagfold/tagfold/algebra/Answer") (neNU : w_NO ≠ w_UNDECIDED) (neNY : w_NO ≠ w_YES) (neUY : w_UNDECIDED ≠ w_YES) (z1 : Int32) (r : Addr) (h0 : Heap) (n0 : Nat) (O : Old Z n0 h0) (hr : r = if z1 = 0 then w_NO else if z1 = 1 then w_UNDECIDED else w_YES) :
    Ct l (⟨"com/example/tagfold/tagfold/algebra/AnswerAndPinLaw", "pick", "(I)Lcom/example/tagfold/tagfold/algebra/Answer;"⟩ : MethodName) method_2_code 1 (some (.object "com/example/tagfold/tagfold/algebra/Answer")) ({ frames := 0, cells := 0, slots := 0, locals := 0 } : Room) Z #[(.int z1)] h0 (fun v h L => v = some (.ref r) ∧ Fr n0 L ∧ h0 = h) := by
  refine Ct.of (plainFor_of_name pn_AnswerAndPinLaw_691) ?_
  intro p e s m below meth c T0 X0 hx hby hml hown hnm hret hlk hZ e0
  have hown : s.vm.findClass "com/example/tagfold/tagfold/algebra/AnswerAndPinLaw" = some m.cls := hown
  have hml : c.maxLocals = 1 := hml
  have N0 := Fr.nil n0
  refine Go.cast (g' := mkF m 0 #[.val (.int z1)] []) (by first | (simp [entryFrame, mkF, argsToLocals, Value.category]; done) | rfl) ?_
  refine Go.by (T' := T0) (g' := (mkF m 1 #[.val (.int z1)] [(.int z1)])) (fun t k => ?_) ?_
  · show Steps p.tables e below (T0.setTop (mkF m 0 #[.val (.int z1)] [])) _
    refine XS.iloadN X0.here hx rfl (hb hby d_m2_0) rfl ?_
    exact k
  by_cases hy1 : z1 = (0 : Int32)
  · skip
    refine Go.by (T' := T0) (g' := (mkF m 4 #[.val (.int z1)] [])) (fun t k => ?_) ?_
    · show Steps p.tables e below (T0.setTop (mkF m 1 #[.val (.int z1)] [(.int z1)])) _
      refine XS.ifNo X0.here hx rfl (hb hby d_m2_1) rfl ((if0 _ _).trans (teq hy1).2) ?_
      exact k
    refine Go.getS X0 hx hZ hown (wd hw 5 rfl) Via.refl e0 (S_NO.ext O.2) (hb hby d_m2_4) ?_
    intro T2 X2 e2
    show Go p e below _ T2 (mkF m 7 #[.val (.int z1)] [(.ref w_NO)])
    refine Go.retA X2 hx hlk hret rfl rfl (hb hby d_m2_7) (by decide) (by decide) e2 ?_
    exact ⟨by simp only [hr, if_pos hy1], N0, rfl⟩
  · skip
    refine Go.by (T' := T0) (g' := (mkF m 10 #[.val (.int z1)] [(.int (1 : Int32)), (.int z1)])) (fun t k => ?_) ?_
    · show Steps p.tables e below (T0.setTop (mkF m 1 #[.val (.int z1)] [(.int z1)])) _
      refine XS.ifYes X0.here hx rfl (pc0 := 1) (pc' := 8) rfl (hb hby d_m2_1) rfl ((if0 _ _).trans (feq hy1).2) (by decide) (by decide) ?_
      show Steps p.tables e below (T0.setTop (mkF m 8 #[.val (.int z1)] [])) _
      refine XS.iloadN X0.here hx rfl (hb hby d_m2_8) rfl ?_
      show Steps p.tables e below (T0.setTop (mkF m 9 #[.val (.int z1)] [(.int z1)])) _
      refine XS.iconst X0.here hx rfl (hb hby d_m2_9) ?_
      exact k
    by_cases hy3 : z1 = (1 : Int32)
    · skip
      refine Go.by (T' := T0) (g' := (mkF m 13 #[.val (.int z1)] [])) (fun t k => ?_) ?_
      · show Steps p.tables e below (T0.setTop (mkF m 10 #[.val (.int z1)] [(.int (1 : Int32)), (.int z1)])) _
        refine XS.icmpNo X0.here hx rfl (hb hby d_m2_10) rfl (teq hy3).2 ?_
        exact k
      refine Go.getS X0 hx hZ hown (wd hw 23 rfl) Via.refl e0 (S_UNDECIDED.ext O.2) (hb hby d_m2_13) ?_
      intro T4 X4 e4
      show Go p e below _ T4 (mkF m 16 #[.val (.int z1)] [(.ref w_UNDECIDED)])
      refine Go.retA X4 hx hlk hret rfl rfl (hb hby d_m2_16) (by decide) (by decide) e4 ?_
      exact ⟨by simp only [hr, if_neg hy1, if_pos hy3], N0, rfl⟩
    · skip
      refine Go.by (T' := T0) (g' := (mkF m 17 #[.val (.int z1)] [])) (fun t k => ?_) ?_
      · show Steps p.tables e below (T0.setTop (mkF m 10 #[.val (.int z1)] [(.int (1 : Int32)), (.int z1)])) _
        refine XS.icmpYes X0.here hx rfl (pc0 := 10) (pc' := 17) rfl (hb hby d_m2_10) rfl (feq hy3).2 (by decide) (by decide) ?_
        exact k
      refine Go.getS X0 hx hZ hown (wd hw 21 rfl) Via.refl e0 (S_YES.ext O.2) (hb hby d_m2_17) ?_
      intro T5 X5 e5
      show Go p e below _ T5 (mkF m 20 #[.val (.int z1)] [(.ref w_YES)])
      refine Go.retA X5 hx hlk hret rfl rfl (hb hby d_m2_20) (by decide) (by decide) e5 ?_
      exact ⟨by simp only [hr, if_neg hy1, if_neg hy3], N0, rfl⟩
set_option maxRecDepth 65536 in
set_option maxHeartbeats 40000000 in
theorem ct_and (l : Launch) (Z : State) (a0 : Array Value) (hw : ∀ d ∈ tables_1, d.before a0 Z = true) (w_NO : Addr) (w_UNDECIDED : Addr) (w_YES : Addr) (S_NO : Sta Z Z.heap "com/example/tagfold/tagfold/algebra/Answer" "NO" "Lcom/example/tagfold/tagfold/algebra/Answer;" (.ref w_NO)) (S_UNDECIDED : Sta Z Z.heap "com/example/tagfold/tagfold/algebra/Answer" "UNDECIDED" "Lcom/example/tagfold/tagfold/algebra/Answer;" (.ref w_UNDECIDED)) (S_YES : Sta Z Z.heap "com/example/tagfold/tagfold/algebra/Answer" "YES" "Lcom/example/tagfold/tagfold/algebra/Answer;" (.ref w_YES)) (E_NO : Exa Z Z.heap w_NO "com/example/tagfold/tagfold/algebra/Answer") (E_UNDECIDED : Exa Z Z.heap w_UNDECIDED "com/example/tagfold/tagfold/algebra/Answer") (E_YES : Exa Z Z.heap w_YES "com/example/tagfold/tagfold/algebra/Answer") (neNU : w_NO ≠ w_UNDECIDED) (neNY : w_NO ≠ w_YES) (neUY : w_UNDECIDED ≠ w_YES) (a1 : Addr) (a2 : Addr) (r : Addr) (h0 : Heap) (n0 : Nat) (O : Old Z n0 h0) (hr : r = if a1 = w_NO then w_NO else if a2 = w_NO then w_NO else if a1 = w_UNDECIDED then w_UNDECIDED else if a2 = w_UNDECIDED then w_UNDECIDED else w_YES) :
    Ct l (⟨"com/example/tagfold/tagfold/algebra/Answer", "and", "(Lcom/example/tagfold/tagfold/algebra/Answer;)Lcom/example/tagfold/tagfold/algebra/Answer;"⟩ : MethodName) prog_25_method_5_code 2 (some (.object "com/example/tagfold/tagfold/algebra/Answer")) ({ frames := 0, cells := 0, slots := 0, locals := 0 } : Room) Z #[(.ref a1), (.ref a2)] h0 (fun v h L => v = some (.ref r) ∧ Fr n0 L ∧ h0 = h) := by
  refine Ct.of (plainFor_of_name pn_Answer_739) ?_
  intro p e s m below meth c T0 X0 hx hby hml hown hnm hret hlk hZ e0
  have hown : s.vm.findClass "com/example/tagfold/tagfold/algebra/Answer" = some m.cls := hown
  have hml : c.maxLocals = 2 := hml
  have N0 := Fr.nil n0
  refine Go.cast (g' := mkF m 0 #[.val (.ref a1), .val (.ref a2)] []) (by first | (simp [entryFrame, mkF, argsToLocals, Value.category]; done) | rfl) ?_
  refine Go.by (T' := T0) (g' := (mkF m 1 #[.val (.ref a1), .val (.ref a2)] [(.ref a1)])) (fun t k => ?_) ?_
  · show Steps p.tables e below (T0.setTop (mkF m 0 #[.val (.ref a1), .val (.ref a2)] [])) _
    refine XS.aloadN X0.here hx rfl (hb hby d_p25_m5_0) rfl rfl ?_
    exact k
  refine Go.getS X0 hx hZ hown (wd hw 13 rfl) Via.refl e0 (S_NO.ext O.2) (hb hby d_p25_m5_1) ?_
  intro T1 X1 e1
  show Go p e below _ T1 (mkF m 4 #[.val (.ref a1), .val (.ref a2)] [(.ref w_NO), (.ref a1)])
  by_cases hy2 : a1 = w_NO
  · skip
    refine Go.by (T' := T1) (g' := (mkF m 14 #[.val (.ref a1), .val (.ref a2)] [])) (fun t k => ?_) ?_
    · show Steps p.tables e below (T1.setTop (mkF m 4 #[.val (.ref a1), .val (.ref a2)] [(.ref w_NO), (.ref a1)])) _
      refine Jvm.RoadKit.acmp (g := (mkF m 4 #[.val (.ref a1), .val (.ref a2)] [(.ref w_NO), (.ref a1)])) X1 hx rfl rfl rfl (pc0 := 4) (pc' := 14) (same := true) rfl (hb hby d_p25_m5_4) rfl (decide_eq_true (congrArg Value.ref hy2)) (by decide) (by decide) ?_
      exact k
    refine Go.getS X1 hx hZ hown (wd hw 13 rfl) Via.refl e1 (S_NO.ext O.2) (hb hby d_p25_m5_14) ?_
    intro T3 X3 e3
    show Go p e below _ T3 (mkF m 17 #[.val (.ref a1), .val (.ref a2)] [(.ref w_NO)])
    refine Go.retA X3 hx hlk hret rfl rfl (hb hby d_p25_m5_17) (by decide) (by decide) e3 ?_
    exact ⟨by simp only [hr, if_pos hy2], N0, rfl⟩
  · skip
    refine Go.by (T' := T1) (g' := (mkF m 8 #[.val (.ref a1), .val (.ref a2)] [(.ref a2)])) (fun t k => ?_) ?_
    · show Steps p.tables e below (T1.setTop (mkF m 4 #[.val (.ref a1), .val (.ref a2)] [(.ref w_NO), (.ref a1)])) _
      refine Jvm.RoadKit.acmp (g := (mkF m 4 #[.val (.ref a1), .val (.ref a2)] [(.ref w_NO), (.ref a1)])) X1 hx rfl rfl rfl (pc0 := 4) (pc' := 7) (same := false) rfl (hb hby d_p25_m5_4) rfl (decide_eq_false fun q => hy2 (Value.ref.inj q)) (by decide) (by decide) ?_
      show Steps p.tables e below (T1.setTop (mkF m 7 #[.val (.ref a1), .val (.ref a2)] [])) _
      refine XS.aloadN X1.here hx rfl (hb hby d_p25_m5_7) rfl rfl ?_
      exact k
    refine Go.getS X1 hx hZ hown (wd hw 13 rfl) Via.refl e1 (S_NO.ext O.2) (hb hby d_p25_m5_8) ?_
    intro T4 X4 e4
    show Go p e below _ T4 (mkF m 11 #[.val (.ref a1), .val (.ref a2)] [(.ref w_NO), (.ref a2)])
    by_cases hy5 : a2 = w_NO
    · skip
      refine Go.by (T' := T4) (g' := (mkF m 14 #[.val (.ref a1), .val (.ref a2)] [])) (fun t k => ?_) ?_
      · show Steps p.tables e below (T4.setTop (mkF m 11 #[.val (.ref a1), .val (.ref a2)] [(.ref w_NO), (.ref a2)])) _
        refine Jvm.RoadKit.acmp (g := (mkF m 11 #[.val (.ref a1), .val (.ref a2)] [(.ref w_NO), (.ref a2)])) X4 hx rfl rfl rfl (pc0 := 11) (pc' := 14) (same := true) rfl (hb hby d_p25_m5_11) rfl (decide_eq_true (congrArg Value.ref hy5)) (by decide) (by decide) ?_
        exact k
      refine Go.getS X4 hx hZ hown (wd hw 13 rfl) Via.refl e4 (S_NO.ext O.2) (hb hby d_p25_m5_14) ?_
      intro T6 X6 e6
      show Go p e below _ T6 (mkF m 17 #[.val (.ref a1), .val (.ref a2)] [(.ref w_NO)])
      refine Go.retA X6 hx hlk hret rfl rfl (hb hby d_p25_m5_17) (by decide) (by decide) e6 ?_
      exact ⟨by simp only [hr, if_neg hy2, if_pos hy5], N0, rfl⟩
    · skip
      refine Go.by (T' := T4) (g' := (mkF m 19 #[.val (.ref a1), .val (.ref a2)] [(.ref a1)])) (fun t k => ?_) ?_
      · show Steps p.tables e below (T4.setTop (mkF m 11 #[.val (.ref a1), .val (.ref a2)] [(.ref w_NO), (.ref a2)])) _
        refine Jvm.RoadKit.acmp (g := (mkF m 11 #[.val (.ref a1), .val (.ref a2)] [(.ref w_NO), (.ref a2)])) X4 hx rfl rfl rfl (pc0 := 11) (pc' := 18) (same := false) rfl (hb hby d_p25_m5_11) rfl (decide_eq_false fun q => hy5 (Value.ref.inj q)) (by decide) (by decide) ?_
        show Steps p.tables e below (T4.setTop (mkF m 18 #[.val (.ref a1), .val (.ref a2)] [])) _
        refine XS.aloadN X4.here hx rfl (hb hby d_p25_m5_18) rfl rfl ?_
        exact k
      refine Go.getS X4 hx hZ hown (wd hw 25 rfl) Via.refl e4 (S_UNDECIDED.ext O.2) (hb hby d_p25_m5_19) ?_
      intro T7 X7 e7
      show Go p e below _ T7 (mkF m 22 #[.val (.ref a1), .val (.ref a2)] [(.ref w_UNDECIDED), (.ref a1)])
      by_cases hy8 : a1 = w_UNDECIDED
      · skip
        refine Go.by (T' := T7) (g' := (mkF m 32 #[.val (.ref a1), .val (.ref a2)] [])) (fun t k => ?_) ?_
        · show Steps p.tables e below (T7.setTop (mkF m 22 #[.val (.ref a1), .val (.ref a2)] [(.ref w_UNDECIDED), (.ref a1)])) _
          refine Jvm.RoadKit.acmp (g := (mkF m 22 #[.val (.ref a1), .val (.ref a2)] [(.ref w_UNDECIDED), (.ref a1)])) X7 hx rfl rfl rfl (pc0 := 22) (pc' := 32) (same := true) rfl (hb hby d_p25_m5_22) rfl (decide_eq_true (congrArg Value.ref hy8)) (by decide) (by decide) ?_
          exact k
        refine Go.getS X7 hx hZ hown (wd hw 25 rfl) Via.refl e7 (S_UNDECIDED.ext O.2) (hb hby d_p25_m5_32) ?_
        intro T9 X9 e9
        show Go p e below _ T9 (mkF m 35 #[.val (.ref a1), .val (.ref a2)] [(.ref w_UNDECIDED)])
        refine Go.by (T' := T9) (g' := (mkF m 41 #[.val (.ref a1), .val (.ref a2)] [(.ref w_UNDECIDED)])) (fun t k => ?_) ?_
        · show Steps p.tables e below (T9.setTop (mkF m 35 #[.val (.ref a1), .val (.ref a2)] [(.ref w_UNDECIDED)])) _
          refine XS.goto X9.here hx rfl (pc0 := 35) (pc' := 41) rfl (hb hby d_p25_m5_35) (by decide) (by decide) ?_
          exact k
        refine Go.retA X9 hx hlk hret rfl rfl (hb hby d_p25_m5_41) (by decide) (by decide) e9 ?_
        exact ⟨by simp only [hr, if_neg hy2, if_neg hy5, if_pos hy8], N0, rfl⟩
      · skip
        refine Go.by (T' := T7) (g' := (mkF m 26 #[.val (.ref a1), .val (.ref a2)] [(.ref a2)])) (fun t k => ?_) ?_
        · show Steps p.tables e below (T7.setTop (mkF m 22 #[.val (.ref a1), .val (.ref a2)] [(.ref w_UNDECIDED), (.ref a1)])) _
          refine Jvm.RoadKit.acmp (g := (mkF m 22 #[.val (.ref a1), .val (.ref a2)] [(.ref w_UNDECIDED), (.ref a1)])) X7 hx rfl rfl rfl (pc0 := 22) (pc' := 25) (same := false) rfl (hb hby d_p25_m5_22) rfl (decide_eq_false fun q => hy8 (Value.ref.inj q)) (by decide) (by decide) ?_
          show Steps p.tables e below (T7.setTop (mkF m 25 #[.val (.ref a1), .val (.ref a2)] [])) _
          refine XS.aloadN X7.here hx rfl (hb hby d_p25_m5_25) rfl rfl ?_
          exact k
        refine Go.getS X7 hx hZ hown (wd hw 25 rfl) Via.refl e7 (S_UNDECIDED.ext O.2) (hb hby d_p25_m5_26) ?_
        intro T10 X10 e10
        show Go p e below _ T10 (mkF m 29 #[.val (.ref a1), .val (.ref a2)] [(.ref w_UNDECIDED), (.ref a2)])
        by_cases hy11 : a2 = w_UNDECIDED
        · skip
          refine Go.by (T' := T10) (g' := (mkF m 32 #[.val (.ref a1), .val (.ref a2)] [])) (fun t k => ?_) ?_
          · show Steps p.tables e below (T10.setTop (mkF m 29 #[.val (.ref a1), .val (.ref a2)] [(.ref w_UNDECIDED), (.ref a2)])) _
            refine Jvm.RoadKit.acmp (g := (mkF m 29 #[.val (.ref a1), .val (.ref a2)] [(.ref w_UNDECIDED), (.ref a2)])) X10 hx rfl rfl rfl (pc0 := 29) (pc' := 32) (same := true) rfl (hb hby d_p25_m5_29) rfl (decide_eq_true (congrArg Value.ref hy11)) (by decide) (by decide) ?_
            exact k
          refine Go.getS X10 hx hZ hown (wd hw 25 rfl) Via.refl e10 (S_UNDECIDED.ext O.2) (hb hby d_p25_m5_32) ?_
          intro T12 X12 e12
          show Go p e below _ T12 (mkF m 35 #[.val (.ref a1), .val (.ref a2)] [(.ref w_UNDECIDED)])
          refine Go.by (T' := T12) (g' := (mkF m 41 #[.val (.ref a1), .val (.ref a2)] [(.ref w_UNDECIDED)])) (fun t k => ?_) ?_
          · show Steps p.tables e below (T12.setTop (mkF m 35 #[.val (.ref a1), .val (.ref a2)] [(.ref w_UNDECIDED)])) _
            refine XS.goto X12.here hx rfl (pc0 := 35) (pc' := 41) rfl (hb hby d_p25_m5_35) (by decide) (by decide) ?_
            exact k
          refine Go.retA X12 hx hlk hret rfl rfl (hb hby d_p25_m5_41) (by decide) (by decide) e12 ?_
          exact ⟨by simp only [hr, if_neg hy2, if_neg hy5, if_neg hy8, if_pos hy11], N0, rfl⟩
        · skip
          refine Go.by (T' := T10) (g' := (mkF m 38 #[.val (.ref a1), .val (.ref a2)] [])) (fun t k => ?_) ?_
          · show Steps p.tables e below (T10.setTop (mkF m 29 #[.val (.ref a1), .val (.ref a2)] [(.ref w_UNDECIDED), (.ref a2)])) _
            refine Jvm.RoadKit.acmp (g := (mkF m 29 #[.val (.ref a1), .val (.ref a2)] [(.ref w_UNDECIDED), (.ref a2)])) X10 hx rfl rfl rfl (pc0 := 29) (pc' := 38) (same := false) rfl (hb hby d_p25_m5_29) rfl (decide_eq_false fun q => hy11 (Value.ref.inj q)) (by decide) (by decide) ?_
            exact k
          refine Go.getS X10 hx hZ hown (wd hw 26 rfl) Via.refl e10 (S_YES.ext O.2) (hb hby d_p25_m5_38) ?_
          intro T13 X13 e13
          show Go p e below _ T13 (mkF m 41 #[.val (.ref a1), .val (.ref a2)] [(.ref w_YES)])
          refine Go.retA X13 hx hlk hret rfl rfl (hb hby d_p25_m5_41) (by decide) (by decide) e13 ?_
          exact ⟨by simp only [hr, if_neg hy2, if_neg hy5, if_neg hy8, if_neg hy11], N0, rfl⟩
set_option maxRecDepth 65536 in
set_option maxHeartbeats 40000000 in
theorem ct_rank (l : Launch) (Z : State) (a0 : Array Value) (hw : ∀ d ∈ tables_1, d.before a0 Z = true) (w_NO : Addr) (w_UNDECIDED : Addr) (w_YES : Addr) (S_NO : Sta Z Z.heap "com/example/tagfold/tagfold/algebra/Answer" "NO" "Lcom/example/tagfold/tagfold/algebra/Answer;" (.ref w_NO)) (S_UNDECIDED : Sta Z Z.heap "com/example/tagfold/tagfold/algebra/Answer" "UNDECIDED" "Lcom/example/tagfold/tagfold/algebra/Answer;" (.ref w_UNDECIDED)) (S_YES : Sta Z Z.heap "com/example/tagfold/tagfold/algebra/Answer" "YES" "Lcom/example/tagfold/tagfold/algebra/Answer;" (.ref w_YES)) (E_NO : Exa Z Z.heap w_NO "com/example/tagfold/tagfold/algebra/Answer") (E_UNDECIDED : Exa Z Z.heap w_UNDECIDED "com/example/tagfold/tagfold/algebra/Answer") (E_YES : Exa Z Z.heap w_YES "com/example/tagfold/tagfold/algebra/Answer") (neNU : w_NO ≠ w_UNDECIDED) (neNY : w_NO ≠ w_YES) (neUY : w_UNDECIDED ≠ w_YES) (a1 : Addr) (r : Int32) (h0 : Heap) (n0 : Nat) (O : Old Z n0 h0) (hr : r = if a1 = w_NO then 0 else if a1 = w_UNDECIDED then 1 else if a1 = w_YES then 2 else -1) :
    Ct l (⟨"com/example/tagfold/tagfold/algebra/AnswerAndPinLaw", "rank", "(Lcom/example/tagfold/tagfold/algebra/Answer;)I"⟩ : MethodName) method_3_code 1 (some .int) ({ frames := 0, cells := 0, slots := 0, locals := 0 } : Room) Z #[(.ref a1)] h0 (fun v h L => v = some (.int r) ∧ Fr n0 L ∧ h0 = h) := by
  refine Ct.of (plainFor_of_name pn_AnswerAndPinLaw_691) ?_
  intro p e s m below meth c T0 X0 hx hby hml hown hnm hret hlk hZ e0
  have hown : s.vm.findClass "com/example/tagfold/tagfold/algebra/AnswerAndPinLaw" = some m.cls := hown
  have hml : c.maxLocals = 1 := hml
  have N0 := Fr.nil n0
  refine Go.cast (g' := mkF m 0 #[.val (.ref a1)] []) (by first | (simp [entryFrame, mkF, argsToLocals, Value.category]; done) | rfl) ?_
  refine Go.by (T' := T0) (g' := (mkF m 1 #[.val (.ref a1)] [(.ref a1)])) (fun t k => ?_) ?_
  · show Steps p.tables e below (T0.setTop (mkF m 0 #[.val (.ref a1)] [])) _
    refine XS.aloadN X0.here hx rfl (hb hby d_m3_0) rfl rfl ?_
    exact k
  refine Go.getS X0 hx hZ hown (wd hw 5 rfl) Via.refl e0 (S_NO.ext O.2) (hb hby d_m3_1) ?_
  intro T1 X1 e1
  show Go p e below _ T1 (mkF m 4 #[.val (.ref a1)] [(.ref w_NO), (.ref a1)])
  by_cases hy2 : a1 = w_NO
  · skip
    refine Go.by (T' := T1) (g' := (mkF m 8 #[.val (.ref a1)] [(.int (0 : Int32))])) (fun t k => ?_) ?_
    · show Steps p.tables e below (T1.setTop (mkF m 4 #[.val (.ref a1)] [(.ref w_NO), (.ref a1)])) _
      refine Jvm.RoadKit.acmp (g := (mkF m 4 #[.val (.ref a1)] [(.ref w_NO), (.ref a1)])) X1 hx rfl rfl rfl (pc0 := 4) (pc' := 7) (same := true) rfl (hb hby d_m3_4) rfl (decide_eq_true (congrArg Value.ref hy2)) (by decide) (by decide) ?_
      show Steps p.tables e below (T1.setTop (mkF m 7 #[.val (.ref a1)] [])) _
      refine XS.iconst X1.here hx rfl (hb hby d_m3_7) ?_
      exact k
    refine Go.retI X1 hx hlk hret (hb hby d_m3_8) (by decide) (by decide) e1 ?_
    exact ⟨by simp only [hr, if_pos hy2], N0, rfl⟩
  · skip
    refine Go.by (T' := T1) (g' := (mkF m 10 #[.val (.ref a1)] [(.ref a1)])) (fun t k => ?_) ?_
    · show Steps p.tables e below (T1.setTop (mkF m 4 #[.val (.ref a1)] [(.ref w_NO), (.ref a1)])) _
      refine Jvm.RoadKit.acmp (g := (mkF m 4 #[.val (.ref a1)] [(.ref w_NO), (.ref a1)])) X1 hx rfl rfl rfl (pc0 := 4) (pc' := 9) (same := false) rfl (hb hby d_m3_4) rfl (decide_eq_false fun q => hy2 (Value.ref.inj q)) (by decide) (by decide) ?_
      show Steps p.tables e below (T1.setTop (mkF m 9 #[.val (.ref a1)] [])) _
      refine XS.aloadN X1.here hx rfl (hb hby d_m3_9) rfl rfl ?_
      exact k
    refine Go.getS X1 hx hZ hown (wd hw 23 rfl) Via.refl e1 (S_UNDECIDED.ext O.2) (hb hby d_m3_10) ?_
    intro T3 X3 e3
    show Go p e below _ T3 (mkF m 13 #[.val (.ref a1)] [(.ref w_UNDECIDED), (.ref a1)])
    by_cases hy4 : a1 = w_UNDECIDED
    · skip
      refine Go.by (T' := T3) (g' := (mkF m 17 #[.val (.ref a1)] [(.int (1 : Int32))])) (fun t k => ?_) ?_
      · show Steps p.tables e below (T3.setTop (mkF m 13 #[.val (.ref a1)] [(.ref w_UNDECIDED), (.ref a1)])) _
        refine Jvm.RoadKit.acmp (g := (mkF m 13 #[.val (.ref a1)] [(.ref w_UNDECIDED), (.ref a1)])) X3 hx rfl rfl rfl (pc0 := 13) (pc' := 16) (same := true) rfl (hb hby d_m3_13) rfl (decide_eq_true (congrArg Value.ref hy4)) (by decide) (by decide) ?_
        show Steps p.tables e below (T3.setTop (mkF m 16 #[.val (.ref a1)] [])) _
        refine XS.iconst X3.here hx rfl (hb hby d_m3_16) ?_
        exact k
      refine Go.retI X3 hx hlk hret (hb hby d_m3_17) (by decide) (by decide) e3 ?_
      exact ⟨by simp only [hr, if_neg hy2, if_pos hy4], N0, rfl⟩
    · skip
      refine Go.by (T' := T3) (g' := (mkF m 19 #[.val (.ref a1)] [(.ref a1)])) (fun t k => ?_) ?_
      · show Steps p.tables e below (T3.setTop (mkF m 13 #[.val (.ref a1)] [(.ref w_UNDECIDED), (.ref a1)])) _
        refine Jvm.RoadKit.acmp (g := (mkF m 13 #[.val (.ref a1)] [(.ref w_UNDECIDED), (.ref a1)])) X3 hx rfl rfl rfl (pc0 := 13) (pc' := 18) (same := false) rfl (hb hby d_m3_13) rfl (decide_eq_false fun q => hy4 (Value.ref.inj q)) (by decide) (by decide) ?_
        show Steps p.tables e below (T3.setTop (mkF m 18 #[.val (.ref a1)] [])) _
        refine XS.aloadN X3.here hx rfl (hb hby d_m3_18) rfl rfl ?_
        exact k
      refine Go.getS X3 hx hZ hown (wd hw 21 rfl) Via.refl e3 (S_YES.ext O.2) (hb hby d_m3_19) ?_
      intro T5 X5 e5
      show Go p e below _ T5 (mkF m 22 #[.val (.ref a1)] [(.ref w_YES), (.ref a1)])
      by_cases hy6 : a1 = w_YES
      · skip
        refine Go.by (T' := T5) (g' := (mkF m 26 #[.val (.ref a1)] [(.int (2 : Int32))])) (fun t k => ?_) ?_
        · show Steps p.tables e below (T5.setTop (mkF m 22 #[.val (.ref a1)] [(.ref w_YES), (.ref a1)])) _
          refine Jvm.RoadKit.acmp (g := (mkF m 22 #[.val (.ref a1)] [(.ref w_YES), (.ref a1)])) X5 hx rfl rfl rfl (pc0 := 22) (pc' := 25) (same := true) rfl (hb hby d_m3_22) rfl (decide_eq_true (congrArg Value.ref hy6)) (by decide) (by decide) ?_
          show Steps p.tables e below (T5.setTop (mkF m 25 #[.val (.ref a1)] [])) _
          refine XS.iconst X5.here hx rfl (hb hby d_m3_25) ?_
          exact k
        refine Go.retI X5 hx hlk hret (hb hby d_m3_26) (by decide) (by decide) e5 ?_
        exact ⟨by simp only [hr, if_neg hy2, if_neg hy4, if_pos hy6], N0, rfl⟩
      · skip
        refine Go.by (T' := T5) (g' := (mkF m 28 #[.val (.ref a1)] [(.int (-1 : Int32))])) (fun t k => ?_) ?_
        · show Steps p.tables e below (T5.setTop (mkF m 22 #[.val (.ref a1)] [(.ref w_YES), (.ref a1)])) _
          refine Jvm.RoadKit.acmp (g := (mkF m 22 #[.val (.ref a1)] [(.ref w_YES), (.ref a1)])) X5 hx rfl rfl rfl (pc0 := 22) (pc' := 27) (same := false) rfl (hb hby d_m3_22) rfl (decide_eq_false fun q => hy6 (Value.ref.inj q)) (by decide) (by decide) ?_
          show Steps p.tables e below (T5.setTop (mkF m 27 #[.val (.ref a1)] [])) _
          refine XS.iconst X5.here hx rfl (hb hby d_m3_27) ?_
          exact k
        refine Go.retI X5 hx hlk hret (hb hby d_m3_28) (by decide) (by decide) e5 ?_
        exact ⟨by simp only [hr, if_neg hy2, if_neg hy4, if_neg hy6], N0, rfl⟩
set_option maxRecDepth 65536 in
set_option maxHeartbeats 40000000 in
theorem ct_min (l : Launch) (Z : State) (a0 : Array Value) (hw : ∀ d ∈ tables_1, d.before a0 Z = true) (w_NO : Addr) (w_UNDECIDED : Addr) (w_YES : Addr) (S_NO : Sta Z Z.heap "com/example/tagfold/tagfold/algebra/Answer" "NO" "Lcom/example/tagfold/tagfold/algebra/Answer;" (.ref w_NO)) (S_UNDECIDED : Sta Z Z.heap "com/example/tagfold/tagfold/algebra/Answer" "UNDECIDED" "Lcom/example/tagfold/tagfold/algebra/Answer;" (.ref w_UNDECIDED)) (S_YES : Sta Z Z.heap "com/example/tagfold/tagfold/algebra/Answer" "YES" "Lcom/example/tagfold/tagfold/algebra/Answer;" (.ref w_YES)) (E_NO : Exa Z Z.heap w_NO "com/example/tagfold/tagfold/algebra/Answer") (E_UNDECIDED : Exa Z Z.heap w_UNDECIDED "com/example/tagfold/tagfold/algebra/Answer") (E_YES : Exa Z Z.heap w_YES "com/example/tagfold/tagfold/algebra/Answer") (neNU : w_NO ≠ w_UNDECIDED) (neNY : w_NO ≠ w_YES) (neUY : w_UNDECIDED ≠ w_YES) (x1 : Int32) (x2 : Int32) (r : Int32) (h0 : Heap) (n0 : Nat) (O : Old Z n0 h0) (hr : r = if x2 < x1 then x2 else x1) :
    Ct l (⟨"java/lang/Math", "min", "(II)I"⟩ : MethodName) jdk_29_method_69_code 2 (some .int) ({ frames := 0, cells := 0, slots := 0, locals := 0 } : Room) Z #[(.int x1), (.int x2)] h0 (fun v h L => v = some (.int r) ∧ Fr n0 L ∧ h0 = h) := by
  refine Ct.of (Jvm.Free.JP.mathPlain rfl (by decide +kernel)) ?_
  intro p e s m below meth c T0 X0 hx hby hml hown hnm hret hlk hZ e0
  have hown : s.vm.findClass "java/lang/Math" = some m.cls := hown
  have hml : c.maxLocals = 2 := hml
  have N0 := Fr.nil n0
  refine Go.cast (g' := mkF m 0 #[.val (.int x1), .val (.int x2)] []) (by first | (simp [entryFrame, mkF, argsToLocals, Value.category]; done) | rfl) ?_
  refine Go.by (T' := T0) (g' := (mkF m 2 #[.val (.int x1), .val (.int x2)] [(.int x2), (.int x1)])) (fun t k => ?_) ?_
  · show Steps p.tables e below (T0.setTop (mkF m 0 #[.val (.int x1), .val (.int x2)] [])) _
    refine XS.iloadN X0.here hx rfl (hb hby d_j29_m69_0) rfl ?_
    show Steps p.tables e below (T0.setTop (mkF m 1 #[.val (.int x1), .val (.int x2)] [(.int x1)])) _
    refine XS.iloadN X0.here hx rfl (hb hby d_j29_m69_1) rfl ?_
    exact k
  by_cases hy1 : x2 < x1
  · skip
    refine Go.by (T' := T0) (g' := (mkF m 10 #[.val (.int x1), .val (.int x2)] [(.int x2)])) (fun t k => ?_) ?_
    · show Steps p.tables e below (T0.setTop (mkF m 2 #[.val (.int x1), .val (.int x2)] [(.int x2), (.int x1)])) _
      refine XS.icmpYes X0.here hx rfl (pc0 := 2) (pc' := 9) rfl (hb hby d_j29_m69_2) rfl (tlt hy1).2.2.1 (by decide) (by decide) ?_
      show Steps p.tables e below (T0.setTop (mkF m 9 #[.val (.int x1), .val (.int x2)] [])) _
      refine XS.iloadN X0.here hx rfl (hb hby d_j29_m69_9) rfl ?_
      exact k
    refine Go.retI X0 hx hlk hret (hb hby d_j29_m69_10) (by decide) (by decide) e0 ?_
    exact ⟨by simp only [hr, if_pos hy1], N0, rfl⟩
  · skip
    refine Go.by (T' := T0) (g' := (mkF m 10 #[.val (.int x1), .val (.int x2)] [(.int x1)])) (fun t k => ?_) ?_
    · show Steps p.tables e below (T0.setTop (mkF m 2 #[.val (.int x1), .val (.int x2)] [(.int x2), (.int x1)])) _
      refine XS.icmpNo X0.here hx rfl (hb hby d_j29_m69_2) rfl (flt hy1).2.2.1 ?_
      show Steps p.tables e below (T0.setTop (mkF m 5 #[.val (.int x1), .val (.int x2)] [])) _
      refine XS.iloadN X0.here hx rfl (hb hby d_j29_m69_5) rfl ?_
      show Steps p.tables e below (T0.setTop (mkF m 6 #[.val (.int x1), .val (.int x2)] [(.int x1)])) _
      refine XS.goto X0.here hx rfl (pc0 := 6) (pc' := 10) rfl (hb hby d_j29_m69_6) (by decide) (by decide) ?_
      exact k
    refine Go.retI X0 hx hlk hret (hb hby d_j29_m69_10) (by decide) (by decide) e0 ?_
    exact ⟨by simp only [hr, if_neg hy1], N0, rfl⟩
set_option maxRecDepth 65536 in
set_option maxHeartbeats 40000000 in
theorem ct_law (l : Launch) (Z : State) (a0 : Array Value) (hw : ∀ d ∈ tables_1, d.before a0 Z = true) (w_NO : Addr) (w_UNDECIDED : Addr) (w_YES : Addr) (S_NO : Sta Z Z.heap "com/example/tagfold/tagfold/algebra/Answer" "NO" "Lcom/example/tagfold/tagfold/algebra/Answer;" (.ref w_NO)) (S_UNDECIDED : Sta Z Z.heap "com/example/tagfold/tagfold/algebra/Answer" "UNDECIDED" "Lcom/example/tagfold/tagfold/algebra/Answer;" (.ref w_UNDECIDED)) (S_YES : Sta Z Z.heap "com/example/tagfold/tagfold/algebra/Answer" "YES" "Lcom/example/tagfold/tagfold/algebra/Answer;" (.ref w_YES)) (E_NO : Exa Z Z.heap w_NO "com/example/tagfold/tagfold/algebra/Answer") (E_UNDECIDED : Exa Z Z.heap w_UNDECIDED "com/example/tagfold/tagfold/algebra/Answer") (E_YES : Exa Z Z.heap w_YES "com/example/tagfold/tagfold/algebra/Answer") (neNU : w_NO ≠ w_UNDECIDED) (neNY : w_NO ≠ w_YES) (neUY : w_UNDECIDED ≠ w_YES) (p0 : Int32) (p1 : Int32) (h0 : Heap) (n0 : Nat) (O : Old Z n0 h0)  :
    Ct l x code maxLocals ret room_1 Z #[(.int p0), (.int p1)] h0 (fun v h L => v = some (.int 1) ∧ Fr n0 L) := by
  refine Ct.of (plainFor_of_name pn_AnswerAndPinLaw_691) ?_
  intro p e s m below meth c T0 X0 hx hby hml hown hnm hret hlk hZ e0
  have hown : s.vm.findClass "com/example/tagfold/tagfold/algebra/AnswerAndPinLaw" = some m.cls := hown
  have hml : c.maxLocals = 7 := hml
  have N0 := Fr.nil n0
  refine Go.cast (g' := mkF m 0 #[.val (.int p0), .val (.int p1), .unset, .unset, .unset, .unset, .unset] []) (by first | (simp [entryFrame, mkF, argsToLocals, Value.category, maxLocals]; done) | rfl) ?_
  refine Go.by (T' := T0) (g' := (mkF m 7 #[.val (.int p0), .val (.int p1), .val (.int ((p0 &&& (2147483647 : Int32)) % (3 : Int32))), .unset, .unset, .unset, .unset] [])) (fun t k => ?_) ?_
  · show Steps p.tables e below (T0.setTop (mkF m 0 #[.val (.int p0), .val (.int p1), .unset, .unset, .unset, .unset, .unset] [])) _
    refine XS.iloadN X0.here hx rfl (hb hby at_0) rfl ?_
    show Steps p.tables e below (T0.setTop (mkF m 1 #[.val (.int p0), .val (.int p1), .unset, .unset, .unset, .unset, .unset] [(.int p0)])) _
    refine X0.ldcInt hx hown (mvT hZ (wd hw 0 rfl)) (g := (mkF m 1 #[.val (.int p0), .val (.int p1), .unset, .unset, .unset, .unset, .unset] [(.int p0)])) rfl (hb hby at_1) _ ?_
    show Steps p.tables e below (T0.setTop (mkF m 3 #[.val (.int p0), .val (.int p1), .unset, .unset, .unset, .unset, .unset] [(.int (2147483647 : Int32)), (.int p0)])) _
    refine XS.iand X0.here hx rfl (hb hby at_3) rfl ?_
    show Steps p.tables e below (T0.setTop (mkF m 4 #[.val (.int p0), .val (.int p1), .unset, .unset, .unset, .unset, .unset] [(.int (p0 &&& (2147483647 : Int32)))])) _
    refine XS.iconst X0.here hx rfl (hb hby at_4) ?_
    show Steps p.tables e below (T0.setTop (mkF m 5 #[.val (.int p0), .val (.int p1), .unset, .unset, .unset, .unset, .unset] [(.int (3 : Int32)), (.int (p0 &&& (2147483647 : Int32)))])) _
    refine iremM X0 hx rfl (hb hby at_5) rfl (by decide) ?_
    show Steps p.tables e below (T0.setTop (mkF m 6 #[.val (.int p0), .val (.int p1), .unset, .unset, .unset, .unset, .unset] [(.int ((p0 &&& (2147483647 : Int32)) % (3 : Int32)))])) _
    refine XS.istoreN X0.here hx rfl (hb hby at_6) rfl (l' := #[.val (.int p0), .val (.int p1), .val (.int ((p0 &&& (2147483647 : Int32)) % (3 : Int32))), .unset, .unset, .unset, .unset]) rfl ?_
    exact k
  rcases own_mod3 p0 with c | c | c
  · skip
    rw [c]
    show Go p e below _ T0 (mkF m 7 #[.val (.int p0), .val (.int p1), .val (.int (0 : Int32)), .unset, .unset, .unset, .unset] [])
    refine Go.by (T' := T0) (g' := (mkF m 14 #[.val (.int p0), .val (.int p1), .val (.int (0 : Int32)), .val (.int ((p1 &&& (2147483647 : Int32)) % (3 : Int32))), .unset, .unset, .unset] [])) (fun t k => ?_) ?_
    · show Steps p.tables e below (T0.setTop (mkF m 7 #[.val (.int p0), .val (.int p1), .val (.int (0 : Int32)), .unset, .unset, .unset, .unset] [])) _
      refine XS.iloadN X0.here hx rfl (hb hby at_7) rfl ?_
      show Steps p.tables e below (T0.setTop (mkF m 8 #[.val (.int p0), .val (.int p1), .val (.int (0 : Int32)), .unset, .unset, .unset, .unset] [(.int p1)])) _
      refine X0.ldcInt hx hown (mvT hZ (wd hw 0 rfl)) (g := (mkF m 8 #[.val (.int p0), .val (.int p1), .val (.int (0 : Int32)), .unset, .unset, .unset, .unset] [(.int p1)])) rfl (hb hby at_8) _ ?_
      show Steps p.tables e below (T0.setTop (mkF m 10 #[.val (.int p0), .val (.int p1), .val (.int (0 : Int32)), .unset, .unset, .unset, .unset] [(.int (2147483647 : Int32)), (.int p1)])) _
      refine XS.iand X0.here hx rfl (hb hby at_10) rfl ?_
      show Steps p.tables e below (T0.setTop (mkF m 11 #[.val (.int p0), .val (.int p1), .val (.int (0 : Int32)), .unset, .unset, .unset, .unset] [(.int (p1 &&& (2147483647 : Int32)))])) _
      refine XS.iconst X0.here hx rfl (hb hby at_11) ?_
      show Steps p.tables e below (T0.setTop (mkF m 12 #[.val (.int p0), .val (.int p1), .val (.int (0 : Int32)), .unset, .unset, .unset, .unset] [(.int (3 : Int32)), (.int (p1 &&& (2147483647 : Int32)))])) _
      refine iremM X0 hx rfl (hb hby at_12) rfl (by decide) ?_
      show Steps p.tables e below (T0.setTop (mkF m 13 #[.val (.int p0), .val (.int p1), .val (.int (0 : Int32)), .unset, .unset, .unset, .unset] [(.int ((p1 &&& (2147483647 : Int32)) % (3 : Int32)))])) _
      refine XS.istoreN X0.here hx rfl (hb hby at_13) rfl (l' := #[.val (.int p0), .val (.int p1), .val (.int (0 : Int32)), .val (.int ((p1 &&& (2147483647 : Int32)) % (3 : Int32))), .unset, .unset, .unset]) rfl ?_
      exact k
    rcases own_mod3 p1 with c | c | c
    · skip
      rw [c]
      show Go p e below _ T0 (mkF m 14 #[.val (.int p0), .val (.int p1), .val (.int (0 : Int32)), .val (.int (0 : Int32)), .unset, .unset, .unset] [])
      refine Go.by (T' := T0) (g' := (mkF m 15 #[.val (.int p0), .val (.int p1), .val (.int (0 : Int32)), .val (.int (0 : Int32)), .unset, .unset, .unset] [(.int (0 : Int32))])) (fun t k => ?_) ?_
      · show Steps p.tables e below (T0.setTop (mkF m 14 #[.val (.int p0), .val (.int p1), .val (.int (0 : Int32)), .val (.int (0 : Int32)), .unset, .unset, .unset] [])) _
        refine XS.iloadN X0.here hx rfl (hb hby at_14) rfl ?_
        exact k
      refine Go.callS X0 hx hZ (W := 0) (argsL := [(.int (0 : Int32))]) (rest := []) hown (wd hw 1 rfl) (wd hw 2 rfl) (wd hw 3 rfl) (wd hw 4 rfl) (by decide) (ct_pick l Z a0 hw w_NO w_UNDECIDED w_YES S_NO S_UNDECIDED S_YES E_NO E_UNDECIDED E_YES neNU neNY neUY (0 : Int32) w_NO h0 n0 O (by simp)) e0 (by rw [hml]; rfl) (lenOf pd__I_Lcom_example_tagfold_tagfold_algebra__6053 rfl) rfl rfl (hb hby at_15) (by decide) (by decide) (by decide) (by decide) ?_
      intro v1 T1 h1 L1 X1 e1 q1
      obtain ⟨rfl, N1, rfl⟩ := q1
      replace N1 := Fr.app N0 N1
      show Go p e below _ T1 (mkF m 18 #[.val (.int p0), .val (.int p1), .val (.int (0 : Int32)), .val (.int (0 : Int32)), .unset, .unset, .unset] [(.ref w_NO)])
      refine Go.by (T' := T1) (g' := (mkF m 21 #[.val (.int p0), .val (.int p1), .val (.int (0 : Int32)), .val (.int (0 : Int32)), .val (.ref w_NO), .unset, .unset] [(.int (0 : Int32))])) (fun t k => ?_) ?_
      · show Steps p.tables e below (T1.setTop (mkF m 18 #[.val (.int p0), .val (.int p1), .val (.int (0 : Int32)), .val (.int (0 : Int32)), .unset, .unset, .unset] [(.ref w_NO)])) _
        refine XS.astore X1.here hx rfl (hb hby at_18) rfl rfl (l' := #[.val (.int p0), .val (.int p1), .val (.int (0 : Int32)), .val (.int (0 : Int32)), .val (.ref w_NO), .unset, .unset]) rfl ?_
        show Steps p.tables e below (T1.setTop (mkF m 20 #[.val (.int p0), .val (.int p1), .val (.int (0 : Int32)), .val (.int (0 : Int32)), .val (.ref w_NO), .unset, .unset] [])) _
        refine XS.iloadN X1.here hx rfl (hb hby at_20) rfl ?_
        exact k
      refine Go.callS X1 hx hZ (W := 0) (argsL := [(.int (0 : Int32))]) (rest := []) hown (wd hw 1 rfl) (wd hw 2 rfl) (wd hw 3 rfl) (wd hw 4 rfl) (by decide) (ct_pick l Z a0 hw w_NO w_UNDECIDED w_YES S_NO S_UNDECIDED S_YES E_NO E_UNDECIDED E_YES neNU neNY neUY (0 : Int32) w_NO h0 n0 O (by simp)) e1 (by rw [hml]; rfl) (lenOf pd__I_Lcom_example_tagfold_tagfold_algebra__6053 rfl) rfl rfl (hb hby at_21) (by decide) (by decide) (by decide) (by decide) ?_
      intro v2 T2 h2 L2 X2 e2 q2
      obtain ⟨rfl, N2, rfl⟩ := q2
      replace N2 := Fr.app N1 N2
      show Go p e below _ T2 (mkF m 24 #[.val (.int p0), .val (.int p1), .val (.int (0 : Int32)), .val (.int (0 : Int32)), .val (.ref w_NO), .unset, .unset] [(.ref w_NO)])
      refine Go.by (T' := T2) (g' := (mkF m 30 #[.val (.int p0), .val (.int p1), .val (.int (0 : Int32)), .val (.int (0 : Int32)), .val (.ref w_NO), .val (.ref w_NO), .unset] [(.ref w_NO), (.ref w_NO)])) (fun t k => ?_) ?_
      · show Steps p.tables e below (T2.setTop (mkF m 24 #[.val (.int p0), .val (.int p1), .val (.int (0 : Int32)), .val (.int (0 : Int32)), .val (.ref w_NO), .unset, .unset] [(.ref w_NO)])) _
        refine XS.astore X2.here hx rfl (hb hby at_24) rfl rfl (l' := #[.val (.int p0), .val (.int p1), .val (.int (0 : Int32)), .val (.int (0 : Int32)), .val (.ref w_NO), .val (.ref w_NO), .unset]) rfl ?_
        show Steps p.tables e below (T2.setTop (mkF m 26 #[.val (.int p0), .val (.int p1), .val (.int (0 : Int32)), .val (.int (0 : Int32)), .val (.ref w_NO), .val (.ref w_NO), .unset] [])) _
        refine XS.aload X2.here hx rfl (hb hby at_26) rfl rfl ?_
        show Steps p.tables e below (T2.setTop (mkF m 28 #[.val (.int p0), .val (.int p1), .val (.int (0 : Int32)), .val (.int (0 : Int32)), .val (.ref w_NO), .val (.ref w_NO), .unset] [(.ref w_NO)])) _
        refine XS.aload X2.here hx rfl (hb hby at_28) rfl rfl ?_
        exact k
      refine Go.callV X2 hx hZ (W := 0) (argsL := [(.ref w_NO)]) (rest := []) hown (wd hw 8 rfl) (wd hw 9 rfl) (notFace_of_selects (args := #[]) (mvT hZ (wd hw 11 rfl))) (wd hw 11 rfl) (wd hw 10 rfl) (wd hw 6 rfl) (wd hw 12 rfl) (by decide) (E_NO.ext O.2) (ct_and l Z a0 hw w_NO w_UNDECIDED w_YES S_NO S_UNDECIDED S_YES E_NO E_UNDECIDED E_YES neNU neNY neUY w_NO w_NO w_NO h0 n0 O (by simp [neNU, neNY, neUY, Ne.symm neNU, Ne.symm neNY, Ne.symm neUY])) e2 (by rw [hml]; rfl) (lenOf pd__Lcom_example_tagfold_tagfold_algebra_An_1275 rfl) rfl rfl (hb hby at_30) (by decide) (by decide) (by decide) (by decide) ?_
      intro v3 T3 h3 L3 X3 e3 q3
      obtain ⟨rfl, N3, rfl⟩ := q3
      replace N3 := Fr.app N2 N3
      show Go p e below _ T3 (mkF m 33 #[.val (.int p0), .val (.int p1), .val (.int (0 : Int32)), .val (.int (0 : Int32)), .val (.ref w_NO), .val (.ref w_NO), .unset] [(.ref w_NO)])
      refine Go.by (T' := T3) (g' := (mkF m 37 #[.val (.int p0), .val (.int p1), .val (.int (0 : Int32)), .val (.int (0 : Int32)), .val (.ref w_NO), .val (.ref w_NO), .val (.ref w_NO)] [(.ref w_NO)])) (fun t k => ?_) ?_
      · show Steps p.tables e below (T3.setTop (mkF m 33 #[.val (.int p0), .val (.int p1), .val (.int (0 : Int32)), .val (.int (0 : Int32)), .val (.ref w_NO), .val (.ref w_NO), .unset] [(.ref w_NO)])) _
        refine XS.astore X3.here hx rfl (hb hby at_33) rfl rfl (l' := #[.val (.int p0), .val (.int p1), .val (.int (0 : Int32)), .val (.int (0 : Int32)), .val (.ref w_NO), .val (.ref w_NO), .val (.ref w_NO)]) rfl ?_
        show Steps p.tables e below (T3.setTop (mkF m 35 #[.val (.int p0), .val (.int p1), .val (.int (0 : Int32)), .val (.int (0 : Int32)), .val (.ref w_NO), .val (.ref w_NO), .val (.ref w_NO)] [])) _
        refine XS.aload X3.here hx rfl (hb hby at_35) rfl rfl ?_
        exact k
      refine Go.callS X3 hx hZ (W := 0) (argsL := [(.ref w_NO)]) (rest := []) hown (wd hw 14 rfl) (wd hw 15 rfl) (wd hw 3 rfl) (wd hw 16 rfl) (by decide) (ct_rank l Z a0 hw w_NO w_UNDECIDED w_YES S_NO S_UNDECIDED S_YES E_NO E_UNDECIDED E_YES neNU neNY neUY w_NO (0 : Int32) h0 n0 O (by simp [neNU, neNY, neUY, Ne.symm neNU, Ne.symm neNY, Ne.symm neUY])) e3 (by rw [hml]; rfl) (lenOf pd__Lcom_example_tagfold_tagfold_algebra_An_2213 rfl) rfl rfl (hb hby at_37) (by decide) (by decide) (by decide) (by decide) ?_
      intro v4 T4 h4 L4 X4 e4 q4
      obtain ⟨rfl, N4, rfl⟩ := q4
      replace N4 := Fr.app N3 N4
      show Go p e below _ T4 (mkF m 40 #[.val (.int p0), .val (.int p1), .val (.int (0 : Int32)), .val (.int (0 : Int32)), .val (.ref w_NO), .val (.ref w_NO), .val (.ref w_NO)] [(.int (0 : Int32))])
      refine Go.by (T' := T4) (g' := (mkF m 42 #[.val (.int p0), .val (.int p1), .val (.int (0 : Int32)), .val (.int (0 : Int32)), .val (.ref w_NO), .val (.ref w_NO), .val (.ref w_NO)] [(.int (0 : Int32)), (.int (0 : Int32)), (.int (0 : Int32))])) (fun t k => ?_) ?_
      · show Steps p.tables e below (T4.setTop (mkF m 40 #[.val (.int p0), .val (.int p1), .val (.int (0 : Int32)), .val (.int (0 : Int32)), .val (.ref w_NO), .val (.ref w_NO), .val (.ref w_NO)] [(.int (0 : Int32))])) _
        refine XS.iloadN X4.here hx rfl (hb hby at_40) rfl ?_
        show Steps p.tables e below (T4.setTop (mkF m 41 #[.val (.int p0), .val (.int p1), .val (.int (0 : Int32)), .val (.int (0 : Int32)), .val (.ref w_NO), .val (.ref w_NO), .val (.ref w_NO)] [(.int (0 : Int32)), (.int (0 : Int32))])) _
        refine XS.iloadN X4.here hx rfl (hb hby at_41) rfl ?_
        exact k
      refine Go.callS X4 hx hZ (W := 1) (argsL := [(.int (0 : Int32)), (.int (0 : Int32))]) (rest := [(.int (0 : Int32))]) hown (wd hw 17 rfl) (wd hw 18 rfl) (wd hw 19 rfl) (wd hw 20 rfl) (by decide) (ct_min l Z a0 hw w_NO w_UNDECIDED w_YES S_NO S_UNDECIDED S_YES E_NO E_UNDECIDED E_YES neNU neNY neUY (0 : Int32) (0 : Int32) (0 : Int32) h0 n0 O (by decide)) e4 (by rw [hml]; rfl) (lenOf pd__II_I_420 rfl) rfl rfl (hb hby at_42) (by decide) (by decide) (by decide) (by decide) ?_
      intro v5 T5 h5 L5 X5 e5 q5
      obtain ⟨rfl, N5, rfl⟩ := q5
      replace N5 := Fr.app N4 N5
      show Go p e below _ T5 (mkF m 45 #[.val (.int p0), .val (.int p1), .val (.int (0 : Int32)), .val (.int (0 : Int32)), .val (.ref w_NO), .val (.ref w_NO), .val (.ref w_NO)] [(.int (0 : Int32)), (.int (0 : Int32))])
      refine Go.by (T' := T5) (g' := (mkF m 53 #[.val (.int p0), .val (.int p1), .val (.int (0 : Int32)), .val (.int (0 : Int32)), .val (.ref w_NO), .val (.ref w_NO), .val (.ref w_NO)] [(.int (1 : Int32))])) (fun t k => ?_) ?_
      · show Steps p.tables e below (T5.setTop (mkF m 45 #[.val (.int p0), .val (.int p1), .val (.int (0 : Int32)), .val (.int (0 : Int32)), .val (.ref w_NO), .val (.ref w_NO), .val (.ref w_NO)] [(.int (0 : Int32)), (.int (0 : Int32))])) _
        refine XS.icmpNo X5.here hx rfl (hb hby at_45) rfl (teq (by decide : (0 : Int32) = (0 : Int32))).2 ?_
        show Steps p.tables e below (T5.setTop (mkF m 48 #[.val (.int p0), .val (.int p1), .val (.int (0 : Int32)), .val (.int (0 : Int32)), .val (.ref w_NO), .val (.ref w_NO), .val (.ref w_NO)] [])) _
        refine XS.iconst X5.here hx rfl (hb hby at_48) ?_
        show Steps p.tables e below (T5.setTop (mkF m 49 #[.val (.int p0), .val (.int p1), .val (.int (0 : Int32)), .val (.int (0 : Int32)), .val (.ref w_NO), .val (.ref w_NO), .val (.ref w_NO)] [(.int (1 : Int32))])) _
        refine XS.goto X5.here hx rfl (pc0 := 49) (pc' := 53) rfl (hb hby at_49) (by decide) (by decide) ?_
        exact k
      refine Go.retZ X5 hx hlk hret (Or.inr rfl) (hb hby at_53) (by decide) (by decide) e5 ?_
      exact ⟨rfl, N5⟩
    · skip
      rw [c]
      show Go p e below _ T0 (mkF m 14 #[.val (.int p0), .val (.int p1), .val (.int (0 : Int32)), .val (.int (1 : Int32)), .unset, .unset, .unset] [])
      refine Go.by (T' := T0) (g' := (mkF m 15 #[.val (.int p0), .val (.int p1), .val (.int (0 : Int32)), .val (.int (1 : Int32)), .unset, .unset, .unset] [(.int (0 : Int32))])) (fun t k => ?_) ?_
      · show Steps p.tables e below (T0.setTop (mkF m 14 #[.val (.int p0), .val (.int p1), .val (.int (0 : Int32)), .val (.int (1 : Int32)), .unset, .unset, .unset] [])) _
        refine XS.iloadN X0.here hx rfl (hb hby at_14) rfl ?_
        exact k
      refine Go.callS X0 hx hZ (W := 0) (argsL := [(.int (0 : Int32))]) (rest := []) hown (wd hw 1 rfl) (wd hw 2 rfl) (wd hw 3 rfl) (wd hw 4 rfl) (by decide) (ct_pick l Z a0 hw w_NO w_UNDECIDED w_YES S_NO S_UNDECIDED S_YES E_NO E_UNDECIDED E_YES neNU neNY neUY (0 : Int32) w_NO h0 n0 O (by simp)) e0 (by rw [hml]; rfl) (lenOf pd__I_Lcom_example_tagfold_tagfold_algebra__6053 rfl) rfl rfl (hb hby at_15) (by decide) (by decide) (by decide) (by decide) ?_
      intro v6 T6 h6 L6 X6 e6 q6
      obtain ⟨rfl, N6, rfl⟩ := q6
      replace N6 := Fr.app N0 N6
      show Go p e below _ T6 (mkF m 18 #[.val (.int p0), .val (.int p1), .val (.int (0 : Int32)), .val (.int (1 : Int32)), .unset, .unset, .unset] [(.ref w_NO)])
      refine Go.by (T' := T6) (g' := (mkF m 21 #[.val (.int p0), .val (.int p1), .val (.int (0 : Int32)), .val (.int (1 : Int32)), .val (.ref w_NO), .unset, .unset] [(.int (1 : Int32))])) (fun t k => ?_) ?_
      · show Steps p.tables e below (T6.setTop (mkF m 18 #[.val (.int p0), .val (.int p1), .val (.int (0 : Int32)), .val (.int (1 : Int32)), .unset, .unset, .unset] [(.ref w_NO)])) _
        refine XS.astore X6.here hx rfl (hb hby at_18) rfl rfl (l' := #[.val (.int p0), .val (.int p1), .val (.int (0 : Int32)), .val (.int (1 : Int32)), .val (.ref w_NO), .unset, .unset]) rfl ?_
        show Steps p.tables e below (T6.setTop (mkF m 20 #[.val (.int p0), .val (.int p1), .val (.int (0 : Int32)), .val (.int (1 : Int32)), .val (.ref w_NO), .unset, .unset] [])) _
        refine XS.iloadN X6.here hx rfl (hb hby at_20) rfl ?_
        exact k
      refine Go.callS X6 hx hZ (W := 0) (argsL := [(.int (1 : Int32))]) (rest := []) hown (wd hw 1 rfl) (wd hw 2 rfl) (wd hw 3 rfl) (wd hw 4 rfl) (by decide) (ct_pick l Z a0 hw w_NO w_UNDECIDED w_YES S_NO S_UNDECIDED S_YES E_NO E_UNDECIDED E_YES neNU neNY neUY (1 : Int32) w_UNDECIDED h0 n0 O (by simp)) e6 (by rw [hml]; rfl) (lenOf pd__I_Lcom_example_tagfold_tagfold_algebra__6053 rfl) rfl rfl (hb hby at_21) (by decide) (by decide) (by decide) (by decide) ?_
      intro v7 T7 h7 L7 X7 e7 q7
      obtain ⟨rfl, N7, rfl⟩ := q7
      replace N7 := Fr.app N6 N7
      show Go p e below _ T7 (mkF m 24 #[.val (.int p0), .val (.int p1), .val (.int (0 : Int32)), .val (.int (1 : Int32)), .val (.ref w_NO), .unset, .unset] [(.ref w_UNDECIDED)])
      refine Go.by (T' := T7) (g' := (mkF m 30 #[.val (.int p0), .val (.int p1), .val (.int (0 : Int32)), .val (.int (1 : Int32)), .val (.ref w_NO), .val (.ref w_UNDECIDED), .unset] [(.ref w_UNDECIDED), (.ref w_NO)])) (fun t k => ?_) ?_
      · show Steps p.tables e below (T7.setTop (mkF m 24 #[.val (.int p0), .val (.int p1), .val (.int (0 : Int32)), .val (.int (1 : Int32)), .val (.ref w_NO), .unset, .unset] [(.ref w_UNDECIDED)])) _
        refine XS.astore X7.here hx rfl (hb hby at_24) rfl rfl (l' := #[.val (.int p0), .val (.int p1), .val (.int (0 : Int32)), .val (.int (1 : Int32)), .val (.ref w_NO), .val (.ref w_UNDECIDED), .unset]) rfl ?_
        show Steps p.tables e below (T7.setTop (mkF m 26 #[.val (.int p0), .val (.int p1), .val (.int (0 : Int32)), .val (.int (1 : Int32)), .val (.ref w_NO), .val (.ref w_UNDECIDED), .unset] [])) _
        refine XS.aload X7.here hx rfl (hb hby at_26) rfl rfl ?_
        show Steps p.tables e below (T7.setTop (mkF m 28 #[.val (.int p0), .val (.int p1), .val (.int (0 : Int32)), .val (.int (1 : Int32)), .val (.ref w_NO), .val (.ref w_UNDECIDED), .unset] [(.ref w_NO)])) _
        refine XS.aload X7.here hx rfl (hb hby at_28) rfl rfl ?_
        exact k
      refine Go.callV X7 hx hZ (W := 0) (argsL := [(.ref w_UNDECIDED)]) (rest := []) hown (wd hw 8 rfl) (wd hw 9 rfl) (notFace_of_selects (args := #[]) (mvT hZ (wd hw 11 rfl))) (wd hw 11 rfl) (wd hw 10 rfl) (wd hw 6 rfl) (wd hw 12 rfl) (by decide) (E_NO.ext O.2) (ct_and l Z a0 hw w_NO w_UNDECIDED w_YES S_NO S_UNDECIDED S_YES E_NO E_UNDECIDED E_YES neNU neNY neUY w_NO w_UNDECIDED w_NO h0 n0 O (by simp [neNU, neNY, neUY, Ne.symm neNU, Ne.symm neNY, Ne.symm neUY])) e7 (by rw [hml]; rfl) (lenOf pd__Lcom_example_tagfold_tagfold_algebra_An_1275 rfl) rfl rfl (hb hby at_30) (by decide) (by decide) (by decide) (by decide) ?_
      intro v8 T8 h8 L8 X8 e8 q8
      obtain ⟨rfl, N8, rfl⟩ := q8
      replace N8 := Fr.app N7 N8
      show Go p e below _ T8 (mkF m 33 #[.val (.int p0), .val (.int p1), .val (.int (0 : Int32)), .val (.int (1 : Int32)), .val (.ref w_NO), .val (.ref w_UNDECIDED), .unset] [(.ref w_NO)])
      refine Go.by (T' := T8) (g' := (mkF m 37 #[.val (.int p0), .val (.int p1), .val (.int (0 : Int32)), .val (.int (1 : Int32)), .val (.ref w_NO), .val (.ref w_UNDECIDED), .val (.ref w_NO)] [(.ref w_NO)])) (fun t k => ?_) ?_
      · show Steps p.tables e below (T8.setTop (mkF m 33 #[.val (.int p0), .val (.int p1), .val (.int (0 : Int32)), .val (.int (1 : Int32)), .val (.ref w_NO), .val (.ref w_UNDECIDED), .unset] [(.ref w_NO)])) _
        refine XS.astore X8.here hx rfl (hb hby at_33) rfl rfl (l' := #[.val (.int p0), .val (.int p1), .val (.int (0 : Int32)), .val (.int (1 : Int32)), .val (.ref w_NO), .val (.ref w_UNDECIDED), .val (.ref w_NO)]) rfl ?_
        show Steps p.tables e below (T8.setTop (mkF m 35 #[.val (.int p0), .val (.int p1), .val (.int (0 : Int32)), .val (.int (1 : Int32)), .val (.ref w_NO), .val (.ref w_UNDECIDED), .val (.ref w_NO)] [])) _
        refine XS.aload X8.here hx rfl (hb hby at_35) rfl rfl ?_
        exact k
      refine Go.callS X8 hx hZ (W := 0) (argsL := [(.ref w_NO)]) (rest := []) hown (wd hw 14 rfl) (wd hw 15 rfl) (wd hw 3 rfl) (wd hw 16 rfl) (by decide) (ct_rank l Z a0 hw w_NO w_UNDECIDED w_YES S_NO S_UNDECIDED S_YES E_NO E_UNDECIDED E_YES neNU neNY neUY w_NO (0 : Int32) h0 n0 O (by simp [neNU, neNY, neUY, Ne.symm neNU, Ne.symm neNY, Ne.symm neUY])) e8 (by rw [hml]; rfl) (lenOf pd__Lcom_example_tagfold_tagfold_algebra_An_2213 rfl) rfl rfl (hb hby at_37) (by decide) (by decide) (by decide) (by decide) ?_
      intro v9 T9 h9 L9 X9 e9 q9
      obtain ⟨rfl, N9, rfl⟩ := q9
      replace N9 := Fr.app N8 N9
      show Go p e below _ T9 (mkF m 40 #[.val (.int p0), .val (.int p1), .val (.int (0 : Int32)), .val (.int (1 : Int32)), .val (.ref w_NO), .val (.ref w_UNDECIDED), .val (.ref w_NO)] [(.int (0 : Int32))])
      refine Go.by (T' := T9) (g' := (mkF m 42 #[.val (.int p0), .val (.int p1), .val (.int (0 : Int32)), .val (.int (1 : Int32)), .val (.ref w_NO), .val (.ref w_UNDECIDED), .val (.ref w_NO)] [(.int (1 : Int32)), (.int (0 : Int32)), (.int (0 : Int32))])) (fun t k => ?_) ?_
      · show Steps p.tables e below (T9.setTop (mkF m 40 #[.val (.int p0), .val (.int p1), .val (.int (0 : Int32)), .val (.int (1 : Int32)), .val (.ref w_NO), .val (.ref w_UNDECIDED), .val (.ref w_NO)] [(.int (0 : Int32))])) _
        refine XS.iloadN X9.here hx rfl (hb hby at_40) rfl ?_
        show Steps p.tables e below (T9.setTop (mkF m 41 #[.val (.int p0), .val (.int p1), .val (.int (0 : Int32)), .val (.int (1 : Int32)), .val (.ref w_NO), .val (.ref w_UNDECIDED), .val (.ref w_NO)] [(.int (0 : Int32)), (.int (0 : Int32))])) _
        refine XS.iloadN X9.here hx rfl (hb hby at_41) rfl ?_
        exact k
      refine Go.callS X9 hx hZ (W := 1) (argsL := [(.int (0 : Int32)), (.int (1 : Int32))]) (rest := [(.int (0 : Int32))]) hown (wd hw 17 rfl) (wd hw 18 rfl) (wd hw 19 rfl) (wd hw 20 rfl) (by decide) (ct_min l Z a0 hw w_NO w_UNDECIDED w_YES S_NO S_UNDECIDED S_YES E_NO E_UNDECIDED E_YES neNU neNY neUY (0 : Int32) (1 : Int32) (0 : Int32) h0 n0 O (by decide)) e9 (by rw [hml]; rfl) (lenOf pd__II_I_420 rfl) rfl rfl (hb hby at_42) (by decide) (by decide) (by decide) (by decide) ?_
      intro v10 T10 h10 L10 X10 e10 q10
      obtain ⟨rfl, N10, rfl⟩ := q10
      replace N10 := Fr.app N9 N10
      show Go p e below _ T10 (mkF m 45 #[.val (.int p0), .val (.int p1), .val (.int (0 : Int32)), .val (.int (1 : Int32)), .val (.ref w_NO), .val (.ref w_UNDECIDED), .val (.ref w_NO)] [(.int (0 : Int32)), (.int (0 : Int32))])
      refine Go.by (T' := T10) (g' := (mkF m 53 #[.val (.int p0), .val (.int p1), .val (.int (0 : Int32)), .val (.int (1 : Int32)), .val (.ref w_NO), .val (.ref w_UNDECIDED), .val (.ref w_NO)] [(.int (1 : Int32))])) (fun t k => ?_) ?_
      · show Steps p.tables e below (T10.setTop (mkF m 45 #[.val (.int p0), .val (.int p1), .val (.int (0 : Int32)), .val (.int (1 : Int32)), .val (.ref w_NO), .val (.ref w_UNDECIDED), .val (.ref w_NO)] [(.int (0 : Int32)), (.int (0 : Int32))])) _
        refine XS.icmpNo X10.here hx rfl (hb hby at_45) rfl (teq (by decide : (0 : Int32) = (0 : Int32))).2 ?_
        show Steps p.tables e below (T10.setTop (mkF m 48 #[.val (.int p0), .val (.int p1), .val (.int (0 : Int32)), .val (.int (1 : Int32)), .val (.ref w_NO), .val (.ref w_UNDECIDED), .val (.ref w_NO)] [])) _
        refine XS.iconst X10.here hx rfl (hb hby at_48) ?_
        show Steps p.tables e below (T10.setTop (mkF m 49 #[.val (.int p0), .val (.int p1), .val (.int (0 : Int32)), .val (.int (1 : Int32)), .val (.ref w_NO), .val (.ref w_UNDECIDED), .val (.ref w_NO)] [(.int (1 : Int32))])) _
        refine XS.goto X10.here hx rfl (pc0 := 49) (pc' := 53) rfl (hb hby at_49) (by decide) (by decide) ?_
        exact k
      refine Go.retZ X10 hx hlk hret (Or.inr rfl) (hb hby at_53) (by decide) (by decide) e10 ?_
      exact ⟨rfl, N10⟩
    · skip
      rw [c]
      show Go p e below _ T0 (mkF m 14 #[.val (.int p0), .val (.int p1), .val (.int (0 : Int32)), .val (.int (2 : Int32)), .unset, .unset, .unset] [])
      refine Go.by (T' := T0) (g' := (mkF m 15 #[.val (.int p0), .val (.int p1), .val (.int (0 : Int32)), .val (.int (2 : Int32)), .unset, .unset, .unset] [(.int (0 : Int32))])) (fun t k => ?_) ?_
      · show Steps p.tables e below (T0.setTop (mkF m 14 #[.val (.int p0), .val (.int p1), .val (.int (0 : Int32)), .val (.int (2 : Int32)), .unset, .unset, .unset] [])) _
        refine XS.iloadN X0.here hx rfl (hb hby at_14) rfl ?_
        exact k
      refine Go.callS X0 hx hZ (W := 0) (argsL := [(.int (0 : Int32))]) (rest := []) hown (wd hw 1 rfl) (wd hw 2 rfl) (wd hw 3 rfl) (wd hw 4 rfl) (by decide) (ct_pick l Z a0 hw w_NO w_UNDECIDED w_YES S_NO S_UNDECIDED S_YES E_NO E_UNDECIDED E_YES neNU neNY neUY (0 : Int32) w_NO h0 n0 O (by simp)) e0 (by rw [hml]; rfl) (lenOf pd__I_Lcom_example_tagfold_tagfold_algebra__6053 rfl) rfl rfl (hb hby at_15) (by decide) (by decide) (by decide) (by decide) ?_
      intro v11 T11 h11 L11 X11 e11 q11
      obtain ⟨rfl, N11, rfl⟩ := q11
      replace N11 := Fr.app N0 N11
      show Go p e below _ T11 (mkF m 18 #[.val (.int p0), .val (.int p1), .val (.int (0 : Int32)), .val (.int (2 : Int32)), .unset, .unset, .unset] [(.ref w_NO)])
      refine Go.by (T' := T11) (g' := (mkF m 21 #[.val (.int p0), .val (.int p1), .val (.int (0 : Int32)), .val (.int (2 : Int32)), .val (.ref w_NO), .unset, .unset] [(.int (2 : Int32))])) (fun t k => ?_) ?_
      · show Steps p.tables e below (T11.setTop (mkF m 18 #[.val (.int p0), .val (.int p1), .val (.int (0 : Int32)), .val (.int (2 : Int32)), .unset, .unset, .unset] [(.ref w_NO)])) _
        refine XS.astore X11.here hx rfl (hb hby at_18) rfl rfl (l' := #[.val (.int p0), .val (.int p1), .val (.int (0 : Int32)), .val (.int (2 : Int32)), .val (.ref w_NO), .unset, .unset]) rfl ?_
        show Steps p.tables e below (T11.setTop (mkF m 20 #[.val (.int p0), .val (.int p1), .val (.int (0 : Int32)), .val (.int (2 : Int32)), .val (.ref w_NO), .unset, .unset] [])) _
        refine XS.iloadN X11.here hx rfl (hb hby at_20) rfl ?_
        exact k
      refine Go.callS X11 hx hZ (W := 0) (argsL := [(.int (2 : Int32))]) (rest := []) hown (wd hw 1 rfl) (wd hw 2 rfl) (wd hw 3 rfl) (wd hw 4 rfl) (by decide) (ct_pick l Z a0 hw w_NO w_UNDECIDED w_YES S_NO S_UNDECIDED S_YES E_NO E_UNDECIDED E_YES neNU neNY neUY (2 : Int32) w_YES h0 n0 O (by simp)) e11 (by rw [hml]; rfl) (lenOf pd__I_Lcom_example_tagfold_tagfold_algebra__6053 rfl) rfl rfl (hb hby at_21) (by decide) (by decide) (by decide) (by decide) ?_
      intro v12 T12 h12 L12 X12 e12 q12
      obtain ⟨rfl, N12, rfl⟩ := q12
      replace N12 := Fr.app N11 N12
      show Go p e below _ T12 (mkF m 24 #[.val (.int p0), .val (.int p1), .val (.int (0 : Int32)), .val (.int (2 : Int32)), .val (.ref w_NO), .unset, .unset] [(.ref w_YES)])
      refine Go.by (T' := T12) (g' := (mkF m 30 #[.val (.int p0), .val (.int p1), .val (.int (0 : Int32)), .val (.int (2 : Int32)), .val (.ref w_NO), .val (.ref w_YES), .unset] [(.ref w_YES), (.ref w_NO)])) (fun t k => ?_) ?_
      · show Steps p.tables e below (T12.setTop (mkF m 24 #[.val (.int p0), .val (.int p1), .val (.int (0 : Int32)), .val (.int (2 : Int32)), .val (.ref w_NO), .unset, .unset] [(.ref w_YES)])) _
        refine XS.astore X12.here hx rfl (hb hby at_24) rfl rfl (l' := #[.val (.int p0), .val (.int p1), .val (.int (0 : Int32)), .val (.int (2 : Int32)), .val (.ref w_NO), .val (.ref w_YES), .unset]) rfl ?_
        show Steps p.tables e below (T12.setTop (mkF m 26 #[.val (.int p0), .val (.int p1), .val (.int (0 : Int32)), .val (.int (2 : Int32)), .val (.ref w_NO), .val (.ref w_YES), .unset] [])) _
        refine XS.aload X12.here hx rfl (hb hby at_26) rfl rfl ?_
        show Steps p.tables e below (T12.setTop (mkF m 28 #[.val (.int p0), .val (.int p1), .val (.int (0 : Int32)), .val (.int (2 : Int32)), .val (.ref w_NO), .val (.ref w_YES), .unset] [(.ref w_NO)])) _
        refine XS.aload X12.here hx rfl (hb hby at_28) rfl rfl ?_
        exact k
      refine Go.callV X12 hx hZ (W := 0) (argsL := [(.ref w_YES)]) (rest := []) hown (wd hw 8 rfl) (wd hw 9 rfl) (notFace_of_selects (args := #[]) (mvT hZ (wd hw 11 rfl))) (wd hw 11 rfl) (wd hw 10 rfl) (wd hw 6 rfl) (wd hw 12 rfl) (by decide) (E_NO.ext O.2) (ct_and l Z a0 hw w_NO w_UNDECIDED w_YES S_NO S_UNDECIDED S_YES E_NO E_UNDECIDED E_YES neNU neNY neUY w_NO w_YES w_NO h0 n0 O (by simp [neNU, neNY, neUY, Ne.symm neNU, Ne.symm neNY, Ne.symm neUY])) e12 (by rw [hml]; rfl) (lenOf pd__Lcom_example_tagfold_tagfold_algebra_An_1275 rfl) rfl rfl (hb hby at_30) (by decide) (by decide) (by decide) (by decide) ?_
      intro v13 T13 h13 L13 X13 e13 q13
      obtain ⟨rfl, N13, rfl⟩ := q13
      replace N13 := Fr.app N12 N13
      show Go p e below _ T13 (mkF m 33 #[.val (.int p0), .val (.int p1), .val (.int (0 : Int32)), .val (.int (2 : Int32)), .val (.ref w_NO), .val (.ref w_YES), .unset] [(.ref w_NO)])
      refine Go.by (T' := T13) (g' := (mkF m 37 #[.val (.int p0), .val (.int p1), .val (.int (0 : Int32)), .val (.int (2 : Int32)), .val (.ref w_NO), .val (.ref w_YES), .val (.ref w_NO)] [(.ref w_NO)])) (fun t k => ?_) ?_
      · show Steps p.tables e below (T13.setTop (mkF m 33 #[.val (.int p0), .val (.int p1), .val (.int (0 : Int32)), .val (.int (2 : Int32)), .val (.ref w_NO), .val (.ref w_YES), .unset] [(.ref w_NO)])) _
        refine XS.astore X13.here hx rfl (hb hby at_33) rfl rfl (l' := #[.val (.int p0), .val (.int p1), .val (.int (0 : Int32)), .val (.int (2 : Int32)), .val (.ref w_NO), .val (.ref w_YES), .val (.ref w_NO)]) rfl ?_
        show Steps p.tables e below (T13.setTop (mkF m 35 #[.val (.int p0), .val (.int p1), .val (.int (0 : Int32)), .val (.int (2 : Int32)), .val (.ref w_NO), .val (.ref w_YES), .val (.ref w_NO)] [])) _
        refine XS.aload X13.here hx rfl (hb hby at_35) rfl rfl ?_
        exact k
      refine Go.callS X13 hx hZ (W := 0) (argsL := [(.ref w_NO)]) (rest := []) hown (wd hw 14 rfl) (wd hw 15 rfl) (wd hw 3 rfl) (wd hw 16 rfl) (by decide) (ct_rank l Z a0 hw w_NO w_UNDECIDED w_YES S_NO S_UNDECIDED S_YES E_NO E_UNDECIDED E_YES neNU neNY neUY w_NO (0 : Int32) h0 n0 O (by simp [neNU, neNY, neUY, Ne.symm neNU, Ne.symm neNY, Ne.symm neUY])) e13 (by rw [hml]; rfl) (lenOf pd__Lcom_example_tagfold_tagfold_algebra_An_2213 rfl) rfl rfl (hb hby at_37) (by decide) (by decide) (by decide) (by decide) ?_
      intro v14 T14 h14 L14 X14 e14 q14
      obtain ⟨rfl, N14, rfl⟩ := q14
      replace N14 := Fr.app N13 N14
      show Go p e below _ T14 (mkF m 40 #[.val (.int p0), .val (.int p1), .val (.int (0 : Int32)), .val (.int (2 : Int32)), .val (.ref w_NO), .val (.ref w_YES), .val (.ref w_NO)] [(.int (0 : Int32))])
      refine Go.by (T' := T14) (g' := (mkF m 42 #[.val (.int p0), .val (.int p1), .val (.int (0 : Int32)), .val (.int (2 : Int32)), .val (.ref w_NO), .val (.ref w_YES), .val (.ref w_NO)] [(.int (2 : Int32)), (.int (0 : Int32)), (.int (0 : Int32))])) (fun t k => ?_) ?_
      · show Steps p.tables e below (T14.setTop (mkF m 40 #[.val (.int p0), .val (.int p1), .val (.int (0 : Int32)), .val (.int (2 : Int32)), .val (.ref w_NO), .val (.ref w_YES), .val (.ref w_NO)] [(.int (0 : Int32))])) _
        refine XS.iloadN X14.here hx rfl (hb hby at_40) rfl ?_
        show Steps p.tables e below (T14.setTop (mkF m 41 #[.val (.int p0), .val (.int p1), .val (.int (0 : Int32)), .val (.int (2 : Int32)), .val (.ref w_NO), .val (.ref w_YES), .val (.ref w_NO)] [(.int (0 : Int32)), (.int (0 : Int32))])) _
        refine XS.iloadN X14.here hx rfl (hb hby at_41) rfl ?_
        exact k
      refine Go.callS X14 hx hZ (W := 1) (argsL := [(.int (0 : Int32)), (.int (2 : Int32))]) (rest := [(.int (0 : Int32))]) hown (wd hw 17 rfl) (wd hw 18 rfl) (wd hw 19 rfl) (wd hw 20 rfl) (by decide) (ct_min l Z a0 hw w_NO w_UNDECIDED w_YES S_NO S_UNDECIDED S_YES E_NO E_UNDECIDED E_YES neNU neNY neUY (0 : Int32) (2 : Int32) (0 : Int32) h0 n0 O (by decide)) e14 (by rw [hml]; rfl) (lenOf pd__II_I_420 rfl) rfl rfl (hb hby at_42) (by decide) (by decide) (by decide) (by decide) ?_
      intro v15 T15 h15 L15 X15 e15 q15
      obtain ⟨rfl, N15, rfl⟩ := q15
      replace N15 := Fr.app N14 N15
      show Go p e below _ T15 (mkF m 45 #[.val (.int p0), .val (.int p1), .val (.int (0 : Int32)), .val (.int (2 : Int32)), .val (.ref w_NO), .val (.ref w_YES), .val (.ref w_NO)] [(.int (0 : Int32)), (.int (0 : Int32))])
      refine Go.by (T' := T15) (g' := (mkF m 53 #[.val (.int p0), .val (.int p1), .val (.int (0 : Int32)), .val (.int (2 : Int32)), .val (.ref w_NO), .val (.ref w_YES), .val (.ref w_NO)] [(.int (1 : Int32))])) (fun t k => ?_) ?_
      · show Steps p.tables e below (T15.setTop (mkF m 45 #[.val (.int p0), .val (.int p1), .val (.int (0 : Int32)), .val (.int (2 : Int32)), .val (.ref w_NO), .val (.ref w_YES), .val (.ref w_NO)] [(.int (0 : Int32)), (.int (0 : Int32))])) _
        refine XS.icmpNo X15.here hx rfl (hb hby at_45) rfl (teq (by decide : (0 : Int32) = (0 : Int32))).2 ?_
        show Steps p.tables e below (T15.setTop (mkF m 48 #[.val (.int p0), .val (.int p1), .val (.int (0 : Int32)), .val (.int (2 : Int32)), .val (.ref w_NO), .val (.ref w_YES), .val (.ref w_NO)] [])) _
        refine XS.iconst X15.here hx rfl (hb hby at_48) ?_
        show Steps p.tables e below (T15.setTop (mkF m 49 #[.val (.int p0), .val (.int p1), .val (.int (0 : Int32)), .val (.int (2 : Int32)), .val (.ref w_NO), .val (.ref w_YES), .val (.ref w_NO)] [(.int (1 : Int32))])) _
        refine XS.goto X15.here hx rfl (pc0 := 49) (pc' := 53) rfl (hb hby at_49) (by decide) (by decide) ?_
        exact k
      refine Go.retZ X15 hx hlk hret (Or.inr rfl) (hb hby at_53) (by decide) (by decide) e15 ?_
      exact ⟨rfl, N15⟩
  · skip
    rw [c]
    show Go p e below _ T0 (mkF m 7 #[.val (.int p0), .val (.int p1), .val (.int (1 : Int32)), .unset, .unset, .unset, .unset] [])
    refine Go.by (T' := T0) (g' := (mkF m 14 #[.val (.int p0), .val (.int p1), .val (.int (1 : Int32)), .val (.int ((p1 &&& (2147483647 : Int32)) % (3 : Int32))), .unset, .unset, .unset] [])) (fun t k => ?_) ?_
    · show Steps p.tables e below (T0.setTop (mkF m 7 #[.val (.int p0), .val (.int p1), .val (.int (1 : Int32)), .unset, .unset, .unset, .unset] [])) _
      refine XS.iloadN X0.here hx rfl (hb hby at_7) rfl ?_
      show Steps p.tables e below (T0.setTop (mkF m 8 #[.val (.int p0), .val (.int p1), .val (.int (1 : Int32)), .unset, .unset, .unset, .unset] [(.int p1)])) _
      refine X0.ldcInt hx hown (mvT hZ (wd hw 0 rfl)) (g := (mkF m 8 #[.val (.int p0), .val (.int p1), .val (.int (1 : Int32)), .unset, .unset, .unset, .unset] [(.int p1)])) rfl (hb hby at_8) _ ?_
      show Steps p.tables e below (T0.setTop (mkF m 10 #[.val (.int p0), .val (.int p1), .val (.int (1 : Int32)), .unset, .unset, .unset, .unset] [(.int (2147483647 : Int32)), (.int p1)])) _
      refine XS.iand X0.here hx rfl (hb hby at_10) rfl ?_
      show Steps p.tables e below (T0.setTop (mkF m 11 #[.val (.int p0), .val (.int p1), .val (.int (1 : Int32)), .unset, .unset, .unset, .unset] [(.int (p1 &&& (2147483647 : Int32)))])) _
      refine XS.iconst X0.here hx rfl (hb hby at_11) ?_
      show Steps p.tables e below (T0.setTop (mkF m 12 #[.val (.int p0), .val (.int p1), .val (.int (1 : Int32)), .unset, .unset, .unset, .unset] [(.int (3 : Int32)), (.int (p1 &&& (2147483647 : Int32)))])) _
      refine iremM X0 hx rfl (hb hby at_12) rfl (by decide) ?_
      show Steps p.tables e below (T0.setTop (mkF m 13 #[.val (.int p0), .val (.int p1), .val (.int (1 : Int32)), .unset, .unset, .unset, .unset] [(.int ((p1 &&& (2147483647 : Int32)) % (3 : Int32)))])) _
      refine XS.istoreN X0.here hx rfl (hb hby at_13) rfl (l' := #[.val (.int p0), .val (.int p1), .val (.int (1 : Int32)), .val (.int ((p1 &&& (2147483647 : Int32)) % (3 : Int32))), .unset, .unset, .unset]) rfl ?_
      exact k
    rcases own_mod3 p1 with c | c | c
    · skip
      rw [c]
      show Go p e below _ T0 (mkF m 14 #[.val (.int p0), .val (.int p1), .val (.int (1 : Int32)), .val (.int (0 : Int32)), .unset, .unset, .unset] [])
      refine Go.by (T' := T0) (g' := (mkF m 15 #[.val (.int p0), .val (.int p1), .val (.int (1 : Int32)), .val (.int (0 : Int32)), .unset, .unset, .unset] [(.int (1 : Int32))])) (fun t k => ?_) ?_
      · show Steps p.tables e below (T0.setTop (mkF m 14 #[.val (.int p0), .val (.int p1), .val (.int (1 : Int32)), .val (.int (0 : Int32)), .unset, .unset, .unset] [])) _
        refine XS.iloadN X0.here hx rfl (hb hby at_14) rfl ?_
        exact k
      refine Go.callS X0 hx hZ (W := 0) (argsL := [(.int (1 : Int32))]) (rest := []) hown (wd hw 1 rfl) (wd hw 2 rfl) (wd hw 3 rfl) (wd hw 4 rfl) (by decide) (ct_pick l Z a0 hw w_NO w_UNDECIDED w_YES S_NO S_UNDECIDED S_YES E_NO E_UNDECIDED E_YES neNU neNY neUY (1 : Int32) w_UNDECIDED h0 n0 O (by simp)) e0 (by rw [hml]; rfl) (lenOf pd__I_Lcom_example_tagfold_tagfold_algebra__6053 rfl) rfl rfl (hb hby at_15) (by decide) (by decide) (by decide) (by decide) ?_
      intro v16 T16 h16 L16 X16 e16 q16
      obtain ⟨rfl, N16, rfl⟩ := q16
      replace N16 := Fr.app N0 N16
      show Go p e below _ T16 (mkF m 18 #[.val (.int p0), .val (.int p1), .val (.int (1 : Int32)), .val (.int (0 : Int32)), .unset, .unset, .unset] [(.ref w_UNDECIDED)])
      refine Go.by (T' := T16) (g' := (mkF m 21 #[.val (.int p0), .val (.int p1), .val (.int (1 : Int32)), .val (.int (0 : Int32)), .val (.ref w_UNDECIDED), .unset, .unset] [(.int (0 : Int32))])) (fun t k => ?_) ?_
      · show Steps p.tables e below (T16.setTop (mkF m 18 #[.val (.int p0), .val (.int p1), .val (.int (1 : Int32)), .val (.int (0 : Int32)), .unset, .unset, .unset] [(.ref w_UNDECIDED)])) _
        refine XS.astore X16.here hx rfl (hb hby at_18) rfl rfl (l' := #[.val (.int p0), .val (.int p1), .val (.int (1 : Int32)), .val (.int (0 : Int32)), .val (.ref w_UNDECIDED), .unset, .unset]) rfl ?_
        show Steps p.tables e below (T16.setTop (mkF m 20 #[.val (.int p0), .val (.int p1), .val (.int (1 : Int32)), .val (.int (0 : Int32)), .val (.ref w_UNDECIDED), .unset, .unset] [])) _
        refine XS.iloadN X16.here hx rfl (hb hby at_20) rfl ?_
        exact k
      refine Go.callS X16 hx hZ (W := 0) (argsL := [(.int (0 : Int32))]) (rest := []) hown (wd hw 1 rfl) (wd hw 2 rfl) (wd hw 3 rfl) (wd hw 4 rfl) (by decide) (ct_pick l Z a0 hw w_NO w_UNDECIDED w_YES S_NO S_UNDECIDED S_YES E_NO E_UNDECIDED E_YES neNU neNY neUY (0 : Int32) w_NO h0 n0 O (by simp)) e16 (by rw [hml]; rfl) (lenOf pd__I_Lcom_example_tagfold_tagfold_algebra__6053 rfl) rfl rfl (hb hby at_21) (by decide) (by decide) (by decide) (by decide) ?_
      intro v17 T17 h17 L17 X17 e17 q17
      obtain ⟨rfl, N17, rfl⟩ := q17
      replace N17 := Fr.app N16 N17
      show Go p e below _ T17 (mkF m 24 #[.val (.int p0), .val (.int p1), .val (.int (1 : Int32)), .val (.int (0 : Int32)), .val (.ref w_UNDECIDED), .unset, .unset] [(.ref w_NO)])
      refine Go.by (T' := T17) (g' := (mkF m 30 #[.val (.int p0), .val (.int p1), .val (.int (1 : Int32)), .val (.int (0 : Int32)), .val (.ref w_UNDECIDED), .val (.ref w_NO), .unset] [(.ref w_NO), (.ref w_UNDECIDED)])) (fun t k => ?_) ?_
      · show Steps p.tables e below (T17.setTop (mkF m 24 #[.val (.int p0), .val (.int p1), .val (.int (1 : Int32)), .val (.int (0 : Int32)), .val (.ref w_UNDECIDED), .unset, .unset] [(.ref w_NO)])) _
        refine XS.astore X17.here hx rfl (hb hby at_24) rfl rfl (l' := #[.val (.int p0), .val (.int p1), .val (.int (1 : Int32)), .val (.int (0 : Int32)), .val (.ref w_UNDECIDED), .val (.ref w_NO), .unset]) rfl ?_
        show Steps p.tables e below (T17.setTop (mkF m 26 #[.val (.int p0), .val (.int p1), .val (.int (1 : Int32)), .val (.int (0 : Int32)), .val (.ref w_UNDECIDED), .val (.ref w_NO), .unset] [])) _
        refine XS.aload X17.here hx rfl (hb hby at_26) rfl rfl ?_
        show Steps p.tables e below (T17.setTop (mkF m 28 #[.val (.int p0), .val (.int p1), .val (.int (1 : Int32)), .val (.int (0 : Int32)), .val (.ref w_UNDECIDED), .val (.ref w_NO), .unset] [(.ref w_UNDECIDED)])) _
        refine XS.aload X17.here hx rfl (hb hby at_28) rfl rfl ?_
        exact k
      refine Go.callV X17 hx hZ (W := 0) (argsL := [(.ref w_NO)]) (rest := []) hown (wd hw 8 rfl) (wd hw 9 rfl) (notFace_of_selects (args := #[]) (mvT hZ (wd hw 11 rfl))) (wd hw 11 rfl) (wd hw 10 rfl) (wd hw 6 rfl) (wd hw 12 rfl) (by decide) (E_UNDECIDED.ext O.2) (ct_and l Z a0 hw w_NO w_UNDECIDED w_YES S_NO S_UNDECIDED S_YES E_NO E_UNDECIDED E_YES neNU neNY neUY w_UNDECIDED w_NO w_NO h0 n0 O (by simp [neNU, neNY, neUY, Ne.symm neNU, Ne.symm neNY, Ne.symm neUY])) e17 (by rw [hml]; rfl) (lenOf pd__Lcom_example_tagfold_tagfold_algebra_An_1275 rfl) rfl rfl (hb hby at_30) (by decide) (by decide) (by decide) (by decide) ?_
      intro v18 T18 h18 L18 X18 e18 q18
      obtain ⟨rfl, N18, rfl⟩ := q18
      replace N18 := Fr.app N17 N18
      show Go p e below _ T18 (mkF m 33 #[.val (.int p0), .val (.int p1), .val (.int (1 : Int32)), .val (.int (0 : Int32)), .val (.ref w_UNDECIDED), .val (.ref w_NO), .unset] [(.ref w_NO)])
      refine Go.by (T' := T18) (g' := (mkF m 37 #[.val (.int p0), .val (.int p1), .val (.int (1 : Int32)), .val (.int (0 : Int32)), .val (.ref w_UNDECIDED), .val (.ref w_NO), .val (.ref w_NO)] [(.ref w_NO)])) (fun t k => ?_) ?_
      · show Steps p.tables e below (T18.setTop (mkF m 33 #[.val (.int p0), .val (.int p1), .val (.int (1 : Int32)), .val (.int (0 : Int32)), .val (.ref w_UNDECIDED), .val (.ref w_NO), .unset] [(.ref w_NO)])) _
        refine XS.astore X18.here hx rfl (hb hby at_33) rfl rfl (l' := #[.val (.int p0), .val (.int p1), .val (.int (1 : Int32)), .val (.int (0 : Int32)), .val (.ref w_UNDECIDED), .val (.ref w_NO), .val (.ref w_NO)]) rfl ?_
        show Steps p.tables e below (T18.setTop (mkF m 35 #[.val (.int p0), .val (.int p1), .val (.int (1 : Int32)), .val (.int (0 : Int32)), .val (.ref w_UNDECIDED), .val (.ref w_NO), .val (.ref w_NO)] [])) _
        refine XS.aload X18.here hx rfl (hb hby at_35) rfl rfl ?_
        exact k
      refine Go.callS X18 hx hZ (W := 0) (argsL := [(.ref w_NO)]) (rest := []) hown (wd hw 14 rfl) (wd hw 15 rfl) (wd hw 3 rfl) (wd hw 16 rfl) (by decide) (ct_rank l Z a0 hw w_NO w_UNDECIDED w_YES S_NO S_UNDECIDED S_YES E_NO E_UNDECIDED E_YES neNU neNY neUY w_NO (0 : Int32) h0 n0 O (by simp [neNU, neNY, neUY, Ne.symm neNU, Ne.symm neNY, Ne.symm neUY])) e18 (by rw [hml]; rfl) (lenOf pd__Lcom_example_tagfold_tagfold_algebra_An_2213 rfl) rfl rfl (hb hby at_37) (by decide) (by decide) (by decide) (by decide) ?_
      intro v19 T19 h19 L19 X19 e19 q19
      obtain ⟨rfl, N19, rfl⟩ := q19
      replace N19 := Fr.app N18 N19
      show Go p e below _ T19 (mkF m 40 #[.val (.int p0), .val (.int p1), .val (.int (1 : Int32)), .val (.int (0 : Int32)), .val (.ref w_UNDECIDED), .val (.ref w_NO), .val (.ref w_NO)] [(.int (0 : Int32))])
      refine Go.by (T' := T19) (g' := (mkF m 42 #[.val (.int p0), .val (.int p1), .val (.int (1 : Int32)), .val (.int (0 : Int32)), .val (.ref w_UNDECIDED), .val (.ref w_NO), .val (.ref w_NO)] [(.int (0 : Int32)), (.int (1 : Int32)), (.int (0 : Int32))])) (fun t k => ?_) ?_
      · show Steps p.tables e below (T19.setTop (mkF m 40 #[.val (.int p0), .val (.int p1), .val (.int (1 : Int32)), .val (.int (0 : Int32)), .val (.ref w_UNDECIDED), .val (.ref w_NO), .val (.ref w_NO)] [(.int (0 : Int32))])) _
        refine XS.iloadN X19.here hx rfl (hb hby at_40) rfl ?_
        show Steps p.tables e below (T19.setTop (mkF m 41 #[.val (.int p0), .val (.int p1), .val (.int (1 : Int32)), .val (.int (0 : Int32)), .val (.ref w_UNDECIDED), .val (.ref w_NO), .val (.ref w_NO)] [(.int (1 : Int32)), (.int (0 : Int32))])) _
        refine XS.iloadN X19.here hx rfl (hb hby at_41) rfl ?_
        exact k
      refine Go.callS X19 hx hZ (W := 1) (argsL := [(.int (1 : Int32)), (.int (0 : Int32))]) (rest := [(.int (0 : Int32))]) hown (wd hw 17 rfl) (wd hw 18 rfl) (wd hw 19 rfl) (wd hw 20 rfl) (by decide) (ct_min l Z a0 hw w_NO w_UNDECIDED w_YES S_NO S_UNDECIDED S_YES E_NO E_UNDECIDED E_YES neNU neNY neUY (1 : Int32) (0 : Int32) (0 : Int32) h0 n0 O (by decide)) e19 (by rw [hml]; rfl) (lenOf pd__II_I_420 rfl) rfl rfl (hb hby at_42) (by decide) (by decide) (by decide) (by decide) ?_
      intro v20 T20 h20 L20 X20 e20 q20
      obtain ⟨rfl, N20, rfl⟩ := q20
      replace N20 := Fr.app N19 N20
      show Go p e below _ T20 (mkF m 45 #[.val (.int p0), .val (.int p1), .val (.int (1 : Int32)), .val (.int (0 : Int32)), .val (.ref w_UNDECIDED), .val (.ref w_NO), .val (.ref w_NO)] [(.int (0 : Int32)), (.int (0 : Int32))])
      refine Go.by (T' := T20) (g' := (mkF m 53 #[.val (.int p0), .val (.int p1), .val (.int (1 : Int32)), .val (.int (0 : Int32)), .val (.ref w_UNDECIDED), .val (.ref w_NO), .val (.ref w_NO)] [(.int (1 : Int32))])) (fun t k => ?_) ?_
      · show Steps p.tables e below (T20.setTop (mkF m 45 #[.val (.int p0), .val (.int p1), .val (.int (1 : Int32)), .val (.int (0 : Int32)), .val (.ref w_UNDECIDED), .val (.ref w_NO), .val (.ref w_NO)] [(.int (0 : Int32)), (.int (0 : Int32))])) _
        refine XS.icmpNo X20.here hx rfl (hb hby at_45) rfl (teq (by decide : (0 : Int32) = (0 : Int32))).2 ?_
        show Steps p.tables e below (T20.setTop (mkF m 48 #[.val (.int p0), .val (.int p1), .val (.int (1 : Int32)), .val (.int (0 : Int32)), .val (.ref w_UNDECIDED), .val (.ref w_NO), .val (.ref w_NO)] [])) _
        refine XS.iconst X20.here hx rfl (hb hby at_48) ?_
        show Steps p.tables e below (T20.setTop (mkF m 49 #[.val (.int p0), .val (.int p1), .val (.int (1 : Int32)), .val (.int (0 : Int32)), .val (.ref w_UNDECIDED), .val (.ref w_NO), .val (.ref w_NO)] [(.int (1 : Int32))])) _
        refine XS.goto X20.here hx rfl (pc0 := 49) (pc' := 53) rfl (hb hby at_49) (by decide) (by decide) ?_
        exact k
      refine Go.retZ X20 hx hlk hret (Or.inr rfl) (hb hby at_53) (by decide) (by decide) e20 ?_
      exact ⟨rfl, N20⟩
    · skip
      rw [c]
      show Go p e below _ T0 (mkF m 14 #[.val (.int p0), .val (.int p1), .val (.int (1 : Int32)), .val (.int (1 : Int32)), .unset, .unset, .unset] [])
      refine Go.by (T' := T0) (g' := (mkF m 15 #[.val (.int p0), .val (.int p1), .val (.int (1 : Int32)), .val (.int (1 : Int32)), .unset, .unset, .unset] [(.int (1 : Int32))])) (fun t k => ?_) ?_
      · show Steps p.tables e below (T0.setTop (mkF m 14 #[.val (.int p0), .val (.int p1), .val (.int (1 : Int32)), .val (.int (1 : Int32)), .unset, .unset, .unset] [])) _
        refine XS.iloadN X0.here hx rfl (hb hby at_14) rfl ?_
        exact k
      refine Go.callS X0 hx hZ (W := 0) (argsL := [(.int (1 : Int32))]) (rest := []) hown (wd hw 1 rfl) (wd hw 2 rfl) (wd hw 3 rfl) (wd hw 4 rfl) (by decide) (ct_pick l Z a0 hw w_NO w_UNDECIDED w_YES S_NO S_UNDECIDED S_YES E_NO E_UNDECIDED E_YES neNU neNY neUY (1 : Int32) w_UNDECIDED h0 n0 O (by simp)) e0 (by rw [hml]; rfl) (lenOf pd__I_Lcom_example_tagfold_tagfold_algebra__6053 rfl) rfl rfl (hb hby at_15) (by decide) (by decide) (by decide) (by decide) ?_
      intro v21 T21 h21 L21 X21 e21 q21
      obtain ⟨rfl, N21, rfl⟩ := q21
      replace N21 := Fr.app N0 N21
      show Go p e below _ T21 (mkF m 18 #[.val (.int p0), .val (.int p1), .val (.int (1 : Int32)), .val (.int (1 : Int32)), .unset, .unset, .unset] [(.ref w_UNDECIDED)])
      refine Go.by (T' := T21) (g' := (mkF m 21 #[.val (.int p0), .val (.int p1), .val (.int (1 : Int32)), .val (.int (1 : Int32)), .val (.ref w_UNDECIDED), .unset, .unset] [(.int (1 : Int32))])) (fun t k => ?_) ?_
      · show Steps p.tables e below (T21.setTop (mkF m 18 #[.val (.int p0), .val (.int p1), .val (.int (1 : Int32)), .val (.int (1 : Int32)), .unset, .unset, .unset] [(.ref w_UNDECIDED)])) _
        refine XS.astore X21.here hx rfl (hb hby at_18) rfl rfl (l' := #[.val (.int p0), .val (.int p1), .val (.int (1 : Int32)), .val (.int (1 : Int32)), .val (.ref w_UNDECIDED), .unset, .unset]) rfl ?_
        show Steps p.tables e below (T21.setTop (mkF m 20 #[.val (.int p0), .val (.int p1), .val (.int (1 : Int32)), .val (.int (1 : Int32)), .val (.ref w_UNDECIDED), .unset, .unset] [])) _
        refine XS.iloadN X21.here hx rfl (hb hby at_20) rfl ?_
        exact k
      refine Go.callS X21 hx hZ (W := 0) (argsL := [(.int (1 : Int32))]) (rest := []) hown (wd hw 1 rfl) (wd hw 2 rfl) (wd hw 3 rfl) (wd hw 4 rfl) (by decide) (ct_pick l Z a0 hw w_NO w_UNDECIDED w_YES S_NO S_UNDECIDED S_YES E_NO E_UNDECIDED E_YES neNU neNY neUY (1 : Int32) w_UNDECIDED h0 n0 O (by simp)) e21 (by rw [hml]; rfl) (lenOf pd__I_Lcom_example_tagfold_tagfold_algebra__6053 rfl) rfl rfl (hb hby at_21) (by decide) (by decide) (by decide) (by decide) ?_
      intro v22 T22 h22 L22 X22 e22 q22
      obtain ⟨rfl, N22, rfl⟩ := q22
      replace N22 := Fr.app N21 N22
      show Go p e below _ T22 (mkF m 24 #[.val (.int p0), .val (.int p1), .val (.int (1 : Int32)), .val (.int (1 : Int32)), .val (.ref w_UNDECIDED), .unset, .unset] [(.ref w_UNDECIDED)])
      refine Go.by (T' := T22) (g' := (mkF m 30 #[.val (.int p0), .val (.int p1), .val (.int (1 : Int32)), .val (.int (1 : Int32)), .val (.ref w_UNDECIDED), .val (.ref w_UNDECIDED), .unset] [(.ref w_UNDECIDED), (.ref w_UNDECIDED)])) (fun t k => ?_) ?_
      · show Steps p.tables e below (T22.setTop (mkF m 24 #[.val (.int p0), .val (.int p1), .val (.int (1 : Int32)), .val (.int (1 : Int32)), .val (.ref w_UNDECIDED), .unset, .unset] [(.ref w_UNDECIDED)])) _
        refine XS.astore X22.here hx rfl (hb hby at_24) rfl rfl (l' := #[.val (.int p0), .val (.int p1), .val (.int (1 : Int32)), .val (.int (1 : Int32)), .val (.ref w_UNDECIDED), .val (.ref w_UNDECIDED), .unset]) rfl ?_
        show Steps p.tables e below (T22.setTop (mkF m 26 #[.val (.int p0), .val (.int p1), .val (.int (1 : Int32)), .val (.int (1 : Int32)), .val (.ref w_UNDECIDED), .val (.ref w_UNDECIDED), .unset] [])) _
        refine XS.aload X22.here hx rfl (hb hby at_26) rfl rfl ?_
        show Steps p.tables e below (T22.setTop (mkF m 28 #[.val (.int p0), .val (.int p1), .val (.int (1 : Int32)), .val (.int (1 : Int32)), .val (.ref w_UNDECIDED), .val (.ref w_UNDECIDED), .unset] [(.ref w_UNDECIDED)])) _
        refine XS.aload X22.here hx rfl (hb hby at_28) rfl rfl ?_
        exact k
      refine Go.callV X22 hx hZ (W := 0) (argsL := [(.ref w_UNDECIDED)]) (rest := []) hown (wd hw 8 rfl) (wd hw 9 rfl) (notFace_of_selects (args := #[]) (mvT hZ (wd hw 11 rfl))) (wd hw 11 rfl) (wd hw 10 rfl) (wd hw 6 rfl) (wd hw 12 rfl) (by decide) (E_UNDECIDED.ext O.2) (ct_and l Z a0 hw w_NO w_UNDECIDED w_YES S_NO S_UNDECIDED S_YES E_NO E_UNDECIDED E_YES neNU neNY neUY w_UNDECIDED w_UNDECIDED w_UNDECIDED h0 n0 O (by simp [neNU, neNY, neUY, Ne.symm neNU, Ne.symm neNY, Ne.symm neUY])) e22 (by rw [hml]; rfl) (lenOf pd__Lcom_example_tagfold_tagfold_algebra_An_1275 rfl) rfl rfl (hb hby at_30) (by decide) (by decide) (by decide) (by decide) ?_
      intro v23 T23 h23 L23 X23 e23 q23
      obtain ⟨rfl, N23, rfl⟩ := q23
      replace N23 := Fr.app N22 N23
      show Go p e below _ T23 (mkF m 33 #[.val (.int p0), .val (.int p1), .val (.int (1 : Int32)), .val (.int (1 : Int32)), .val (.ref w_UNDECIDED), .val (.ref w_UNDECIDED), .unset] [(.ref w_UNDECIDED)])
      refine Go.by (T' := T23) (g' := (mkF m 37 #[.val (.int p0), .val (.int p1), .val (.int (1 : Int32)), .val (.int (1 : Int32)), .val (.ref w_UNDECIDED), .val (.ref w_UNDECIDED), .val (.ref w_UNDECIDED)] [(.ref w_UNDECIDED)])) (fun t k => ?_) ?_
      · show Steps p.tables e below (T23.setTop (mkF m 33 #[.val (.int p0), .val (.int p1), .val (.int (1 : Int32)), .val (.int (1 : Int32)), .val (.ref w_UNDECIDED), .val (.ref w_UNDECIDED), .unset] [(.ref w_UNDECIDED)])) _
        refine XS.astore X23.here hx rfl (hb hby at_33) rfl rfl (l' := #[.val (.int p0), .val (.int p1), .val (.int (1 : Int32)), .val (.int (1 : Int32)), .val (.ref w_UNDECIDED), .val (.ref w_UNDECIDED), .val (.ref w_UNDECIDED)]) rfl ?_
        show Steps p.tables e below (T23.setTop (mkF m 35 #[.val (.int p0), .val (.int p1), .val (.int (1 : Int32)), .val (.int (1 : Int32)), .val (.ref w_UNDECIDED), .val (.ref w_UNDECIDED), .val (.ref w_UNDECIDED)] [])) _
        refine XS.aload X23.here hx rfl (hb hby at_35) rfl rfl ?_
        exact k
      refine Go.callS X23 hx hZ (W := 0) (argsL := [(.ref w_UNDECIDED)]) (rest := []) hown (wd hw 14 rfl) (wd hw 15 rfl) (wd hw 3 rfl) (wd hw 16 rfl) (by decide) (ct_rank l Z a0 hw w_NO w_UNDECIDED w_YES S_NO S_UNDECIDED S_YES E_NO E_UNDECIDED E_YES neNU neNY neUY w_UNDECIDED (1 : Int32) h0 n0 O (by simp [neNU, neNY, neUY, Ne.symm neNU, Ne.symm neNY, Ne.symm neUY])) e23 (by rw [hml]; rfl) (lenOf pd__Lcom_example_tagfold_tagfold_algebra_An_2213 rfl) rfl rfl (hb hby at_37) (by decide) (by decide) (by decide) (by decide) ?_
      intro v24 T24 h24 L24 X24 e24 q24
      obtain ⟨rfl, N24, rfl⟩ := q24
      replace N24 := Fr.app N23 N24
      show Go p e below _ T24 (mkF m 40 #[.val (.int p0), .val (.int p1), .val (.int (1 : Int32)), .val (.int (1 : Int32)), .val (.ref w_UNDECIDED), .val (.ref w_UNDECIDED), .val (.ref w_UNDECIDED)] [(.int (1 : Int32))])
      refine Go.by (T' := T24) (g' := (mkF m 42 #[.val (.int p0), .val (.int p1), .val (.int (1 : Int32)), .val (.int (1 : Int32)), .val (.ref w_UNDECIDED), .val (.ref w_UNDECIDED), .val (.ref w_UNDECIDED)] [(.int (1 : Int32)), (.int (1 : Int32)), (.int (1 : Int32))])) (fun t k => ?_) ?_
      · show Steps p.tables e below (T24.setTop (mkF m 40 #[.val (.int p0), .val (.int p1), .val (.int (1 : Int32)), .val (.int (1 : Int32)), .val (.ref w_UNDECIDED), .val (.ref w_UNDECIDED), .val (.ref w_UNDECIDED)] [(.int (1 : Int32))])) _
        refine XS.iloadN X24.here hx rfl (hb hby at_40) rfl ?_
        show Steps p.tables e below (T24.setTop (mkF m 41 #[.val (.int p0), .val (.int p1), .val (.int (1 : Int32)), .val (.int (1 : Int32)), .val (.ref w_UNDECIDED), .val (.ref w_UNDECIDED), .val (.ref w_UNDECIDED)] [(.int (1 : Int32)), (.int (1 : Int32))])) _
        refine XS.iloadN X24.here hx rfl (hb hby at_41) rfl ?_
        exact k
      refine Go.callS X24 hx hZ (W := 1) (argsL := [(.int (1 : Int32)), (.int (1 : Int32))]) (rest := [(.int (1 : Int32))]) hown (wd hw 17 rfl) (wd hw 18 rfl) (wd hw 19 rfl) (wd hw 20 rfl) (by decide) (ct_min l Z a0 hw w_NO w_UNDECIDED w_YES S_NO S_UNDECIDED S_YES E_NO E_UNDECIDED E_YES neNU neNY neUY (1 : Int32) (1 : Int32) (1 : Int32) h0 n0 O (by decide)) e24 (by rw [hml]; rfl) (lenOf pd__II_I_420 rfl) rfl rfl (hb hby at_42) (by decide) (by decide) (by decide) (by decide) ?_
      intro v25 T25 h25 L25 X25 e25 q25
      obtain ⟨rfl, N25, rfl⟩ := q25
      replace N25 := Fr.app N24 N25
      show Go p e below _ T25 (mkF m 45 #[.val (.int p0), .val (.int p1), .val (.int (1 : Int32)), .val (.int (1 : Int32)), .val (.ref w_UNDECIDED), .val (.ref w_UNDECIDED), .val (.ref w_UNDECIDED)] [(.int (1 : Int32)), (.int (1 : Int32))])
      refine Go.by (T' := T25) (g' := (mkF m 53 #[.val (.int p0), .val (.int p1), .val (.int (1 : Int32)), .val (.int (1 : Int32)), .val (.ref w_UNDECIDED), .val (.ref w_UNDECIDED), .val (.ref w_UNDECIDED)] [(.int (1 : Int32))])) (fun t k => ?_) ?_
      · show Steps p.tables e below (T25.setTop (mkF m 45 #[.val (.int p0), .val (.int p1), .val (.int (1 : Int32)), .val (.int (1 : Int32)), .val (.ref w_UNDECIDED), .val (.ref w_UNDECIDED), .val (.ref w_UNDECIDED)] [(.int (1 : Int32)), (.int (1 : Int32))])) _
        refine XS.icmpNo X25.here hx rfl (hb hby at_45) rfl (teq (by decide : (1 : Int32) = (1 : Int32))).2 ?_
        show Steps p.tables e below (T25.setTop (mkF m 48 #[.val (.int p0), .val (.int p1), .val (.int (1 : Int32)), .val (.int (1 : Int32)), .val (.ref w_UNDECIDED), .val (.ref w_UNDECIDED), .val (.ref w_UNDECIDED)] [])) _
        refine XS.iconst X25.here hx rfl (hb hby at_48) ?_
        show Steps p.tables e below (T25.setTop (mkF m 49 #[.val (.int p0), .val (.int p1), .val (.int (1 : Int32)), .val (.int (1 : Int32)), .val (.ref w_UNDECIDED), .val (.ref w_UNDECIDED), .val (.ref w_UNDECIDED)] [(.int (1 : Int32))])) _
        refine XS.goto X25.here hx rfl (pc0 := 49) (pc' := 53) rfl (hb hby at_49) (by decide) (by decide) ?_
        exact k
      refine Go.retZ X25 hx hlk hret (Or.inr rfl) (hb hby at_53) (by decide) (by decide) e25 ?_
      exact ⟨rfl, N25⟩
    · skip
      rw [c]
      show Go p e below _ T0 (mkF m 14 #[.val (.int p0), .val (.int p1), .val (.int (1 : Int32)), .val (.int (2 : Int32)), .unset, .unset, .unset] [])
      refine Go.by (T' := T0) (g' := (mkF m 15 #[.val (.int p0), .val (.int p1), .val (.int (1 : Int32)), .val (.int (2 : Int32)), .unset, .unset, .unset] [(.int (1 : Int32))])) (fun t k => ?_) ?_
      · show Steps p.tables e below (T0.setTop (mkF m 14 #[.val (.int p0), .val (.int p1), .val (.int (1 : Int32)), .val (.int (2 : Int32)), .unset, .unset, .unset] [])) _
        refine XS.iloadN X0.here hx rfl (hb hby at_14) rfl ?_
        exact k
      refine Go.callS X0 hx hZ (W := 0) (argsL := [(.int (1 : Int32))]) (rest := []) hown (wd hw 1 rfl) (wd hw 2 rfl) (wd hw 3 rfl) (wd hw 4 rfl) (by decide) (ct_pick l Z a0 hw w_NO w_UNDECIDED w_YES S_NO S_UNDECIDED S_YES E_NO E_UNDECIDED E_YES neNU neNY neUY (1 : Int32) w_UNDECIDED h0 n0 O (by simp)) e0 (by rw [hml]; rfl) (lenOf pd__I_Lcom_example_tagfold_tagfold_algebra__6053 rfl) rfl rfl (hb hby at_15) (by decide) (by decide) (by decide) (by decide) ?_
      intro v26 T26 h26 L26 X26 e26 q26
      obtain ⟨rfl, N26, rfl⟩ := q26
      replace N26 := Fr.app N0 N26
      show Go p e below _ T26 (mkF m 18 #[.val (.int p0), .val (.int p1), .val (.int (1 : Int32)), .val (.int (2 : Int32)), .unset, .unset, .unset] [(.ref w_UNDECIDED)])
      refine Go.by (T' := T26) (g' := (mkF m 21 #[.val (.int p0), .val (.int p1), .val (.int (1 : Int32)), .val (.int (2 : Int32)), .val (.ref w_UNDECIDED), .unset, .unset] [(.int (2 : Int32))])) (fun t k => ?_) ?_
      · show Steps p.tables e below (T26.setTop (mkF m 18 #[.val (.int p0), .val (.int p1), .val (.int (1 : Int32)), .val (.int (2 : Int32)), .unset, .unset, .unset] [(.ref w_UNDECIDED)])) _
        refine XS.astore X26.here hx rfl (hb hby at_18) rfl rfl (l' := #[.val (.int p0), .val (.int p1), .val (.int (1 : Int32)), .val (.int (2 : Int32)), .val (.ref w_UNDECIDED), .unset, .unset]) rfl ?_
        show Steps p.tables e below (T26.setTop (mkF m 20 #[.val (.int p0), .val (.int p1), .val (.int (1 : Int32)), .val (.int (2 : Int32)), .val (.ref w_UNDECIDED), .unset, .unset] [])) _
        refine XS.iloadN X26.here hx rfl (hb hby at_20) rfl ?_
        exact k
      refine Go.callS X26 hx hZ (W := 0) (argsL := [(.int (2 : Int32))]) (rest := []) hown (wd hw 1 rfl) (wd hw 2 rfl) (wd hw 3 rfl) (wd hw 4 rfl) (by decide) (ct_pick l Z a0 hw w_NO w_UNDECIDED w_YES S_NO S_UNDECIDED S_YES E_NO E_UNDECIDED E_YES neNU neNY neUY (2 : Int32) w_YES h0 n0 O (by simp)) e26 (by rw [hml]; rfl) (lenOf pd__I_Lcom_example_tagfold_tagfold_algebra__6053 rfl) rfl rfl (hb hby at_21) (by decide) (by decide) (by decide) (by decide) ?_
      intro v27 T27 h27 L27 X27 e27 q27
      obtain ⟨rfl, N27, rfl⟩ := q27
      replace N27 := Fr.app N26 N27
      show Go p e below _ T27 (mkF m 24 #[.val (.int p0), .val (.int p1), .val (.int (1 : Int32)), .val (.int (2 : Int32)), .val (.ref w_UNDECIDED), .unset, .unset] [(.ref w_YES)])
      refine Go.by (T' := T27) (g' := (mkF m 30 #[.val (.int p0), .val (.int p1), .val (.int (1 : Int32)), .val (.int (2 : Int32)), .val (.ref w_UNDECIDED), .val (.ref w_YES), .unset] [(.ref w_YES), (.ref w_UNDECIDED)])) (fun t k => ?_) ?_
      · show Steps p.tables e below (T27.setTop (mkF m 24 #[.val (.int p0), .val (.int p1), .val (.int (1 : Int32)), .val (.int (2 : Int32)), .val (.ref w_UNDECIDED), .unset, .unset] [(.ref w_YES)])) _
        refine XS.astore X27.here hx rfl (hb hby at_24) rfl rfl (l' := #[.val (.int p0), .val (.int p1), .val (.int (1 : Int32)), .val (.int (2 : Int32)), .val (.ref w_UNDECIDED), .val (.ref w_YES), .unset]) rfl ?_
        show Steps p.tables e below (T27.setTop (mkF m 26 #[.val (.int p0), .val (.int p1), .val (.int (1 : Int32)), .val (.int (2 : Int32)), .val (.ref w_UNDECIDED), .val (.ref w_YES), .unset] [])) _
        refine XS.aload X27.here hx rfl (hb hby at_26) rfl rfl ?_
        show Steps p.tables e below (T27.setTop (mkF m 28 #[.val (.int p0), .val (.int p1), .val (.int (1 : Int32)), .val (.int (2 : Int32)), .val (.ref w_UNDECIDED), .val (.ref w_YES), .unset] [(.ref w_UNDECIDED)])) _
        refine XS.aload X27.here hx rfl (hb hby at_28) rfl rfl ?_
        exact k
      refine Go.callV X27 hx hZ (W := 0) (argsL := [(.ref w_YES)]) (rest := []) hown (wd hw 8 rfl) (wd hw 9 rfl) (notFace_of_selects (args := #[]) (mvT hZ (wd hw 11 rfl))) (wd hw 11 rfl) (wd hw 10 rfl) (wd hw 6 rfl) (wd hw 12 rfl) (by decide) (E_UNDECIDED.ext O.2) (ct_and l Z a0 hw w_NO w_UNDECIDED w_YES S_NO S_UNDECIDED S_YES E_NO E_UNDECIDED E_YES neNU neNY neUY w_UNDECIDED w_YES w_UNDECIDED h0 n0 O (by simp [neNU, neNY, neUY, Ne.symm neNU, Ne.symm neNY, Ne.symm neUY])) e27 (by rw [hml]; rfl) (lenOf pd__Lcom_example_tagfold_tagfold_algebra_An_1275 rfl) rfl rfl (hb hby at_30) (by decide) (by decide) (by decide) (by decide) ?_
      intro v28 T28 h28 L28 X28 e28 q28
      obtain ⟨rfl, N28, rfl⟩ := q28
      replace N28 := Fr.app N27 N28
      show Go p e below _ T28 (mkF m 33 #[.val (.int p0), .val (.int p1), .val (.int (1 : Int32)), .val (.int (2 : Int32)), .val (.ref w_UNDECIDED), .val (.ref w_YES), .unset] [(.ref w_UNDECIDED)])
      refine Go.by (T' := T28) (g' := (mkF m 37 #[.val (.int p0), .val (.int p1), .val (.int (1 : Int32)), .val (.int (2 : Int32)), .val (.ref w_UNDECIDED), .val (.ref w_YES), .val (.ref w_UNDECIDED)] [(.ref w_UNDECIDED)])) (fun t k => ?_) ?_
      · show Steps p.tables e below (T28.setTop (mkF m 33 #[.val (.int p0), .val (.int p1), .val (.int (1 : Int32)), .val (.int (2 : Int32)), .val (.ref w_UNDECIDED), .val (.ref w_YES), .unset] [(.ref w_UNDECIDED)])) _
        refine XS.astore X28.here hx rfl (hb hby at_33) rfl rfl (l' := #[.val (.int p0), .val (.int p1), .val (.int (1 : Int32)), .val (.int (2 : Int32)), .val (.ref w_UNDECIDED), .val (.ref w_YES), .val (.ref w_UNDECIDED)]) rfl ?_
        show Steps p.tables e below (T28.setTop (mkF m 35 #[.val (.int p0), .val (.int p1), .val (.int (1 : Int32)), .val (.int (2 : Int32)), .val (.ref w_UNDECIDED), .val (.ref w_YES), .val (.ref w_UNDECIDED)] [])) _
        refine XS.aload X28.here hx rfl (hb hby at_35) rfl rfl ?_
        exact k
      refine Go.callS X28 hx hZ (W := 0) (argsL := [(.ref w_UNDECIDED)]) (rest := []) hown (wd hw 14 rfl) (wd hw 15 rfl) (wd hw 3 rfl) (wd hw 16 rfl) (by decide) (ct_rank l Z a0 hw w_NO w_UNDECIDED w_YES S_NO S_UNDECIDED S_YES E_NO E_UNDECIDED E_YES neNU neNY neUY w_UNDECIDED (1 : Int32) h0 n0 O (by simp [neNU, neNY, neUY, Ne.symm neNU, Ne.symm neNY, Ne.symm neUY])) e28 (by rw [hml]; rfl) (lenOf pd__Lcom_example_tagfold_tagfold_algebra_An_2213 rfl) rfl rfl (hb hby at_37) (by decide) (by decide) (by decide) (by decide) ?_
      intro v29 T29 h29 L29 X29 e29 q29
      obtain ⟨rfl, N29, rfl⟩ := q29
      replace N29 := Fr.app N28 N29
      show Go p e below _ T29 (mkF m 40 #[.val (.int p0), .val (.int p1), .val (.int (1 : Int32)), .val (.int (2 : Int32)), .val (.ref w_UNDECIDED), .val (.ref w_YES), .val (.ref w_UNDECIDED)] [(.int (1 : Int32))])
      refine Go.by (T' := T29) (g' := (mkF m 42 #[.val (.int p0), .val (.int p1), .val (.int (1 : Int32)), .val (.int (2 : Int32)), .val (.ref w_UNDECIDED), .val (.ref w_YES), .val (.ref w_UNDECIDED)] [(.int (2 : Int32)), (.int (1 : Int32)), (.int (1 : Int32))])) (fun t k => ?_) ?_
      · show Steps p.tables e below (T29.setTop (mkF m 40 #[.val (.int p0), .val (.int p1), .val (.int (1 : Int32)), .val (.int (2 : Int32)), .val (.ref w_UNDECIDED), .val (.ref w_YES), .val (.ref w_UNDECIDED)] [(.int (1 : Int32))])) _
        refine XS.iloadN X29.here hx rfl (hb hby at_40) rfl ?_
        show Steps p.tables e below (T29.setTop (mkF m 41 #[.val (.int p0), .val (.int p1), .val (.int (1 : Int32)), .val (.int (2 : Int32)), .val (.ref w_UNDECIDED), .val (.ref w_YES), .val (.ref w_UNDECIDED)] [(.int (1 : Int32)), (.int (1 : Int32))])) _
        refine XS.iloadN X29.here hx rfl (hb hby at_41) rfl ?_
        exact k
      refine Go.callS X29 hx hZ (W := 1) (argsL := [(.int (1 : Int32)), (.int (2 : Int32))]) (rest := [(.int (1 : Int32))]) hown (wd hw 17 rfl) (wd hw 18 rfl) (wd hw 19 rfl) (wd hw 20 rfl) (by decide) (ct_min l Z a0 hw w_NO w_UNDECIDED w_YES S_NO S_UNDECIDED S_YES E_NO E_UNDECIDED E_YES neNU neNY neUY (1 : Int32) (2 : Int32) (1 : Int32) h0 n0 O (by decide)) e29 (by rw [hml]; rfl) (lenOf pd__II_I_420 rfl) rfl rfl (hb hby at_42) (by decide) (by decide) (by decide) (by decide) ?_
      intro v30 T30 h30 L30 X30 e30 q30
      obtain ⟨rfl, N30, rfl⟩ := q30
      replace N30 := Fr.app N29 N30
      show Go p e below _ T30 (mkF m 45 #[.val (.int p0), .val (.int p1), .val (.int (1 : Int32)), .val (.int (2 : Int32)), .val (.ref w_UNDECIDED), .val (.ref w_YES), .val (.ref w_UNDECIDED)] [(.int (1 : Int32)), (.int (1 : Int32))])
      refine Go.by (T' := T30) (g' := (mkF m 53 #[.val (.int p0), .val (.int p1), .val (.int (1 : Int32)), .val (.int (2 : Int32)), .val (.ref w_UNDECIDED), .val (.ref w_YES), .val (.ref w_UNDECIDED)] [(.int (1 : Int32))])) (fun t k => ?_) ?_
      · show Steps p.tables e below (T30.setTop (mkF m 45 #[.val (.int p0), .val (.int p1), .val (.int (1 : Int32)), .val (.int (2 : Int32)), .val (.ref w_UNDECIDED), .val (.ref w_YES), .val (.ref w_UNDECIDED)] [(.int (1 : Int32)), (.int (1 : Int32))])) _
        refine XS.icmpNo X30.here hx rfl (hb hby at_45) rfl (teq (by decide : (1 : Int32) = (1 : Int32))).2 ?_
        show Steps p.tables e below (T30.setTop (mkF m 48 #[.val (.int p0), .val (.int p1), .val (.int (1 : Int32)), .val (.int (2 : Int32)), .val (.ref w_UNDECIDED), .val (.ref w_YES), .val (.ref w_UNDECIDED)] [])) _
        refine XS.iconst X30.here hx rfl (hb hby at_48) ?_
        show Steps p.tables e below (T30.setTop (mkF m 49 #[.val (.int p0), .val (.int p1), .val (.int (1 : Int32)), .val (.int (2 : Int32)), .val (.ref w_UNDECIDED), .val (.ref w_YES), .val (.ref w_UNDECIDED)] [(.int (1 : Int32))])) _
        refine XS.goto X30.here hx rfl (pc0 := 49) (pc' := 53) rfl (hb hby at_49) (by decide) (by decide) ?_
        exact k
      refine Go.retZ X30 hx hlk hret (Or.inr rfl) (hb hby at_53) (by decide) (by decide) e30 ?_
      exact ⟨rfl, N30⟩
  · skip
    rw [c]
    show Go p e below _ T0 (mkF m 7 #[.val (.int p0), .val (.int p1), .val (.int (2 : Int32)), .unset, .unset, .unset, .unset] [])
    refine Go.by (T' := T0) (g' := (mkF m 14 #[.val (.int p0), .val (.int p1), .val (.int (2 : Int32)), .val (.int ((p1 &&& (2147483647 : Int32)) % (3 : Int32))), .unset, .unset, .unset] [])) (fun t k => ?_) ?_
    · show Steps p.tables e below (T0.setTop (mkF m 7 #[.val (.int p0), .val (.int p1), .val (.int (2 : Int32)), .unset, .unset, .unset, .unset] [])) _
      refine XS.iloadN X0.here hx rfl (hb hby at_7) rfl ?_
      show Steps p.tables e below (T0.setTop (mkF m 8 #[.val (.int p0), .val (.int p1), .val (.int (2 : Int32)), .unset, .unset, .unset, .unset] [(.int p1)])) _
      refine X0.ldcInt hx hown (mvT hZ (wd hw 0 rfl)) (g := (mkF m 8 #[.val (.int p0), .val (.int p1), .val (.int (2 : Int32)), .unset, .unset, .unset, .unset] [(.int p1)])) rfl (hb hby at_8) _ ?_
      show Steps p.tables e below (T0.setTop (mkF m 10 #[.val (.int p0), .val (.int p1), .val (.int (2 : Int32)), .unset, .unset, .unset, .unset] [(.int (2147483647 : Int32)), (.int p1)])) _
      refine XS.iand X0.here hx rfl (hb hby at_10) rfl ?_
      show Steps p.tables e below (T0.setTop (mkF m 11 #[.val (.int p0), .val (.int p1), .val (.int (2 : Int32)), .unset, .unset, .unset, .unset] [(.int (p1 &&& (2147483647 : Int32)))])) _
      refine XS.iconst X0.here hx rfl (hb hby at_11) ?_
      show Steps p.tables e below (T0.setTop (mkF m 12 #[.val (.int p0), .val (.int p1), .val (.int (2 : Int32)), .unset, .unset, .unset, .unset] [(.int (3 : Int32)), (.int (p1 &&& (2147483647 : Int32)))])) _
      refine iremM X0 hx rfl (hb hby at_12) rfl (by decide) ?_
      show Steps p.tables e below (T0.setTop (mkF m 13 #[.val (.int p0), .val (.int p1), .val (.int (2 : Int32)), .unset, .unset, .unset, .unset] [(.int ((p1 &&& (2147483647 : Int32)) % (3 : Int32)))])) _
      refine XS.istoreN X0.here hx rfl (hb hby at_13) rfl (l' := #[.val (.int p0), .val (.int p1), .val (.int (2 : Int32)), .val (.int ((p1 &&& (2147483647 : Int32)) % (3 : Int32))), .unset, .unset, .unset]) rfl ?_
      exact k
    rcases own_mod3 p1 with c | c | c
    · skip
      rw [c]
      show Go p e below _ T0 (mkF m 14 #[.val (.int p0), .val (.int p1), .val (.int (2 : Int32)), .val (.int (0 : Int32)), .unset, .unset, .unset] [])
      refine Go.by (T' := T0) (g' := (mkF m 15 #[.val (.int p0), .val (.int p1), .val (.int (2 : Int32)), .val (.int (0 : Int32)), .unset, .unset, .unset] [(.int (2 : Int32))])) (fun t k => ?_) ?_
      · show Steps p.tables e below (T0.setTop (mkF m 14 #[.val (.int p0), .val (.int p1), .val (.int (2 : Int32)), .val (.int (0 : Int32)), .unset, .unset, .unset] [])) _
        refine XS.iloadN X0.here hx rfl (hb hby at_14) rfl ?_
        exact k
      refine Go.callS X0 hx hZ (W := 0) (argsL := [(.int (2 : Int32))]) (rest := []) hown (wd hw 1 rfl) (wd hw 2 rfl) (wd hw 3 rfl) (wd hw 4 rfl) (by decide) (ct_pick l Z a0 hw w_NO w_UNDECIDED w_YES S_NO S_UNDECIDED S_YES E_NO E_UNDECIDED E_YES neNU neNY neUY (2 : Int32) w_YES h0 n0 O (by simp)) e0 (by rw [hml]; rfl) (lenOf pd__I_Lcom_example_tagfold_tagfold_algebra__6053 rfl) rfl rfl (hb hby at_15) (by decide) (by decide) (by decide) (by decide) ?_
      intro v31 T31 h31 L31 X31 e31 q31
      obtain ⟨rfl, N31, rfl⟩ := q31
      replace N31 := Fr.app N0 N31
      show Go p e below _ T31 (mkF m 18 #[.val (.int p0), .val (.int p1), .val (.int (2 : Int32)), .val (.int (0 : Int32)), .unset, .unset, .unset] [(.ref w_YES)])
      refine Go.by (T' := T31) (g' := (mkF m 21 #[.val (.int p0), .val (.int p1), .val (.int (2 : Int32)), .val (.int (0 : Int32)), .val (.ref w_YES), .unset, .unset] [(.int (0 : Int32))])) (fun t k => ?_) ?_
      · show Steps p.tables e below (T31.setTop (mkF m 18 #[.val (.int p0), .val (.int p1), .val (.int (2 : Int32)), .val (.int (0 : Int32)), .unset, .unset, .unset] [(.ref w_YES)])) _
        refine XS.astore X31.here hx rfl (hb hby at_18) rfl rfl (l' := #[.val (.int p0), .val (.int p1), .val (.int (2 : Int32)), .val (.int (0 : Int32)), .val (.ref w_YES), .unset, .unset]) rfl ?_
        show Steps p.tables e below (T31.setTop (mkF m 20 #[.val (.int p0), .val (.int p1), .val (.int (2 : Int32)), .val (.int (0 : Int32)), .val (.ref w_YES), .unset, .unset] [])) _
        refine XS.iloadN X31.here hx rfl (hb hby at_20) rfl ?_
        exact k
      refine Go.callS X31 hx hZ (W := 0) (argsL := [(.int (0 : Int32))]) (rest := []) hown (wd hw 1 rfl) (wd hw 2 rfl) (wd hw 3 rfl) (wd hw 4 rfl) (by decide) (ct_pick l Z a0 hw w_NO w_UNDECIDED w_YES S_NO S_UNDECIDED S_YES E_NO E_UNDECIDED E_YES neNU neNY neUY (0 : Int32) w_NO h0 n0 O (by simp)) e31 (by rw [hml]; rfl) (lenOf pd__I_Lcom_example_tagfold_tagfold_algebra__6053 rfl) rfl rfl (hb hby at_21) (by decide) (by decide) (by decide) (by decide) ?_
      intro v32 T32 h32 L32 X32 e32 q32
      obtain ⟨rfl, N32, rfl⟩ := q32
      replace N32 := Fr.app N31 N32
      show Go p e below _ T32 (mkF m 24 #[.val (.int p0), .val (.int p1), .val (.int (2 : Int32)), .val (.int (0 : Int32)), .val (.ref w_YES), .unset, .unset] [(.ref w_NO)])
      refine Go.by (T' := T32) (g' := (mkF m 30 #[.val (.int p0), .val (.int p1), .val (.int (2 : Int32)), .val (.int (0 : Int32)), .val (.ref w_YES), .val (.ref w_NO), .unset] [(.ref w_NO), (.ref w_YES)])) (fun t k => ?_) ?_
      · show Steps p.tables e below (T32.setTop (mkF m 24 #[.val (.int p0), .val (.int p1), .val (.int (2 : Int32)), .val (.int (0 : Int32)), .val (.ref w_YES), .unset, .unset] [(.ref w_NO)])) _
        refine XS.astore X32.here hx rfl (hb hby at_24) rfl rfl (l' := #[.val (.int p0), .val (.int p1), .val (.int (2 : Int32)), .val (.int (0 : Int32)), .val (.ref w_YES), .val (.ref w_NO), .unset]) rfl ?_
        show Steps p.tables e below (T32.setTop (mkF m 26 #[.val (.int p0), .val (.int p1), .val (.int (2 : Int32)), .val (.int (0 : Int32)), .val (.ref w_YES), .val (.ref w_NO), .unset] [])) _
        refine XS.aload X32.here hx rfl (hb hby at_26) rfl rfl ?_
        show Steps p.tables e below (T32.setTop (mkF m 28 #[.val (.int p0), .val (.int p1), .val (.int (2 : Int32)), .val (.int (0 : Int32)), .val (.ref w_YES), .val (.ref w_NO), .unset] [(.ref w_YES)])) _
        refine XS.aload X32.here hx rfl (hb hby at_28) rfl rfl ?_
        exact k
      refine Go.callV X32 hx hZ (W := 0) (argsL := [(.ref w_NO)]) (rest := []) hown (wd hw 8 rfl) (wd hw 9 rfl) (notFace_of_selects (args := #[]) (mvT hZ (wd hw 11 rfl))) (wd hw 11 rfl) (wd hw 10 rfl) (wd hw 6 rfl) (wd hw 12 rfl) (by decide) (E_YES.ext O.2) (ct_and l Z a0 hw w_NO w_UNDECIDED w_YES S_NO S_UNDECIDED S_YES E_NO E_UNDECIDED E_YES neNU neNY neUY w_YES w_NO w_NO h0 n0 O (by simp [neNU, neNY, neUY, Ne.symm neNU, Ne.symm neNY, Ne.symm neUY])) e32 (by rw [hml]; rfl) (lenOf pd__Lcom_example_tagfold_tagfold_algebra_An_1275 rfl) rfl rfl (hb hby at_30) (by decide) (by decide) (by decide) (by decide) ?_
      intro v33 T33 h33 L33 X33 e33 q33
      obtain ⟨rfl, N33, rfl⟩ := q33
      replace N33 := Fr.app N32 N33
      show Go p e below _ T33 (mkF m 33 #[.val (.int p0), .val (.int p1), .val (.int (2 : Int32)), .val (.int (0 : Int32)), .val (.ref w_YES), .val (.ref w_NO), .unset] [(.ref w_NO)])
      refine Go.by (T' := T33) (g' := (mkF m 37 #[.val (.int p0), .val (.int p1), .val (.int (2 : Int32)), .val (.int (0 : Int32)), .val (.ref w_YES), .val (.ref w_NO), .val (.ref w_NO)] [(.ref w_NO)])) (fun t k => ?_) ?_
      · show Steps p.tables e below (T33.setTop (mkF m 33 #[.val (.int p0), .val (.int p1), .val (.int (2 : Int32)), .val (.int (0 : Int32)), .val (.ref w_YES), .val (.ref w_NO), .unset] [(.ref w_NO)])) _
        refine XS.astore X33.here hx rfl (hb hby at_33) rfl rfl (l' := #[.val (.int p0), .val (.int p1), .val (.int (2 : Int32)), .val (.int (0 : Int32)), .val (.ref w_YES), .val (.ref w_NO), .val (.ref w_NO)]) rfl ?_
        show Steps p.tables e below (T33.setTop (mkF m 35 #[.val (.int p0), .val (.int p1), .val (.int (2 : Int32)), .val (.int (0 : Int32)), .val (.ref w_YES), .val (.ref w_NO), .val (.ref w_NO)] [])) _
        refine XS.aload X33.here hx rfl (hb hby at_35) rfl rfl ?_
        exact k
      refine Go.callS X33 hx hZ (W := 0) (argsL := [(.ref w_NO)]) (rest := []) hown (wd hw 14 rfl) (wd hw 15 rfl) (wd hw 3 rfl) (wd hw 16 rfl) (by decide) (ct_rank l Z a0 hw w_NO w_UNDECIDED w_YES S_NO S_UNDECIDED S_YES E_NO E_UNDECIDED E_YES neNU neNY neUY w_NO (0 : Int32) h0 n0 O (by simp [neNU, neNY, neUY, Ne.symm neNU, Ne.symm neNY, Ne.symm neUY])) e33 (by rw [hml]; rfl) (lenOf pd__Lcom_example_tagfold_tagfold_algebra_An_2213 rfl) rfl rfl (hb hby at_37) (by decide) (by decide) (by decide) (by decide) ?_
      intro v34 T34 h34 L34 X34 e34 q34
      obtain ⟨rfl, N34, rfl⟩ := q34
      replace N34 := Fr.app N33 N34
      show Go p e below _ T34 (mkF m 40 #[.val (.int p0), .val (.int p1), .val (.int (2 : Int32)), .val (.int (0 : Int32)), .val (.ref w_YES), .val (.ref w_NO), .val (.ref w_NO)] [(.int (0 : Int32))])
      refine Go.by (T' := T34) (g' := (mkF m 42 #[.val (.int p0), .val (.int p1), .val (.int (2 : Int32)), .val (.int (0 : Int32)), .val (.ref w_YES), .val (.ref w_NO), .val (.ref w_NO)] [(.int (0 : Int32)), (.int (2 : Int32)), (.int (0 : Int32))])) (fun t k => ?_) ?_
      · show Steps p.tables e below (T34.setTop (mkF m 40 #[.val (.int p0), .val (.int p1), .val (.int (2 : Int32)), .val (.int (0 : Int32)), .val (.ref w_YES), .val (.ref w_NO), .val (.ref w_NO)] [(.int (0 : Int32))])) _
        refine XS.iloadN X34.here hx rfl (hb hby at_40) rfl ?_
        show Steps p.tables e below (T34.setTop (mkF m 41 #[.val (.int p0), .val (.int p1), .val (.int (2 : Int32)), .val (.int (0 : Int32)), .val (.ref w_YES), .val (.ref w_NO), .val (.ref w_NO)] [(.int (2 : Int32)), (.int (0 : Int32))])) _
        refine XS.iloadN X34.here hx rfl (hb hby at_41) rfl ?_
        exact k
      refine Go.callS X34 hx hZ (W := 1) (argsL := [(.int (2 : Int32)), (.int (0 : Int32))]) (rest := [(.int (0 : Int32))]) hown (wd hw 17 rfl) (wd hw 18 rfl) (wd hw 19 rfl) (wd hw 20 rfl) (by decide) (ct_min l Z a0 hw w_NO w_UNDECIDED w_YES S_NO S_UNDECIDED S_YES E_NO E_UNDECIDED E_YES neNU neNY neUY (2 : Int32) (0 : Int32) (0 : Int32) h0 n0 O (by decide)) e34 (by rw [hml]; rfl) (lenOf pd__II_I_420 rfl) rfl rfl (hb hby at_42) (by decide) (by decide) (by decide) (by decide) ?_
      intro v35 T35 h35 L35 X35 e35 q35
      obtain ⟨rfl, N35, rfl⟩ := q35
      replace N35 := Fr.app N34 N35
      show Go p e below _ T35 (mkF m 45 #[.val (.int p0), .val (.int p1), .val (.int (2 : Int32)), .val (.int (0 : Int32)), .val (.ref w_YES), .val (.ref w_NO), .val (.ref w_NO)] [(.int (0 : Int32)), (.int (0 : Int32))])
      refine Go.by (T' := T35) (g' := (mkF m 53 #[.val (.int p0), .val (.int p1), .val (.int (2 : Int32)), .val (.int (0 : Int32)), .val (.ref w_YES), .val (.ref w_NO), .val (.ref w_NO)] [(.int (1 : Int32))])) (fun t k => ?_) ?_
      · show Steps p.tables e below (T35.setTop (mkF m 45 #[.val (.int p0), .val (.int p1), .val (.int (2 : Int32)), .val (.int (0 : Int32)), .val (.ref w_YES), .val (.ref w_NO), .val (.ref w_NO)] [(.int (0 : Int32)), (.int (0 : Int32))])) _
        refine XS.icmpNo X35.here hx rfl (hb hby at_45) rfl (teq (by decide : (0 : Int32) = (0 : Int32))).2 ?_
        show Steps p.tables e below (T35.setTop (mkF m 48 #[.val (.int p0), .val (.int p1), .val (.int (2 : Int32)), .val (.int (0 : Int32)), .val (.ref w_YES), .val (.ref w_NO), .val (.ref w_NO)] [])) _
        refine XS.iconst X35.here hx rfl (hb hby at_48) ?_
        show Steps p.tables e below (T35.setTop (mkF m 49 #[.val (.int p0), .val (.int p1), .val (.int (2 : Int32)), .val (.int (0 : Int32)), .val (.ref w_YES), .val (.ref w_NO), .val (.ref w_NO)] [(.int (1 : Int32))])) _
        refine XS.goto X35.here hx rfl (pc0 := 49) (pc' := 53) rfl (hb hby at_49) (by decide) (by decide) ?_
        exact k
      refine Go.retZ X35 hx hlk hret (Or.inr rfl) (hb hby at_53) (by decide) (by decide) e35 ?_
      exact ⟨rfl, N35⟩
    · skip
      rw [c]
      show Go p e below _ T0 (mkF m 14 #[.val (.int p0), .val (.int p1), .val (.int (2 : Int32)), .val (.int (1 : Int32)), .unset, .unset, .unset] [])
      refine Go.by (T' := T0) (g' := (mkF m 15 #[.val (.int p0), .val (.int p1), .val (.int (2 : Int32)), .val (.int (1 : Int32)), .unset, .unset, .unset] [(.int (2 : Int32))])) (fun t k => ?_) ?_
      · show Steps p.tables e below (T0.setTop (mkF m 14 #[.val (.int p0), .val (.int p1), .val (.int (2 : Int32)), .val (.int (1 : Int32)), .unset, .unset, .unset] [])) _
        refine XS.iloadN X0.here hx rfl (hb hby at_14) rfl ?_
        exact k
      refine Go.callS X0 hx hZ (W := 0) (argsL := [(.int (2 : Int32))]) (rest := []) hown (wd hw 1 rfl) (wd hw 2 rfl) (wd hw 3 rfl) (wd hw 4 rfl) (by decide) (ct_pick l Z a0 hw w_NO w_UNDECIDED w_YES S_NO S_UNDECIDED S_YES E_NO E_UNDECIDED E_YES neNU neNY neUY (2 : Int32) w_YES h0 n0 O (by simp)) e0 (by rw [hml]; rfl) (lenOf pd__I_Lcom_example_tagfold_tagfold_algebra__6053 rfl) rfl rfl (hb hby at_15) (by decide) (by decide) (by decide) (by decide) ?_
      intro v36 T36 h36 L36 X36 e36 q36
      obtain ⟨rfl, N36, rfl⟩ := q36
      replace N36 := Fr.app N0 N36
      show Go p e below _ T36 (mkF m 18 #[.val (.int p0), .val (.int p1), .val (.int (2 : Int32)), .val (.int (1 : Int32)), .unset, .unset, .unset] [(.ref w_YES)])
      refine Go.by (T' := T36) (g' := (mkF m 21 #[.val (.int p0), .val (.int p1), .val (.int (2 : Int32)), .val (.int (1 : Int32)), .val (.ref w_YES), .unset, .unset] [(.int (1 : Int32))])) (fun t k => ?_) ?_
      · show Steps p.tables e below (T36.setTop (mkF m 18 #[.val (.int p0), .val (.int p1), .val (.int (2 : Int32)), .val (.int (1 : Int32)), .unset, .unset, .unset] [(.ref w_YES)])) _
        refine XS.astore X36.here hx rfl (hb hby at_18) rfl rfl (l' := #[.val (.int p0), .val (.int p1), .val (.int (2 : Int32)), .val (.int (1 : Int32)), .val (.ref w_YES), .unset, .unset]) rfl ?_
        show Steps p.tables e below (T36.setTop (mkF m 20 #[.val (.int p0), .val (.int p1), .val (.int (2 : Int32)), .val (.int (1 : Int32)), .val (.ref w_YES), .unset, .unset] [])) _
        refine XS.iloadN X36.here hx rfl (hb hby at_20) rfl ?_
        exact k
      refine Go.callS X36 hx hZ (W := 0) (argsL := [(.int (1 : Int32))]) (rest := []) hown (wd hw 1 rfl) (wd hw 2 rfl) (wd hw 3 rfl) (wd hw 4 rfl) (by decide) (ct_pick l Z a0 hw w_NO w_UNDECIDED w_YES S_NO S_UNDECIDED S_YES E_NO E_UNDECIDED E_YES neNU neNY neUY (1 : Int32) w_UNDECIDED h0 n0 O (by simp)) e36 (by rw [hml]; rfl) (lenOf pd__I_Lcom_example_tagfold_tagfold_algebra__6053 rfl) rfl rfl (hb hby at_21) (by decide) (by decide) (by decide) (by decide) ?_
      intro v37 T37 h37 L37 X37 e37 q37
      obtain ⟨rfl, N37, rfl⟩ := q37
      replace N37 := Fr.app N36 N37
      show Go p e below _ T37 (mkF m 24 #[.val (.int p0), .val (.int p1), .val (.int (2 : Int32)), .val (.int (1 : Int32)), .val (.ref w_YES), .unset, .unset] [(.ref w_UNDECIDED)])
      refine Go.by (T' := T37) (g' := (mkF m 30 #[.val (.int p0), .val (.int p1), .val (.int (2 : Int32)), .val (.int (1 : Int32)), .val (.ref w_YES), .val (.ref w_UNDECIDED), .unset] [(.ref w_UNDECIDED), (.ref w_YES)])) (fun t k => ?_) ?_
      · show Steps p.tables e below (T37.setTop (mkF m 24 #[.val (.int p0), .val (.int p1), .val (.int (2 : Int32)), .val (.int (1 : Int32)), .val (.ref w_YES), .unset, .unset] [(.ref w_UNDECIDED)])) _
        refine XS.astore X37.here hx rfl (hb hby at_24) rfl rfl (l' := #[.val (.int p0), .val (.int p1), .val (.int (2 : Int32)), .val (.int (1 : Int32)), .val (.ref w_YES), .val (.ref w_UNDECIDED), .unset]) rfl ?_
        show Steps p.tables e below (T37.setTop (mkF m 26 #[.val (.int p0), .val (.int p1), .val (.int (2 : Int32)), .val (.int (1 : Int32)), .val (.ref w_YES), .val (.ref w_UNDECIDED), .unset] [])) _
        refine XS.aload X37.here hx rfl (hb hby at_26) rfl rfl ?_
        show Steps p.tables e below (T37.setTop (mkF m 28 #[.val (.int p0), .val (.int p1), .val (.int (2 : Int32)), .val (.int (1 : Int32)), .val (.ref w_YES), .val (.ref w_UNDECIDED), .unset] [(.ref w_YES)])) _
        refine XS.aload X37.here hx rfl (hb hby at_28) rfl rfl ?_
        exact k
      refine Go.callV X37 hx hZ (W := 0) (argsL := [(.ref w_UNDECIDED)]) (rest := []) hown (wd hw 8 rfl) (wd hw 9 rfl) (notFace_of_selects (args := #[]) (mvT hZ (wd hw 11 rfl))) (wd hw 11 rfl) (wd hw 10 rfl) (wd hw 6 rfl) (wd hw 12 rfl) (by decide) (E_YES.ext O.2) (ct_and l Z a0 hw w_NO w_UNDECIDED w_YES S_NO S_UNDECIDED S_YES E_NO E_UNDECIDED E_YES neNU neNY neUY w_YES w_UNDECIDED w_UNDECIDED h0 n0 O (by simp [neNU, neNY, neUY, Ne.symm neNU, Ne.symm neNY, Ne.symm neUY])) e37 (by rw [hml]; rfl) (lenOf pd__Lcom_example_tagfold_tagfold_algebra_An_1275 rfl) rfl rfl (hb hby at_30) (by decide) (by decide) (by decide) (by decide) ?_
      intro v38 T38 h38 L38 X38 e38 q38
      obtain ⟨rfl, N38, rfl⟩ := q38
      replace N38 := Fr.app N37 N38
      show Go p e below _ T38 (mkF m 33 #[.val (.int p0), .val (.int p1), .val (.int (2 : Int32)), .val (.int (1 : Int32)), .val (.ref w_YES), .val (.ref w_UNDECIDED), .unset] [(.ref w_UNDECIDED)])
      refine Go.by (T' := T38) (g' := (mkF m 37 #[.val (.int p0), .val (.int p1), .val (.int (2 : Int32)), .val (.int (1 : Int32)), .val (.ref w_YES), .val (.ref w_UNDECIDED), .val (.ref w_UNDECIDED)] [(.ref w_UNDECIDED)])) (fun t k => ?_) ?_
      · show Steps p.tables e below (T38.setTop (mkF m 33 #[.val (.int p0), .val (.int p1), .val (.int (2 : Int32)), .val (.int (1 : Int32)), .val (.ref w_YES), .val (.ref w_UNDECIDED), .unset] [(.ref w_UNDECIDED)])) _
        refine XS.astore X38.here hx rfl (hb hby at_33) rfl rfl (l' := #[.val (.int p0), .val (.int p1), .val (.int (2 : Int32)), .val (.int (1 : Int32)), .val (.ref w_YES), .val (.ref w_UNDECIDED), .val (.ref w_UNDECIDED)]) rfl ?_
        show Steps p.tables e below (T38.setTop (mkF m 35 #[.val (.int p0), .val (.int p1), .val (.int (2 : Int32)), .val (.int (1 : Int32)), .val (.ref w_YES), .val (.ref w_UNDECIDED), .val (.ref w_UNDECIDED)] [])) _
        refine XS.aload X38.here hx rfl (hb hby at_35) rfl rfl ?_
        exact k
      refine Go.callS X38 hx hZ (W := 0) (argsL := [(.ref w_UNDECIDED)]) (rest := []) hown (wd hw 14 rfl) (wd hw 15 rfl) (wd hw 3 rfl) (wd hw 16 rfl) (by decide) (ct_rank l Z a0 hw w_NO w_UNDECIDED w_YES S_NO S_UNDECIDED S_YES E_NO E_UNDECIDED E_YES neNU neNY neUY w_UNDECIDED (1 : Int32) h0 n0 O (by simp [neNU, neNY, neUY, Ne.symm neNU, Ne.symm neNY, Ne.symm neUY])) e38 (by rw [hml]; rfl) (lenOf pd__Lcom_example_tagfold_tagfold_algebra_An_2213 rfl) rfl rfl (hb hby at_37) (by decide) (by decide) (by decide) (by decide) ?_
      intro v39 T39 h39 L39 X39 e39 q39
      obtain ⟨rfl, N39, rfl⟩ := q39
      replace N39 := Fr.app N38 N39
      show Go p e below _ T39 (mkF m 40 #[.val (.int p0), .val (.int p1), .val (.int (2 : Int32)), .val (.int (1 : Int32)), .val (.ref w_YES), .val (.ref w_UNDECIDED), .val (.ref w_UNDECIDED)] [(.int (1 : Int32))])
      refine Go.by (T' := T39) (g' := (mkF m 42 #[.val (.int p0), .val (.int p1), .val (.int (2 : Int32)), .val (.int (1 : Int32)), .val (.ref w_YES), .val (.ref w_UNDECIDED), .val (.ref w_UNDECIDED)] [(.int (1 : Int32)), (.int (2 : Int32)), (.int (1 : Int32))])) (fun t k => ?_) ?_
      · show Steps p.tables e below (T39.setTop (mkF m 40 #[.val (.int p0), .val (.int p1), .val (.int (2 : Int32)), .val (.int (1 : Int32)), .val (.ref w_YES), .val (.ref w_UNDECIDED), .val (.ref w_UNDECIDED)] [(.int (1 : Int32))])) _
        refine XS.iloadN X39.here hx rfl (hb hby at_40) rfl ?_
        show Steps p.tables e below (T39.setTop (mkF m 41 #[.val (.int p0), .val (.int p1), .val (.int (2 : Int32)), .val (.int (1 : Int32)), .val (.ref w_YES), .val (.ref w_UNDECIDED), .val (.ref w_UNDECIDED)] [(.int (2 : Int32)), (.int (1 : Int32))])) _
        refine XS.iloadN X39.here hx rfl (hb hby at_41) rfl ?_
        exact k
      refine Go.callS X39 hx hZ (W := 1) (argsL := [(.int (2 : Int32)), (.int (1 : Int32))]) (rest := [(.int (1 : Int32))]) hown (wd hw 17 rfl) (wd hw 18 rfl) (wd hw 19 rfl) (wd hw 20 rfl) (by decide) (ct_min l Z a0 hw w_NO w_UNDECIDED w_YES S_NO S_UNDECIDED S_YES E_NO E_UNDECIDED E_YES neNU neNY neUY (2 : Int32) (1 : Int32) (1 : Int32) h0 n0 O (by decide)) e39 (by rw [hml]; rfl) (lenOf pd__II_I_420 rfl) rfl rfl (hb hby at_42) (by decide) (by decide) (by decide) (by decide) ?_
      intro v40 T40 h40 L40 X40 e40 q40
      obtain ⟨rfl, N40, rfl⟩ := q40
      replace N40 := Fr.app N39 N40
      show Go p e below _ T40 (mkF m 45 #[.val (.int p0), .val (.int p1), .val (.int (2 : Int32)), .val (.int (1 : Int32)), .val (.ref w_YES), .val (.ref w_UNDECIDED), .val (.ref w_UNDECIDED)] [(.int (1 : Int32)), (.int (1 : Int32))])
      refine Go.by (T' := T40) (g' := (mkF m 53 #[.val (.int p0), .val (.int p1), .val (.int (2 : Int32)), .val (.int (1 : Int32)), .val (.ref w_YES), .val (.ref w_UNDECIDED), .val (.ref w_UNDECIDED)] [(.int (1 : Int32))])) (fun t k => ?_) ?_
      · show Steps p.tables e below (T40.setTop (mkF m 45 #[.val (.int p0), .val (.int p1), .val (.int (2 : Int32)), .val (.int (1 : Int32)), .val (.ref w_YES), .val (.ref w_UNDECIDED), .val (.ref w_UNDECIDED)] [(.int (1 : Int32)), (.int (1 : Int32))])) _
        refine XS.icmpNo X40.here hx rfl (hb hby at_45) rfl (teq (by decide : (1 : Int32) = (1 : Int32))).2 ?_
        show Steps p.tables e below (T40.setTop (mkF m 48 #[.val (.int p0), .val (.int p1), .val (.int (2 : Int32)), .val (.int (1 : Int32)), .val (.ref w_YES), .val (.ref w_UNDECIDED), .val (.ref w_UNDECIDED)] [])) _
        refine XS.iconst X40.here hx rfl (hb hby at_48) ?_
        show Steps p.tables e below (T40.setTop (mkF m 49 #[.val (.int p0), .val (.int p1), .val (.int (2 : Int32)), .val (.int (1 : Int32)), .val (.ref w_YES), .val (.ref w_UNDECIDED), .val (.ref w_UNDECIDED)] [(.int (1 : Int32))])) _
        refine XS.goto X40.here hx rfl (pc0 := 49) (pc' := 53) rfl (hb hby at_49) (by decide) (by decide) ?_
        exact k
      refine Go.retZ X40 hx hlk hret (Or.inr rfl) (hb hby at_53) (by decide) (by decide) e40 ?_
      exact ⟨rfl, N40⟩
    · skip
      rw [c]
      show Go p e below _ T0 (mkF m 14 #[.val (.int p0), .val (.int p1), .val (.int (2 : Int32)), .val (.int (2 : Int32)), .unset, .unset, .unset] [])
      refine Go.by (T' := T0) (g' := (mkF m 15 #[.val (.int p0), .val (.int p1), .val (.int (2 : Int32)), .val (.int (2 : Int32)), .unset, .unset, .unset] [(.int (2 : Int32))])) (fun t k => ?_) ?_
      · show Steps p.tables e below (T0.setTop (mkF m 14 #[.val (.int p0), .val (.int p1), .val (.int (2 : Int32)), .val (.int (2 : Int32)), .unset, .unset, .unset] [])) _
        refine XS.iloadN X0.here hx rfl (hb hby at_14) rfl ?_
        exact k
      refine Go.callS X0 hx hZ (W := 0) (argsL := [(.int (2 : Int32))]) (rest := []) hown (wd hw 1 rfl) (wd hw 2 rfl) (wd hw 3 rfl) (wd hw 4 rfl) (by decide) (ct_pick l Z a0 hw w_NO w_UNDECIDED w_YES S_NO S_UNDECIDED S_YES E_NO E_UNDECIDED E_YES neNU neNY neUY (2 : Int32) w_YES h0 n0 O (by simp)) e0 (by rw [hml]; rfl) (lenOf pd__I_Lcom_example_tagfold_tagfold_algebra__6053 rfl) rfl rfl (hb hby at_15) (by decide) (by decide) (by decide) (by decide) ?_
      intro v41 T41 h41 L41 X41 e41 q41
      obtain ⟨rfl, N41, rfl⟩ := q41
      replace N41 := Fr.app N0 N41
      show Go p e below _ T41 (mkF m 18 #[.val (.int p0), .val (.int p1), .val (.int (2 : Int32)), .val (.int (2 : Int32)), .unset, .unset, .unset] [(.ref w_YES)])
      refine Go.by (T' := T41) (g' := (mkF m 21 #[.val (.int p0), .val (.int p1), .val (.int (2 : Int32)), .val (.int (2 : Int32)), .val (.ref w_YES), .unset, .unset] [(.int (2 : Int32))])) (fun t k => ?_) ?_
      · show Steps p.tables e below (T41.setTop (mkF m 18 #[.val (.int p0), .val (.int p1), .val (.int (2 : Int32)), .val (.int (2 : Int32)), .unset, .unset, .unset] [(.ref w_YES)])) _
        refine XS.astore X41.here hx rfl (hb hby at_18) rfl rfl (l' := #[.val (.int p0), .val (.int p1), .val (.int (2 : Int32)), .val (.int (2 : Int32)), .val (.ref w_YES), .unset, .unset]) rfl ?_
        show Steps p.tables e below (T41.setTop (mkF m 20 #[.val (.int p0), .val (.int p1), .val (.int (2 : Int32)), .val (.int (2 : Int32)), .val (.ref w_YES), .unset, .unset] [])) _
        refine XS.iloadN X41.here hx rfl (hb hby at_20) rfl ?_
        exact k
      refine Go.callS X41 hx hZ (W := 0) (argsL := [(.int (2 : Int32))]) (rest := []) hown (wd hw 1 rfl) (wd hw 2 rfl) (wd hw 3 rfl) (wd hw 4 rfl) (by decide) (ct_pick l Z a0 hw w_NO w_UNDECIDED w_YES S_NO S_UNDECIDED S_YES E_NO E_UNDECIDED E_YES neNU neNY neUY (2 : Int32) w_YES h0 n0 O (by simp)) e41 (by rw [hml]; rfl) (lenOf pd__I_Lcom_example_tagfold_tagfold_algebra__6053 rfl) rfl rfl (hb hby at_21) (by decide) (by decide) (by decide) (by decide) ?_
      intro v42 T42 h42 L42 X42 e42 q42
      obtain ⟨rfl, N42, rfl⟩ := q42
      replace N42 := Fr.app N41 N42
      show Go p e below _ T42 (mkF m 24 #[.val (.int p0), .val (.int p1), .val (.int (2 : Int32)), .val (.int (2 : Int32)), .val (.ref w_YES), .unset, .unset] [(.ref w_YES)])
      refine Go.by (T' := T42) (g' := (mkF m 30 #[.val (.int p0), .val (.int p1), .val (.int (2 : Int32)), .val (.int (2 : Int32)), .val (.ref w_YES), .val (.ref w_YES), .unset] [(.ref w_YES), (.ref w_YES)])) (fun t k => ?_) ?_
      · show Steps p.tables e below (T42.setTop (mkF m 24 #[.val (.int p0), .val (.int p1), .val (.int (2 : Int32)), .val (.int (2 : Int32)), .val (.ref w_YES), .unset, .unset] [(.ref w_YES)])) _
        refine XS.astore X42.here hx rfl (hb hby at_24) rfl rfl (l' := #[.val (.int p0), .val (.int p1), .val (.int (2 : Int32)), .val (.int (2 : Int32)), .val (.ref w_YES), .val (.ref w_YES), .unset]) rfl ?_
        show Steps p.tables e below (T42.setTop (mkF m 26 #[.val (.int p0), .val (.int p1), .val (.int (2 : Int32)), .val (.int (2 : Int32)), .val (.ref w_YES), .val (.ref w_YES), .unset] [])) _
        refine XS.aload X42.here hx rfl (hb hby at_26) rfl rfl ?_
        show Steps p.tables e below (T42.setTop (mkF m 28 #[.val (.int p0), .val (.int p1), .val (.int (2 : Int32)), .val (.int (2 : Int32)), .val (.ref w_YES), .val (.ref w_YES), .unset] [(.ref w_YES)])) _
        refine XS.aload X42.here hx rfl (hb hby at_28) rfl rfl ?_
        exact k
      refine Go.callV X42 hx hZ (W := 0) (argsL := [(.ref w_YES)]) (rest := []) hown (wd hw 8 rfl) (wd hw 9 rfl) (notFace_of_selects (args := #[]) (mvT hZ (wd hw 11 rfl))) (wd hw 11 rfl) (wd hw 10 rfl) (wd hw 6 rfl) (wd hw 12 rfl) (by decide) (E_YES.ext O.2) (ct_and l Z a0 hw w_NO w_UNDECIDED w_YES S_NO S_UNDECIDED S_YES E_NO E_UNDECIDED E_YES neNU neNY neUY w_YES w_YES w_YES h0 n0 O (by simp [neNU, neNY, neUY, Ne.symm neNU, Ne.symm neNY, Ne.symm neUY])) e42 (by rw [hml]; rfl) (lenOf pd__Lcom_example_tagfold_tagfold_algebra_An_1275 rfl) rfl rfl (hb hby at_30) (by decide) (by decide) (by decide) (by decide) ?_
      intro v43 T43 h43 L43 X43 e43 q43
      obtain ⟨rfl, N43, rfl⟩ := q43
      replace N43 := Fr.app N42 N43
      show Go p e below _ T43 (mkF m 33 #[.val (.int p0), .val (.int p1), .val (.int (2 : Int32)), .val (.int (2 : Int32)), .val (.ref w_YES), .val (.ref w_YES), .unset] [(.ref w_YES)])
      refine Go.by (T' := T43) (g' := (mkF m 37 #[.val (.int p0), .val (.int p1), .val (.int (2 : Int32)), .val (.int (2 : Int32)), .val (.ref w_YES), .val (.ref w_YES), .val (.ref w_YES)] [(.ref w_YES)])) (fun t k => ?_) ?_
      · show Steps p.tables e below (T43.setTop (mkF m 33 #[.val (.int p0), .val (.int p1), .val (.int (2 : Int32)), .val (.int (2 : Int32)), .val (.ref w_YES), .val (.ref w_YES), .unset] [(.ref w_YES)])) _
        refine XS.astore X43.here hx rfl (hb hby at_33) rfl rfl (l' := #[.val (.int p0), .val (.int p1), .val (.int (2 : Int32)), .val (.int (2 : Int32)), .val (.ref w_YES), .val (.ref w_YES), .val (.ref w_YES)]) rfl ?_
        show Steps p.tables e below (T43.setTop (mkF m 35 #[.val (.int p0), .val (.int p1), .val (.int (2 : Int32)), .val (.int (2 : Int32)), .val (.ref w_YES), .val (.ref w_YES), .val (.ref w_YES)] [])) _
        refine XS.aload X43.here hx rfl (hb hby at_35) rfl rfl ?_
        exact k
      refine Go.callS X43 hx hZ (W := 0) (argsL := [(.ref w_YES)]) (rest := []) hown (wd hw 14 rfl) (wd hw 15 rfl) (wd hw 3 rfl) (wd hw 16 rfl) (by decide) (ct_rank l Z a0 hw w_NO w_UNDECIDED w_YES S_NO S_UNDECIDED S_YES E_NO E_UNDECIDED E_YES neNU neNY neUY w_YES (2 : Int32) h0 n0 O (by simp [neNU, neNY, neUY, Ne.symm neNU, Ne.symm neNY, Ne.symm neUY])) e43 (by rw [hml]; rfl) (lenOf pd__Lcom_example_tagfold_tagfold_algebra_An_2213 rfl) rfl rfl (hb hby at_37) (by decide) (by decide) (by decide) (by decide) ?_
      intro v44 T44 h44 L44 X44 e44 q44
      obtain ⟨rfl, N44, rfl⟩ := q44
      replace N44 := Fr.app N43 N44
      show Go p e below _ T44 (mkF m 40 #[.val (.int p0), .val (.int p1), .val (.int (2 : Int32)), .val (.int (2 : Int32)), .val (.ref w_YES), .val (.ref w_YES), .val (.ref w_YES)] [(.int (2 : Int32))])
      refine Go.by (T' := T44) (g' := (mkF m 42 #[.val (.int p0), .val (.int p1), .val (.int (2 : Int32)), .val (.int (2 : Int32)), .val (.ref w_YES), .val (.ref w_YES), .val (.ref w_YES)] [(.int (2 : Int32)), (.int (2 : Int32)), (.int (2 : Int32))])) (fun t k => ?_) ?_
      · show Steps p.tables e below (T44.setTop (mkF m 40 #[.val (.int p0), .val (.int p1), .val (.int (2 : Int32)), .val (.int (2 : Int32)), .val (.ref w_YES), .val (.ref w_YES), .val (.ref w_YES)] [(.int (2 : Int32))])) _
        refine XS.iloadN X44.here hx rfl (hb hby at_40) rfl ?_
        show Steps p.tables e below (T44.setTop (mkF m 41 #[.val (.int p0), .val (.int p1), .val (.int (2 : Int32)), .val (.int (2 : Int32)), .val (.ref w_YES), .val (.ref w_YES), .val (.ref w_YES)] [(.int (2 : Int32)), (.int (2 : Int32))])) _
        refine XS.iloadN X44.here hx rfl (hb hby at_41) rfl ?_
        exact k
      refine Go.callS X44 hx hZ (W := 1) (argsL := [(.int (2 : Int32)), (.int (2 : Int32))]) (rest := [(.int (2 : Int32))]) hown (wd hw 17 rfl) (wd hw 18 rfl) (wd hw 19 rfl) (wd hw 20 rfl) (by decide) (ct_min l Z a0 hw w_NO w_UNDECIDED w_YES S_NO S_UNDECIDED S_YES E_NO E_UNDECIDED E_YES neNU neNY neUY (2 : Int32) (2 : Int32) (2 : Int32) h0 n0 O (by decide)) e44 (by rw [hml]; rfl) (lenOf pd__II_I_420 rfl) rfl rfl (hb hby at_42) (by decide) (by decide) (by decide) (by decide) ?_
      intro v45 T45 h45 L45 X45 e45 q45
      obtain ⟨rfl, N45, rfl⟩ := q45
      replace N45 := Fr.app N44 N45
      show Go p e below _ T45 (mkF m 45 #[.val (.int p0), .val (.int p1), .val (.int (2 : Int32)), .val (.int (2 : Int32)), .val (.ref w_YES), .val (.ref w_YES), .val (.ref w_YES)] [(.int (2 : Int32)), (.int (2 : Int32))])
      refine Go.by (T' := T45) (g' := (mkF m 53 #[.val (.int p0), .val (.int p1), .val (.int (2 : Int32)), .val (.int (2 : Int32)), .val (.ref w_YES), .val (.ref w_YES), .val (.ref w_YES)] [(.int (1 : Int32))])) (fun t k => ?_) ?_
      · show Steps p.tables e below (T45.setTop (mkF m 45 #[.val (.int p0), .val (.int p1), .val (.int (2 : Int32)), .val (.int (2 : Int32)), .val (.ref w_YES), .val (.ref w_YES), .val (.ref w_YES)] [(.int (2 : Int32)), (.int (2 : Int32))])) _
        refine XS.icmpNo X45.here hx rfl (hb hby at_45) rfl (teq (by decide : (2 : Int32) = (2 : Int32))).2 ?_
        show Steps p.tables e below (T45.setTop (mkF m 48 #[.val (.int p0), .val (.int p1), .val (.int (2 : Int32)), .val (.int (2 : Int32)), .val (.ref w_YES), .val (.ref w_YES), .val (.ref w_YES)] [])) _
        refine XS.iconst X45.here hx rfl (hb hby at_48) ?_
        show Steps p.tables e below (T45.setTop (mkF m 49 #[.val (.int p0), .val (.int p1), .val (.int (2 : Int32)), .val (.int (2 : Int32)), .val (.ref w_YES), .val (.ref w_YES), .val (.ref w_YES)] [(.int (1 : Int32))])) _
        refine XS.goto X45.here hx rfl (pc0 := 49) (pc' := 53) rfl (hb hby at_49) (by decide) (by decide) ?_
        exact k
      refine Go.retZ X45 hx hlk hret (Or.inr rfl) (hb hby at_53) (by decide) (by decide) e45 ?_
      exact ⟨rfl, N45⟩
set_option maxRecDepth 65536 in
set_option maxHeartbeats 40000000 in
theorem comes_1 {Post : Tables → Env → Array Value → State → Outcome → State → Prop} (hpost : ∀ tb e args s v u, (limb_1_1.after args s (.returned v) u = true ∧ limb_1_2.after args s (.returned v) u = true ∧ True) → FrameEnd s (.returned v) u (Jvm.fieldLocs frame_1_writes args s ++ Jvm.arrayLocs frame_1_arrays args s ++ Jvm.staticLocs frame_1_statics s) 0 0 → Post tb e args s (.returned v) u) :
    ArmFor flags0 classFile x code maxLocals ret World_1 tables_1 room_1 Calls_1 rest_1 Pre_1 Post := by
  intro l hfl _ _ p e ha hc hk s m args below hf hA hF happ hP
  obtain ⟨hcalls, hrest, hpre⟩ := hP
  obtain ⟨-, -, -, hnamed, -, -, -, hat⟩ := (Spec.applies_iff hf).mp happ
  obtain ⟨hg, hn⟩ := and_e (Cond.before_iff.mp (show (Jvm.Cond.and given_1 narrow_1).before args s = true from hpre))
  obtain ⟨hcnt, hg⟩ := and_e hg
  obtain ⟨ha0, hg⟩ := and_e hg
  have ha1 := hg
  obtain ⟨u0, u1, rfl⟩ : ∃ u0 u1 : Value, args = #[u0, u1] := by
    have hs : args.size = 2 := by simpa [Cond.value] using hcnt
    obtain ⟨L⟩ := args
    match L, hs with
    | [u0, u1], _ => exact ⟨u0, u1, rfl⟩
  have hw := fun d (hd : d ∈ tables_1) => atoms_spec (ws := Jvm.Cond.code x code maxLocals ret :: tables_1) hat d (List.mem_cons_of_mem _ hd)
  have hfit : Fit s := fun {y c} hc i hi => by
    obtain ⟨ha, rfl⟩ := Array.getElem?_eq_some_iff.mp hc
    have q := List.all_eq_true.mp ((Array.all_eq_true_iff_forall_mem.mp hF) _ (Array.getElem_mem ha)) i (List.mem_range.mpr hi)
    simpa [Array.getElem?_eq_getElem hi] using q
  obtain ⟨i0, ei0⟩ := is_v ha0
  obtain rfl : u0 = (.int i0) := Option.some.inj ei0
  obtain ⟨i1, ei1⟩ := is_v ha1
  obtain rfl : u1 = (.int i1) := Option.some.inj ei1
  obtain ⟨n1, hn⟩ := and_e hn
  obtain ⟨n2, hn⟩ := and_e hn
  obtain ⟨n3, hn⟩ := and_e hn
  obtain ⟨n4, hn⟩ := and_e hn
  obtain ⟨n5, hn⟩ := and_e hn
  obtain ⟨w_NO, ev_NO⟩ := exa_v n1
  have S_NO := Sta.start ev_NO (Or.inr ⟨(wd hw 6 rfl), (wd hw 7 rfl)⟩)
  have E_NO := Exa.start ev_NO n1
  obtain ⟨w_YES, ev_YES⟩ := exa_v n2
  have S_YES := Sta.start ev_YES (Or.inr ⟨(wd hw 6 rfl), (wd hw 22 rfl)⟩)
  have E_YES := Exa.start ev_YES n2
  obtain ⟨w_UNDECIDED, ev_UNDECIDED⟩ := exa_v n3
  have S_UNDECIDED := Sta.start ev_UNDECIDED (Or.inr ⟨(wd hw 6 rfl), (wd hw 24 rfl)⟩)
  have E_UNDECIDED := Exa.start ev_UNDECIDED n3
  have F_YES := Fld.start ((fld_at ev_YES).symm.trans (eqI_v n4))
  have F_NO := Fld.start ((fld_at ev_NO).symm.trans (eqI_v n5))
  have F_UNDECIDED := Fld.start ((fld_at ev_UNDECIDED).symm.trans (eqI_v hn))
  have neNU := Fld.ne F_NO F_UNDECIDED (by simp)
  have neNY := Fld.ne F_NO F_YES (by simp)
  have neUY := Fld.ne F_UNDECIDED F_YES (by simp)
  obtain ⟨n, o, h1, h2, h3, _, L, rfl, ⟨rfl, N⟩, hq⟩ := ct_law l s _ hw w_NO w_UNDECIDED w_YES S_NO S_UNDECIDED S_YES E_NO E_UNDECIDED E_YES neNU neNY neUY i0 i1 s.heap s.heap.size (Old.start s)  tables_1 p e ha hc hk s m _ below hf ((Spec.applies_iff_loose hf).mp happ).1 ⟨rfl, State.Warmed39.refl s, rfl⟩ trivial
  refine ⟨n, _, h1, h2, h3, hpost _ _ _ _ _ _ ⟨Cond.after_iff.mpr rfl, Cond.after_iff.mpr (eq_i res_at (Term.int_eval (1)) rfl), trivial⟩ ⟨hq.1, hq.2.1, (hq.2.2.sift fun y hy => Or.inr (N y hy)).mono (by decide) (by decide)⟩⟩
theorem main_1_1 : Claimed_1_1 := comes_1 fun _ _ _ _ _ _ h hF => ⟨h.1, hF⟩
theorem main_1_2 : Claimed_1_2 := comes_1 fun _ _ _ _ _ _ h hF => ⟨h.2.1, hF⟩
end Jvm.Pilot.@@N@@
namespace Jvm.Pilot.@@N@@
open Jvm Jvm.ClassFile Sem Op Lib Jvm.Free Jvm.Stand Jvm.Pilot.@@N@@.Jvm.D
/-! MADE BY PROGRAM (witnessworld.py) out of the Statement's table words and the real class files: 13 classes; the members and pool entries that the words name. The judged class is class 1, her method 3. -/
namespace start1
open Jvm.ClassFile
def u (s : String) : CpInfo := .utf8 (stringToUtf16 s)
/-- a pool by its gaps: so many unusable entries, then the entry; so many at the end -/
def gap : Nat → List CpInfo → List CpInfo
  | 0, r => r
  | n + 1, r => .unusable :: gap n r
def poolList (es : List (Nat × CpInfo)) (last : Nat) : List CpInfo := es.foldr (fun e r => gap e.1 (e.2 :: r)) (gap last [])
def pool (es : List (Nat × CpInfo)) (last : Nat) : Array CpInfo := ⟨poolList es last⟩
def fileOf (pool : Array CpInfo) (this : Nat) (attrs : Array Attribute := #[]) (ms : Array MethodInfo := #[]) (fl : Nat := 33) (sup : Nat := 0) (ifs : Array Nat := #[]) (fds : Array FieldInfo := #[]) : ClassFile where
  minorVersion := 0
  majorVersion := 65
  constantPool := pool
  accessFlags := fl
  thisClass := this
  superClass := sup
  interfaces := ifs
  fields := fds
  methods := ms
  attributes := attrs
def plain (name : String) (sup : Option ClassId) : Class where
  name := name
  kind := .ordinary
  loader := none
  accessFlags := 33
  super := sup
  interfaces := #[]
  cf := none
  fields := #[]
  methods := #[]
  instanceTypes := #[]
  staticTypes := #[]
  resolved := #[]
  callSites := []
  init := .initialized
  statics := none
  mirror := none

def pool0 : Array CpInfo := pool [(5, u "<init>"), (0, u "()V"), (1, .class_ 10), (1, u "java/lang/Object")] 113

def k0m0 : Method := { name := "<init>", desc := "()V", sig := { parameters := [], returnType := none }, accessFlags := 1, code := none }
/-- java/lang/Object -/
def k0 : Class := { plain "java/lang/Object" none with
  accessFlags := 33
  interfaces := #[]
  cf := some (fileOf pool0 8 #[] #[{ accessFlags := 1, nameIndex := 5, descriptorIndex := 6, attributes := #[] }] 33 0 #[] #[])
  fields := #[]
  methods := #[k0m0]
  instanceTypes := #[]
  staticTypes := #[]
  resolved := Array.replicate 124 none
  statics := none }

def pool1 : Array CpInfo := pool [(2, .class_ 4), (1, u "java/lang/Object"), (0, u "<init>"), (0, u "()V"), (0, .fieldref 8 9), (0, .class_ 10), (0, .nameAndType 11 12), (0, u "com/example/tagfold/tagfold/algebra/Answer"), (0, u "NO"), (0, u "Lcom/example/tagfold/tagfold/algebra/Answer;"), (0, .fieldref 8 14), (0, .nameAndType 15 12), (0, u "UNDECIDED"), (0, .fieldref 8 17), (0, .nameAndType 18 12), (0, u "YES"), (0, .integer 2147483647), (0, .methodref 21 22), (0, .class_ 23), (0, .nameAndType 24 25), (0, u "com/example/tagfold/tagfold/algebra/AnswerAndPinLaw"), (0, u "pick"), (0, u "(I)Lcom/example/tagfold/tagfold/algebra/Answer;"), (0, .methodref 8 27), (0, .nameAndType 28 29), (0, u "and"), (0, u "(Lcom/example/tagfold/tagfold/algebra/Answer;)Lcom/example/tagfold/tagfold/algebra/Answer;"), (0, .methodref 21 31), (0, .nameAndType 32 33), (0, u "rank"), (0, u "(Lcom/example/tagfold/tagfold/algebra/Answer;)I"), (0, .methodref 35 36), (0, .class_ 37), (0, .nameAndType 38 39), (0, u "java/lang/Math"), (0, u "min"), (0, u "(II)I"), (3, u "law"), (0, u "(II)Z")] 2

def k1m0 : Method := { name := "<init>", desc := "()V", sig := { parameters := [], returnType := none }, accessFlags := 1, code := none }
def k1c1 : Code := { maxStack := 2, maxLocals := 1, code := method_2_code, exceptionTable := #[], attributes := #[] }
def k1m1 : Method := { name := "pick", desc := "(I)Lcom/example/tagfold/tagfold/algebra/Answer;", sig := { parameters := [.int], returnType := some (.object "com/example/tagfold/tagfold/algebra/Answer") }, accessFlags := 10, code := some k1c1 }
def k1c2 : Code := { maxStack := 2, maxLocals := 1, code := method_3_code, exceptionTable := #[], attributes := #[] }
def k1m2 : Method := { name := "rank", desc := "(Lcom/example/tagfold/tagfold/algebra/Answer;)I", sig := { parameters := [(.object "com/example/tagfold/tagfold/algebra/Answer")], returnType := some .int }, accessFlags := 10, code := some k1c2 }
def k1c3 : Code := { maxStack := 3, maxLocals := 7, code := code, exceptionTable := #[], attributes := #[] }
def k1m3 : Method := { name := "law", desc := "(II)Z", sig := { parameters := [.int, .int], returnType := some .boolean }, accessFlags := 9, code := some k1c3 }
/-- com/example/tagfold/tagfold/algebra/AnswerAndPinLaw -/
def k1 : Class := { plain "com/example/tagfold/tagfold/algebra/AnswerAndPinLaw" (some 0) with
  accessFlags := 49
  interfaces := #[]
  cf := some (fileOf pool1 21 #[] #[{ accessFlags := 1, nameIndex := 5, descriptorIndex := 6, attributes := #[] }, { accessFlags := 10, nameIndex := 24, descriptorIndex := 25, attributes := #[] }, { accessFlags := 10, nameIndex := 32, descriptorIndex := 33, attributes := #[] }, { accessFlags := 9, nameIndex := 43, descriptorIndex := 44, attributes := #[] }] 49 2 #[] #[])
  fields := #[]
  methods := #[k1m0, k1m1, k1m2, k1m3]
  instanceTypes := #[]
  staticTypes := #[]
  resolved := Array.replicate 47 none
  statics := none }

def pool2 : Array CpInfo := pool [(1, .class_ 2), (0, u "java/lang/constant/Constable"), (0, .class_ 4), (0, u "java/lang/Object")] 6

/-- java/lang/constant/Constable -/
def k2 : Class := { plain "java/lang/constant/Constable" (some 0) with
  accessFlags := 1537
  interfaces := #[]
  cf := some (fileOf pool2 1 #[] #[] 1537 3 #[] #[])
  fields := #[]
  methods := #[]
  instanceTypes := #[]
  staticTypes := #[]
  resolved := Array.replicate 11 none
  statics := none }

def pool3 : Array CpInfo := pool [(1, .class_ 2), (0, u "java/lang/Comparable"), (0, .class_ 4), (0, u "java/lang/Object")] 7

/-- java/lang/Comparable -/
def k3 : Class := { plain "java/lang/Comparable" (some 0) with
  accessFlags := 1537
  interfaces := #[]
  cf := some (fileOf pool3 1 #[] #[] 1537 3 #[] #[])
  fields := #[]
  methods := #[]
  instanceTypes := #[]
  staticTypes := #[]
  resolved := Array.replicate 12 none
  statics := none }

def pool4 : Array CpInfo := pool [(1, .class_ 2), (0, u "java/io/Serializable"), (0, .class_ 4), (0, u "java/lang/Object")] 2

/-- java/io/Serializable -/
def k4 : Class := { plain "java/io/Serializable" (some 0) with
  accessFlags := 1537
  interfaces := #[]
  cf := some (fileOf pool4 1 #[] #[] 1537 3 #[] #[])
  fields := #[]
  methods := #[]
  instanceTypes := #[]
  staticTypes := #[]
  resolved := Array.replicate 7 none
  statics := none }

def pool5 : Array CpInfo := pool [(2, .class_ 4), (1, u "java/lang/Enum"), (0, u "name"), (0, u "Ljava/lang/String;"), (2, u "ordinal"), (0, u "I"), (1, .class_ 14), (1, u "java/lang/Object"), (4, u "hash"), (86, .class_ 108), (1, u "java/lang/Enum$EnumDesc"), (2, .class_ 112), (0, u "java/lang/constant/Constable"), (0, .class_ 114), (0, u "java/lang/Comparable"), (0, .class_ 116), (0, u "java/io/Serializable")] 87

/-- java/lang/Enum -/
def k5 : Class := { plain "java/lang/Enum" (some 0) with
  accessFlags := 1057
  interfaces := #[2, 3, 4]
  cf := some (fileOf pool5 2 #[.nestMembers #[106]] #[] 1057 12 #[111, 113, 115] #[{ accessFlags := 18, nameIndex := 5, descriptorIndex := 6, attributes := #[] }, { accessFlags := 18, nameIndex := 9, descriptorIndex := 10, attributes := #[] }, { accessFlags := 2, nameIndex := 19, descriptorIndex := 10, attributes := #[] }])
  fields := #[{ name := "name", type := (.object "java/lang/String"), accessFlags := 18, slot := 0, constantValue := 0 }, { name := "ordinal", type := .int, accessFlags := 18, slot := 1, constantValue := 0 }, { name := "hash", type := .int, accessFlags := 2, slot := 2, constantValue := 0 }]
  methods := #[]
  instanceTypes := #[(.object "java/lang/String"), .int, .int]
  staticTypes := #[]
  resolved := Array.replicate 204 none
  statics := none }

def pool6 : Array CpInfo := pool [(1, .class_ 2), (0, u "com/example/tagfold/tagfold/algebra/Answer"), (0, .fieldref 1 4), (0, .nameAndType 5 6), (0, u "YES"), (0, u "Lcom/example/tagfold/tagfold/algebra/Answer;"), (0, .fieldref 1 8), (0, .nameAndType 9 6), (0, u "NO"), (0, .fieldref 1 11), (0, .nameAndType 12 6), (0, u "UNDECIDED"), (2, u "$VALUES"), (0, u "[Lcom/example/tagfold/tagfold/algebra/Answer;"), (6, .class_ 25), (1, u "java/lang/Enum"), (24, u "and"), (0, u "(Lcom/example/tagfold/tagfold/algebra/Answer;)Lcom/example/tagfold/tagfold/algebra/Answer;")] 4

def k6c0 : Code := { maxStack := 2, maxLocals := 2, code := prog_25_method_5_code, exceptionTable := #[], attributes := #[] }
def k6m0 : Method := { name := "and", desc := "(Lcom/example/tagfold/tagfold/algebra/Answer;)Lcom/example/tagfold/tagfold/algebra/Answer;", sig := { parameters := [(.object "com/example/tagfold/tagfold/algebra/Answer")], returnType := some (.object "com/example/tagfold/tagfold/algebra/Answer") }, accessFlags := 0, code := some k6c0 }
/-- com/example/tagfold/tagfold/algebra/Answer -/
def k6 : Class := { plain "com/example/tagfold/tagfold/algebra/Answer" (some 5) with
  accessFlags := 16433
  interfaces := #[]
  cf := some (fileOf pool6 1 #[] #[{ accessFlags := 0, nameIndex := 50, descriptorIndex := 51, attributes := #[] }] 16433 23 #[] #[{ accessFlags := 16409, nameIndex := 5, descriptorIndex := 6, attributes := #[] }, { accessFlags := 16409, nameIndex := 9, descriptorIndex := 6, attributes := #[] }, { accessFlags := 16409, nameIndex := 12, descriptorIndex := 6, attributes := #[] }, { accessFlags := 4122, nameIndex := 15, descriptorIndex := 16, attributes := #[] }])
  fields := #[{ name := "YES", type := (.object "com/example/tagfold/tagfold/algebra/Answer"), accessFlags := 16409, slot := 0, constantValue := 0 }, { name := "NO", type := (.object "com/example/tagfold/tagfold/algebra/Answer"), accessFlags := 16409, slot := 1, constantValue := 0 }, { name := "UNDECIDED", type := (.object "com/example/tagfold/tagfold/algebra/Answer"), accessFlags := 16409, slot := 2, constantValue := 0 }, { name := "$VALUES", type := (.array (.object "com/example/tagfold/tagfold/algebra/Answer")), accessFlags := 4122, slot := 3, constantValue := 0 }]
  methods := #[k6m0]
  instanceTypes := #[(.object "java/lang/String"), .int, .int]
  staticTypes := #[(.object "com/example/tagfold/tagfold/algebra/Answer"), (.object "com/example/tagfold/tagfold/algebra/Answer"), (.object "com/example/tagfold/tagfold/algebra/Answer"), (.array (.object "com/example/tagfold/tagfold/algebra/Answer"))]
  resolved := Array.replicate 56 none
  statics := some 0 }

def pool7 : Array CpInfo := pool [(1, .class_ 2), (0, u "java/lang/Math"), (1, .class_ 6), (1, u "java/lang/Object"), (0, u "<init>"), (0, u "()V"), (89, .class_ 100), (1, u "java/lang/Math$RandomNumberGeneratorHolder"), (71, u "negativeZeroFloatBits"), (0, u "J"), (2, u "negativeZeroDoubleBits"), (24, u "min"), (43, u "$assertionsDisabled"), (0, u "Z"), (88, u "(II)I"), (2, u "twoToTheDoubleScaleDown"), (0, u "D"), (4, u "twoToTheDoubleScaleUp"), (9, u "E"), (3, u "PI"), (2, u "TAU"), (2, u "DEGREES_TO_RADIANS"), (0, u "RADIANS_TO_DEGREES")] 94

def k7m0 : Method := { name := "<init>", desc := "()V", sig := { parameters := [], returnType := none }, accessFlags := 2, code := none }
def k7c1 : Code := { maxStack := 2, maxLocals := 2, code := jdk_29_method_69_code, exceptionTable := #[], attributes := #[] }
def k7m1 : Method := { name := "min", desc := "(II)I", sig := { parameters := [.int, .int], returnType := some .int }, accessFlags := 9, code := some k7c1 }
/-- java/lang/Math -/
def k7 : Class := { plain "java/lang/Math" (some 0) with
  accessFlags := 49
  interfaces := #[]
  cf := some (fileOf pool7 1 #[.nestMembers #[98]] #[{ accessFlags := 2, nameIndex := 7, descriptorIndex := 8, attributes := #[] }, { accessFlags := 9, nameIndex := 201, descriptorIndex := 335, attributes := #[] }] 49 4 #[] #[{ accessFlags := 25, nameIndex := 354, descriptorIndex := 339, attributes := #[] }, { accessFlags := 25, nameIndex := 358, descriptorIndex := 339, attributes := #[] }, { accessFlags := 25, nameIndex := 361, descriptorIndex := 339, attributes := #[] }, { accessFlags := 26, nameIndex := 364, descriptorIndex := 339, attributes := #[] }, { accessFlags := 26, nameIndex := 365, descriptorIndex := 339, attributes := #[] }, { accessFlags := 26, nameIndex := 172, descriptorIndex := 173, attributes := #[] }, { accessFlags := 26, nameIndex := 176, descriptorIndex := 173, attributes := #[] }, { accessFlags := 8, nameIndex := 344, descriptorIndex := 339, attributes := #[] }, { accessFlags := 8, nameIndex := 338, descriptorIndex := 339, attributes := #[] }, { accessFlags := 4120, nameIndex := 245, descriptorIndex := 246, attributes := #[] }])
  fields := #[{ name := "E", type := .double, accessFlags := 25, slot := 0, constantValue := 0 }, { name := "PI", type := .double, accessFlags := 25, slot := 1, constantValue := 0 }, { name := "TAU", type := .double, accessFlags := 25, slot := 2, constantValue := 0 }, { name := "DEGREES_TO_RADIANS", type := .double, accessFlags := 26, slot := 3, constantValue := 0 }, { name := "RADIANS_TO_DEGREES", type := .double, accessFlags := 26, slot := 4, constantValue := 0 }, { name := "negativeZeroFloatBits", type := .long, accessFlags := 26, slot := 5, constantValue := 0 }, { name := "negativeZeroDoubleBits", type := .long, accessFlags := 26, slot := 6, constantValue := 0 }, { name := "twoToTheDoubleScaleUp", type := .double, accessFlags := 8, slot := 7, constantValue := 0 }, { name := "twoToTheDoubleScaleDown", type := .double, accessFlags := 8, slot := 8, constantValue := 0 }, { name := "$assertionsDisabled", type := .boolean, accessFlags := 4120, slot := 9, constantValue := 0 }]
  methods := #[k7m0, k7m1]
  instanceTypes := #[]
  staticTypes := #[.double, .double, .double, .double, .double, .long, .long, .double, .double, .boolean]
  resolved := Array.replicate 460 none
  statics := none }

def pool8 : Array CpInfo := pool [(1, u "java/lang/Cloneable"), (0, .class_ 1), (0, u "java/lang/Object"), (0, .class_ 3)] 3

/-- java/lang/Cloneable -/
def k8 : Class := { plain "java/lang/Cloneable" (some 0) with
  accessFlags := 1537
  interfaces := #[]
  cf := some (fileOf pool8 2 #[] #[] 1537 4 #[] #[])
  fields := #[]
  methods := #[]
  instanceTypes := #[]
  staticTypes := #[]
  resolved := Array.replicate 8 none
  statics := none }

/-- the primitive byte -/
def k9 : Class := { plain "byte" none with kind := .primitive 'B', accessFlags := 0x411 }
/-- [B -/
def k10 : Class := { plain "[B" (some 0) with kind := .array 9 .byte, interfaces := #[8, 4], accessFlags := 1041 }

/-- the primitive int -/
def k11 : Class := { plain "int" none with kind := .primitive 'I', accessFlags := 0x411 }
/-- [I -/
def k12 : Class := { plain "[I" (some 0) with kind := .array 11 .int, interfaces := #[8, 4], accessFlags := 1041 }

def heap : Heap := #[{ cls := 6, slots := #[.ref 1, .ref 2, .ref 3, .null], vm := .statics 6 },
  { cls := 6, slots := #[.null, .int 0, .int 0], vm := .none },
  { cls := 6, slots := #[.null, .int 1, .int 0], vm := .none },
  { cls := 6, slots := #[.null, .int 2, .int 0], vm := .none }]
def classes : Array Class := #[k0, k1, k2, k3, k4, k5, k6, k7, k8, k9, k10, k11, k12]
def interned : List (Array UInt16 × Addr) := []
def slotsUsed : Nat := 13
def theMethod : MethodId := ⟨1, 3⟩
def args0 : Array Value := #[.int 5, .int 4]
def aboutOver (below : List Frame) : State where
  vm := { classes := classes, interned := interned.toArray }
  heap := heap
  slotsUsed := slotsUsed
  threads := #[{ frames := .invoking theMethod args0 :: below }]
def below0 : List Frame := [.native { method := ⟨0, 0⟩, args := #[] }]
def about1 : State := aboutOver below0
def p0 : Program := .bare "" "" ""
def e0 : Env := launch0.env 0 0 0
theorem w_frames : about1.frames = Frame.invoking theMethod args0 :: below0 := rfl
set_option maxRecDepth 65536 in
theorem w_args : argsFit about1.vm theMethod args0 = true := by decide +kernel
set_option maxRecDepth 65536 in
theorem w_heap : heapFits about1 = true := by decide +kernel
set_option maxRecDepth 65536 in
theorem w_runnable : about1.curStatus? = some .runnable := by decide +kernel
set_option maxRecDepth 65536 in
theorem w_alone : about1.alone = true := by decide +kernel
set_option maxRecDepth 65536 in
theorem w_named : about1.methodNamed? x = some theMethod := by decide +kernel
set_option maxRecDepth 65536 in
theorem w_hears : about1.hears theMethod below0 = true := by decide +kernel
set_option maxRecDepth 65536 in
theorem w_ripe : about1.ripe theMethod args0 below0 = true := by decide +kernel
theorem w_running : about1.status = .running := rfl
set_option maxRecDepth 65536 in
theorem w_room : about1.hasRoom e0.platform room_1 = true :=
  launch0.hasRoom_least _ room_1 (by decide +kernel) (by decide +kernel) (by decide +kernel) (by decide +kernel) (by decide +kernel) (by decide +kernel)
theorem allAtoms_all (ts : List Jvm.Cond) (a : Array Jvm.Value) (st : Jvm.State) : (allAtoms ts).before a st = ts.all (fun c => c.before a st) := by
  induction ts with
  | nil => rfl
  | cons c t ih =>
    show (Jvm.Cond.and c (allAtoms t)).before a st = _
    rw [Jvm.Cond.before_and, ih, List.all_cons]
def words1 : List Jvm.Cond := Jvm.Cond.code x code maxLocals ret :: tables_1
/-- a 'code' word, met by the world's own term for the bytes: nothing is compared byte by byte -/
theorem code_word {y : MethodName} {bytes : ByteArray} {mx : Nat} {rt : Option FieldType} {a : Array Value} {s : State} {m : MethodId} {meth : Method} {c : Code} (h1 : s.methodNamed? y = some m) (h2 : s.vm.method? m = some meth) (h3 : meth.code = some c) (h4 : c.code = bytes)
    (h5 : (c.maxLocals == mx && c.exceptionTable.isEmpty && decide (c.maxStack ≤ mostOperands) && decide (meth.sig.returnType = rt) && !meth.locks && decide (parseMethodDescriptor y.desc = some meth.sig)) = true) : (Jvm.Cond.code y bytes mx rt).before a s = true := by
  simp only [Bool.and_eq_true, beq_iff_eq, Bool.not_eq_true', decide_eq_true_eq] at h5
  obtain ⟨⟨⟨⟨⟨g1, g2⟩, g3⟩, g4⟩, g5⟩, g6⟩ := h5
  simp [Cond.before, Cond.holds, Cond.value, h1, h2, h3, h4, g1, g2, g3, g4, g5, g6]
def isCode : Jvm.Cond → Bool
  | .code _ _ _ _ => true
  | _ => false
theorem all_split {L : List Jvm.Cond} {P : Jvm.Cond → Bool} (h1 : L.all (fun c => isCode c || P c) = true) (h2 : ∀ c ∈ L.filter isCode, P c = true) : L.all P = true := by
  refine List.all_eq_true.mpr fun c hc => ?_
  have h := List.all_eq_true.mp h1 c hc
  rcases Bool.eq_false_or_eq_true (isCode c) with hi | hi
  · exact h2 c (List.mem_filter.mpr ⟨hc, hi⟩)
  · simpa [hi] using h
set_option maxRecDepth 65536 in
theorem w_c0 : (Jvm.Cond.code x code maxLocals ret).before args0 about1 = true := code_word (m := ⟨1, 3⟩) (meth := k1m3) (c := k1c3) (by decide +kernel) rfl rfl rfl (by decide +kernel)
set_option maxRecDepth 65536 in
theorem w_c1 : (Jvm.Cond.code ({ cls := "com/example/tagfold/tagfold/algebra/AnswerAndPinLaw", name := "pick", desc := "(I)Lcom/example/tagfold/tagfold/algebra/Answer;" } : Jvm.MethodName) method_2_code (1 : Nat) (Option.some (Jvm.ClassFile.FieldType.object "com/example/tagfold/tagfold/algebra/Answer"))).before args0 about1 = true := code_word (m := ⟨1, 1⟩) (meth := k1m1) (c := k1c1) (by decide +kernel) rfl rfl rfl (by decide +kernel)
set_option maxRecDepth 65536 in
theorem w_c2 : (Jvm.Cond.code ({ cls := "com/example/tagfold/tagfold/algebra/Answer", name := "and", desc := "(Lcom/example/tagfold/tagfold/algebra/Answer;)Lcom/example/tagfold/tagfold/algebra/Answer;" } : Jvm.MethodName) prog_25_method_5_code (2 : Nat) (Option.some (Jvm.ClassFile.FieldType.object "com/example/tagfold/tagfold/algebra/Answer"))).before args0 about1 = true := code_word (m := ⟨6, 0⟩) (meth := k6m0) (c := k6c0) (by decide +kernel) rfl rfl rfl (by decide +kernel)
set_option maxRecDepth 65536 in
theorem w_c3 : (Jvm.Cond.code ({ cls := "com/example/tagfold/tagfold/algebra/AnswerAndPinLaw", name := "rank", desc := "(Lcom/example/tagfold/tagfold/algebra/Answer;)I" } : Jvm.MethodName) method_3_code (1 : Nat) (Option.some Jvm.ClassFile.FieldType.int)).before args0 about1 = true := code_word (m := ⟨1, 2⟩) (meth := k1m2) (c := k1c2) (by decide +kernel) rfl rfl rfl (by decide +kernel)
set_option maxRecDepth 65536 in
theorem w_c4 : (Jvm.Cond.code ({ cls := "java/lang/Math", name := "min", desc := "(II)I" } : Jvm.MethodName) jdk_29_method_69_code (2 : Nat) (Option.some Jvm.ClassFile.FieldType.int)).before args0 about1 = true := code_word (m := ⟨7, 1⟩) (meth := k7m1) (c := k7c1) (by decide +kernel) rfl rfl rfl (by decide +kernel)
def codes1 : List Jvm.Cond := [Jvm.Cond.code x code maxLocals ret, Jvm.Cond.code ({ cls := "com/example/tagfold/tagfold/algebra/AnswerAndPinLaw", name := "pick", desc := "(I)Lcom/example/tagfold/tagfold/algebra/Answer;" } : Jvm.MethodName) method_2_code (1 : Nat) (Option.some (Jvm.ClassFile.FieldType.object "com/example/tagfold/tagfold/algebra/Answer")), Jvm.Cond.code ({ cls := "com/example/tagfold/tagfold/algebra/Answer", name := "and", desc := "(Lcom/example/tagfold/tagfold/algebra/Answer;)Lcom/example/tagfold/tagfold/algebra/Answer;" } : Jvm.MethodName) prog_25_method_5_code (2 : Nat) (Option.some (Jvm.ClassFile.FieldType.object "com/example/tagfold/tagfold/algebra/Answer")), Jvm.Cond.code ({ cls := "com/example/tagfold/tagfold/algebra/AnswerAndPinLaw", name := "rank", desc := "(Lcom/example/tagfold/tagfold/algebra/Answer;)I" } : Jvm.MethodName) method_3_code (1 : Nat) (Option.some Jvm.ClassFile.FieldType.int), Jvm.Cond.code ({ cls := "java/lang/Math", name := "min", desc := "(II)I" } : Jvm.MethodName) jdk_29_method_69_code (2 : Nat) (Option.some Jvm.ClassFile.FieldType.int)]
set_option maxRecDepth 65536 in
theorem codes_eq : words1.filter isCode = codes1 := rfl
theorem w_codes : ∀ c ∈ words1.filter isCode, c.before args0 about1 = true := by
  rw [codes_eq]
  intro c hc
  simp only [codes1, List.mem_cons, List.not_mem_nil, or_false] at hc
  rcases hc with rfl | rfl | rfl | rfl | rfl
  · exact w_c0
  · exact w_c1
  · exact w_c2
  · exact w_c3
  · exact w_c4
set_option maxRecDepth 65536 in
theorem w_t1 : (words1.take 24).all (fun c => isCode c || c.before args0 about1) = true := by decide +kernel
set_option maxRecDepth 65536 in
theorem w_t2 : (words1.drop 24).all (fun c => isCode c || c.before args0 about1) = true := by decide +kernel
theorem w_tables : (allAtoms (Jvm.Cond.code x code maxLocals ret :: tables_1)).before args0 about1 = true := by
  rw [allAtoms_all]
  show words1.all (fun c => c.before args0 about1) = true
  refine all_split ?_ w_codes
  rw [← List.take_append_drop 24 words1, List.all_append, w_t1, w_t2]
  rfl
set_option maxRecDepth 65536 in
theorem w_case : (Jvm.Cond.and given_1 narrow_1).before args0 about1 = true := by decide +kernel
theorem w_applies : (headSpec (Jvm.Cond.code x code maxLocals ret :: tables_1) room_1).applies x e0.platform about1 = true :=
  (Spec.applies_iff w_frames).mpr ⟨w_running, w_runnable, w_alone, w_named, w_hears, w_ripe, w_room, w_tables⟩
theorem atStart : AtStart classFile x code maxLocals ret World_1 tables_1 room_1 Calls_1 rest_1 Pre_1 launch0 p0 e0 about1 theMethod args0 below0 :=
  ⟨lists_1, trivial, launch0.admits_env _ _ _, launch0.least_env, fairChoices_fair.cas, fairChoices_fair.clock, w_frames, w_args, w_heap, w_applies, trivial, trivial, w_case⟩
end start1
theorem witness_1 : WitnessClaimed_1 := ⟨start1.p0, start1.e0, start1.about1, start1.theMethod, start1.args0, start1.below0, start1.atStart⟩
end Jvm.Pilot.@@N@@
