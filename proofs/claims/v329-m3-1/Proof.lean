import JvmDerived
import JvmDerived.Pilot.@@N@@Statement
import JvmDerived.Pilot.@@N@@Code
set_option linter.unusedVariables false
set_option linter.unusedSimpArgs false
namespace Jvm.OwnKit
open Jvm Sem ClassFile Op Lib Jvm.Stand Jvm.Free Jvm.LawKit Jvm.RoadKit
section K
variable {p : Program} {l : Launch} {e : Env} {R : Room} {s : State} {m : MethodId} {args : Array Value} {below : List Frame} {meth : Method} {c : Code} {T T' : State} {locs : List Loc} {cells slots : Nat} {Z : State} {a0 : Array Value} {h h0 : Heap} {ce sl : Nat} {Q : Option Value → Heap → List Loc → Prop} {P : Option Value → State → List Loc → Prop} {pc : Nat} {Ls : Array Slot} {rest : List Value}
/-- from this state and frame the body runs to its end, and Q holds there -/
def Go (p : Program) (e : Env) (below : List Frame) (P : Option Value → State → List Loc → Prop) (T : State) (g : JFrame) : Prop :=
  ∃ u v L, Steps p.tables e below (T.setTop g) u ∧ u.status = .running ∧ Ended u below (.returned v) ∧ P v u L
/-- the end of a body that interns nothing -/
def EndF (s : State) (ce sl : Nat) (Q : Option Value → Heap → List Loc → Prop) (v : Option Value) (u : State) (L : List Loc) : Prop := Q v u.heap L ∧ FrameEnd s (.returned v) u L ce sl
theorem Go.by {g g' : JFrame} (st : ∀ t, Steps p.tables e below (T'.setTop g') t → Steps p.tables e below (T.setTop g) t) (k : Go p e below P T' g') : Go p e below P T g := by
  obtain ⟨u, v, L, h1, r⟩ := k; exact ⟨u, v, L, st u h1, r⟩
theorem Go.cast {g g' : JFrame} (q : g = g') (k : Go p e below P T g') : Go p e below P T g := q ▸ k
/-- a body's contract at given arguments and a given heap -/
def Ct (l : Launch) (y : MethodName) (bytes : ByteArray) (maxL : Nat) (ret : Option FieldType) (rm : Room) (Z : State) (as' : Array Value) (h0 : Heap) (Q : Option Value → Heap → List Loc → Prop) : Prop :=
  ∀ ws : List Jvm.Cond, MetFree l y (head1 (Jvm.Cond.code y bytes maxL ret :: ws) rm) (fun a U => a = as' ∧ Z.Warmed39 U.vm ∧ U.heap = h0) (fun _ _ _ _ _ => True) (fun _ U o U' => ∃ v L, o = .returned v ∧ Q v U'.heap L ∧ FrameEnd U o U' L rm.cells rm.slots)
theorem Ct.of {y : MethodName} {bytes : ByteArray} {maxL : Nat} {ret : Option FieldType} {rm : Room} {as' : Array Value} (hpl : plainFor y = true)
    (body : ∀ (p : Program) (e : Env) (s : State) (m : MethodId) (below : List Frame) (meth : Method) (c : Code) (T : State), Stand p l e rm s m as' below meth c T [] 0 0 → p.tables.exec = Jvm.exec → c.code = bytes → c.maxLocals = maxL → s.vm.findClass y.cls = some m.cls → meth.name = y.name → meth.sig.returnType = ret → meth.locks = false → Z.Warmed39 s.vm → T.heap = h0 →
      Go p e below (EndF s rm.cells rm.slots Q) T (entryFrame m as' maxL)) : Ct l y bytes maxL ret rm Z as' h0 Q := by
  intro ws
  refine MetFree.of_bodySF hpl hisR ?_
  intro p e s m args below meth c s₁ Bd hml0 hP hK
  obtain ⟨rfl, hZ, hh⟩ := hP
  obtain ⟨u, v, L, h1, h2, h3, r⟩ := body p e s m below meth c s₁ (Stand.of_body Bd) Bd.exec Bd.bytes hml0 (findClass_of_methodNamed Bd.named) (name_of_methodNamed Bd.named Bd.method).1 Bd.returns (BodyLoose.notSynchronized Bd) hZ (by rw [← hh, Bd.state]; rfl)
  exact ⟨u, _, h1, h2, h3, v, L, rfl, r.1, r.2⟩
theorem Ct.mono {y : MethodName} {bytes : ByteArray} {maxL : Nat} {ret : Option FieldType} {rm : Room} {as' : Array Value} {Q' : Option Value → Heap → List Loc → Prop} (k : Ct l y bytes maxL ret rm Z as' h0 Q) (q : ∀ v h L, Q v h L → Q' v h L) : Ct l y bytes maxL ret rm Z as' h0 Q' := by
  intro ws p e ha hc hk s m args below hf happ hP hK
  obtain ⟨n, o, h1, h2, h3, v, L, h4, h5, h6⟩ := k ws p e ha hc hk s m args below hf happ hP hK
  exact ⟨n, o, h1, h2, h3, v, L, h4, q _ _ _ h5, h6⟩
theorem wd {ws : List Jvm.Cond} (hw : ∀ d ∈ ws, d.before a0 Z = true) {d : Jvm.Cond} (i : Nat) (q : ws[i]? = some d) : d.before a0 Z = true := hw _ (List.mem_of_getElem? q)
theorem Go.fin (X : Stand p l e R s m args below meth c T locs cells slots) (hlk : meth.locks = false) {v : Option Value} (hv : meth.sig.returnType = none → v = none) {g : JFrame}
    (st : ∀ fs, (∀ (f : JFrame) (acts : List Action), f.method = m → f.locked = none → f.entered = [] → (doReturn e (T.setTop f) acts v).1 = T.setFrames fs) → Steps p.tables e below (T.setTop g) (T.setFrames fs)) (hc : cells ≤ ce) (hs : slots ≤ sl) (eT : T.heap = h) (q : Q v h locs) : Go p e below (EndF s ce sl Q) T g := by
  obtain ⟨fs, hr, hrun, hended, hW, hsame⟩ := X.leave (v := v) hv hlk
  subst eT
  exact ⟨_, _, _, st fs hr, hrun, hended, q, ⟨_, rfl⟩, hW, hsame.mono hc hs⟩
theorem Go.retI (X : Stand p l e R s m args below meth c T locs cells slots) (hx : p.tables.exec = Jvm.exec) (hlk : meth.locks = false) (hret : meth.sig.returnType = some .int) {z : Int32} (hd : decode c.code pc = .ok (.ireturn, 1)) (hc : cells ≤ ce) (hs : slots ≤ sl) (eT : T.heap = h) (q : Q (some (.int z)) h locs) : Go p e below (EndF s ce sl Q) T (mkF m pc Ls (.int z :: rest)) :=
  Go.fin X hlk (fun h => by rw [hret] at h; cases h) (fun fs hl => retOut X hx hret rfl (Or.inl ⟨rfl, Or.inl rfl, z, rfl⟩) hd hl) hc hs eT q
theorem Go.retZ (X : Stand p l e R s m args below meth c T locs cells slots) (hx : p.tables.exec = Jvm.exec) (hlk : meth.locks = false) (hret : meth.sig.returnType = some .boolean) {z : Int32} (hz : z = 0 ∨ z = 1) (hd : decode c.code pc = .ok (.ireturn, 1)) (hc : cells ≤ ce) (hs : slots ≤ sl) (eT : T.heap = h) (q : Q (some (.int z)) h locs) : Go p e below (EndF s ce sl Q) T (mkF m pc Ls (.int z :: rest)) :=
  Go.fin X hlk (fun h => by rw [hret] at h; cases h) (fun fs hl => retOut X hx hret (by rcases hz with rfl | rfl <;> rfl) (Or.inl ⟨rfl, Or.inr (Or.inl rfl), z, rfl⟩) hd hl) hc hs eT q
theorem Go.retS (X : Stand p l e R s m args below meth c T locs cells slots) (hx : p.tables.exec = Jvm.exec) (hlk : meth.locks = false) {t : FieldType} (hret : meth.sig.returnType = some t) (ht : t = .byte ∨ t = .char ∨ t = .short) {z : Int32} (hz : narrow t (.int z) = .int z) (hd : decode c.code pc = .ok (.ireturn, 1)) (hc : cells ≤ ce) (hs : slots ≤ sl) (eT : T.heap = h) (q : Q (some (.int z)) h locs) : Go p e below (EndF s ce sl Q) T (mkF m pc Ls (.int z :: rest)) :=
  Go.fin X hlk (fun h => by rw [hret] at h; cases h) (fun fs hl => retOut X hx hret hz (Or.inl ⟨rfl, Or.inr (Or.inr ht), z, rfl⟩) hd hl) hc hs eT q
theorem Go.retJ (X : Stand p l e R s m args below meth c T locs cells slots) (hx : p.tables.exec = Jvm.exec) (hlk : meth.locks = false) (hret : meth.sig.returnType = some .long) {z : Int64} (hd : decode c.code pc = .ok (.lreturn, 1)) (hc : cells ≤ ce) (hs : slots ≤ sl) (eT : T.heap = h) (q : Q (some (.long z)) h locs) : Go p e below (EndF s ce sl Q) T (mkF m pc Ls (.long z :: rest)) :=
  Go.fin X hlk (fun h => by rw [hret] at h; cases h) (fun fs hl => retOut X hx hret rfl (Or.inr (Or.inl ⟨rfl, rfl, z, rfl⟩)) hd hl) hc hs eT q
theorem Go.retA (X : Stand p l e R s m args below meth c T locs cells slots) (hx : p.tables.exec = Jvm.exec) (hlk : meth.locks = false) {t : FieldType} (hret : meth.sig.returnType = some t) (ht : t.isReference = true) {v : Value} (hv : v.isRef = true) (hd : decode c.code pc = .ok (.areturn, 1)) (hc : cells ≤ ce) (hs : slots ≤ sl) (eT : T.heap = h) (q : Q (some v) h locs) : Go p e below (EndF s ce sl Q) T (mkF m pc Ls (v :: rest)) :=
  Go.fin X hlk (fun h => by rw [hret] at h; cases h) (fun fs hl => retOut X hx hret (by cases t <;> simp_all [FieldType.isReference, narrow]) (Or.inr (Or.inr (Or.inr (Or.inr ⟨rfl, ht, hv⟩)))) hd hl) hc hs eT q
theorem Go.retV (X : Stand p l e R s m args below meth c T locs cells slots) (hx : p.tables.exec = Jvm.exec) (hlk : meth.locks = false) (hret : meth.sig.returnType = none) (hd : decode c.code pc = .ok (.return_, 1)) (hc : cells ≤ ce) (hs : slots ≤ sl) (eT : T.heap = h) (q : Q none h locs) : Go p e below (EndF s ce sl Q) T (mkF m pc Ls []) :=
  Go.fin X hlk (fun _ => rfl) (fun fs hl => X.returnOut hx hret hd hl) hc hs eT q
/-! one law a step that reads the tables or the heap -/
theorem Go.getF (X : Stand p l e R s m args below meth c T locs cells slots) (hx : p.tables.exec = Jvm.exec) (hZ : Z.Warmed39 s.vm) {own R0 O n d : String} {index : Nat} (hown : s.vm.findClass own = some m.cls) (w : (Jvm.Cond.fieldLink own index R0 n d).before a0 Z = true) (via : Via Z R0 O n d) (eT : T.heap = h) {a : Addr} {v : Value} (F : Fld Z h a O n d v)
    (hd : decode c.code pc = .ok (.getfield index, 3)) (k : ∀ T', Stand p l e R s m args below meth c T' locs cells slots → T'.heap = h → Go p e below P T' (mkF m (pc + 3) Ls (v :: rest))) : Go p e below P T (mkF m pc Ls (.ref a :: rest)) := by
  obtain ⟨T', X', e', st⟩ := RoadKit.getF X hx hZ hown (host := "") (Or.inl w) via eT F (g := mkF m pc Ls (.ref a :: rest)) rfl rfl hd
  exact Go.by st (k T' X' e')
theorem Go.getFN (X : Stand p l e R s m args below meth c T locs cells slots) (hx : p.tables.exec = Jvm.exec) (hZ : Z.Warmed39 s.vm) {own R0 O n d host : String} {index : Nat} (hown : s.vm.findClass own = some m.cls) (w : (Jvm.Cond.fieldLinkNest own index R0 n d host).before a0 Z = true) (via : Via Z R0 O n d) (eT : T.heap = h) {a : Addr} {v : Value} (F : Fld Z h a O n d v)
    (hd : decode c.code pc = .ok (.getfield index, 3)) (k : ∀ T', Stand p l e R s m args below meth c T' locs cells slots → T'.heap = h → Go p e below P T' (mkF m (pc + 3) Ls (v :: rest))) : Go p e below P T (mkF m pc Ls (.ref a :: rest)) := by
  obtain ⟨T', X', e', st⟩ := RoadKit.getF X hx hZ hown (host := host) (Or.inr w) via eT F (g := mkF m pc Ls (.ref a :: rest)) rfl rfl hd
  exact Go.by st (k T' X' e')
theorem Go.putF (X : Stand p l e R s m args below meth c T locs cells slots) (hx : p.tables.exec = Jvm.exec) (hZ : Z.Warmed39 s.vm) {own R0 O n d C : String} {index kk : Nat} {ty : FieldType} (hown : s.vm.findClass own = some m.cls) (w : (Jvm.Cond.fieldLink own index R0 n d).before a0 Z = true) (via : Via Z R0 O n d) (eT : T.heap = h) {a : Addr} {v old : Value} (F : Fld Z h a O n d old) (E : Exa Z h a C)
    (L : (Jvm.Cond.lays C O n d).before a0 Z = true ∨ ((Jvm.Cond.laysFinal C O n d).before a0 Z = true ∧ own = O ∧ meth.name = "<init>")) (wi : (Jvm.Cond.instantiable C kk).before a0 Z = true) (hty : parseFieldDescriptor d = some ty) (hn : narrow ty v = v) (hf : fits ty v = true) (hd : decode c.code pc = .ok (.putfield index, 3))
    (k : ∀ T' h', Stand p l e R s m args below meth c T' (locs ++ [⟨a, RoadKit.slotOf Z O n d⟩]) cells slots → T'.heap = h' → Wr h h' a (RoadKit.slotOf Z O n d) v → Go p e below P T' (mkF m (pc + 3) Ls rest)) : Go p e below P T (mkF m pc Ls (v :: .ref a :: rest)) := by
  obtain ⟨T', h', X', e', W', st⟩ := RoadKit.putF X hx hZ hown (host := "") (Or.inl w) via eT F E L wi hty hn hf (g := mkF m pc Ls (v :: .ref a :: rest)) rfl rfl hd
  exact Go.by st (k T' h' X' e' W')
theorem Go.getS (X : Stand p l e R s m args below meth c T locs cells slots) (hx : p.tables.exec = Jvm.exec) (hZ : Z.Warmed39 s.vm) {own R0 O n d : String} {index : Nat} (hown : s.vm.findClass own = some m.cls) (w : (Jvm.Cond.fieldLink own index R0 n d).before a0 Z = true) (via : Via Z R0 O n d) (eT : T.heap = h) {v : Value} (F : Sta Z h O n d v) {st : List Value}
    (hd : decode c.code pc = .ok (.getstatic index, 3)) (k : ∀ T', Stand p l e R s m args below meth c T' locs cells slots → T'.heap = h → Go p e below P T' (mkF m (pc + 3) Ls (v :: st))) : Go p e below P T (mkF m pc Ls st) := by
  obtain ⟨T', X', e', st'⟩ := RoadKit.getS X hx hZ hown (host := "") w via eT F (g := mkF m pc Ls st) rfl hd
  exact Go.by st' (k T' X' e')
theorem Go.getSN (X : Stand p l e R s m args below meth c T locs cells slots) (hx : p.tables.exec = Jvm.exec) (hZ : Z.Warmed39 s.vm) {own R0 O n d host : String} {index : Nat} (hown : s.vm.findClass own = some m.cls) (w : (Jvm.Cond.fieldLinkNest own index R0 n d host).before a0 Z = true) (via : Via Z R0 O n d) (eT : T.heap = h) {v : Value} (F : Sta Z h O n d v) {st : List Value}
    (hd : decode c.code pc = .ok (.getstatic index, 3)) (k : ∀ T', Stand p l e R s m args below meth c T' locs cells slots → T'.heap = h → Go p e below P T' (mkF m (pc + 3) Ls (v :: st))) : Go p e below P T (mkF m pc Ls st) := by
  obtain ⟨T', X', e', st'⟩ := getS2 X hx hZ hown (Or.inr w) via eT F (g := mkF m pc Ls st) rfl hd
  exact Go.by st' (k T' X' e')
theorem Go.newO (X : Stand p l e R s m args below meth c T locs cells slots) (hx : p.tables.exec = Jvm.exec) (hZ : Z.Warmed39 s.vm) {own C : String} {index n : Nat} (hown : s.vm.findClass own = some m.cls) (w : (Jvm.Cond.classLink own index C).before a0 Z = true) (wi : (Jvm.Cond.instantiable C n).before a0 Z = true) (wz : (Jvm.Cond.initialized C).before a0 Z = true) (eT : T.heap = h) {st : List Value}
    (hd : decode c.code pc = .ok (.new index, 3)) (hc : cells + 1 ≤ R.cells) (hl : slots + n ≤ R.slots)
    (k : ∀ T' h' b, Stand p l e R s m args below meth c T' locs (cells + 1) (slots + n) → T'.heap = h' → Ext h h' → b = h.size → Exa Z h' b C → (∀ {O nm d : String} {ty : FieldType}, Laid Z a0 C O nm d → parseFieldDescriptor d = some ty → Fld Z h' b O nm d (defaultValue ty)) → Go p e below P T' (mkF m (pc + 3) Ls (.ref b :: st))) : Go p e below P T (mkF m pc Ls st) := by
  obtain ⟨T', h', X', e', E', A', D', -, st'⟩ := RoadKit.newO X hx hZ hown w wi wz eT (g := mkF m pc Ls st) rfl hd hc hl
  exact Go.by st' (k T' h' _ X' e' E' rfl A' D')
theorem Go.newP (X : Stand p l e R s m args below meth c T locs cells slots) (hx : p.tables.exec = Jvm.exec) (hZ : Z.Warmed39 s.vm) {aty : ArrayType} (w : (Jvm.Cond.arrayClass (newarray.typeOf aty)).before a0 Z = true) (eT : T.heap = h) {n : Int32} (hd : decode c.code pc = .ok (.newarray aty, 2)) (hn : ¬ n < 0) {cap : Nat} (hcap : n.toNatClampNeg ≤ cap) (hb : cap * 8 ≤ 536870912) (hc : cells + 1 ≤ R.cells) (hl : slots + cap ≤ R.slots)
    (k : ∀ T' h' b kA, Stand p l e R s m args below meth c T' locs (cells + 1) (slots + cap) → T'.heap = h' → Ext h h' → b = h.size → Arv Z h' b kA (newarray.typeOf aty) n [] (defaultValue (newarray.typeOf aty)) → Go p e below P T' (mkF m (pc + 2) Ls (.ref b :: rest))) : Go p e below P T (mkF m pc Ls (.int n :: rest)) := by
  obtain ⟨T', h', kA, X', e', E', A', st'⟩ := RoadKit.newP X hx hZ w eT (g := mkF m pc Ls (.int n :: rest)) rfl hd rfl hn hcap hb hc hl
  exact Go.by st' (k T' h' _ kA X' e' E' rfl (Arv.new A' hn))
theorem Go.initO (X : Stand p l e R s m args below meth c T locs cells slots) (hx : p.tables.exec = Jvm.exec) (hZ : Z.Warmed39 s.vm) {own : String} {idx : Nat} (hown : s.vm.findClass own = some m.cls) (w1 : (Jvm.Cond.methodLink own idx Lib.objectInit).before a0 Z = true) (w2 : (Jvm.Cond.instanceMethod Lib.objectInit).before a0 Z = true) (w3 : (Jvm.Cond.code Lib.objectInit ⟨#[0xb1]⟩ 1 none).before a0 Z = true) (eT : T.heap = h)
    {a : Addr} (hsz : Ls.size = c.maxLocals) (hd : decode c.code pc = .ok (.invokespecial idx, 3)) (hf : 1 ≤ R.frames) {W : Nat} (hW : (rest.map fun v => v.category).sum = W) (hl : W + 12 ≤ R.locals)
    (k : ∀ T', Stand p l e R s m args below meth c T' locs cells slots → T'.heap = h → Go p e below P T' (mkF m (pc + 3) Ls rest)) : Go p e below P T (mkF m pc Ls (.ref a :: rest)) := by
  obtain ⟨T', X', e', st⟩ := RoadKit.initO X hx hZ hown w1 w2 w3 eT (g := mkF m pc Ls (.ref a :: rest)) rfl hsz rfl hd hf (W := W) (by subst hW; show 2 * 0 + _ ≤ _; omega) hl
  exact Go.by st (k T' X' e')
theorem Go.castY (X : Stand p l e R s m args below meth c T locs cells slots) (hx : p.tables.exec = Jvm.exec) (hZ : Z.Warmed39 s.vm) {own K : String} {index : Nat} (hown : s.vm.findClass own = some m.cls) (w : (Jvm.Cond.classLink own index K).before a0 Z = true) (eT : T.heap = h) {a : Addr} (F : Ins Z h a K true) (hd : decode c.code pc = .ok (.checkcast index, 3))
    (k : ∀ T', Stand p l e R s m args below meth c T' locs cells slots → T'.heap = h → Go p e below P T' (mkF m (pc + 3) Ls (.ref a :: rest))) : Go p e below P T (mkF m pc Ls (.ref a :: rest)) := by
  obtain ⟨T', X', e', st⟩ := RoadKit.castY X hx hZ hown w eT F (g := mkF m pc Ls (.ref a :: rest)) rfl rfl hd
  exact Go.by st (k T' X' e')
theorem Go.instY (X : Stand p l e R s m args below meth c T locs cells slots) (hx : p.tables.exec = Jvm.exec) (hZ : Z.Warmed39 s.vm) {own K : String} {index : Nat} (hown : s.vm.findClass own = some m.cls) (w : (Jvm.Cond.classLink own index K).before a0 Z = true) (eT : T.heap = h) {a : Addr} (F : Ins Z h a K true) (hd : decode c.code pc = .ok (.instanceof index, 3))
    (k : ∀ T', Stand p l e R s m args below meth c T' locs cells slots → T'.heap = h → Go p e below P T' (mkF m (pc + 3) Ls (.int 1 :: rest))) : Go p e below P T (mkF m pc Ls (.ref a :: rest)) := by
  obtain ⟨T', X', e', st⟩ := RoadKit.instY X hx hZ hown w eT F (g := mkF m pc Ls (.ref a :: rest)) rfl rfl hd
  exact Go.by st (k T' X' e')
theorem Go.instN (X : Stand p l e R s m args below meth c T locs cells slots) (hx : p.tables.exec = Jvm.exec) (hZ : Z.Warmed39 s.vm) {own K C : String} {index : Nat} (hown : s.vm.findClass own = some m.cls) (w : (Jvm.Cond.classLink own index K).before a0 Z = true) (eT : T.heap = h) {a : Addr} (E : Exa Z h a C) (F : ∃ c t, Z.vm.findClass C = some c ∧ Z.vm.findClass K = some t ∧ Z.vm.assignable c t = false) (hd : decode c.code pc = .ok (.instanceof index, 3))
    (k : ∀ T', Stand p l e R s m args below meth c T' locs cells slots → T'.heap = h → Go p e below P T' (mkF m (pc + 3) Ls (.int 0 :: rest))) : Go p e below P T (mkF m pc Ls (.ref a :: rest)) := by
  obtain ⟨T', X', e', st⟩ := RoadKit.instNo X hx hZ hown w eT E F (g := mkF m pc Ls (.ref a :: rest)) rfl rfl hd
  exact Go.by st (k T' X' e')
theorem Go.aload (X : Stand p l e R s m args below meth c T locs cells slots) (hx : p.tables.exec = Jvm.exec) (hZ : Z.Warmed39 s.vm) (eT : T.heap = h) {a : Addr} {cl : Cell} {ty : FieldType} (A : Arr Z h a cl ty) {j : Int32} {v : Value} (hin : ¬ (j < 0 ∨ cl.slots.size ≤ j.toNatClampNeg)) (hat : cl.slots[j.toNatClampNeg]? = some v) {i : Instr}
    (hi : (i = .iaload ∧ ty = .int) ∨ (i = .laload ∧ ty = .long) ∨ (i = .aaload ∧ ty.isReference = true) ∨ (i = .caload ∧ ty = .char) ∨ (i = .saload ∧ ty = .short) ∨ (i = .baload ∧ ty = .byte)) (hd : decode c.code pc = .ok (i, 1)) (k : Go p e below P T (mkF m (pc + 1) Ls (v :: rest))) : Go p e below P T (mkF m pc Ls (.int j :: .ref a :: rest)) := by
  refine Go.by (fun t kk => ?_) k
  have hc : T.heap[a]? = some cl := by rw [eT]; exact A.1
  have ha := State.isArrayOf_alike hZ.alike A.2.1
  rcases hi with ⟨rfl, rfl⟩ | ⟨rfl, rfl⟩ | ⟨rfl, hr⟩ | ⟨rfl, rfl⟩ | ⟨rfl, rfl⟩ | ⟨rfl, rfl⟩
  · exact X.iaload hx hc ha A.2.2 hin hat (g := mkF m pc Ls (.int j :: .ref a :: rest)) rfl rfl hd _ kk
  · exact X.laload hx hc ha A.2.2 hin hat (g := mkF m pc Ls (.int j :: .ref a :: rest)) rfl rfl hd _ kk
  · exact X.aaload hx hc ha hr A.2.2 hin hat (g := mkF m pc Ls (.int j :: .ref a :: rest)) rfl rfl hd _ kk
  · exact X.caload hx hc ha A.2.2 hin hat (g := mkF m pc Ls (.int j :: .ref a :: rest)) rfl rfl hd _ kk
  · exact X.saload hx hc ha A.2.2 hin hat (g := mkF m pc Ls (.int j :: .ref a :: rest)) rfl rfl hd _ kk
  · exact X.baloadBytes hx hc ha A.2.2 hin hat (g := mkF m pc Ls (.int j :: .ref a :: rest)) rfl rfl hd _ kk
theorem Go.alen (X : Stand p l e R s m args below meth c T locs cells slots) (hx : p.tables.exec = Jvm.exec) (hZ : Z.Warmed39 s.vm) (eT : T.heap = h) {a : Addr} {cl : Cell} {ty : FieldType} (A : Arr Z h a cl ty) {z : Int32} (hz : cl.slots.size.toInt32 = z) (hd : decode c.code pc = .ok (.arraylength, 1)) (k : Go p e below P T (mkF m (pc + 1) Ls (.int z :: rest))) : Go p e below P T (mkF m pc Ls (.ref a :: rest)) := by
  refine Go.by (fun t kk => ?_) k
  subst hz
  exact X.arraylength hx (by rw [eT]; exact A.1) (State.isArrayOf_alike hZ.alike A.2.1) (g := mkF m pc Ls (.ref a :: rest)) rfl rfl hd _ kk
theorem Go.alenV (X : Stand p l e R s m args below meth c T locs cells slots) (hx : p.tables.exec = Jvm.exec) (hZ : Z.Warmed39 s.vm) (eT : T.heap = h) {a : Addr} {k : ClassId} {ty : FieldType} {z : Int32} {vs : List Value} {dv : Value} (F : Arv Z h a k ty z vs dv) (hd : decode c.code pc = .ok (.arraylength, 1)) (kk : Go p e below P T (mkF m (pc + 1) Ls (.int z :: rest))) : Go p e below P T (mkF m pc Ls (.ref a :: rest)) := by
  obtain ⟨cl, A, -, S, q, -, -⟩ := F; exact Go.alen X hx hZ eT A (len_of S q) hd kk
theorem Go.aloadV (X : Stand p l e R s m args below meth c T locs cells slots) (hx : p.tables.exec = Jvm.exec) (hZ : Z.Warmed39 s.vm) (eT : T.heap = h) {a : Addr} {k : ClassId} {ty : FieldType} {z : Int32} {vs : List Value} {dv : Value} (F : Arv Z h a k ty z vs dv) {j : Int32} {v : Value} (hj : ¬ j < 0 ∧ j < z) (hv : vs.getD j.toNatClampNeg dv = v) {i : Instr}
    (hi : (i = .iaload ∧ ty = .int) ∨ (i = .laload ∧ ty = .long) ∨ (i = .aaload ∧ ty.isReference = true) ∨ (i = .caload ∧ ty = .char) ∨ (i = .saload ∧ ty = .short) ∨ (i = .baload ∧ ty = .byte)) (hd : decode c.code pc = .ok (i, 1)) (kk : Go p e below P T (mkF m (pc + 1) Ls (v :: rest))) : Go p e below P T (mkF m pc Ls (.int j :: .ref a :: rest)) := by
  obtain ⟨cl, A, -, S, q, H, -⟩ := F
  have hin := inb_of S hj
  exact Go.aload X hx hZ eT A hin (H.at hin hv) hi hd kk
theorem Go.istV (X : Stand p l e R s m args below meth c T locs cells slots) (hx : p.tables.exec = Jvm.exec) (hZ : Z.Warmed39 s.vm) (eT : T.heap = h) {a : Addr} {k : ClassId} {z : Int32} {vs : List Value} {dv : Value} (F : Arv Z h a k .int z vs dv) {j x : Int32} (hj : ¬ j < 0 ∧ j < z) (i : Nat) (hji : j.toNatClampNeg = i) (hi : i < vs.length) (hd : decode c.code pc = .ok (.iastore, 1))
    (kk : ∀ T' h', Stand p l e R s m args below meth c T' (locs ++ [⟨a, j.toNatClampNeg⟩]) cells slots → T'.heap = h' → Wr h h' a j.toNatClampNeg (.int x) → Arv Z h' a k .int z (vs.set i (.int x)) dv → Go p e below P T' (mkF m (pc + 1) Ls rest)) : Go p e below P T (mkF m pc Ls (.int x :: .int j :: .ref a :: rest)) := by
  obtain ⟨cl, A, q1, S, q3, H, G⟩ := F
  have hin := inb_of S hj
  obtain ⟨T', h', X', e', W', st⟩ := stI X hx hZ eT A (j := j) (x := x) hin (g := mkF m pc Ls (.int x :: .int j :: .ref a :: rest)) rfl rfl hd
  exact Go.by st (kk T' h' X' e' W' (Arv.set A q1 S q3 H G rfl W' i hji hi))
theorem Go.jstV (X : Stand p l e R s m args below meth c T locs cells slots) (hx : p.tables.exec = Jvm.exec) (hZ : Z.Warmed39 s.vm) (eT : T.heap = h) {a : Addr} {k : ClassId} {z : Int32} {vs : List Value} {dv : Value} (F : Arv Z h a k .long z vs dv) {j : Int32} {x : Int64} (hj : ¬ j < 0 ∧ j < z) (i : Nat) (hji : j.toNatClampNeg = i) (hi : i < vs.length) (hd : decode c.code pc = .ok (.lastore, 1))
    (kk : ∀ T' h', Stand p l e R s m args below meth c T' (locs ++ [⟨a, j.toNatClampNeg⟩]) cells slots → T'.heap = h' → Wr h h' a j.toNatClampNeg (.long x) → Arv Z h' a k .long z (vs.set i (.long x)) dv → Go p e below P T' (mkF m (pc + 1) Ls rest)) : Go p e below P T (mkF m pc Ls (.long x :: .int j :: .ref a :: rest)) := by
  obtain ⟨cl, A, q1, S, q3, H, G⟩ := F
  have hin := inb_of S hj
  obtain ⟨T', h', X', e', W', st⟩ := stJ X hx hZ eT A (j := j) (x := x) hin (g := mkF m pc Ls (.long x :: .int j :: .ref a :: rest)) rfl rfl hd
  exact Go.by st (kk T' h' X' e' W' (Arv.set A q1 S q3 H G rfl W' i hji hi))
theorem Go.cloneA (X : Stand p l e R s m args below meth c T locs cells slots) (hx : p.tables.exec = Jvm.exec) (hZ : Z.Warmed39 s.vm) {own ad : String} {index : Nat} (hown : s.vm.findClass own = some m.cls) (w1 : (Jvm.Cond.methodLink own index ⟨ad, "clone", "()Ljava/lang/Object;"⟩).before a0 Z = true) (w2 : (Jvm.Cond.sameMethod ad "java/lang/Object" "clone" "()Ljava/lang/Object;").before a0 Z = true) (w3 : (Jvm.Cond.native ⟨"java/lang/Object", "clone", "()Ljava/lang/Object;"⟩).before a0 Z = true)
    (w4 : (Jvm.Cond.instanceMethod ⟨"java/lang/Object", "clone", "()Ljava/lang/Object;"⟩).before a0 Z = true) (w5 : (Jvm.Cond.selects ad ⟨ad, "clone", "()Ljava/lang/Object;"⟩ ⟨"java/lang/Object", "clone", "()Ljava/lang/Object;"⟩).before a0 Z = true) (w6 : (Jvm.Cond.castable ad "java/lang/Cloneable").before a0 Z = true) (eT : T.heap = h) {a : Addr} {cl : Cell} {ty : FieldType} (A : Arr Z h a cl ty) (E : Exa Z h a ad) (F : FitC Z cl)
    (hsz : Ls.size = c.maxLocals) (hd : decode c.code pc = .ok (.invokevirtual index, 3)) (hf : 1 ≤ R.frames) {W cap : Nat} (hW : (rest.map fun v => v.category).sum = W) (hl : W + 14 ≤ R.locals) (hcap : cl.slots.size ≤ cap) (hc : cells + 1 ≤ R.cells) (hsl : slots + cap ≤ R.slots)
    (k : ∀ T' h' b, Stand p l e R s m args below meth c T' locs (cells + 1) (slots + cap) → T'.heap = h' → Ext h h' → b = h.size → Arr Z h' b (cloneOf cl) ty → Exa Z h' b ad → Go p e below P T' (mkF m (pc + 3) Ls (.ref b :: rest))) : Go p e below P T (mkF m pc Ls (.ref a :: rest)) := by
  obtain ⟨T', h', X', e', E', A', X2, st⟩ := RoadKit.cloneA X hx hZ hown w1 w2 w3 w4 w5 w6 eT A E F (g := mkF m pc Ls (.ref a :: rest)) rfl hsz rfl hd hf (W := W) (cap := cap) (by subst hW; show 2 * 0 + _ ≤ _; omega) hl hcap hc hsl
  exact Go.by st (k T' h' _ X' e' E' rfl A' X2)
/-! calls by the callee's contract -/
section Call
variable {own : String} {index : Nat} {y : MethodName} {bytes : ByteArray} {maxL : Nat} {ret : Option FieldType} {rm : Room} {argsL : List Value} {Q' : Option Value → Heap → List Loc → Prop} {st : List Value} {W : Nat}
theorem Go.callS (X : Stand p l e R s m args below meth c T locs cells slots) (hx : p.tables.exec = Jvm.exec) (hZ : Z.Warmed39 s.vm) (hown : s.vm.findClass own = some m.cls) (w1 : (Jvm.Cond.methodLink own index y).before a0 Z = true) (w2 : (Jvm.Cond.static y).before a0 Z = true) (w3 : (Jvm.Cond.initialized y.cls).before a0 Z = true) (w4 : (Jvm.Cond.code y bytes maxL ret).before a0 Z = true)
    (hy : y.cls ≠ "java/lang/invoke/MethodHandle" ∧ y.cls ≠ "java/lang/invoke/VarHandle") (ct : Ct l y bytes maxL ret rm Z argsL.toArray h Q') (eT : T.heap = h) (hsz : Ls.size = c.maxLocals) (hlen : ∀ sig, parseMethodDescriptor y.desc = some sig → argsL.length = sig.parameters.length) (hst : st = argsL.reverse ++ rest) (hW : (rest.map fun v => v.category).sum = W)
    (hd : decode c.code pc = .ok (.invokestatic index, 3)) (hf : rm.frames + 1 ≤ R.frames) (hl : W + (maxL + 11) + rm.locals ≤ R.locals) (hc : cells + rm.cells ≤ R.cells) (hs : slots + rm.slots ≤ R.slots)
    (k : ∀ v T' h' L, Stand p l e R s m args below meth c T' (locs ++ L) (cells + rm.cells) (slots + rm.slots) → T'.heap = h' → Q' v h' L → Go p e below P T' (mkF m (pc + 3) Ls (v.toList ++ rest))) : Go p e below P T (mkF m pc Ls st) := by
  obtain ⟨v, _, ⟨T', L, k', n'⟩, -, X', ⟨Lc, hQ, hl', hk', hn'⟩, st'⟩ := Jvm.LawKit.callS X hx (y := y) hown (mvT hZ w1) (mvT hZ w2) (mvT hZ w3) (mvT hZ w4) hy (backOf (W := W) (ct []) hZ w4 w3 hf hl) (g := mkF m pc Ls st) rfl hsz (argsL := argsL) (rest := rest) hlen hst (by subst hW; show 2 * 0 + _ ≤ _; omega) hd (fun _ _ => ⟨rfl, eT, hc, hs⟩)
  dsimp only [Pt.U, Pt.locs, Pt.cells, Pt.slots] at X' hl' hk' hn' st' hQ
  subst hl' hk' hn'
  exact Go.by st' (k v T' _ Lc X' rfl hQ)
theorem Go.callC (X : Stand p l e R s m args below meth c T locs cells slots) (hx : p.tables.exec = Jvm.exec) (hZ : Z.Warmed39 s.vm) (hown : s.vm.findClass own = some m.cls) (hy1 : y.name = "<init>") (w1 : (Jvm.Cond.methodLink own index y).before a0 Z = true) (w2 : (Jvm.Cond.instanceMethod y).before a0 Z = true) (w3 : (Jvm.Cond.initialized y.cls).before a0 Z = true) (w4 : (Jvm.Cond.code y bytes maxL none).before a0 Z = true)
    (hy : y.cls ≠ "java/lang/invoke/MethodHandle" ∧ y.cls ≠ "java/lang/invoke/VarHandle") {a : Addr} (ct : Ct l y bytes maxL none rm Z (.ref a :: argsL).toArray h Q') (eT : T.heap = h) (hsz : Ls.size = c.maxLocals) (hlen : ∀ sig, parseMethodDescriptor y.desc = some sig → argsL.length = sig.parameters.length) (hst : st = argsL.reverse ++ .ref a :: rest) (hW : (rest.map fun v => v.category).sum = W)
    (hd : decode c.code pc = .ok (.invokespecial index, 3)) (hf : rm.frames + 1 ≤ R.frames) (hl : W + (maxL + 11) + rm.locals ≤ R.locals) (hc : cells + rm.cells ≤ R.cells) (hs : slots + rm.slots ≤ R.slots)
    (k : ∀ v T' h' L, Stand p l e R s m args below meth c T' (locs ++ L) (cells + rm.cells) (slots + rm.slots) → T'.heap = h' → Q' v h' L → Go p e below P T' (mkF m (pc + 3) Ls (v.toList ++ rest))) : Go p e below P T (mkF m pc Ls st) := by
  obtain ⟨v, _, ⟨T', L, k', n'⟩, -, X', ⟨Lc, hQ, hl', hk', hn'⟩, st'⟩ := X.specialBack hx (y := y) hy1 hown (mvT hZ w1) (mvT hZ w2) (mvT hZ w4) hy (backOf (W := W) (ct []) hZ w4 w3 hf hl) (g := mkF m pc Ls st) rfl hsz (Steps.refl _) (a := a) (argsL := argsL) (rest := rest) hlen hst (by subst hW; show 2 * 0 + _ ≤ _; omega) hd (fun _ _ => ⟨rfl, eT, hc, hs⟩)
  dsimp only [Pt.U, Pt.locs, Pt.cells, Pt.slots] at X' hl' hk' hn' st' hQ
  subst hl' hk' hn'
  exact Go.by (fun _ kk => st'.trans kk) (k v T' _ Lc X' rfl hQ)
theorem Go.callV (X : Stand p l e R s m args below meth c T locs cells slots) (hx : p.tables.exec = Jvm.exec) (hZ : Z.Warmed39 s.vm) (hown : s.vm.findClass own = some m.cls) {C : String} {z : MethodName} (w1 : (Jvm.Cond.methodLink own index y).before a0 Z = true) (w2 : (Jvm.Cond.declares y).before a0 Z = true) (nf : NotFace s y) (w5 : (Jvm.Cond.selects C y z).before a0 Z = true) (w6 : (Jvm.Cond.instanceMethod z).before a0 Z = true) (w3 : (Jvm.Cond.initialized z.cls).before a0 Z = true) (w4 : (Jvm.Cond.code z bytes maxL ret).before a0 Z = true)
    (hy : y.cls ≠ "java/lang/invoke/MethodHandle" ∧ y.cls ≠ "java/lang/invoke/VarHandle") {a : Addr} (E : Exa Z h a C) (ct : Ct l z bytes maxL ret rm Z (.ref a :: argsL).toArray h Q') (eT : T.heap = h) (hsz : Ls.size = c.maxLocals) (hlen : ∀ sig, parseMethodDescriptor y.desc = some sig → argsL.length = sig.parameters.length) (hst : st = argsL.reverse ++ .ref a :: rest) (hW : (rest.map fun v => v.category).sum = W)
    (hd : decode c.code pc = .ok (.invokevirtual index, 3)) (hf : rm.frames + 1 ≤ R.frames) (hl : W + (maxL + 11) + rm.locals ≤ R.locals) (hc : cells + rm.cells ≤ R.cells) (hs : slots + rm.slots ≤ R.slots)
    (k : ∀ v T' h' L, Stand p l e R s m args below meth c T' (locs ++ L) (cells + rm.cells) (slots + rm.slots) → T'.heap = h' → Q' v h' L → Go p e below P T' (mkF m (pc + 3) Ls (v.toList ++ rest))) : Go p e below P T (mkF m pc Ls st) := by
  obtain ⟨cq, kq, qa, qb, qc⟩ := isOf hZ eT E
  obtain ⟨v, _, ⟨T', L, k', n'⟩, -, X', ⟨Lc, hQ, hl', hk', hn'⟩, st'⟩ := X.virtualBack hx (y := y) (z := z) hown (mvT hZ w1) (mvT hZ w2) nf (mvT hZ w5) (mvT hZ w6) hy (backOf (W := W) (ct []) hZ w4 w3 hf hl) qa qc (g := mkF m pc Ls st) rfl hsz (Steps.refl _) (argsL := argsL) (rest := rest) hlen hst (by subst hW; show 2 * 0 + _ ≤ _; omega) hd (fun _ _ => ⟨rfl, eT, hc, hs⟩)
  dsimp only [Pt.U, Pt.locs, Pt.cells, Pt.slots] at X' hl' hk' hn' st' hQ
  subst hl' hk' hn'
  exact Go.by (fun _ kk => st'.trans kk) (k v T' _ Lc X' rfl hQ)
theorem Go.callVU (X : Stand p l e R s m args below meth c T locs cells slots) (hx : p.tables.exec = Jvm.exec) (hZ : Z.Warmed39 s.vm) (hown : s.vm.findClass own = some m.cls) {C owner : String} {z : MethodName} (w1 : (Jvm.Cond.methodLink own index y).before a0 Z = true) (ws : (Jvm.Cond.sameMethod y.cls owner y.name y.desc).before a0 Z = true) (w2 : (Jvm.Cond.declares ⟨owner, y.name, y.desc⟩).before a0 Z = true) (ho : owner ≠ "java/lang/invoke/MethodHandle" ∧ owner ≠ "java/lang/invoke/VarHandle") (w5 : (Jvm.Cond.selects C y z).before a0 Z = true) (w6 : (Jvm.Cond.instanceMethod z).before a0 Z = true) (w3 : (Jvm.Cond.initialized z.cls).before a0 Z = true) (w4 : (Jvm.Cond.code z bytes maxL ret).before a0 Z = true)
    {a : Addr} (E : Exa Z h a C) (ct : Ct l z bytes maxL ret rm Z (.ref a :: argsL).toArray h Q') (eT : T.heap = h) (hsz : Ls.size = c.maxLocals) (hlen : ∀ sig, parseMethodDescriptor y.desc = some sig → argsL.length = sig.parameters.length) (hst : st = argsL.reverse ++ .ref a :: rest) (hW : (rest.map fun v => v.category).sum = W)
    (hd : decode c.code pc = .ok (.invokevirtual index, 3)) (hf : rm.frames + 1 ≤ R.frames) (hl : W + (maxL + 11) + rm.locals ≤ R.locals) (hc : cells + rm.cells ≤ R.cells) (hs : slots + rm.slots ≤ R.slots)
    (k : ∀ v T' h' L, Stand p l e R s m args below meth c T' (locs ++ L) (cells + rm.cells) (slots + rm.slots) → T'.heap = h' → Q' v h' L → Go p e below P T' (mkF m (pc + 3) Ls (v.toList ++ rest))) : Go p e below P T (mkF m pc Ls st) := by
  obtain ⟨cq, kq, qa, qb, qc⟩ := isOf hZ eT E
  obtain ⟨v, _, ⟨T', L, k', n'⟩, -, X', ⟨Lc, hQ, hl', hk', hn'⟩, st'⟩ := X.virtualBackUp hx (x := y) (y := z) (owner := owner) hown (mvT hZ w1) (mvT hZ ws) (mvT hZ w2) ho (mvT hZ w5) (mvT hZ w6) (backOf (W := W) (ct []) hZ w4 w3 hf hl) qa qc (g := mkF m pc Ls st) rfl hsz (Steps.refl _) (argsL := argsL) (rest := rest) hlen hst (by subst hW; show 2 * 0 + _ ≤ _; omega) hd (fun _ _ => ⟨rfl, eT, hc, hs⟩)
  dsimp only [Pt.U, Pt.locs, Pt.cells, Pt.slots] at X' hl' hk' hn' st' hQ
  subst hl' hk' hn'
  exact Go.by (fun _ kk => st'.trans kk) (k v T' _ Lc X' rfl hQ)
end Call
theorem eqI_v {args : Array Value} {first s : State} {o : Option Outcome} {idx : List Nat} {t : Term} {n : Int32} (h : (Jvm.Cond.eq t (.int n)).value args first o s idx = some true) : t.eval args first o idx s = some (.int n) := by
  simp only [Cond.value, Term.eval] at h
  cases ht : t.eval args first o idx s with
  | none => simp [ht] at h
  | some x => cases x <;> simp [ht] at h ⊢; exact h
theorem nsRoot {O K : String} {n : Nat} (w : (Jvm.Cond.noSuperclass O).before a0 Z = true) (wk : (Jvm.Cond.instantiable K n).before a0 Z = true) (hn : O ≠ K) : NS Z O K := by
  obtain ⟨c, k, h1, h2, h3, -, -⟩ := Cond.noSuperclass_spec w
  obtain ⟨t, kt, g1, -⟩ := Cond.instantiable_spec wk
  have ne := ids_ne h1 g1 hn
  refine ⟨c, t, h1, g1, fun fuel => ?_⟩
  cases fuel with
  | zero => rfl
  | succ f => simp [Vm.isSubclassAux, ne, h2, h3]
theorem nsNo {C S K : String} {n : Nat} (w : (Jvm.Cond.superclass C S).before a0 Z = true) (wk : (Jvm.Cond.instantiable K n).before a0 Z = true) (ns : NS Z C K) (hn : C ≠ K) : ∃ c t, Z.vm.findClass C = some c ∧ Z.vm.findClass K = some t ∧ Z.vm.assignable c t = false := by
  obtain ⟨c, t, h0, g0, n3⟩ := ns
  obtain ⟨p, k, kp, h1, h2, h3, h4, h5, -, h7⟩ := Cond.superclass_spec h0 w
  obtain ⟨t', k', g1, g2, g3, g4, -⟩ := Cond.instantiable_spec wk
  cases g0.symm.trans g1
  have ne := ids_ne h0 g0 hn
  have g5 : k'.isInterface = false := by cases hq : k'.isInterface <;> simp [hq] at g4 ⊢
  refine ⟨c, t, h0, g0, ?_⟩
  show Z.vm.assignableAux (255 + 1) c t = false
  simp [Vm.assignableAux, ne, h2, g2, h5, g3, g5, Vm.isSubclass, n3]
theorem lenI_v {args : Array Value} {first s : State} {o : Option Outcome} {idx : List Nat} {t : Term} {a : Addr} {cl : Cell} {n : Int32} (h : (Term.length t).eval args first o idx s = some (.int n)) (ht : t.eval args first o idx s = some (.ref a)) (ha : s.arrayAt? a = some cl) : cl.slots.size < 2 ^ 31 ∧ cl.slots.size.toInt32 = n := by
  simp [Term.eval, ht, ha] at h; exact h
theorem size_le {cl : Cell} {n : Int32} {k : Nat} (q : cl.slots.size < 2 ^ 31 ∧ cl.slots.size.toInt32 = n) (hn : n.toInt = k) : cl.slots.size = k := by
  have := len_toInt q.1; rw [q.2, hn] at this; exact (Int.ofNat.inj this).symm
theorem eqR_v {args : Array Value} {first s : State} {o : Option Outcome} {idx : List Nat} {t u : Term} {w : Addr} (hu : u.eval args first o idx s = some (.ref w)) (h : (Jvm.Cond.eq t u).value args first o s idx = some true) : t.eval args first o idx s = some (.ref w) := by
  simp only [Cond.value, hu] at h
  cases ht : t.eval args first o idx s with
  | none => simp [ht] at h
  | some x => cases x <;> simp [ht] at h ⊢; exact h
theorem Old.le {n0 : Nat} (O : Old Z n0 h) : n0 ≤ h.size := O.1 ▸ O.2.1
end K
end Jvm.OwnKit
namespace Jvm.Pilot.@@N@@
open Jvm Jvm.ClassFile Sem Op Lib Jvm.Free Jvm.Stand Jvm.LawKit Jvm.RoadKit Jvm.OwnKit Bundle Jvm.Pilot.@@N@@.Jvm.D
theorem own_mod5 (x : Int32) : ((x &&& (2147483647 : Int32)) % (5 : Int32)) = (0 : Int32) ∨ ((x &&& (2147483647 : Int32)) % (5 : Int32)) = (1 : Int32) ∨ ((x &&& (2147483647 : Int32)) % (5 : Int32)) = (2 : Int32) ∨ ((x &&& (2147483647 : Int32)) % (5 : Int32)) = (3 : Int32) ∨ ((x &&& (2147483647 : Int32)) % (5 : Int32)) = (4 : Int32) := by
  have h1 := c_and x (2147483647 : Int32) (by decide)
  have h2 := (c_iremV (x &&& (2147483647 : Int32)) (5 : Int32)).1 h1.1 (by decide)
  have e3 : (5 : Int32).toInt = 5 := rfl
  have h3 : ((x &&& (2147483647 : Int32)) % (5 : Int32)).toInt = 0 ∨ ((x &&& (2147483647 : Int32)) % (5 : Int32)).toInt = 1 ∨ ((x &&& (2147483647 : Int32)) % (5 : Int32)).toInt = 2 ∨ ((x &&& (2147483647 : Int32)) % (5 : Int32)).toInt = 3 ∨ ((x &&& (2147483647 : Int32)) % (5 : Int32)).toInt = 4 := by omega
  rcases h3 with h | h | h | h | h
  · exact Or.inl (Int32.toInt_inj.mp h)
  · exact Or.inr (Or.inl (Int32.toInt_inj.mp h))
  · exact Or.inr (Or.inr (Or.inl (Int32.toInt_inj.mp h)))
  · exact Or.inr (Or.inr (Or.inr (Or.inl (Int32.toInt_inj.mp h))))
  · exact Or.inr (Or.inr (Or.inr (Or.inr (Int32.toInt_inj.mp h))))
theorem d_m2_0 : decode method_2_code 0 = .ok (.iload_n 0, 1) := by decide +kernel
theorem d_m2_1 : decode method_2_code 1 = .ok (.ifCond .ne 7, 3) := by decide +kernel
theorem d_m2_4 : decode method_2_code 4 = .ok (.getstatic 7, 3) := by decide +kernel
theorem d_m2_7 : decode method_2_code 7 = .ok (.areturn, 1) := by decide +kernel
theorem d_m2_8 : decode method_2_code 8 = .ok (.iload_n 0, 1) := by decide +kernel
theorem d_m2_9 : decode method_2_code 9 = .ok (.iconst 1, 1) := by decide +kernel
theorem d_m2_10 : decode method_2_code 10 = .ok (.if_icmp .ne 7, 3) := by decide +kernel
theorem d_m2_13 : decode method_2_code 13 = .ok (.getstatic 13, 3) := by decide +kernel
theorem d_m2_16 : decode method_2_code 16 = .ok (.areturn, 1) := by decide +kernel
theorem d_m2_17 : decode method_2_code 17 = .ok (.iload_n 0, 1) := by decide +kernel
theorem d_m2_18 : decode method_2_code 18 = .ok (.iconst 2, 1) := by decide +kernel
theorem d_m2_19 : decode method_2_code 19 = .ok (.if_icmp .ne 7, 3) := by decide +kernel
theorem d_m2_22 : decode method_2_code 22 = .ok (.getstatic 16, 3) := by decide +kernel
theorem d_m2_25 : decode method_2_code 25 = .ok (.areturn, 1) := by decide +kernel
theorem d_m2_26 : decode method_2_code 26 = .ok (.iload_n 0, 1) := by decide +kernel
theorem d_m2_27 : decode method_2_code 27 = .ok (.iconst 3, 1) := by decide +kernel
theorem d_m2_28 : decode method_2_code 28 = .ok (.if_icmp .ne 7, 3) := by decide +kernel
theorem d_m2_31 : decode method_2_code 31 = .ok (.getstatic 19, 3) := by decide +kernel
theorem d_m2_34 : decode method_2_code 34 = .ok (.areturn, 1) := by decide +kernel
theorem d_m2_35 : decode method_2_code 35 = .ok (.getstatic 22, 3) := by decide +kernel
theorem d_m2_38 : decode method_2_code 38 = .ok (.areturn, 1) := by decide +kernel
theorem pn_OrderingWritesEachValueOncePinLaw_75 : plainName "com/example/tagfold/tagfold/value/OrderingWritesEachValueOncePinLaw" = true := by first | (simp [plainName, overriddenIn]; done) | decide +kernel
theorem d_p173_m8_0 : decode prog_173_method_8_code 0 = .ok (.aload_n 0, 1) := by decide +kernel
theorem d_p173_m8_1 : decode prog_173_method_8_code 1 = .ok (.getstatic 3, 3) := by decide +kernel
theorem d_p173_m8_4 : decode prog_173_method_8_code 4 = .ok (.if_acmp .eq 17, 3) := by decide +kernel
theorem d_p173_m8_21 : decode prog_173_method_8_code 21 = .ok (.iconst 1, 1) := by decide +kernel
theorem d_p173_m8_22 : decode prog_173_method_8_code 22 = .ok (.goto 4, 3) := by decide +kernel
theorem d_p173_m8_26 : decode prog_173_method_8_code 26 = .ok (.ireturn, 1) := by decide +kernel
theorem d_p173_m8_7 : decode prog_173_method_8_code 7 = .ok (.aload_n 0, 1) := by decide +kernel
theorem d_p173_m8_8 : decode prog_173_method_8_code 8 = .ok (.getstatic 16, 3) := by decide +kernel
theorem d_p173_m8_11 : decode prog_173_method_8_code 11 = .ok (.if_acmp .eq 10, 3) := by decide +kernel
theorem d_p173_m8_14 : decode prog_173_method_8_code 14 = .ok (.aload_n 0, 1) := by decide +kernel
theorem d_p173_m8_15 : decode prog_173_method_8_code 15 = .ok (.getstatic 10, 3) := by decide +kernel
theorem d_p173_m8_18 : decode prog_173_method_8_code 18 = .ok (.if_acmp .ne 7, 3) := by decide +kernel
theorem d_p173_m8_25 : decode prog_173_method_8_code 25 = .ok (.iconst 0, 1) := by decide +kernel
theorem pn_Ordering_661 : plainName "com/example/tagfold/tagfold/value/Ordering" = true := by first | (simp [plainName, overriddenIn]; done) | decide +kernel
theorem d_p173_m5_0 : decode prog_173_method_5_code 0 = .ok (.aload_n 0, 1) := by decide +kernel
theorem d_p173_m5_1 : decode prog_173_method_5_code 1 = .ok (.getstatic 10, 3) := by decide +kernel
theorem d_p173_m5_4 : decode prog_173_method_5_code 4 = .ok (.if_acmp .ne 9, 3) := by decide +kernel
theorem d_p173_m5_7 : decode prog_173_method_5_code 7 = .ok (.getstatic 16, 3) := by decide +kernel
theorem d_p173_m5_10 : decode prog_173_method_5_code 10 = .ok (.goto 4, 3) := by decide +kernel
theorem d_p173_m5_14 : decode prog_173_method_5_code 14 = .ok (.areturn, 1) := by decide +kernel
theorem d_p173_m5_13 : decode prog_173_method_5_code 13 = .ok (.aload_n 0, 1) := by decide +kernel
theorem d_p173_m9_0 : decode prog_173_method_9_code 0 = .ok (.aload_n 0, 1) := by decide +kernel
theorem d_p173_m9_1 : decode prog_173_method_9_code 1 = .ok (.getstatic 7, 3) := by decide +kernel
theorem d_p173_m9_4 : decode prog_173_method_9_code 4 = .ok (.if_acmp .ne 7, 3) := by decide +kernel
theorem d_p173_m9_7 : decode prog_173_method_9_code 7 = .ok (.iconst 1, 1) := by decide +kernel
theorem d_p173_m9_8 : decode prog_173_method_9_code 8 = .ok (.goto 4, 3) := by decide +kernel
theorem d_p173_m9_12 : decode prog_173_method_9_code 12 = .ok (.ireturn, 1) := by decide +kernel
theorem d_p173_m9_11 : decode prog_173_method_9_code 11 = .ok (.iconst 0, 1) := by decide +kernel
theorem d_p173_m10_0 : decode prog_173_method_10_code 0 = .ok (.aload_n 0, 1) := by decide +kernel
theorem d_j37_m2_0 : decode jdk_37_method_2_code 0 = .ok (.aload_n 0, 1) := by decide +kernel
theorem d_j37_m2_1 : decode jdk_37_method_2_code 1 = .ok (.getfield 7, 3) := by decide +kernel
theorem d_j37_m2_4 : decode jdk_37_method_2_code 4 = .ok (.ireturn, 1) := by decide +kernel
theorem pn_Enum_351 : plainName "java/lang/Enum" = true := by first | (simp [plainName, overriddenIn]; done) | decide +kernel
theorem pd___I_8321 : parseMethodDescriptor "()I" = some ⟨[], some .int⟩ := by decide +kernel
theorem d_p173_m10_1 : decode prog_173_method_10_code 1 = .ok (.invokevirtual 74, 3) := by decide +kernel
theorem d_p173_m10_4 : decode prog_173_method_10_code 4 = .ok (.tableswitch 36 0 4 #[46, 64, 52, 64, 52], 36) := by decide +kernel
theorem d_p173_m10_50 : decode prog_173_method_10_code 50 = .ok (.iconst 0, 1) := by decide +kernel
theorem d_p173_m10_51 : decode prog_173_method_10_code 51 = .ok (.newarray .byte, 2) := by decide +kernel
theorem d_p173_m10_53 : decode prog_173_method_10_code 53 = .ok (.goto 16, 3) := by decide +kernel
theorem d_p173_m10_69 : decode prog_173_method_10_code 69 = .ok (.areturn, 1) := by decide +kernel
theorem d_p173_m10_68 : decode prog_173_method_10_code 68 = .ok (.aconst_null, 1) := by decide +kernel
theorem d_p173_m10_56 : decode prog_173_method_10_code 56 = .ok (.getstatic 102, 3) := by decide +kernel
theorem d_p173_m10_59 : decode prog_173_method_10_code 59 = .ok (.invokevirtual 106, 3) := by decide +kernel
theorem d_p173_m10_62 : decode prog_173_method_10_code 62 = .ok (.checkcast 107, 3) := by decide +kernel
theorem d_p173_m10_65 : decode prog_173_method_10_code 65 = .ok (.goto 4, 3) := by decide +kernel
theorem pd__I_Lcom_example_tagfold_tagfold_value_Or_8665 : parseMethodDescriptor "(I)Lcom/example/tagfold/tagfold/value/Ordering;" = some ⟨[.int], some (.object "com/example/tagfold/tagfold/value/Ordering")⟩ := by decide +kernel
theorem pd___Z_8338 : parseMethodDescriptor "()Z" = some ⟨[], some .boolean⟩ := by decide +kernel
theorem pd____B_8554 : parseMethodDescriptor "()[B" = some ⟨[], some (.array .byte)⟩ := by decide +kernel
theorem pd___Lcom_example_tagfold_tagfold_value_Ord_986 : parseMethodDescriptor "()Lcom/example/tagfold/tagfold/value/Ordering;" = some ⟨[], some (.object "com/example/tagfold/tagfold/value/Ordering")⟩ := by decide +kernel
set_option maxRecDepth 65536 in
set_option maxHeartbeats 40000000 in
theorem ct_pick (l : Launch) (Z : State) (a0 : Array Value) (hw : ∀ d ∈ tables_1, d.before a0 Z = true) (w_ALPHA : Addr) (w_NUMERIC : Addr) (w_TIME : Addr) (w_BINARY : Addr) (w_DATE : Addr) (w_DF : Addr) (cl_DF : Cell) (S_ALPHA : Sta Z Z.heap "com/example/tagfold/tagfold/value/Ordering" "ALPHA" "Lcom/example/tagfold/tagfold/value/Ordering;" (.ref w_ALPHA)) (S_NUMERIC : Sta Z Z.heap "com/example/tagfold/tagfold/value/Ordering" "NUMERIC" "Lcom/example/tagfold/tagfold/value/Ordering;" (.ref w_NUMERIC)) (S_TIME : Sta Z Z.heap "com/example/tagfold/tagfold/value/Ordering" "TIME" "Lcom/example/tagfold/tagfold/value/Ordering;" (.ref w_TIME)) (S_BINARY : Sta Z Z.heap "com/example/tagfold/tagfold/value/Ordering" "BINARY" "Lcom/example/tagfold/tagfold/value/Ordering;" (.ref w_BINARY)) (S_DATE : Sta Z Z.heap "com/example/tagfold/tagfold/value/Ordering" "DATE" "Lcom/example/tagfold/tagfold/value/Ordering;" (.ref w_DATE)) (E_ALPHA : Exa Z Z.heap w_ALPHA "com/example/tagfold/tagfold/value/Ordering") (E_NUMERIC : Exa Z Z.heap w_NUMERIC "com/example/tagfold/tagfold/value/Ordering") (E_TIME : Exa Z Z.heap w_TIME "com/example/tagfold/tagfold/value/Ordering") (E_BINARY : Exa Z Z.heap w_BINARY "com/example/tagfold/tagfold/value/Ordering") (E_DATE : Exa Z Z.heap w_DATE "com/example/tagfold/tagfold/value/Ordering") (F_ALPHA : Fld Z Z.heap w_ALPHA "java/lang/Enum" "ordinal" "I" (.int (0 : Int32))) (F_NUMERIC : Fld Z Z.heap w_NUMERIC "java/lang/Enum" "ordinal" "I" (.int (1 : Int32))) (F_TIME : Fld Z Z.heap w_TIME "java/lang/Enum" "ordinal" "I" (.int (2 : Int32))) (F_BINARY : Fld Z Z.heap w_BINARY "java/lang/Enum" "ordinal" "I" (.int (3 : Int32))) (F_DATE : Fld Z Z.heap w_DATE "java/lang/Enum" "ordinal" "I" (.int (4 : Int32))) (ne_ALPHA_NUMERIC : w_ALPHA ≠ w_NUMERIC) (ne_ALPHA_TIME : w_ALPHA ≠ w_TIME) (ne_ALPHA_BINARY : w_ALPHA ≠ w_BINARY) (ne_ALPHA_DATE : w_ALPHA ≠ w_DATE) (ne_NUMERIC_TIME : w_NUMERIC ≠ w_TIME) (ne_NUMERIC_BINARY : w_NUMERIC ≠ w_BINARY) (ne_NUMERIC_DATE : w_NUMERIC ≠ w_DATE) (ne_TIME_BINARY : w_TIME ≠ w_BINARY) (ne_TIME_DATE : w_TIME ≠ w_DATE) (ne_BINARY_DATE : w_BINARY ≠ w_DATE) (S_DF : Sta Z Z.heap "com/example/tagfold/tagfold/value/Ordering" "DATE_FORM" "[B" (.ref w_DF)) (A_DF : Arr Z Z.heap w_DF cl_DF .byte) (E_DF : Exa Z Z.heap w_DF "[B") (Q_DF : FitC Z cl_DF) (z_DF : cl_DF.slots.size = 19) (z1 : Int32) (r : Addr) (h0 : Heap) (n0 : Nat) (O : Old Z n0 h0) (hr : r = if z1 = 0 then w_ALPHA else if z1 = 1 then w_NUMERIC else if z1 = 2 then w_TIME else if z1 = 3 then w_BINARY else w_DATE) :
    Ct l (⟨"com/example/tagfold/tagfold/value/OrderingWritesEachValueOncePinLaw", "pick", "(I)Lcom/example/tagfold/tagfold/value/Ordering;"⟩ : MethodName) method_2_code 1 (some (.object "com/example/tagfold/tagfold/value/Ordering")) ({ frames := 0, cells := 0, slots := 0, locals := 0 } : Room) Z #[(.int z1)] h0 (fun v h L => v = some (.ref r) ∧ Fr n0 L ∧ h0 = h) := by
  refine Ct.of (plainFor_of_name pn_OrderingWritesEachValueOncePinLaw_75) ?_
  intro p e s m below meth c T0 X0 hx hby hml hown hnm hret hlk hZ e0
  have hown : s.vm.findClass "com/example/tagfold/tagfold/value/OrderingWritesEachValueOncePinLaw" = some m.cls := hown
  have hml : c.maxLocals = 1 := hml
  have N0 := Fr.nil n0
  refine Go.cast (g' := mkF m 0 #[.val (.int z1)] []) (by first | (simp [entryFrame, mkF, argsToLocals, Value.category]; done) | rfl) ?_
  refine Go.by (T' := T0) (g' := (mkF m 1 #[.val (.int z1)] [(.int z1)])) (fun t k => ?_) ?_
  · show Steps p.tables e below (T0.setTop (mkF m 0 #[.val (.int z1)] [])) _
    refine XS.iloadN X0.here hx rfl (hb hby d_m2_0) rfl ?_
    exact k
  by_cases hy1 : z1 = (0 : Int32)
  · skip
    refine Go.by (T' := T0) (g' := (mkF m 4 #[.val (.int z1)] [])) (fun t k => ?_) ?_
    · show Steps p.tables e below (T0.setTop (mkF m 1 #[.val (.int z1)] [(.int z1)])) _
      refine XS.ifNo X0.here hx rfl (hb hby d_m2_1) rfl ((if0 _ _).trans (teq hy1).2) ?_
      exact k
    refine Go.getS X0 hx hZ hown (wd hw 5 rfl) Via.refl e0 (S_ALPHA.ext O.2) (hb hby d_m2_4) ?_
    intro T2 X2 e2
    show Go p e below _ T2 (mkF m 7 #[.val (.int z1)] [(.ref w_ALPHA)])
    refine Go.retA X2 hx hlk hret rfl rfl (hb hby d_m2_7) (by decide) (by decide) e2 ?_
    exact ⟨by simp [hr, hy1], N0, rfl⟩
  · skip
    refine Go.by (T' := T0) (g' := (mkF m 10 #[.val (.int z1)] [(.int (1 : Int32)), (.int z1)])) (fun t k => ?_) ?_
    · show Steps p.tables e below (T0.setTop (mkF m 1 #[.val (.int z1)] [(.int z1)])) _
      refine XS.ifYes X0.here hx rfl (pc0 := 1) (pc' := 8) rfl (hb hby d_m2_1) rfl ((if0 _ _).trans (feq hy1).2) (by decide) (by decide) ?_
      show Steps p.tables e below (T0.setTop (mkF m 8 #[.val (.int z1)] [])) _
      refine XS.iloadN X0.here hx rfl (hb hby d_m2_8) rfl ?_
      show Steps p.tables e below (T0.setTop (mkF m 9 #[.val (.int z1)] [(.int z1)])) _
      refine XS.iconst X0.here hx rfl (hb hby d_m2_9) ?_
      exact k
    by_cases hy3 : z1 = (1 : Int32)
    · skip
      refine Go.by (T' := T0) (g' := (mkF m 13 #[.val (.int z1)] [])) (fun t k => ?_) ?_
      · show Steps p.tables e below (T0.setTop (mkF m 10 #[.val (.int z1)] [(.int (1 : Int32)), (.int z1)])) _
        refine XS.icmpNo X0.here hx rfl (hb hby d_m2_10) rfl (teq hy3).2 ?_
        exact k
      refine Go.getS X0 hx hZ hown (wd hw 47 rfl) Via.refl e0 (S_NUMERIC.ext O.2) (hb hby d_m2_13) ?_
      intro T4 X4 e4
      show Go p e below _ T4 (mkF m 16 #[.val (.int z1)] [(.ref w_NUMERIC)])
      refine Go.retA X4 hx hlk hret rfl rfl (hb hby d_m2_16) (by decide) (by decide) e4 ?_
      exact ⟨by simp [hr, hy1, hy3], N0, rfl⟩
    · skip
      refine Go.by (T' := T0) (g' := (mkF m 19 #[.val (.int z1)] [(.int (2 : Int32)), (.int z1)])) (fun t k => ?_) ?_
      · show Steps p.tables e below (T0.setTop (mkF m 10 #[.val (.int z1)] [(.int (1 : Int32)), (.int z1)])) _
        refine XS.icmpYes X0.here hx rfl (pc0 := 10) (pc' := 17) rfl (hb hby d_m2_10) rfl (feq hy3).2 (by decide) (by decide) ?_
        show Steps p.tables e below (T0.setTop (mkF m 17 #[.val (.int z1)] [])) _
        refine XS.iloadN X0.here hx rfl (hb hby d_m2_17) rfl ?_
        show Steps p.tables e below (T0.setTop (mkF m 18 #[.val (.int z1)] [(.int z1)])) _
        refine XS.iconst X0.here hx rfl (hb hby d_m2_18) ?_
        exact k
      by_cases hy5 : z1 = (2 : Int32)
      · skip
        refine Go.by (T' := T0) (g' := (mkF m 22 #[.val (.int z1)] [])) (fun t k => ?_) ?_
        · show Steps p.tables e below (T0.setTop (mkF m 19 #[.val (.int z1)] [(.int (2 : Int32)), (.int z1)])) _
          refine XS.icmpNo X0.here hx rfl (hb hby d_m2_19) rfl (teq hy5).2 ?_
          exact k
        refine Go.getS X0 hx hZ hown (wd hw 60 rfl) Via.refl e0 (S_TIME.ext O.2) (hb hby d_m2_22) ?_
        intro T6 X6 e6
        show Go p e below _ T6 (mkF m 25 #[.val (.int z1)] [(.ref w_TIME)])
        refine Go.retA X6 hx hlk hret rfl rfl (hb hby d_m2_25) (by decide) (by decide) e6 ?_
        exact ⟨by simp [hr, hy1, hy3, hy5], N0, rfl⟩
      · skip
        refine Go.by (T' := T0) (g' := (mkF m 28 #[.val (.int z1)] [(.int (3 : Int32)), (.int z1)])) (fun t k => ?_) ?_
        · show Steps p.tables e below (T0.setTop (mkF m 19 #[.val (.int z1)] [(.int (2 : Int32)), (.int z1)])) _
          refine XS.icmpYes X0.here hx rfl (pc0 := 19) (pc' := 26) rfl (hb hby d_m2_19) rfl (feq hy5).2 (by decide) (by decide) ?_
          show Steps p.tables e below (T0.setTop (mkF m 26 #[.val (.int z1)] [])) _
          refine XS.iloadN X0.here hx rfl (hb hby d_m2_26) rfl ?_
          show Steps p.tables e below (T0.setTop (mkF m 27 #[.val (.int z1)] [(.int z1)])) _
          refine XS.iconst X0.here hx rfl (hb hby d_m2_27) ?_
          exact k
        by_cases hy7 : z1 = (3 : Int32)
        · skip
          refine Go.by (T' := T0) (g' := (mkF m 31 #[.val (.int z1)] [])) (fun t k => ?_) ?_
          · show Steps p.tables e below (T0.setTop (mkF m 28 #[.val (.int z1)] [(.int (3 : Int32)), (.int z1)])) _
            refine XS.icmpNo X0.here hx rfl (hb hby d_m2_28) rfl (teq hy7).2 ?_
            exact k
          refine Go.getS X0 hx hZ hown (wd hw 43 rfl) Via.refl e0 (S_BINARY.ext O.2) (hb hby d_m2_31) ?_
          intro T8 X8 e8
          show Go p e below _ T8 (mkF m 34 #[.val (.int z1)] [(.ref w_BINARY)])
          refine Go.retA X8 hx hlk hret rfl rfl (hb hby d_m2_34) (by decide) (by decide) e8 ?_
          exact ⟨by simp [hr, hy1, hy3, hy5, hy7], N0, rfl⟩
        · skip
          refine Go.by (T' := T0) (g' := (mkF m 35 #[.val (.int z1)] [])) (fun t k => ?_) ?_
          · show Steps p.tables e below (T0.setTop (mkF m 28 #[.val (.int z1)] [(.int (3 : Int32)), (.int z1)])) _
            refine XS.icmpYes X0.here hx rfl (pc0 := 28) (pc' := 35) rfl (hb hby d_m2_28) rfl (feq hy7).2 (by decide) (by decide) ?_
            exact k
          refine Go.getS X0 hx hZ hown (wd hw 48 rfl) Via.refl e0 (S_DATE.ext O.2) (hb hby d_m2_35) ?_
          intro T9 X9 e9
          show Go p e below _ T9 (mkF m 38 #[.val (.int z1)] [(.ref w_DATE)])
          refine Go.retA X9 hx hlk hret rfl rfl (hb hby d_m2_38) (by decide) (by decide) e9 ?_
          exact ⟨by simp [hr, hy1, hy3, hy5, hy7], N0, rfl⟩
set_option maxRecDepth 65536 in
set_option maxHeartbeats 40000000 in
theorem ct_wev (l : Launch) (Z : State) (a0 : Array Value) (hw : ∀ d ∈ tables_1, d.before a0 Z = true) (w_ALPHA : Addr) (w_NUMERIC : Addr) (w_TIME : Addr) (w_BINARY : Addr) (w_DATE : Addr) (w_DF : Addr) (cl_DF : Cell) (S_ALPHA : Sta Z Z.heap "com/example/tagfold/tagfold/value/Ordering" "ALPHA" "Lcom/example/tagfold/tagfold/value/Ordering;" (.ref w_ALPHA)) (S_NUMERIC : Sta Z Z.heap "com/example/tagfold/tagfold/value/Ordering" "NUMERIC" "Lcom/example/tagfold/tagfold/value/Ordering;" (.ref w_NUMERIC)) (S_TIME : Sta Z Z.heap "com/example/tagfold/tagfold/value/Ordering" "TIME" "Lcom/example/tagfold/tagfold/value/Ordering;" (.ref w_TIME)) (S_BINARY : Sta Z Z.heap "com/example/tagfold/tagfold/value/Ordering" "BINARY" "Lcom/example/tagfold/tagfold/value/Ordering;" (.ref w_BINARY)) (S_DATE : Sta Z Z.heap "com/example/tagfold/tagfold/value/Ordering" "DATE" "Lcom/example/tagfold/tagfold/value/Ordering;" (.ref w_DATE)) (E_ALPHA : Exa Z Z.heap w_ALPHA "com/example/tagfold/tagfold/value/Ordering") (E_NUMERIC : Exa Z Z.heap w_NUMERIC "com/example/tagfold/tagfold/value/Ordering") (E_TIME : Exa Z Z.heap w_TIME "com/example/tagfold/tagfold/value/Ordering") (E_BINARY : Exa Z Z.heap w_BINARY "com/example/tagfold/tagfold/value/Ordering") (E_DATE : Exa Z Z.heap w_DATE "com/example/tagfold/tagfold/value/Ordering") (F_ALPHA : Fld Z Z.heap w_ALPHA "java/lang/Enum" "ordinal" "I" (.int (0 : Int32))) (F_NUMERIC : Fld Z Z.heap w_NUMERIC "java/lang/Enum" "ordinal" "I" (.int (1 : Int32))) (F_TIME : Fld Z Z.heap w_TIME "java/lang/Enum" "ordinal" "I" (.int (2 : Int32))) (F_BINARY : Fld Z Z.heap w_BINARY "java/lang/Enum" "ordinal" "I" (.int (3 : Int32))) (F_DATE : Fld Z Z.heap w_DATE "java/lang/Enum" "ordinal" "I" (.int (4 : Int32))) (ne_ALPHA_NUMERIC : w_ALPHA ≠ w_NUMERIC) (ne_ALPHA_TIME : w_ALPHA ≠ w_TIME) (ne_ALPHA_BINARY : w_ALPHA ≠ w_BINARY) (ne_ALPHA_DATE : w_ALPHA ≠ w_DATE) (ne_NUMERIC_TIME : w_NUMERIC ≠ w_TIME) (ne_NUMERIC_BINARY : w_NUMERIC ≠ w_BINARY) (ne_NUMERIC_DATE : w_NUMERIC ≠ w_DATE) (ne_TIME_BINARY : w_TIME ≠ w_BINARY) (ne_TIME_DATE : w_TIME ≠ w_DATE) (ne_BINARY_DATE : w_BINARY ≠ w_DATE) (S_DF : Sta Z Z.heap "com/example/tagfold/tagfold/value/Ordering" "DATE_FORM" "[B" (.ref w_DF)) (A_DF : Arr Z Z.heap w_DF cl_DF .byte) (E_DF : Exa Z Z.heap w_DF "[B") (Q_DF : FitC Z cl_DF) (z_DF : cl_DF.slots.size = 19) (a1 : Addr) (r : Int32) (h0 : Heap) (n0 : Nat) (O : Old Z n0 h0) (hr : r = if a1 = w_ALPHA then 1 else if a1 = w_DATE then 1 else if a1 = w_TIME then 1 else 0) :
    Ct l (⟨"com/example/tagfold/tagfold/value/Ordering", "writesEachValueOnce", "()Z"⟩ : MethodName) prog_173_method_8_code 1 (some .boolean) ({ frames := 0, cells := 0, slots := 0, locals := 0 } : Room) Z #[(.ref a1)] h0 (fun v h L => v = some (.int r) ∧ Fr n0 L ∧ h0 = h) := by
  refine Ct.of (plainFor_of_name pn_Ordering_661) ?_
  intro p e s m below meth c T0 X0 hx hby hml hown hnm hret hlk hZ e0
  have hown : s.vm.findClass "com/example/tagfold/tagfold/value/Ordering" = some m.cls := hown
  have hml : c.maxLocals = 1 := hml
  have N0 := Fr.nil n0
  refine Go.cast (g' := mkF m 0 #[.val (.ref a1)] []) (by first | (simp [entryFrame, mkF, argsToLocals, Value.category]; done) | rfl) ?_
  refine Go.by (T' := T0) (g' := (mkF m 1 #[.val (.ref a1)] [(.ref a1)])) (fun t k => ?_) ?_
  · show Steps p.tables e below (T0.setTop (mkF m 0 #[.val (.ref a1)] [])) _
    refine XS.aloadN X0.here hx rfl (hb hby d_p173_m8_0) rfl rfl ?_
    exact k
  refine Go.getS X0 hx hZ hown (wd hw 13 rfl) Via.refl e0 (S_ALPHA.ext O.2) (hb hby d_p173_m8_1) ?_
  intro T1 X1 e1
  show Go p e below _ T1 (mkF m 4 #[.val (.ref a1)] [(.ref w_ALPHA), (.ref a1)])
  by_cases hy2 : a1 = w_ALPHA
  · skip
    refine Go.by (T' := T1) (g' := (mkF m 26 #[.val (.ref a1)] [(.int (1 : Int32))])) (fun t k => ?_) ?_
    · show Steps p.tables e below (T1.setTop (mkF m 4 #[.val (.ref a1)] [(.ref w_ALPHA), (.ref a1)])) _
      refine Jvm.RoadKit.acmp (g := (mkF m 4 #[.val (.ref a1)] [(.ref w_ALPHA), (.ref a1)])) X1 hx rfl rfl rfl (pc0 := 4) (pc' := 21) (same := true) rfl (hb hby d_p173_m8_4) rfl (decide_eq_true (congrArg Value.ref hy2)) (by decide) (by decide) ?_
      show Steps p.tables e below (T1.setTop (mkF m 21 #[.val (.ref a1)] [])) _
      refine XS.iconst X1.here hx rfl (hb hby d_p173_m8_21) ?_
      show Steps p.tables e below (T1.setTop (mkF m 22 #[.val (.ref a1)] [(.int (1 : Int32))])) _
      refine XS.goto X1.here hx rfl (pc0 := 22) (pc' := 26) rfl (hb hby d_p173_m8_22) (by decide) (by decide) ?_
      exact k
    refine Go.retZ X1 hx hlk hret (Or.inr rfl) (hb hby d_p173_m8_26) (by decide) (by decide) e1 ?_
    exact ⟨by simp [hr, hy2], N0, rfl⟩
  · skip
    refine Go.by (T' := T1) (g' := (mkF m 8 #[.val (.ref a1)] [(.ref a1)])) (fun t k => ?_) ?_
    · show Steps p.tables e below (T1.setTop (mkF m 4 #[.val (.ref a1)] [(.ref w_ALPHA), (.ref a1)])) _
      refine Jvm.RoadKit.acmp (g := (mkF m 4 #[.val (.ref a1)] [(.ref w_ALPHA), (.ref a1)])) X1 hx rfl rfl rfl (pc0 := 4) (pc' := 7) (same := false) rfl (hb hby d_p173_m8_4) rfl (decide_eq_false fun q => hy2 (Value.ref.inj q)) (by decide) (by decide) ?_
      show Steps p.tables e below (T1.setTop (mkF m 7 #[.val (.ref a1)] [])) _
      refine XS.aloadN X1.here hx rfl (hb hby d_p173_m8_7) rfl rfl ?_
      exact k
    refine Go.getS X1 hx hZ hown (wd hw 45 rfl) Via.refl e1 (S_DATE.ext O.2) (hb hby d_p173_m8_8) ?_
    intro T3 X3 e3
    show Go p e below _ T3 (mkF m 11 #[.val (.ref a1)] [(.ref w_DATE), (.ref a1)])
    by_cases hy4 : a1 = w_DATE
    · skip
      refine Go.by (T' := T3) (g' := (mkF m 26 #[.val (.ref a1)] [(.int (1 : Int32))])) (fun t k => ?_) ?_
      · show Steps p.tables e below (T3.setTop (mkF m 11 #[.val (.ref a1)] [(.ref w_DATE), (.ref a1)])) _
        refine Jvm.RoadKit.acmp (g := (mkF m 11 #[.val (.ref a1)] [(.ref w_DATE), (.ref a1)])) X3 hx rfl rfl rfl (pc0 := 11) (pc' := 21) (same := true) rfl (hb hby d_p173_m8_11) rfl (decide_eq_true (congrArg Value.ref hy4)) (by decide) (by decide) ?_
        show Steps p.tables e below (T3.setTop (mkF m 21 #[.val (.ref a1)] [])) _
        refine XS.iconst X3.here hx rfl (hb hby d_p173_m8_21) ?_
        show Steps p.tables e below (T3.setTop (mkF m 22 #[.val (.ref a1)] [(.int (1 : Int32))])) _
        refine XS.goto X3.here hx rfl (pc0 := 22) (pc' := 26) rfl (hb hby d_p173_m8_22) (by decide) (by decide) ?_
        exact k
      refine Go.retZ X3 hx hlk hret (Or.inr rfl) (hb hby d_p173_m8_26) (by decide) (by decide) e3 ?_
      exact ⟨by simp [hr, hy2, hy4], N0, rfl⟩
    · skip
      refine Go.by (T' := T3) (g' := (mkF m 15 #[.val (.ref a1)] [(.ref a1)])) (fun t k => ?_) ?_
      · show Steps p.tables e below (T3.setTop (mkF m 11 #[.val (.ref a1)] [(.ref w_DATE), (.ref a1)])) _
        refine Jvm.RoadKit.acmp (g := (mkF m 11 #[.val (.ref a1)] [(.ref w_DATE), (.ref a1)])) X3 hx rfl rfl rfl (pc0 := 11) (pc' := 14) (same := false) rfl (hb hby d_p173_m8_11) rfl (decide_eq_false fun q => hy4 (Value.ref.inj q)) (by decide) (by decide) ?_
        show Steps p.tables e below (T3.setTop (mkF m 14 #[.val (.ref a1)] [])) _
        refine XS.aloadN X3.here hx rfl (hb hby d_p173_m8_14) rfl rfl ?_
        exact k
      refine Go.getS X3 hx hZ hown (wd hw 34 rfl) Via.refl e3 (S_TIME.ext O.2) (hb hby d_p173_m8_15) ?_
      intro T5 X5 e5
      show Go p e below _ T5 (mkF m 18 #[.val (.ref a1)] [(.ref w_TIME), (.ref a1)])
      by_cases hy6 : a1 = w_TIME
      · skip
        refine Go.by (T' := T5) (g' := (mkF m 26 #[.val (.ref a1)] [(.int (1 : Int32))])) (fun t k => ?_) ?_
        · show Steps p.tables e below (T5.setTop (mkF m 18 #[.val (.ref a1)] [(.ref w_TIME), (.ref a1)])) _
          refine Jvm.RoadKit.acmp (g := (mkF m 18 #[.val (.ref a1)] [(.ref w_TIME), (.ref a1)])) X5 hx rfl rfl rfl (pc0 := 18) (pc' := 21) (same := true) rfl (hb hby d_p173_m8_18) rfl (decide_eq_true (congrArg Value.ref hy6)) (by decide) (by decide) ?_
          show Steps p.tables e below (T5.setTop (mkF m 21 #[.val (.ref a1)] [])) _
          refine XS.iconst X5.here hx rfl (hb hby d_p173_m8_21) ?_
          show Steps p.tables e below (T5.setTop (mkF m 22 #[.val (.ref a1)] [(.int (1 : Int32))])) _
          refine XS.goto X5.here hx rfl (pc0 := 22) (pc' := 26) rfl (hb hby d_p173_m8_22) (by decide) (by decide) ?_
          exact k
        refine Go.retZ X5 hx hlk hret (Or.inr rfl) (hb hby d_p173_m8_26) (by decide) (by decide) e5 ?_
        exact ⟨by simp [hr, hy2, hy4, hy6], N0, rfl⟩
      · skip
        refine Go.by (T' := T5) (g' := (mkF m 26 #[.val (.ref a1)] [(.int (0 : Int32))])) (fun t k => ?_) ?_
        · show Steps p.tables e below (T5.setTop (mkF m 18 #[.val (.ref a1)] [(.ref w_TIME), (.ref a1)])) _
          refine Jvm.RoadKit.acmp (g := (mkF m 18 #[.val (.ref a1)] [(.ref w_TIME), (.ref a1)])) X5 hx rfl rfl rfl (pc0 := 18) (pc' := 25) (same := false) rfl (hb hby d_p173_m8_18) rfl (decide_eq_false fun q => hy6 (Value.ref.inj q)) (by decide) (by decide) ?_
          show Steps p.tables e below (T5.setTop (mkF m 25 #[.val (.ref a1)] [])) _
          refine XS.iconst X5.here hx rfl (hb hby d_p173_m8_25) ?_
          exact k
        refine Go.retZ X5 hx hlk hret (Or.inl rfl) (hb hby d_p173_m8_26) (by decide) (by decide) e5 ?_
        exact ⟨by simp [hr, hy2, hy4, hy6], N0, rfl⟩
set_option maxRecDepth 65536 in
set_option maxHeartbeats 40000000 in
theorem ct_scale (l : Launch) (Z : State) (a0 : Array Value) (hw : ∀ d ∈ tables_1, d.before a0 Z = true) (w_ALPHA : Addr) (w_NUMERIC : Addr) (w_TIME : Addr) (w_BINARY : Addr) (w_DATE : Addr) (w_DF : Addr) (cl_DF : Cell) (S_ALPHA : Sta Z Z.heap "com/example/tagfold/tagfold/value/Ordering" "ALPHA" "Lcom/example/tagfold/tagfold/value/Ordering;" (.ref w_ALPHA)) (S_NUMERIC : Sta Z Z.heap "com/example/tagfold/tagfold/value/Ordering" "NUMERIC" "Lcom/example/tagfold/tagfold/value/Ordering;" (.ref w_NUMERIC)) (S_TIME : Sta Z Z.heap "com/example/tagfold/tagfold/value/Ordering" "TIME" "Lcom/example/tagfold/tagfold/value/Ordering;" (.ref w_TIME)) (S_BINARY : Sta Z Z.heap "com/example/tagfold/tagfold/value/Ordering" "BINARY" "Lcom/example/tagfold/tagfold/value/Ordering;" (.ref w_BINARY)) (S_DATE : Sta Z Z.heap "com/example/tagfold/tagfold/value/Ordering" "DATE" "Lcom/example/tagfold/tagfold/value/Ordering;" (.ref w_DATE)) (E_ALPHA : Exa Z Z.heap w_ALPHA "com/example/tagfold/tagfold/value/Ordering") (E_NUMERIC : Exa Z Z.heap w_NUMERIC "com/example/tagfold/tagfold/value/Ordering") (E_TIME : Exa Z Z.heap w_TIME "com/example/tagfold/tagfold/value/Ordering") (E_BINARY : Exa Z Z.heap w_BINARY "com/example/tagfold/tagfold/value/Ordering") (E_DATE : Exa Z Z.heap w_DATE "com/example/tagfold/tagfold/value/Ordering") (F_ALPHA : Fld Z Z.heap w_ALPHA "java/lang/Enum" "ordinal" "I" (.int (0 : Int32))) (F_NUMERIC : Fld Z Z.heap w_NUMERIC "java/lang/Enum" "ordinal" "I" (.int (1 : Int32))) (F_TIME : Fld Z Z.heap w_TIME "java/lang/Enum" "ordinal" "I" (.int (2 : Int32))) (F_BINARY : Fld Z Z.heap w_BINARY "java/lang/Enum" "ordinal" "I" (.int (3 : Int32))) (F_DATE : Fld Z Z.heap w_DATE "java/lang/Enum" "ordinal" "I" (.int (4 : Int32))) (ne_ALPHA_NUMERIC : w_ALPHA ≠ w_NUMERIC) (ne_ALPHA_TIME : w_ALPHA ≠ w_TIME) (ne_ALPHA_BINARY : w_ALPHA ≠ w_BINARY) (ne_ALPHA_DATE : w_ALPHA ≠ w_DATE) (ne_NUMERIC_TIME : w_NUMERIC ≠ w_TIME) (ne_NUMERIC_BINARY : w_NUMERIC ≠ w_BINARY) (ne_NUMERIC_DATE : w_NUMERIC ≠ w_DATE) (ne_TIME_BINARY : w_TIME ≠ w_BINARY) (ne_TIME_DATE : w_TIME ≠ w_DATE) (ne_BINARY_DATE : w_BINARY ≠ w_DATE) (S_DF : Sta Z Z.heap "com/example/tagfold/tagfold/value/Ordering" "DATE_FORM" "[B" (.ref w_DF)) (A_DF : Arr Z Z.heap w_DF cl_DF .byte) (E_DF : Exa Z Z.heap w_DF "[B") (Q_DF : FitC Z cl_DF) (z_DF : cl_DF.slots.size = 19) (a1 : Addr) (r : Addr) (h0 : Heap) (n0 : Nat) (O : Old Z n0 h0) (hr : r = if a1 = w_TIME then w_DATE else a1) :
    Ct l (⟨"com/example/tagfold/tagfold/value/Ordering", "scale", "()Lcom/example/tagfold/tagfold/value/Ordering;"⟩ : MethodName) prog_173_method_5_code 1 (some (.object "com/example/tagfold/tagfold/value/Ordering")) ({ frames := 0, cells := 0, slots := 0, locals := 0 } : Room) Z #[(.ref a1)] h0 (fun v h L => v = some (.ref r) ∧ Fr n0 L ∧ h0 = h) := by
  refine Ct.of (plainFor_of_name pn_Ordering_661) ?_
  intro p e s m below meth c T0 X0 hx hby hml hown hnm hret hlk hZ e0
  have hown : s.vm.findClass "com/example/tagfold/tagfold/value/Ordering" = some m.cls := hown
  have hml : c.maxLocals = 1 := hml
  have N0 := Fr.nil n0
  refine Go.cast (g' := mkF m 0 #[.val (.ref a1)] []) (by first | (simp [entryFrame, mkF, argsToLocals, Value.category]; done) | rfl) ?_
  refine Go.by (T' := T0) (g' := (mkF m 1 #[.val (.ref a1)] [(.ref a1)])) (fun t k => ?_) ?_
  · show Steps p.tables e below (T0.setTop (mkF m 0 #[.val (.ref a1)] [])) _
    refine XS.aloadN X0.here hx rfl (hb hby d_p173_m5_0) rfl rfl ?_
    exact k
  refine Go.getS X0 hx hZ hown (wd hw 34 rfl) Via.refl e0 (S_TIME.ext O.2) (hb hby d_p173_m5_1) ?_
  intro T1 X1 e1
  show Go p e below _ T1 (mkF m 4 #[.val (.ref a1)] [(.ref w_TIME), (.ref a1)])
  by_cases hy2 : a1 = w_TIME
  · skip
    refine Go.by (T' := T1) (g' := (mkF m 7 #[.val (.ref a1)] [])) (fun t k => ?_) ?_
    · show Steps p.tables e below (T1.setTop (mkF m 4 #[.val (.ref a1)] [(.ref w_TIME), (.ref a1)])) _
      refine Jvm.RoadKit.acmp (g := (mkF m 4 #[.val (.ref a1)] [(.ref w_TIME), (.ref a1)])) X1 hx rfl rfl rfl (pc0 := 4) (pc' := 7) (same := true) rfl (hb hby d_p173_m5_4) rfl (decide_eq_true (congrArg Value.ref hy2)) (by decide) (by decide) ?_
      exact k
    refine Go.getS X1 hx hZ hown (wd hw 45 rfl) Via.refl e1 (S_DATE.ext O.2) (hb hby d_p173_m5_7) ?_
    intro T3 X3 e3
    show Go p e below _ T3 (mkF m 10 #[.val (.ref a1)] [(.ref w_DATE)])
    refine Go.by (T' := T3) (g' := (mkF m 14 #[.val (.ref a1)] [(.ref w_DATE)])) (fun t k => ?_) ?_
    · show Steps p.tables e below (T3.setTop (mkF m 10 #[.val (.ref a1)] [(.ref w_DATE)])) _
      refine XS.goto X3.here hx rfl (pc0 := 10) (pc' := 14) rfl (hb hby d_p173_m5_10) (by decide) (by decide) ?_
      exact k
    refine Go.retA X3 hx hlk hret rfl rfl (hb hby d_p173_m5_14) (by decide) (by decide) e3 ?_
    exact ⟨by simp [hr, hy2], N0, rfl⟩
  · skip
    refine Go.by (T' := T1) (g' := (mkF m 14 #[.val (.ref a1)] [(.ref a1)])) (fun t k => ?_) ?_
    · show Steps p.tables e below (T1.setTop (mkF m 4 #[.val (.ref a1)] [(.ref w_TIME), (.ref a1)])) _
      refine Jvm.RoadKit.acmp (g := (mkF m 4 #[.val (.ref a1)] [(.ref w_TIME), (.ref a1)])) X1 hx rfl rfl rfl (pc0 := 4) (pc' := 13) (same := false) rfl (hb hby d_p173_m5_4) rfl (decide_eq_false fun q => hy2 (Value.ref.inj q)) (by decide) (by decide) ?_
      show Steps p.tables e below (T1.setTop (mkF m 13 #[.val (.ref a1)] [])) _
      refine XS.aloadN X1.here hx rfl (hb hby d_p173_m5_13) rfl rfl ?_
      exact k
    refine Go.retA X1 hx hlk hret rfl rfl (hb hby d_p173_m5_14) (by decide) (by decide) e1 ?_
    exact ⟨by simp [hr, hy2], N0, rfl⟩
set_option maxRecDepth 65536 in
set_option maxHeartbeats 40000000 in
theorem ct_dense (l : Launch) (Z : State) (a0 : Array Value) (hw : ∀ d ∈ tables_1, d.before a0 Z = true) (w_ALPHA : Addr) (w_NUMERIC : Addr) (w_TIME : Addr) (w_BINARY : Addr) (w_DATE : Addr) (w_DF : Addr) (cl_DF : Cell) (S_ALPHA : Sta Z Z.heap "com/example/tagfold/tagfold/value/Ordering" "ALPHA" "Lcom/example/tagfold/tagfold/value/Ordering;" (.ref w_ALPHA)) (S_NUMERIC : Sta Z Z.heap "com/example/tagfold/tagfold/value/Ordering" "NUMERIC" "Lcom/example/tagfold/tagfold/value/Ordering;" (.ref w_NUMERIC)) (S_TIME : Sta Z Z.heap "com/example/tagfold/tagfold/value/Ordering" "TIME" "Lcom/example/tagfold/tagfold/value/Ordering;" (.ref w_TIME)) (S_BINARY : Sta Z Z.heap "com/example/tagfold/tagfold/value/Ordering" "BINARY" "Lcom/example/tagfold/tagfold/value/Ordering;" (.ref w_BINARY)) (S_DATE : Sta Z Z.heap "com/example/tagfold/tagfold/value/Ordering" "DATE" "Lcom/example/tagfold/tagfold/value/Ordering;" (.ref w_DATE)) (E_ALPHA : Exa Z Z.heap w_ALPHA "com/example/tagfold/tagfold/value/Ordering") (E_NUMERIC : Exa Z Z.heap w_NUMERIC "com/example/tagfold/tagfold/value/Ordering") (E_TIME : Exa Z Z.heap w_TIME "com/example/tagfold/tagfold/value/Ordering") (E_BINARY : Exa Z Z.heap w_BINARY "com/example/tagfold/tagfold/value/Ordering") (E_DATE : Exa Z Z.heap w_DATE "com/example/tagfold/tagfold/value/Ordering") (F_ALPHA : Fld Z Z.heap w_ALPHA "java/lang/Enum" "ordinal" "I" (.int (0 : Int32))) (F_NUMERIC : Fld Z Z.heap w_NUMERIC "java/lang/Enum" "ordinal" "I" (.int (1 : Int32))) (F_TIME : Fld Z Z.heap w_TIME "java/lang/Enum" "ordinal" "I" (.int (2 : Int32))) (F_BINARY : Fld Z Z.heap w_BINARY "java/lang/Enum" "ordinal" "I" (.int (3 : Int32))) (F_DATE : Fld Z Z.heap w_DATE "java/lang/Enum" "ordinal" "I" (.int (4 : Int32))) (ne_ALPHA_NUMERIC : w_ALPHA ≠ w_NUMERIC) (ne_ALPHA_TIME : w_ALPHA ≠ w_TIME) (ne_ALPHA_BINARY : w_ALPHA ≠ w_BINARY) (ne_ALPHA_DATE : w_ALPHA ≠ w_DATE) (ne_NUMERIC_TIME : w_NUMERIC ≠ w_TIME) (ne_NUMERIC_BINARY : w_NUMERIC ≠ w_BINARY) (ne_NUMERIC_DATE : w_NUMERIC ≠ w_DATE) (ne_TIME_BINARY : w_TIME ≠ w_BINARY) (ne_TIME_DATE : w_TIME ≠ w_DATE) (ne_BINARY_DATE : w_BINARY ≠ w_DATE) (S_DF : Sta Z Z.heap "com/example/tagfold/tagfold/value/Ordering" "DATE_FORM" "[B" (.ref w_DF)) (A_DF : Arr Z Z.heap w_DF cl_DF .byte) (E_DF : Exa Z Z.heap w_DF "[B") (Q_DF : FitC Z cl_DF) (z_DF : cl_DF.slots.size = 19) (a1 : Addr) (r : Int32) (h0 : Heap) (n0 : Nat) (O : Old Z n0 h0) (hr : r = if a1 = w_NUMERIC then 1 else 0) :
    Ct l (⟨"com/example/tagfold/tagfold/value/Ordering", "isDense", "()Z"⟩ : MethodName) prog_173_method_9_code 1 (some .boolean) ({ frames := 0, cells := 0, slots := 0, locals := 0 } : Room) Z #[(.ref a1)] h0 (fun v h L => v = some (.int r) ∧ Fr n0 L ∧ h0 = h) := by
  refine Ct.of (plainFor_of_name pn_Ordering_661) ?_
  intro p e s m below meth c T0 X0 hx hby hml hown hnm hret hlk hZ e0
  have hown : s.vm.findClass "com/example/tagfold/tagfold/value/Ordering" = some m.cls := hown
  have hml : c.maxLocals = 1 := hml
  have N0 := Fr.nil n0
  refine Go.cast (g' := mkF m 0 #[.val (.ref a1)] []) (by first | (simp [entryFrame, mkF, argsToLocals, Value.category]; done) | rfl) ?_
  refine Go.by (T' := T0) (g' := (mkF m 1 #[.val (.ref a1)] [(.ref a1)])) (fun t k => ?_) ?_
  · show Steps p.tables e below (T0.setTop (mkF m 0 #[.val (.ref a1)] [])) _
    refine XS.aloadN X0.here hx rfl (hb hby d_p173_m9_0) rfl rfl ?_
    exact k
  refine Go.getS X0 hx hZ hown (wd hw 41 rfl) Via.refl e0 (S_NUMERIC.ext O.2) (hb hby d_p173_m9_1) ?_
  intro T1 X1 e1
  show Go p e below _ T1 (mkF m 4 #[.val (.ref a1)] [(.ref w_NUMERIC), (.ref a1)])
  by_cases hy2 : a1 = w_NUMERIC
  · skip
    refine Go.by (T' := T1) (g' := (mkF m 12 #[.val (.ref a1)] [(.int (1 : Int32))])) (fun t k => ?_) ?_
    · show Steps p.tables e below (T1.setTop (mkF m 4 #[.val (.ref a1)] [(.ref w_NUMERIC), (.ref a1)])) _
      refine Jvm.RoadKit.acmp (g := (mkF m 4 #[.val (.ref a1)] [(.ref w_NUMERIC), (.ref a1)])) X1 hx rfl rfl rfl (pc0 := 4) (pc' := 7) (same := true) rfl (hb hby d_p173_m9_4) rfl (decide_eq_true (congrArg Value.ref hy2)) (by decide) (by decide) ?_
      show Steps p.tables e below (T1.setTop (mkF m 7 #[.val (.ref a1)] [])) _
      refine XS.iconst X1.here hx rfl (hb hby d_p173_m9_7) ?_
      show Steps p.tables e below (T1.setTop (mkF m 8 #[.val (.ref a1)] [(.int (1 : Int32))])) _
      refine XS.goto X1.here hx rfl (pc0 := 8) (pc' := 12) rfl (hb hby d_p173_m9_8) (by decide) (by decide) ?_
      exact k
    refine Go.retZ X1 hx hlk hret (Or.inr rfl) (hb hby d_p173_m9_12) (by decide) (by decide) e1 ?_
    exact ⟨by simp [hr, hy2], N0, rfl⟩
  · skip
    refine Go.by (T' := T1) (g' := (mkF m 12 #[.val (.ref a1)] [(.int (0 : Int32))])) (fun t k => ?_) ?_
    · show Steps p.tables e below (T1.setTop (mkF m 4 #[.val (.ref a1)] [(.ref w_NUMERIC), (.ref a1)])) _
      refine Jvm.RoadKit.acmp (g := (mkF m 4 #[.val (.ref a1)] [(.ref w_NUMERIC), (.ref a1)])) X1 hx rfl rfl rfl (pc0 := 4) (pc' := 11) (same := false) rfl (hb hby d_p173_m9_4) rfl (decide_eq_false fun q => hy2 (Value.ref.inj q)) (by decide) (by decide) ?_
      show Steps p.tables e below (T1.setTop (mkF m 11 #[.val (.ref a1)] [])) _
      refine XS.iconst X1.here hx rfl (hb hby d_p173_m9_11) ?_
      exact k
    refine Go.retZ X1 hx hlk hret (Or.inl rfl) (hb hby d_p173_m9_12) (by decide) (by decide) e1 ?_
    exact ⟨by simp [hr, hy2], N0, rfl⟩
set_option maxRecDepth 65536 in
set_option maxHeartbeats 40000000 in
theorem ct_get_ordinal_l_0___Int32__0 (l : Launch) (Z : State) (a0 : Array Value) (hw : ∀ d ∈ tables_1, d.before a0 Z = true) (a1 : Addr) (h0 : Heap) (n0 : Nat) (O : Old Z n0 h0) (F_a1 : Fld Z h0 a1 "java/lang/Enum" "ordinal" "I" (.int (0 : Int32))) :
    Ct l (⟨"java/lang/Enum", "ordinal", "()I"⟩ : MethodName) jdk_37_method_2_code 1 (some .int) ({ frames := 0, cells := 0, slots := 0, locals := 0 } : Room) Z #[(.ref a1)] h0 (fun v h L => v = some (.int (0 : Int32)) ∧ Fr n0 L ∧ h0 = h) := by
  refine Ct.of (plainFor_of_name pn_Enum_351) ?_
  intro p e s m below meth c T0 X0 hx hby hml hown hnm hret hlk hZ e0
  have hown : s.vm.findClass "java/lang/Enum" = some m.cls := hown
  have hml : c.maxLocals = 1 := hml
  have N0 := Fr.nil n0
  refine Go.cast (g' := mkF m 0 #[.val (.ref a1)] []) (by first | (simp [entryFrame, mkF, argsToLocals, Value.category]; done) | rfl) ?_
  refine Go.by (T' := T0) (g' := (mkF m 1 #[.val (.ref a1)] [(.ref a1)])) (fun t k => ?_) ?_
  · show Steps p.tables e below (T0.setTop (mkF m 0 #[.val (.ref a1)] [])) _
    refine XS.aloadN X0.here hx rfl (hb hby d_j37_m2_0) rfl rfl ?_
    exact k
  refine Go.getF X0 hx hZ hown (wd hw 26 rfl) Via.refl e0 F_a1 (hb hby d_j37_m2_1) ?_
  intro T1 X1 e1
  show Go p e below _ T1 (mkF m 4 #[.val (.ref a1)] [(.int (0 : Int32))])
  refine Go.retI X1 hx hlk hret (hb hby d_j37_m2_4) (by decide) (by decide) e1 ?_
  exact ⟨rfl, N0, rfl⟩
set_option maxRecDepth 65536 in
set_option maxHeartbeats 40000000 in
theorem ct_get_ordinal_l_1___Int32__1 (l : Launch) (Z : State) (a0 : Array Value) (hw : ∀ d ∈ tables_1, d.before a0 Z = true) (a1 : Addr) (h0 : Heap) (n0 : Nat) (O : Old Z n0 h0) (F_a1 : Fld Z h0 a1 "java/lang/Enum" "ordinal" "I" (.int (1 : Int32))) :
    Ct l (⟨"java/lang/Enum", "ordinal", "()I"⟩ : MethodName) jdk_37_method_2_code 1 (some .int) ({ frames := 0, cells := 0, slots := 0, locals := 0 } : Room) Z #[(.ref a1)] h0 (fun v h L => v = some (.int (1 : Int32)) ∧ Fr n0 L ∧ h0 = h) := by
  refine Ct.of (plainFor_of_name pn_Enum_351) ?_
  intro p e s m below meth c T0 X0 hx hby hml hown hnm hret hlk hZ e0
  have hown : s.vm.findClass "java/lang/Enum" = some m.cls := hown
  have hml : c.maxLocals = 1 := hml
  have N0 := Fr.nil n0
  refine Go.cast (g' := mkF m 0 #[.val (.ref a1)] []) (by first | (simp [entryFrame, mkF, argsToLocals, Value.category]; done) | rfl) ?_
  refine Go.by (T' := T0) (g' := (mkF m 1 #[.val (.ref a1)] [(.ref a1)])) (fun t k => ?_) ?_
  · show Steps p.tables e below (T0.setTop (mkF m 0 #[.val (.ref a1)] [])) _
    refine XS.aloadN X0.here hx rfl (hb hby d_j37_m2_0) rfl rfl ?_
    exact k
  refine Go.getF X0 hx hZ hown (wd hw 26 rfl) Via.refl e0 F_a1 (hb hby d_j37_m2_1) ?_
  intro T1 X1 e1
  show Go p e below _ T1 (mkF m 4 #[.val (.ref a1)] [(.int (1 : Int32))])
  refine Go.retI X1 hx hlk hret (hb hby d_j37_m2_4) (by decide) (by decide) e1 ?_
  exact ⟨rfl, N0, rfl⟩
set_option maxRecDepth 65536 in
set_option maxHeartbeats 40000000 in
theorem ct_get_ordinal_l_2___Int32__2 (l : Launch) (Z : State) (a0 : Array Value) (hw : ∀ d ∈ tables_1, d.before a0 Z = true) (a1 : Addr) (h0 : Heap) (n0 : Nat) (O : Old Z n0 h0) (F_a1 : Fld Z h0 a1 "java/lang/Enum" "ordinal" "I" (.int (2 : Int32))) :
    Ct l (⟨"java/lang/Enum", "ordinal", "()I"⟩ : MethodName) jdk_37_method_2_code 1 (some .int) ({ frames := 0, cells := 0, slots := 0, locals := 0 } : Room) Z #[(.ref a1)] h0 (fun v h L => v = some (.int (2 : Int32)) ∧ Fr n0 L ∧ h0 = h) := by
  refine Ct.of (plainFor_of_name pn_Enum_351) ?_
  intro p e s m below meth c T0 X0 hx hby hml hown hnm hret hlk hZ e0
  have hown : s.vm.findClass "java/lang/Enum" = some m.cls := hown
  have hml : c.maxLocals = 1 := hml
  have N0 := Fr.nil n0
  refine Go.cast (g' := mkF m 0 #[.val (.ref a1)] []) (by first | (simp [entryFrame, mkF, argsToLocals, Value.category]; done) | rfl) ?_
  refine Go.by (T' := T0) (g' := (mkF m 1 #[.val (.ref a1)] [(.ref a1)])) (fun t k => ?_) ?_
  · show Steps p.tables e below (T0.setTop (mkF m 0 #[.val (.ref a1)] [])) _
    refine XS.aloadN X0.here hx rfl (hb hby d_j37_m2_0) rfl rfl ?_
    exact k
  refine Go.getF X0 hx hZ hown (wd hw 26 rfl) Via.refl e0 F_a1 (hb hby d_j37_m2_1) ?_
  intro T1 X1 e1
  show Go p e below _ T1 (mkF m 4 #[.val (.ref a1)] [(.int (2 : Int32))])
  refine Go.retI X1 hx hlk hret (hb hby d_j37_m2_4) (by decide) (by decide) e1 ?_
  exact ⟨rfl, N0, rfl⟩
set_option maxRecDepth 65536 in
set_option maxHeartbeats 40000000 in
theorem ct_get_ordinal_l_3___Int32__3 (l : Launch) (Z : State) (a0 : Array Value) (hw : ∀ d ∈ tables_1, d.before a0 Z = true) (a1 : Addr) (h0 : Heap) (n0 : Nat) (O : Old Z n0 h0) (F_a1 : Fld Z h0 a1 "java/lang/Enum" "ordinal" "I" (.int (3 : Int32))) :
    Ct l (⟨"java/lang/Enum", "ordinal", "()I"⟩ : MethodName) jdk_37_method_2_code 1 (some .int) ({ frames := 0, cells := 0, slots := 0, locals := 0 } : Room) Z #[(.ref a1)] h0 (fun v h L => v = some (.int (3 : Int32)) ∧ Fr n0 L ∧ h0 = h) := by
  refine Ct.of (plainFor_of_name pn_Enum_351) ?_
  intro p e s m below meth c T0 X0 hx hby hml hown hnm hret hlk hZ e0
  have hown : s.vm.findClass "java/lang/Enum" = some m.cls := hown
  have hml : c.maxLocals = 1 := hml
  have N0 := Fr.nil n0
  refine Go.cast (g' := mkF m 0 #[.val (.ref a1)] []) (by first | (simp [entryFrame, mkF, argsToLocals, Value.category]; done) | rfl) ?_
  refine Go.by (T' := T0) (g' := (mkF m 1 #[.val (.ref a1)] [(.ref a1)])) (fun t k => ?_) ?_
  · show Steps p.tables e below (T0.setTop (mkF m 0 #[.val (.ref a1)] [])) _
    refine XS.aloadN X0.here hx rfl (hb hby d_j37_m2_0) rfl rfl ?_
    exact k
  refine Go.getF X0 hx hZ hown (wd hw 26 rfl) Via.refl e0 F_a1 (hb hby d_j37_m2_1) ?_
  intro T1 X1 e1
  show Go p e below _ T1 (mkF m 4 #[.val (.ref a1)] [(.int (3 : Int32))])
  refine Go.retI X1 hx hlk hret (hb hby d_j37_m2_4) (by decide) (by decide) e1 ?_
  exact ⟨rfl, N0, rfl⟩
set_option maxRecDepth 65536 in
set_option maxHeartbeats 40000000 in
theorem ct_get_ordinal_l_4___Int32__4 (l : Launch) (Z : State) (a0 : Array Value) (hw : ∀ d ∈ tables_1, d.before a0 Z = true) (a1 : Addr) (h0 : Heap) (n0 : Nat) (O : Old Z n0 h0) (F_a1 : Fld Z h0 a1 "java/lang/Enum" "ordinal" "I" (.int (4 : Int32))) :
    Ct l (⟨"java/lang/Enum", "ordinal", "()I"⟩ : MethodName) jdk_37_method_2_code 1 (some .int) ({ frames := 0, cells := 0, slots := 0, locals := 0 } : Room) Z #[(.ref a1)] h0 (fun v h L => v = some (.int (4 : Int32)) ∧ Fr n0 L ∧ h0 = h) := by
  refine Ct.of (plainFor_of_name pn_Enum_351) ?_
  intro p e s m below meth c T0 X0 hx hby hml hown hnm hret hlk hZ e0
  have hown : s.vm.findClass "java/lang/Enum" = some m.cls := hown
  have hml : c.maxLocals = 1 := hml
  have N0 := Fr.nil n0
  refine Go.cast (g' := mkF m 0 #[.val (.ref a1)] []) (by first | (simp [entryFrame, mkF, argsToLocals, Value.category]; done) | rfl) ?_
  refine Go.by (T' := T0) (g' := (mkF m 1 #[.val (.ref a1)] [(.ref a1)])) (fun t k => ?_) ?_
  · show Steps p.tables e below (T0.setTop (mkF m 0 #[.val (.ref a1)] [])) _
    refine XS.aloadN X0.here hx rfl (hb hby d_j37_m2_0) rfl rfl ?_
    exact k
  refine Go.getF X0 hx hZ hown (wd hw 26 rfl) Via.refl e0 F_a1 (hb hby d_j37_m2_1) ?_
  intro T1 X1 e1
  show Go p e below _ T1 (mkF m 4 #[.val (.ref a1)] [(.int (4 : Int32))])
  refine Go.retI X1 hx hlk hret (hb hby d_j37_m2_4) (by decide) (by decide) e1 ?_
  exact ⟨rfl, N0, rfl⟩
set_option maxRecDepth 65536 in
set_option maxHeartbeats 40000000 in
theorem ct_least0 (l : Launch) (Z : State) (a0 : Array Value) (hw : ∀ d ∈ tables_1, d.before a0 Z = true) (w_ALPHA : Addr) (w_NUMERIC : Addr) (w_TIME : Addr) (w_BINARY : Addr) (w_DATE : Addr) (w_DF : Addr) (cl_DF : Cell) (S_ALPHA : Sta Z Z.heap "com/example/tagfold/tagfold/value/Ordering" "ALPHA" "Lcom/example/tagfold/tagfold/value/Ordering;" (.ref w_ALPHA)) (S_NUMERIC : Sta Z Z.heap "com/example/tagfold/tagfold/value/Ordering" "NUMERIC" "Lcom/example/tagfold/tagfold/value/Ordering;" (.ref w_NUMERIC)) (S_TIME : Sta Z Z.heap "com/example/tagfold/tagfold/value/Ordering" "TIME" "Lcom/example/tagfold/tagfold/value/Ordering;" (.ref w_TIME)) (S_BINARY : Sta Z Z.heap "com/example/tagfold/tagfold/value/Ordering" "BINARY" "Lcom/example/tagfold/tagfold/value/Ordering;" (.ref w_BINARY)) (S_DATE : Sta Z Z.heap "com/example/tagfold/tagfold/value/Ordering" "DATE" "Lcom/example/tagfold/tagfold/value/Ordering;" (.ref w_DATE)) (E_ALPHA : Exa Z Z.heap w_ALPHA "com/example/tagfold/tagfold/value/Ordering") (E_NUMERIC : Exa Z Z.heap w_NUMERIC "com/example/tagfold/tagfold/value/Ordering") (E_TIME : Exa Z Z.heap w_TIME "com/example/tagfold/tagfold/value/Ordering") (E_BINARY : Exa Z Z.heap w_BINARY "com/example/tagfold/tagfold/value/Ordering") (E_DATE : Exa Z Z.heap w_DATE "com/example/tagfold/tagfold/value/Ordering") (F_ALPHA : Fld Z Z.heap w_ALPHA "java/lang/Enum" "ordinal" "I" (.int (0 : Int32))) (F_NUMERIC : Fld Z Z.heap w_NUMERIC "java/lang/Enum" "ordinal" "I" (.int (1 : Int32))) (F_TIME : Fld Z Z.heap w_TIME "java/lang/Enum" "ordinal" "I" (.int (2 : Int32))) (F_BINARY : Fld Z Z.heap w_BINARY "java/lang/Enum" "ordinal" "I" (.int (3 : Int32))) (F_DATE : Fld Z Z.heap w_DATE "java/lang/Enum" "ordinal" "I" (.int (4 : Int32))) (ne_ALPHA_NUMERIC : w_ALPHA ≠ w_NUMERIC) (ne_ALPHA_TIME : w_ALPHA ≠ w_TIME) (ne_ALPHA_BINARY : w_ALPHA ≠ w_BINARY) (ne_ALPHA_DATE : w_ALPHA ≠ w_DATE) (ne_NUMERIC_TIME : w_NUMERIC ≠ w_TIME) (ne_NUMERIC_BINARY : w_NUMERIC ≠ w_BINARY) (ne_NUMERIC_DATE : w_NUMERIC ≠ w_DATE) (ne_TIME_BINARY : w_TIME ≠ w_BINARY) (ne_TIME_DATE : w_TIME ≠ w_DATE) (ne_BINARY_DATE : w_BINARY ≠ w_DATE) (S_DF : Sta Z Z.heap "com/example/tagfold/tagfold/value/Ordering" "DATE_FORM" "[B" (.ref w_DF)) (A_DF : Arr Z Z.heap w_DF cl_DF .byte) (E_DF : Exa Z Z.heap w_DF "[B") (Q_DF : FitC Z cl_DF) (z_DF : cl_DF.slots.size = 19) (a1 : Addr) (h0 : Heap) (n0 : Nat) (O : Old Z n0 h0) (E_a1 : Exa Z h0 a1 "com/example/tagfold/tagfold/value/Ordering") (F_a1 : Fld Z h0 a1 "java/lang/Enum" "ordinal" "I" (.int (0 : Int32))) :
    Ct l (⟨"com/example/tagfold/tagfold/value/Ordering", "least", "()[B"⟩ : MethodName) prog_173_method_10_code 1 (some (.array .byte)) ({ frames := 1, cells := 1, slots := 0, locals := 12 } : Room) Z #[(.ref a1)] h0 (fun v h L => ∃ b, v = some (.ref b) ∧ Fr n0 L ∧ Keep h0 h []) := by
  refine Ct.of (plainFor_of_name pn_Ordering_661) ?_
  intro p e s m below meth c T0 X0 hx hby hml hown hnm hret hlk hZ e0
  have hown : s.vm.findClass "com/example/tagfold/tagfold/value/Ordering" = some m.cls := hown
  have hml : c.maxLocals = 1 := hml
  have N0 := Fr.nil n0
  refine Go.cast (g' := mkF m 0 #[.val (.ref a1)] []) (by first | (simp [entryFrame, mkF, argsToLocals, Value.category]; done) | rfl) ?_
  have K : Keep h0 h0 [] := Keep.refl _ _
  refine Go.by (T' := T0) (g' := (mkF m 1 #[.val (.ref a1)] [(.ref a1)])) (fun t k => ?_) ?_
  · show Steps p.tables e below (T0.setTop (mkF m 0 #[.val (.ref a1)] [])) _
    refine XS.aloadN X0.here hx rfl (hb hby d_p173_m10_0) rfl rfl ?_
    exact k
  refine Go.callVU X0 hx hZ (W := 0) (argsL := []) (rest := []) hown (owner := "java/lang/Enum") (wd hw 19 rfl) (wd hw 20 rfl) (wd hw 21 rfl) (by decide) (wd hw 23 rfl) (wd hw 22 rfl) (wd hw 24 rfl) (wd hw 25 rfl) E_a1 (ct_get_ordinal_l_0___Int32__0 l Z a0 hw  a1 h0 n0 O F_a1) e0 (by rw [hml]; rfl) (lenOf pd___I_8321 rfl) rfl rfl (hb hby d_p173_m10_1) (by decide) (by decide) (by decide) (by decide) ?_
  intro v1 T1 h1 L1 X1 e1 q1
  obtain ⟨rfl, N1, rfl⟩ := q1
  replace N1 := Fr.app N0 N1
  show Go p e below _ T1 (mkF m 4 #[.val (.ref a1)] [(.int (0 : Int32))])
  refine Go.by (T' := T1) (g' := (mkF m 51 #[.val (.ref a1)] [(.int (0 : Int32))])) (fun t k => ?_) ?_
  · show Steps p.tables e below (T1.setTop (mkF m 4 #[.val (.ref a1)] [(.int (0 : Int32))])) _
    refine XS.tswIn X1.here hx rfl (o := 46) (pc0 := 4) (pc' := 50) rfl (hb hby d_p173_m10_4) rfl (by decide) (by decide) (by decide) (by decide) ?_
    show Steps p.tables e below (T1.setTop (mkF m 50 #[.val (.ref a1)] [])) _
    refine XS.iconst X1.here hx rfl (hb hby d_p173_m10_50) ?_
    exact k
  refine Go.newP X1 hx hZ (wd hw 28 rfl) e1 (hb hby d_p173_m10_51) (by decide) (cap := 0) (by decide) (by decide) (by decide) (by decide) ?_
  intro T2 h2 b2 k2 X2 e2 E2 g2 V_b2
  have lb2 := Nat.le_of_eq g2.symm
  have ne_a1_b2 : a1 ≠ b2 := Nat.ne_of_lt (Nat.lt_of_lt_of_le E_a1.lt lb2)
  have g_b2 : n0 ≤ b2 := Nat.le_trans (OwnKit.Old.le O) lb2
  have sz_b2 : h0.size ≤ b2 := Nat.le_trans K.1 lb2
  replace E_a1 := E_a1.ext E2
  replace F_a1 := F_a1.ext E2
  replace O := O.ext E2
  replace K := K.ext E2
  replace V_b2 : Arv Z h2 b2 k2 .byte (0 : Int32) [] (.int (0 : Int32)) := V_b2
  show Go p e below _ T2 (mkF m 53 #[.val (.ref a1)] [(.ref b2)])
  refine Go.by (T' := T2) (g' := (mkF m 69 #[.val (.ref a1)] [(.ref b2)])) (fun t k => ?_) ?_
  · show Steps p.tables e below (T2.setTop (mkF m 53 #[.val (.ref a1)] [(.ref b2)])) _
    refine XS.goto X2.here hx rfl (pc0 := 53) (pc' := 69) rfl (hb hby d_p173_m10_53) (by decide) (by decide) ?_
    exact k
  refine Go.retA X2 hx hlk hret rfl rfl (hb hby d_p173_m10_69) (by decide) (by decide) e2 ?_
  exact ⟨_, rfl, N1, K⟩
set_option maxRecDepth 65536 in
set_option maxHeartbeats 40000000 in
theorem ct_least1 (l : Launch) (Z : State) (a0 : Array Value) (hw : ∀ d ∈ tables_1, d.before a0 Z = true) (w_ALPHA : Addr) (w_NUMERIC : Addr) (w_TIME : Addr) (w_BINARY : Addr) (w_DATE : Addr) (w_DF : Addr) (cl_DF : Cell) (S_ALPHA : Sta Z Z.heap "com/example/tagfold/tagfold/value/Ordering" "ALPHA" "Lcom/example/tagfold/tagfold/value/Ordering;" (.ref w_ALPHA)) (S_NUMERIC : Sta Z Z.heap "com/example/tagfold/tagfold/value/Ordering" "NUMERIC" "Lcom/example/tagfold/tagfold/value/Ordering;" (.ref w_NUMERIC)) (S_TIME : Sta Z Z.heap "com/example/tagfold/tagfold/value/Ordering" "TIME" "Lcom/example/tagfold/tagfold/value/Ordering;" (.ref w_TIME)) (S_BINARY : Sta Z Z.heap "com/example/tagfold/tagfold/value/Ordering" "BINARY" "Lcom/example/tagfold/tagfold/value/Ordering;" (.ref w_BINARY)) (S_DATE : Sta Z Z.heap "com/example/tagfold/tagfold/value/Ordering" "DATE" "Lcom/example/tagfold/tagfold/value/Ordering;" (.ref w_DATE)) (E_ALPHA : Exa Z Z.heap w_ALPHA "com/example/tagfold/tagfold/value/Ordering") (E_NUMERIC : Exa Z Z.heap w_NUMERIC "com/example/tagfold/tagfold/value/Ordering") (E_TIME : Exa Z Z.heap w_TIME "com/example/tagfold/tagfold/value/Ordering") (E_BINARY : Exa Z Z.heap w_BINARY "com/example/tagfold/tagfold/value/Ordering") (E_DATE : Exa Z Z.heap w_DATE "com/example/tagfold/tagfold/value/Ordering") (F_ALPHA : Fld Z Z.heap w_ALPHA "java/lang/Enum" "ordinal" "I" (.int (0 : Int32))) (F_NUMERIC : Fld Z Z.heap w_NUMERIC "java/lang/Enum" "ordinal" "I" (.int (1 : Int32))) (F_TIME : Fld Z Z.heap w_TIME "java/lang/Enum" "ordinal" "I" (.int (2 : Int32))) (F_BINARY : Fld Z Z.heap w_BINARY "java/lang/Enum" "ordinal" "I" (.int (3 : Int32))) (F_DATE : Fld Z Z.heap w_DATE "java/lang/Enum" "ordinal" "I" (.int (4 : Int32))) (ne_ALPHA_NUMERIC : w_ALPHA ≠ w_NUMERIC) (ne_ALPHA_TIME : w_ALPHA ≠ w_TIME) (ne_ALPHA_BINARY : w_ALPHA ≠ w_BINARY) (ne_ALPHA_DATE : w_ALPHA ≠ w_DATE) (ne_NUMERIC_TIME : w_NUMERIC ≠ w_TIME) (ne_NUMERIC_BINARY : w_NUMERIC ≠ w_BINARY) (ne_NUMERIC_DATE : w_NUMERIC ≠ w_DATE) (ne_TIME_BINARY : w_TIME ≠ w_BINARY) (ne_TIME_DATE : w_TIME ≠ w_DATE) (ne_BINARY_DATE : w_BINARY ≠ w_DATE) (S_DF : Sta Z Z.heap "com/example/tagfold/tagfold/value/Ordering" "DATE_FORM" "[B" (.ref w_DF)) (A_DF : Arr Z Z.heap w_DF cl_DF .byte) (E_DF : Exa Z Z.heap w_DF "[B") (Q_DF : FitC Z cl_DF) (z_DF : cl_DF.slots.size = 19) (a1 : Addr) (h0 : Heap) (n0 : Nat) (O : Old Z n0 h0) (E_a1 : Exa Z h0 a1 "com/example/tagfold/tagfold/value/Ordering") (F_a1 : Fld Z h0 a1 "java/lang/Enum" "ordinal" "I" (.int (1 : Int32))) :
    Ct l (⟨"com/example/tagfold/tagfold/value/Ordering", "least", "()[B"⟩ : MethodName) prog_173_method_10_code 1 (some (.array .byte)) ({ frames := 1, cells := 0, slots := 0, locals := 12 } : Room) Z #[(.ref a1)] h0 (fun v h L => v = some .null ∧ Fr n0 L ∧ h0 = h) := by
  refine Ct.of (plainFor_of_name pn_Ordering_661) ?_
  intro p e s m below meth c T0 X0 hx hby hml hown hnm hret hlk hZ e0
  have hown : s.vm.findClass "com/example/tagfold/tagfold/value/Ordering" = some m.cls := hown
  have hml : c.maxLocals = 1 := hml
  have N0 := Fr.nil n0
  refine Go.cast (g' := mkF m 0 #[.val (.ref a1)] []) (by first | (simp [entryFrame, mkF, argsToLocals, Value.category]; done) | rfl) ?_
  refine Go.by (T' := T0) (g' := (mkF m 1 #[.val (.ref a1)] [(.ref a1)])) (fun t k => ?_) ?_
  · show Steps p.tables e below (T0.setTop (mkF m 0 #[.val (.ref a1)] [])) _
    refine XS.aloadN X0.here hx rfl (hb hby d_p173_m10_0) rfl rfl ?_
    exact k
  refine Go.callVU X0 hx hZ (W := 0) (argsL := []) (rest := []) hown (owner := "java/lang/Enum") (wd hw 19 rfl) (wd hw 20 rfl) (wd hw 21 rfl) (by decide) (wd hw 23 rfl) (wd hw 22 rfl) (wd hw 24 rfl) (wd hw 25 rfl) E_a1 (ct_get_ordinal_l_1___Int32__1 l Z a0 hw  a1 h0 n0 O F_a1) e0 (by rw [hml]; rfl) (lenOf pd___I_8321 rfl) rfl rfl (hb hby d_p173_m10_1) (by decide) (by decide) (by decide) (by decide) ?_
  intro v1 T1 h1 L1 X1 e1 q1
  obtain ⟨rfl, N1, rfl⟩ := q1
  replace N1 := Fr.app N0 N1
  show Go p e below _ T1 (mkF m 4 #[.val (.ref a1)] [(.int (1 : Int32))])
  refine Go.by (T' := T1) (g' := (mkF m 69 #[.val (.ref a1)] [.null])) (fun t k => ?_) ?_
  · show Steps p.tables e below (T1.setTop (mkF m 4 #[.val (.ref a1)] [(.int (1 : Int32))])) _
    refine XS.tswIn X1.here hx rfl (o := 64) (pc0 := 4) (pc' := 68) rfl (hb hby d_p173_m10_4) rfl (by decide) (by decide) (by decide) (by decide) ?_
    show Steps p.tables e below (T1.setTop (mkF m 68 #[.val (.ref a1)] [])) _
    refine XS.aconstNull X1.here hx rfl (hb hby d_p173_m10_68) ?_
    exact k
  refine Go.retA X1 hx hlk hret rfl rfl (hb hby d_p173_m10_69) (by decide) (by decide) e1 ?_
  exact ⟨rfl, N1, rfl⟩
set_option maxRecDepth 65536 in
set_option maxHeartbeats 40000000 in
theorem ct_least2 (l : Launch) (Z : State) (a0 : Array Value) (hw : ∀ d ∈ tables_1, d.before a0 Z = true) (w_ALPHA : Addr) (w_NUMERIC : Addr) (w_TIME : Addr) (w_BINARY : Addr) (w_DATE : Addr) (w_DF : Addr) (cl_DF : Cell) (S_ALPHA : Sta Z Z.heap "com/example/tagfold/tagfold/value/Ordering" "ALPHA" "Lcom/example/tagfold/tagfold/value/Ordering;" (.ref w_ALPHA)) (S_NUMERIC : Sta Z Z.heap "com/example/tagfold/tagfold/value/Ordering" "NUMERIC" "Lcom/example/tagfold/tagfold/value/Ordering;" (.ref w_NUMERIC)) (S_TIME : Sta Z Z.heap "com/example/tagfold/tagfold/value/Ordering" "TIME" "Lcom/example/tagfold/tagfold/value/Ordering;" (.ref w_TIME)) (S_BINARY : Sta Z Z.heap "com/example/tagfold/tagfold/value/Ordering" "BINARY" "Lcom/example/tagfold/tagfold/value/Ordering;" (.ref w_BINARY)) (S_DATE : Sta Z Z.heap "com/example/tagfold/tagfold/value/Ordering" "DATE" "Lcom/example/tagfold/tagfold/value/Ordering;" (.ref w_DATE)) (E_ALPHA : Exa Z Z.heap w_ALPHA "com/example/tagfold/tagfold/value/Ordering") (E_NUMERIC : Exa Z Z.heap w_NUMERIC "com/example/tagfold/tagfold/value/Ordering") (E_TIME : Exa Z Z.heap w_TIME "com/example/tagfold/tagfold/value/Ordering") (E_BINARY : Exa Z Z.heap w_BINARY "com/example/tagfold/tagfold/value/Ordering") (E_DATE : Exa Z Z.heap w_DATE "com/example/tagfold/tagfold/value/Ordering") (F_ALPHA : Fld Z Z.heap w_ALPHA "java/lang/Enum" "ordinal" "I" (.int (0 : Int32))) (F_NUMERIC : Fld Z Z.heap w_NUMERIC "java/lang/Enum" "ordinal" "I" (.int (1 : Int32))) (F_TIME : Fld Z Z.heap w_TIME "java/lang/Enum" "ordinal" "I" (.int (2 : Int32))) (F_BINARY : Fld Z Z.heap w_BINARY "java/lang/Enum" "ordinal" "I" (.int (3 : Int32))) (F_DATE : Fld Z Z.heap w_DATE "java/lang/Enum" "ordinal" "I" (.int (4 : Int32))) (ne_ALPHA_NUMERIC : w_ALPHA ≠ w_NUMERIC) (ne_ALPHA_TIME : w_ALPHA ≠ w_TIME) (ne_ALPHA_BINARY : w_ALPHA ≠ w_BINARY) (ne_ALPHA_DATE : w_ALPHA ≠ w_DATE) (ne_NUMERIC_TIME : w_NUMERIC ≠ w_TIME) (ne_NUMERIC_BINARY : w_NUMERIC ≠ w_BINARY) (ne_NUMERIC_DATE : w_NUMERIC ≠ w_DATE) (ne_TIME_BINARY : w_TIME ≠ w_BINARY) (ne_TIME_DATE : w_TIME ≠ w_DATE) (ne_BINARY_DATE : w_BINARY ≠ w_DATE) (S_DF : Sta Z Z.heap "com/example/tagfold/tagfold/value/Ordering" "DATE_FORM" "[B" (.ref w_DF)) (A_DF : Arr Z Z.heap w_DF cl_DF .byte) (E_DF : Exa Z Z.heap w_DF "[B") (Q_DF : FitC Z cl_DF) (z_DF : cl_DF.slots.size = 19) (a1 : Addr) (h0 : Heap) (n0 : Nat) (O : Old Z n0 h0) (E_a1 : Exa Z h0 a1 "com/example/tagfold/tagfold/value/Ordering") (F_a1 : Fld Z h0 a1 "java/lang/Enum" "ordinal" "I" (.int (2 : Int32))) :
    Ct l (⟨"com/example/tagfold/tagfold/value/Ordering", "least", "()[B"⟩ : MethodName) prog_173_method_10_code 1 (some (.array .byte)) ({ frames := 1, cells := 1, slots := 19, locals := 14 } : Room) Z #[(.ref a1)] h0 (fun v h L => ∃ b, v = some (.ref b) ∧ Fr n0 L ∧ Keep h0 h []) := by
  refine Ct.of (plainFor_of_name pn_Ordering_661) ?_
  intro p e s m below meth c T0 X0 hx hby hml hown hnm hret hlk hZ e0
  have hown : s.vm.findClass "com/example/tagfold/tagfold/value/Ordering" = some m.cls := hown
  have hml : c.maxLocals = 1 := hml
  have N0 := Fr.nil n0
  refine Go.cast (g' := mkF m 0 #[.val (.ref a1)] []) (by first | (simp [entryFrame, mkF, argsToLocals, Value.category]; done) | rfl) ?_
  have K : Keep h0 h0 [] := Keep.refl _ _
  refine Go.by (T' := T0) (g' := (mkF m 1 #[.val (.ref a1)] [(.ref a1)])) (fun t k => ?_) ?_
  · show Steps p.tables e below (T0.setTop (mkF m 0 #[.val (.ref a1)] [])) _
    refine XS.aloadN X0.here hx rfl (hb hby d_p173_m10_0) rfl rfl ?_
    exact k
  refine Go.callVU X0 hx hZ (W := 0) (argsL := []) (rest := []) hown (owner := "java/lang/Enum") (wd hw 19 rfl) (wd hw 20 rfl) (wd hw 21 rfl) (by decide) (wd hw 23 rfl) (wd hw 22 rfl) (wd hw 24 rfl) (wd hw 25 rfl) E_a1 (ct_get_ordinal_l_2___Int32__2 l Z a0 hw  a1 h0 n0 O F_a1) e0 (by rw [hml]; rfl) (lenOf pd___I_8321 rfl) rfl rfl (hb hby d_p173_m10_1) (by decide) (by decide) (by decide) (by decide) ?_
  intro v1 T1 h1 L1 X1 e1 q1
  obtain ⟨rfl, N1, rfl⟩ := q1
  replace N1 := Fr.app N0 N1
  show Go p e below _ T1 (mkF m 4 #[.val (.ref a1)] [(.int (2 : Int32))])
  refine Go.by (T' := T1) (g' := (mkF m 56 #[.val (.ref a1)] [])) (fun t k => ?_) ?_
  · show Steps p.tables e below (T1.setTop (mkF m 4 #[.val (.ref a1)] [(.int (2 : Int32))])) _
    refine XS.tswIn X1.here hx rfl (o := 52) (pc0 := 4) (pc' := 56) rfl (hb hby d_p173_m10_4) rfl (by decide) (by decide) (by decide) (by decide) ?_
    exact k
  refine Go.getS X1 hx hZ hown (wd hw 49 rfl) Via.refl e1 (S_DF.ext O.2) (hb hby d_p173_m10_56) ?_
  intro T2 X2 e2
  show Go p e below _ T2 (mkF m 59 #[.val (.ref a1)] [(.ref w_DF)])
  refine Go.cloneA X2 hx hZ hown (wd hw 51 rfl) (wd hw 52 rfl) (wd hw 56 rfl) (wd hw 54 rfl) (wd hw 55 rfl) (wd hw 57 rfl) e2 (A_DF.ext O.2) (E_DF.ext O.2) Q_DF (by rw [hml]; rfl) (hb hby d_p173_m10_59) (by decide) (W := 0) (cap := 19) rfl (by decide) (Nat.le_of_eq z_DF) (by decide) (by decide) ?_
  intro T3 h3 b3 X3 e3 E3 g3 A3 B3
  have lb3 := Nat.le_of_eq g3.symm
  have ne_a1_b3 : a1 ≠ b3 := Nat.ne_of_lt (Nat.lt_of_lt_of_le E_a1.lt lb3)
  have g_b3 : n0 ≤ b3 := Nat.le_trans (OwnKit.Old.le O) lb3
  have sz_b3 : h0.size ≤ b3 := Nat.le_trans K.1 lb3
  replace E_a1 := E_a1.ext E3
  replace F_a1 := F_a1.ext E3
  replace O := O.ext E3
  replace K := K.ext E3
  show Go p e below _ T3 (mkF m 62 #[.val (.ref a1)] [(.ref b3)])
  refine Go.castY X3 hx hZ hown (wd hw 58 rfl) e3 (Ins.self B3) (hb hby d_p173_m10_62) ?_
  intro T4 X4 e4
  show Go p e below _ T4 (mkF m 65 #[.val (.ref a1)] [(.ref b3)])
  refine Go.by (T' := T4) (g' := (mkF m 69 #[.val (.ref a1)] [(.ref b3)])) (fun t k => ?_) ?_
  · show Steps p.tables e below (T4.setTop (mkF m 65 #[.val (.ref a1)] [(.ref b3)])) _
    refine XS.goto X4.here hx rfl (pc0 := 65) (pc' := 69) rfl (hb hby d_p173_m10_65) (by decide) (by decide) ?_
    exact k
  refine Go.retA X4 hx hlk hret rfl rfl (hb hby d_p173_m10_69) (by decide) (by decide) e4 ?_
  exact ⟨_, rfl, N1, K⟩
set_option maxRecDepth 65536 in
set_option maxHeartbeats 40000000 in
theorem ct_least3 (l : Launch) (Z : State) (a0 : Array Value) (hw : ∀ d ∈ tables_1, d.before a0 Z = true) (w_ALPHA : Addr) (w_NUMERIC : Addr) (w_TIME : Addr) (w_BINARY : Addr) (w_DATE : Addr) (w_DF : Addr) (cl_DF : Cell) (S_ALPHA : Sta Z Z.heap "com/example/tagfold/tagfold/value/Ordering" "ALPHA" "Lcom/example/tagfold/tagfold/value/Ordering;" (.ref w_ALPHA)) (S_NUMERIC : Sta Z Z.heap "com/example/tagfold/tagfold/value/Ordering" "NUMERIC" "Lcom/example/tagfold/tagfold/value/Ordering;" (.ref w_NUMERIC)) (S_TIME : Sta Z Z.heap "com/example/tagfold/tagfold/value/Ordering" "TIME" "Lcom/example/tagfold/tagfold/value/Ordering;" (.ref w_TIME)) (S_BINARY : Sta Z Z.heap "com/example/tagfold/tagfold/value/Ordering" "BINARY" "Lcom/example/tagfold/tagfold/value/Ordering;" (.ref w_BINARY)) (S_DATE : Sta Z Z.heap "com/example/tagfold/tagfold/value/Ordering" "DATE" "Lcom/example/tagfold/tagfold/value/Ordering;" (.ref w_DATE)) (E_ALPHA : Exa Z Z.heap w_ALPHA "com/example/tagfold/tagfold/value/Ordering") (E_NUMERIC : Exa Z Z.heap w_NUMERIC "com/example/tagfold/tagfold/value/Ordering") (E_TIME : Exa Z Z.heap w_TIME "com/example/tagfold/tagfold/value/Ordering") (E_BINARY : Exa Z Z.heap w_BINARY "com/example/tagfold/tagfold/value/Ordering") (E_DATE : Exa Z Z.heap w_DATE "com/example/tagfold/tagfold/value/Ordering") (F_ALPHA : Fld Z Z.heap w_ALPHA "java/lang/Enum" "ordinal" "I" (.int (0 : Int32))) (F_NUMERIC : Fld Z Z.heap w_NUMERIC "java/lang/Enum" "ordinal" "I" (.int (1 : Int32))) (F_TIME : Fld Z Z.heap w_TIME "java/lang/Enum" "ordinal" "I" (.int (2 : Int32))) (F_BINARY : Fld Z Z.heap w_BINARY "java/lang/Enum" "ordinal" "I" (.int (3 : Int32))) (F_DATE : Fld Z Z.heap w_DATE "java/lang/Enum" "ordinal" "I" (.int (4 : Int32))) (ne_ALPHA_NUMERIC : w_ALPHA ≠ w_NUMERIC) (ne_ALPHA_TIME : w_ALPHA ≠ w_TIME) (ne_ALPHA_BINARY : w_ALPHA ≠ w_BINARY) (ne_ALPHA_DATE : w_ALPHA ≠ w_DATE) (ne_NUMERIC_TIME : w_NUMERIC ≠ w_TIME) (ne_NUMERIC_BINARY : w_NUMERIC ≠ w_BINARY) (ne_NUMERIC_DATE : w_NUMERIC ≠ w_DATE) (ne_TIME_BINARY : w_TIME ≠ w_BINARY) (ne_TIME_DATE : w_TIME ≠ w_DATE) (ne_BINARY_DATE : w_BINARY ≠ w_DATE) (S_DF : Sta Z Z.heap "com/example/tagfold/tagfold/value/Ordering" "DATE_FORM" "[B" (.ref w_DF)) (A_DF : Arr Z Z.heap w_DF cl_DF .byte) (E_DF : Exa Z Z.heap w_DF "[B") (Q_DF : FitC Z cl_DF) (z_DF : cl_DF.slots.size = 19) (a1 : Addr) (h0 : Heap) (n0 : Nat) (O : Old Z n0 h0) (E_a1 : Exa Z h0 a1 "com/example/tagfold/tagfold/value/Ordering") (F_a1 : Fld Z h0 a1 "java/lang/Enum" "ordinal" "I" (.int (3 : Int32))) :
    Ct l (⟨"com/example/tagfold/tagfold/value/Ordering", "least", "()[B"⟩ : MethodName) prog_173_method_10_code 1 (some (.array .byte)) ({ frames := 1, cells := 0, slots := 0, locals := 12 } : Room) Z #[(.ref a1)] h0 (fun v h L => v = some .null ∧ Fr n0 L ∧ h0 = h) := by
  refine Ct.of (plainFor_of_name pn_Ordering_661) ?_
  intro p e s m below meth c T0 X0 hx hby hml hown hnm hret hlk hZ e0
  have hown : s.vm.findClass "com/example/tagfold/tagfold/value/Ordering" = some m.cls := hown
  have hml : c.maxLocals = 1 := hml
  have N0 := Fr.nil n0
  refine Go.cast (g' := mkF m 0 #[.val (.ref a1)] []) (by first | (simp [entryFrame, mkF, argsToLocals, Value.category]; done) | rfl) ?_
  refine Go.by (T' := T0) (g' := (mkF m 1 #[.val (.ref a1)] [(.ref a1)])) (fun t k => ?_) ?_
  · show Steps p.tables e below (T0.setTop (mkF m 0 #[.val (.ref a1)] [])) _
    refine XS.aloadN X0.here hx rfl (hb hby d_p173_m10_0) rfl rfl ?_
    exact k
  refine Go.callVU X0 hx hZ (W := 0) (argsL := []) (rest := []) hown (owner := "java/lang/Enum") (wd hw 19 rfl) (wd hw 20 rfl) (wd hw 21 rfl) (by decide) (wd hw 23 rfl) (wd hw 22 rfl) (wd hw 24 rfl) (wd hw 25 rfl) E_a1 (ct_get_ordinal_l_3___Int32__3 l Z a0 hw  a1 h0 n0 O F_a1) e0 (by rw [hml]; rfl) (lenOf pd___I_8321 rfl) rfl rfl (hb hby d_p173_m10_1) (by decide) (by decide) (by decide) (by decide) ?_
  intro v1 T1 h1 L1 X1 e1 q1
  obtain ⟨rfl, N1, rfl⟩ := q1
  replace N1 := Fr.app N0 N1
  show Go p e below _ T1 (mkF m 4 #[.val (.ref a1)] [(.int (3 : Int32))])
  refine Go.by (T' := T1) (g' := (mkF m 69 #[.val (.ref a1)] [.null])) (fun t k => ?_) ?_
  · show Steps p.tables e below (T1.setTop (mkF m 4 #[.val (.ref a1)] [(.int (3 : Int32))])) _
    refine XS.tswIn X1.here hx rfl (o := 64) (pc0 := 4) (pc' := 68) rfl (hb hby d_p173_m10_4) rfl (by decide) (by decide) (by decide) (by decide) ?_
    show Steps p.tables e below (T1.setTop (mkF m 68 #[.val (.ref a1)] [])) _
    refine XS.aconstNull X1.here hx rfl (hb hby d_p173_m10_68) ?_
    exact k
  refine Go.retA X1 hx hlk hret rfl rfl (hb hby d_p173_m10_69) (by decide) (by decide) e1 ?_
  exact ⟨rfl, N1, rfl⟩
set_option maxRecDepth 65536 in
set_option maxHeartbeats 40000000 in
theorem ct_least4 (l : Launch) (Z : State) (a0 : Array Value) (hw : ∀ d ∈ tables_1, d.before a0 Z = true) (w_ALPHA : Addr) (w_NUMERIC : Addr) (w_TIME : Addr) (w_BINARY : Addr) (w_DATE : Addr) (w_DF : Addr) (cl_DF : Cell) (S_ALPHA : Sta Z Z.heap "com/example/tagfold/tagfold/value/Ordering" "ALPHA" "Lcom/example/tagfold/tagfold/value/Ordering;" (.ref w_ALPHA)) (S_NUMERIC : Sta Z Z.heap "com/example/tagfold/tagfold/value/Ordering" "NUMERIC" "Lcom/example/tagfold/tagfold/value/Ordering;" (.ref w_NUMERIC)) (S_TIME : Sta Z Z.heap "com/example/tagfold/tagfold/value/Ordering" "TIME" "Lcom/example/tagfold/tagfold/value/Ordering;" (.ref w_TIME)) (S_BINARY : Sta Z Z.heap "com/example/tagfold/tagfold/value/Ordering" "BINARY" "Lcom/example/tagfold/tagfold/value/Ordering;" (.ref w_BINARY)) (S_DATE : Sta Z Z.heap "com/example/tagfold/tagfold/value/Ordering" "DATE" "Lcom/example/tagfold/tagfold/value/Ordering;" (.ref w_DATE)) (E_ALPHA : Exa Z Z.heap w_ALPHA "com/example/tagfold/tagfold/value/Ordering") (E_NUMERIC : Exa Z Z.heap w_NUMERIC "com/example/tagfold/tagfold/value/Ordering") (E_TIME : Exa Z Z.heap w_TIME "com/example/tagfold/tagfold/value/Ordering") (E_BINARY : Exa Z Z.heap w_BINARY "com/example/tagfold/tagfold/value/Ordering") (E_DATE : Exa Z Z.heap w_DATE "com/example/tagfold/tagfold/value/Ordering") (F_ALPHA : Fld Z Z.heap w_ALPHA "java/lang/Enum" "ordinal" "I" (.int (0 : Int32))) (F_NUMERIC : Fld Z Z.heap w_NUMERIC "java/lang/Enum" "ordinal" "I" (.int (1 : Int32))) (F_TIME : Fld Z Z.heap w_TIME "java/lang/Enum" "ordinal" "I" (.int (2 : Int32))) (F_BINARY : Fld Z Z.heap w_BINARY "java/lang/Enum" "ordinal" "I" (.int (3 : Int32))) (F_DATE : Fld Z Z.heap w_DATE "java/lang/Enum" "ordinal" "I" (.int (4 : Int32))) (ne_ALPHA_NUMERIC : w_ALPHA ≠ w_NUMERIC) (ne_ALPHA_TIME : w_ALPHA ≠ w_TIME) (ne_ALPHA_BINARY : w_ALPHA ≠ w_BINARY) (ne_ALPHA_DATE : w_ALPHA ≠ w_DATE) (ne_NUMERIC_TIME : w_NUMERIC ≠ w_TIME) (ne_NUMERIC_BINARY : w_NUMERIC ≠ w_BINARY) (ne_NUMERIC_DATE : w_NUMERIC ≠ w_DATE) (ne_TIME_BINARY : w_TIME ≠ w_BINARY) (ne_TIME_DATE : w_TIME ≠ w_DATE) (ne_BINARY_DATE : w_BINARY ≠ w_DATE) (S_DF : Sta Z Z.heap "com/example/tagfold/tagfold/value/Ordering" "DATE_FORM" "[B" (.ref w_DF)) (A_DF : Arr Z Z.heap w_DF cl_DF .byte) (E_DF : Exa Z Z.heap w_DF "[B") (Q_DF : FitC Z cl_DF) (z_DF : cl_DF.slots.size = 19) (a1 : Addr) (h0 : Heap) (n0 : Nat) (O : Old Z n0 h0) (E_a1 : Exa Z h0 a1 "com/example/tagfold/tagfold/value/Ordering") (F_a1 : Fld Z h0 a1 "java/lang/Enum" "ordinal" "I" (.int (4 : Int32))) :
    Ct l (⟨"com/example/tagfold/tagfold/value/Ordering", "least", "()[B"⟩ : MethodName) prog_173_method_10_code 1 (some (.array .byte)) ({ frames := 1, cells := 1, slots := 19, locals := 14 } : Room) Z #[(.ref a1)] h0 (fun v h L => ∃ b, v = some (.ref b) ∧ Fr n0 L ∧ Keep h0 h []) := by
  refine Ct.of (plainFor_of_name pn_Ordering_661) ?_
  intro p e s m below meth c T0 X0 hx hby hml hown hnm hret hlk hZ e0
  have hown : s.vm.findClass "com/example/tagfold/tagfold/value/Ordering" = some m.cls := hown
  have hml : c.maxLocals = 1 := hml
  have N0 := Fr.nil n0
  refine Go.cast (g' := mkF m 0 #[.val (.ref a1)] []) (by first | (simp [entryFrame, mkF, argsToLocals, Value.category]; done) | rfl) ?_
  have K : Keep h0 h0 [] := Keep.refl _ _
  refine Go.by (T' := T0) (g' := (mkF m 1 #[.val (.ref a1)] [(.ref a1)])) (fun t k => ?_) ?_
  · show Steps p.tables e below (T0.setTop (mkF m 0 #[.val (.ref a1)] [])) _
    refine XS.aloadN X0.here hx rfl (hb hby d_p173_m10_0) rfl rfl ?_
    exact k
  refine Go.callVU X0 hx hZ (W := 0) (argsL := []) (rest := []) hown (owner := "java/lang/Enum") (wd hw 19 rfl) (wd hw 20 rfl) (wd hw 21 rfl) (by decide) (wd hw 23 rfl) (wd hw 22 rfl) (wd hw 24 rfl) (wd hw 25 rfl) E_a1 (ct_get_ordinal_l_4___Int32__4 l Z a0 hw  a1 h0 n0 O F_a1) e0 (by rw [hml]; rfl) (lenOf pd___I_8321 rfl) rfl rfl (hb hby d_p173_m10_1) (by decide) (by decide) (by decide) (by decide) ?_
  intro v1 T1 h1 L1 X1 e1 q1
  obtain ⟨rfl, N1, rfl⟩ := q1
  replace N1 := Fr.app N0 N1
  show Go p e below _ T1 (mkF m 4 #[.val (.ref a1)] [(.int (4 : Int32))])
  refine Go.by (T' := T1) (g' := (mkF m 56 #[.val (.ref a1)] [])) (fun t k => ?_) ?_
  · show Steps p.tables e below (T1.setTop (mkF m 4 #[.val (.ref a1)] [(.int (4 : Int32))])) _
    refine XS.tswIn X1.here hx rfl (o := 52) (pc0 := 4) (pc' := 56) rfl (hb hby d_p173_m10_4) rfl (by decide) (by decide) (by decide) (by decide) ?_
    exact k
  refine Go.getS X1 hx hZ hown (wd hw 49 rfl) Via.refl e1 (S_DF.ext O.2) (hb hby d_p173_m10_56) ?_
  intro T2 X2 e2
  show Go p e below _ T2 (mkF m 59 #[.val (.ref a1)] [(.ref w_DF)])
  refine Go.cloneA X2 hx hZ hown (wd hw 51 rfl) (wd hw 52 rfl) (wd hw 56 rfl) (wd hw 54 rfl) (wd hw 55 rfl) (wd hw 57 rfl) e2 (A_DF.ext O.2) (E_DF.ext O.2) Q_DF (by rw [hml]; rfl) (hb hby d_p173_m10_59) (by decide) (W := 0) (cap := 19) rfl (by decide) (Nat.le_of_eq z_DF) (by decide) (by decide) ?_
  intro T3 h3 b3 X3 e3 E3 g3 A3 B3
  have lb3 := Nat.le_of_eq g3.symm
  have ne_a1_b3 : a1 ≠ b3 := Nat.ne_of_lt (Nat.lt_of_lt_of_le E_a1.lt lb3)
  have g_b3 : n0 ≤ b3 := Nat.le_trans (OwnKit.Old.le O) lb3
  have sz_b3 : h0.size ≤ b3 := Nat.le_trans K.1 lb3
  replace E_a1 := E_a1.ext E3
  replace F_a1 := F_a1.ext E3
  replace O := O.ext E3
  replace K := K.ext E3
  show Go p e below _ T3 (mkF m 62 #[.val (.ref a1)] [(.ref b3)])
  refine Go.castY X3 hx hZ hown (wd hw 58 rfl) e3 (Ins.self B3) (hb hby d_p173_m10_62) ?_
  intro T4 X4 e4
  show Go p e below _ T4 (mkF m 65 #[.val (.ref a1)] [(.ref b3)])
  refine Go.by (T' := T4) (g' := (mkF m 69 #[.val (.ref a1)] [(.ref b3)])) (fun t k => ?_) ?_
  · show Steps p.tables e below (T4.setTop (mkF m 65 #[.val (.ref a1)] [(.ref b3)])) _
    refine XS.goto X4.here hx rfl (pc0 := 65) (pc' := 69) rfl (hb hby d_p173_m10_65) (by decide) (by decide) ?_
    exact k
  refine Go.retA X4 hx hlk hret rfl rfl (hb hby d_p173_m10_69) (by decide) (by decide) e4 ?_
  exact ⟨_, rfl, N1, K⟩
set_option maxRecDepth 65536 in
set_option maxHeartbeats 40000000 in
theorem ct_law (l : Launch) (Z : State) (a0 : Array Value) (hw : ∀ d ∈ tables_1, d.before a0 Z = true) (w_ALPHA : Addr) (w_NUMERIC : Addr) (w_TIME : Addr) (w_BINARY : Addr) (w_DATE : Addr) (w_DF : Addr) (cl_DF : Cell) (S_ALPHA : Sta Z Z.heap "com/example/tagfold/tagfold/value/Ordering" "ALPHA" "Lcom/example/tagfold/tagfold/value/Ordering;" (.ref w_ALPHA)) (S_NUMERIC : Sta Z Z.heap "com/example/tagfold/tagfold/value/Ordering" "NUMERIC" "Lcom/example/tagfold/tagfold/value/Ordering;" (.ref w_NUMERIC)) (S_TIME : Sta Z Z.heap "com/example/tagfold/tagfold/value/Ordering" "TIME" "Lcom/example/tagfold/tagfold/value/Ordering;" (.ref w_TIME)) (S_BINARY : Sta Z Z.heap "com/example/tagfold/tagfold/value/Ordering" "BINARY" "Lcom/example/tagfold/tagfold/value/Ordering;" (.ref w_BINARY)) (S_DATE : Sta Z Z.heap "com/example/tagfold/tagfold/value/Ordering" "DATE" "Lcom/example/tagfold/tagfold/value/Ordering;" (.ref w_DATE)) (E_ALPHA : Exa Z Z.heap w_ALPHA "com/example/tagfold/tagfold/value/Ordering") (E_NUMERIC : Exa Z Z.heap w_NUMERIC "com/example/tagfold/tagfold/value/Ordering") (E_TIME : Exa Z Z.heap w_TIME "com/example/tagfold/tagfold/value/Ordering") (E_BINARY : Exa Z Z.heap w_BINARY "com/example/tagfold/tagfold/value/Ordering") (E_DATE : Exa Z Z.heap w_DATE "com/example/tagfold/tagfold/value/Ordering") (F_ALPHA : Fld Z Z.heap w_ALPHA "java/lang/Enum" "ordinal" "I" (.int (0 : Int32))) (F_NUMERIC : Fld Z Z.heap w_NUMERIC "java/lang/Enum" "ordinal" "I" (.int (1 : Int32))) (F_TIME : Fld Z Z.heap w_TIME "java/lang/Enum" "ordinal" "I" (.int (2 : Int32))) (F_BINARY : Fld Z Z.heap w_BINARY "java/lang/Enum" "ordinal" "I" (.int (3 : Int32))) (F_DATE : Fld Z Z.heap w_DATE "java/lang/Enum" "ordinal" "I" (.int (4 : Int32))) (ne_ALPHA_NUMERIC : w_ALPHA ≠ w_NUMERIC) (ne_ALPHA_TIME : w_ALPHA ≠ w_TIME) (ne_ALPHA_BINARY : w_ALPHA ≠ w_BINARY) (ne_ALPHA_DATE : w_ALPHA ≠ w_DATE) (ne_NUMERIC_TIME : w_NUMERIC ≠ w_TIME) (ne_NUMERIC_BINARY : w_NUMERIC ≠ w_BINARY) (ne_NUMERIC_DATE : w_NUMERIC ≠ w_DATE) (ne_TIME_BINARY : w_TIME ≠ w_BINARY) (ne_TIME_DATE : w_TIME ≠ w_DATE) (ne_BINARY_DATE : w_BINARY ≠ w_DATE) (S_DF : Sta Z Z.heap "com/example/tagfold/tagfold/value/Ordering" "DATE_FORM" "[B" (.ref w_DF)) (A_DF : Arr Z Z.heap w_DF cl_DF .byte) (E_DF : Exa Z Z.heap w_DF "[B") (Q_DF : FitC Z cl_DF) (z_DF : cl_DF.slots.size = 19) (p0 : Int32) (h0 : Heap) (n0 : Nat) (O : Old Z n0 h0)  :
    Ct l x code maxLocals ret room_1 Z #[(.int p0)] h0 (fun v h L => v = some (.int 1) ∧ Fr n0 L) := by
  refine Ct.of (plainFor_of_name pn_OrderingWritesEachValueOncePinLaw_75) ?_
  intro p e s m below meth c T0 X0 hx hby hml hown hnm hret hlk hZ e0
  have hown : s.vm.findClass "com/example/tagfold/tagfold/value/OrderingWritesEachValueOncePinLaw" = some m.cls := hown
  have hml : c.maxLocals = 7 := hml
  have N0 := Fr.nil n0
  refine Go.cast (g' := mkF m 0 #[.val (.int p0), .unset, .unset, .unset, .unset, .unset, .unset] []) (by first | (simp [entryFrame, mkF, argsToLocals, Value.category, maxLocals]; done) | rfl) ?_
  refine Go.by (T' := T0) (g' := (mkF m 7 #[.val (.int p0), .val (.int ((p0 &&& (2147483647 : Int32)) % (5 : Int32))), .unset, .unset, .unset, .unset, .unset] [])) (fun t k => ?_) ?_
  · show Steps p.tables e below (T0.setTop (mkF m 0 #[.val (.int p0), .unset, .unset, .unset, .unset, .unset, .unset] [])) _
    refine XS.iloadN X0.here hx rfl (hb hby at_0) rfl ?_
    show Steps p.tables e below (T0.setTop (mkF m 1 #[.val (.int p0), .unset, .unset, .unset, .unset, .unset, .unset] [(.int p0)])) _
    refine X0.ldcInt hx hown (mvT hZ (wd hw 0 rfl)) (g := (mkF m 1 #[.val (.int p0), .unset, .unset, .unset, .unset, .unset, .unset] [(.int p0)])) rfl (hb hby at_1) _ ?_
    show Steps p.tables e below (T0.setTop (mkF m 3 #[.val (.int p0), .unset, .unset, .unset, .unset, .unset, .unset] [(.int (2147483647 : Int32)), (.int p0)])) _
    refine XS.iand X0.here hx rfl (hb hby at_3) rfl ?_
    show Steps p.tables e below (T0.setTop (mkF m 4 #[.val (.int p0), .unset, .unset, .unset, .unset, .unset, .unset] [(.int (p0 &&& (2147483647 : Int32)))])) _
    refine XS.iconst X0.here hx rfl (hb hby at_4) ?_
    show Steps p.tables e below (T0.setTop (mkF m 5 #[.val (.int p0), .unset, .unset, .unset, .unset, .unset, .unset] [(.int (5 : Int32)), (.int (p0 &&& (2147483647 : Int32)))])) _
    refine iremM X0 hx rfl (hb hby at_5) rfl (by decide) ?_
    show Steps p.tables e below (T0.setTop (mkF m 6 #[.val (.int p0), .unset, .unset, .unset, .unset, .unset, .unset] [(.int ((p0 &&& (2147483647 : Int32)) % (5 : Int32)))])) _
    refine XS.istoreN X0.here hx rfl (hb hby at_6) rfl (l' := #[.val (.int p0), .val (.int ((p0 &&& (2147483647 : Int32)) % (5 : Int32))), .unset, .unset, .unset, .unset, .unset]) rfl ?_
    exact k
  rcases own_mod5 p0 with c | c | c | c | c
  · skip
    rw [c]
    show Go p e below _ T0 (mkF m 7 #[.val (.int p0), .val (.int (0 : Int32)), .unset, .unset, .unset, .unset, .unset] [])
    refine Go.by (T' := T0) (g' := (mkF m 8 #[.val (.int p0), .val (.int (0 : Int32)), .unset, .unset, .unset, .unset, .unset] [(.int (0 : Int32))])) (fun t k => ?_) ?_
    · show Steps p.tables e below (T0.setTop (mkF m 7 #[.val (.int p0), .val (.int (0 : Int32)), .unset, .unset, .unset, .unset, .unset] [])) _
      refine XS.iloadN X0.here hx rfl (hb hby at_7) rfl ?_
      exact k
    refine Go.callS X0 hx hZ (W := 0) (argsL := [(.int (0 : Int32))]) (rest := []) hown (wd hw 1 rfl) (wd hw 2 rfl) (wd hw 3 rfl) (wd hw 4 rfl) (by decide) (ct_pick l Z a0 hw w_ALPHA w_NUMERIC w_TIME w_BINARY w_DATE w_DF cl_DF S_ALPHA S_NUMERIC S_TIME S_BINARY S_DATE E_ALPHA E_NUMERIC E_TIME E_BINARY E_DATE F_ALPHA F_NUMERIC F_TIME F_BINARY F_DATE ne_ALPHA_NUMERIC ne_ALPHA_TIME ne_ALPHA_BINARY ne_ALPHA_DATE ne_NUMERIC_TIME ne_NUMERIC_BINARY ne_NUMERIC_DATE ne_TIME_BINARY ne_TIME_DATE ne_BINARY_DATE S_DF A_DF E_DF Q_DF z_DF (0 : Int32) w_ALPHA h0 n0 O (by simp)) e0 (by rw [hml]; rfl) (lenOf pd__I_Lcom_example_tagfold_tagfold_value_Or_8665 rfl) rfl rfl (hb hby at_8) (by decide) (by decide) (by decide) (by decide) ?_
    intro v1 T1 h1 L1 X1 e1 q1
    obtain ⟨rfl, N1, rfl⟩ := q1
    replace N1 := Fr.app N0 N1
    show Go p e below _ T1 (mkF m 11 #[.val (.int p0), .val (.int (0 : Int32)), .unset, .unset, .unset, .unset, .unset] [(.ref w_ALPHA)])
    refine Go.by (T' := T1) (g' := (mkF m 13 #[.val (.int p0), .val (.int (0 : Int32)), .val (.ref w_ALPHA), .unset, .unset, .unset, .unset] [(.ref w_ALPHA)])) (fun t k => ?_) ?_
    · show Steps p.tables e below (T1.setTop (mkF m 11 #[.val (.int p0), .val (.int (0 : Int32)), .unset, .unset, .unset, .unset, .unset] [(.ref w_ALPHA)])) _
      refine XS.astoreN X1.here hx rfl (hb hby at_11) rfl rfl (l' := #[.val (.int p0), .val (.int (0 : Int32)), .val (.ref w_ALPHA), .unset, .unset, .unset, .unset]) rfl ?_
      show Steps p.tables e below (T1.setTop (mkF m 12 #[.val (.int p0), .val (.int (0 : Int32)), .val (.ref w_ALPHA), .unset, .unset, .unset, .unset] [])) _
      refine XS.aloadN X1.here hx rfl (hb hby at_12) rfl rfl ?_
      exact k
    refine Go.callV X1 hx hZ (W := 0) (argsL := []) (rest := []) hown (wd hw 8 rfl) (wd hw 9 rfl) (notFace_of_selects (args := #[]) (mvT hZ (wd hw 11 rfl))) (wd hw 11 rfl) (wd hw 10 rfl) (wd hw 6 rfl) (wd hw 12 rfl) (by decide) (E_ALPHA.ext O.2) (ct_wev l Z a0 hw w_ALPHA w_NUMERIC w_TIME w_BINARY w_DATE w_DF cl_DF S_ALPHA S_NUMERIC S_TIME S_BINARY S_DATE E_ALPHA E_NUMERIC E_TIME E_BINARY E_DATE F_ALPHA F_NUMERIC F_TIME F_BINARY F_DATE ne_ALPHA_NUMERIC ne_ALPHA_TIME ne_ALPHA_BINARY ne_ALPHA_DATE ne_NUMERIC_TIME ne_NUMERIC_BINARY ne_NUMERIC_DATE ne_TIME_BINARY ne_TIME_DATE ne_BINARY_DATE S_DF A_DF E_DF Q_DF z_DF w_ALPHA (1 : Int32) h0 n0 O (by simp [ne_ALPHA_NUMERIC, Ne.symm ne_ALPHA_NUMERIC, ne_ALPHA_TIME, Ne.symm ne_ALPHA_TIME, ne_ALPHA_BINARY, Ne.symm ne_ALPHA_BINARY, ne_ALPHA_DATE, Ne.symm ne_ALPHA_DATE, ne_NUMERIC_TIME, Ne.symm ne_NUMERIC_TIME, ne_NUMERIC_BINARY, Ne.symm ne_NUMERIC_BINARY, ne_NUMERIC_DATE, Ne.symm ne_NUMERIC_DATE, ne_TIME_BINARY, Ne.symm ne_TIME_BINARY, ne_TIME_DATE, Ne.symm ne_TIME_DATE, ne_BINARY_DATE, Ne.symm ne_BINARY_DATE])) e1 (by rw [hml]; rfl) (lenOf pd___Z_8338 rfl) rfl rfl (hb hby at_13) (by decide) (by decide) (by decide) (by decide) ?_
    intro v2 T2 h2 L2 X2 e2 q2
    obtain ⟨rfl, N2, rfl⟩ := q2
    replace N2 := Fr.app N1 N2
    show Go p e below _ T2 (mkF m 16 #[.val (.int p0), .val (.int (0 : Int32)), .val (.ref w_ALPHA), .unset, .unset, .unset, .unset] [(.int (1 : Int32))])
    refine Go.by (T' := T2) (g' := (mkF m 18 #[.val (.int p0), .val (.int (0 : Int32)), .val (.ref w_ALPHA), .val (.int (1 : Int32)), .unset, .unset, .unset] [(.ref w_ALPHA)])) (fun t k => ?_) ?_
    · show Steps p.tables e below (T2.setTop (mkF m 16 #[.val (.int p0), .val (.int (0 : Int32)), .val (.ref w_ALPHA), .unset, .unset, .unset, .unset] [(.int (1 : Int32))])) _
      refine XS.istoreN X2.here hx rfl (hb hby at_16) rfl (l' := #[.val (.int p0), .val (.int (0 : Int32)), .val (.ref w_ALPHA), .val (.int (1 : Int32)), .unset, .unset, .unset]) rfl ?_
      show Steps p.tables e below (T2.setTop (mkF m 17 #[.val (.int p0), .val (.int (0 : Int32)), .val (.ref w_ALPHA), .val (.int (1 : Int32)), .unset, .unset, .unset] [])) _
      refine XS.aloadN X2.here hx rfl (hb hby at_17) rfl rfl ?_
      exact k
    refine Go.callV X2 hx hZ (W := 0) (argsL := []) (rest := []) hown (wd hw 14 rfl) (wd hw 15 rfl) (notFace_of_selects (args := #[]) (mvT hZ (wd hw 17 rfl))) (wd hw 17 rfl) (wd hw 16 rfl) (wd hw 6 rfl) (wd hw 18 rfl) (by decide) (E_ALPHA.ext O.2) (ct_least0 l Z a0 hw w_ALPHA w_NUMERIC w_TIME w_BINARY w_DATE w_DF cl_DF S_ALPHA S_NUMERIC S_TIME S_BINARY S_DATE E_ALPHA E_NUMERIC E_TIME E_BINARY E_DATE F_ALPHA F_NUMERIC F_TIME F_BINARY F_DATE ne_ALPHA_NUMERIC ne_ALPHA_TIME ne_ALPHA_BINARY ne_ALPHA_DATE ne_NUMERIC_TIME ne_NUMERIC_BINARY ne_NUMERIC_DATE ne_TIME_BINARY ne_TIME_DATE ne_BINARY_DATE S_DF A_DF E_DF Q_DF z_DF w_ALPHA h0 n0 O (E_ALPHA.ext O.2) (F_ALPHA.ext O.2)) e2 (by rw [hml]; rfl) (lenOf pd____B_8554 rfl) rfl rfl (hb hby at_18) (by decide) (by decide) (by decide) (by decide) ?_
    intro v3 T3 h3 L3 X3 e3 q3
    obtain ⟨o3, rfl, N3, K3⟩ := q3
    replace N3 := Fr.app N2 N3
    replace O := O.keep K3 all0
    show Go p e below _ T3 (mkF m 21 #[.val (.int p0), .val (.int (0 : Int32)), .val (.ref w_ALPHA), .val (.int (1 : Int32)), .unset, .unset, .unset] [(.ref o3)])
    refine Go.by (T' := T3) (g' := (mkF m 32 #[.val (.int p0), .val (.int (0 : Int32)), .val (.ref w_ALPHA), .val (.int (1 : Int32)), .val (.int (1 : Int32)), .unset, .unset] [(.ref w_ALPHA)])) (fun t k => ?_) ?_
    · show Steps p.tables e below (T3.setTop (mkF m 21 #[.val (.int p0), .val (.int (0 : Int32)), .val (.ref w_ALPHA), .val (.int (1 : Int32)), .unset, .unset, .unset] [(.ref o3)])) _
      refine XS.ifnullNo X3.here hx rfl (hb hby at_21) rfl ?_
      show Steps p.tables e below (T3.setTop (mkF m 24 #[.val (.int p0), .val (.int (0 : Int32)), .val (.ref w_ALPHA), .val (.int (1 : Int32)), .unset, .unset, .unset] [])) _
      refine XS.iconst X3.here hx rfl (hb hby at_24) ?_
      show Steps p.tables e below (T3.setTop (mkF m 25 #[.val (.int p0), .val (.int (0 : Int32)), .val (.ref w_ALPHA), .val (.int (1 : Int32)), .unset, .unset, .unset] [(.int (1 : Int32))])) _
      refine XS.goto X3.here hx rfl (pc0 := 25) (pc' := 29) rfl (hb hby at_25) (by decide) (by decide) ?_
      show Steps p.tables e below (T3.setTop (mkF m 29 #[.val (.int p0), .val (.int (0 : Int32)), .val (.ref w_ALPHA), .val (.int (1 : Int32)), .unset, .unset, .unset] [(.int (1 : Int32))])) _
      refine XS.istore X3.here hx rfl (hb hby at_29) rfl (l' := #[.val (.int p0), .val (.int (0 : Int32)), .val (.ref w_ALPHA), .val (.int (1 : Int32)), .val (.int (1 : Int32)), .unset, .unset]) rfl ?_
      show Steps p.tables e below (T3.setTop (mkF m 31 #[.val (.int p0), .val (.int (0 : Int32)), .val (.ref w_ALPHA), .val (.int (1 : Int32)), .val (.int (1 : Int32)), .unset, .unset] [])) _
      refine XS.aloadN X3.here hx rfl (hb hby at_31) rfl rfl ?_
      exact k
    refine Go.callV X3 hx hZ (W := 0) (argsL := []) (rest := []) hown (wd hw 29 rfl) (wd hw 30 rfl) (notFace_of_selects (args := #[]) (mvT hZ (wd hw 32 rfl))) (wd hw 32 rfl) (wd hw 31 rfl) (wd hw 6 rfl) (wd hw 33 rfl) (by decide) (E_ALPHA.ext O.2) (ct_scale l Z a0 hw w_ALPHA w_NUMERIC w_TIME w_BINARY w_DATE w_DF cl_DF S_ALPHA S_NUMERIC S_TIME S_BINARY S_DATE E_ALPHA E_NUMERIC E_TIME E_BINARY E_DATE F_ALPHA F_NUMERIC F_TIME F_BINARY F_DATE ne_ALPHA_NUMERIC ne_ALPHA_TIME ne_ALPHA_BINARY ne_ALPHA_DATE ne_NUMERIC_TIME ne_NUMERIC_BINARY ne_NUMERIC_DATE ne_TIME_BINARY ne_TIME_DATE ne_BINARY_DATE S_DF A_DF E_DF Q_DF z_DF w_ALPHA w_ALPHA h3 n0 O (by simp [ne_ALPHA_NUMERIC, Ne.symm ne_ALPHA_NUMERIC, ne_ALPHA_TIME, Ne.symm ne_ALPHA_TIME, ne_ALPHA_BINARY, Ne.symm ne_ALPHA_BINARY, ne_ALPHA_DATE, Ne.symm ne_ALPHA_DATE, ne_NUMERIC_TIME, Ne.symm ne_NUMERIC_TIME, ne_NUMERIC_BINARY, Ne.symm ne_NUMERIC_BINARY, ne_NUMERIC_DATE, Ne.symm ne_NUMERIC_DATE, ne_TIME_BINARY, Ne.symm ne_TIME_BINARY, ne_TIME_DATE, Ne.symm ne_TIME_DATE, ne_BINARY_DATE, Ne.symm ne_BINARY_DATE])) e3 (by rw [hml]; rfl) (lenOf pd___Lcom_example_tagfold_tagfold_value_Ord_986 rfl) rfl rfl (hb hby at_32) (by decide) (by decide) (by decide) (by decide) ?_
    intro v4 T4 h4 L4 X4 e4 q4
    obtain ⟨rfl, N4, rfl⟩ := q4
    replace N4 := Fr.app N3 N4
    show Go p e below _ T4 (mkF m 35 #[.val (.int p0), .val (.int (0 : Int32)), .val (.ref w_ALPHA), .val (.int (1 : Int32)), .val (.int (1 : Int32)), .unset, .unset] [(.ref w_ALPHA)])
    refine Go.callV X4 hx hZ (W := 0) (argsL := []) (rest := []) hown (wd hw 8 rfl) (wd hw 9 rfl) (notFace_of_selects (args := #[]) (mvT hZ (wd hw 11 rfl))) (wd hw 11 rfl) (wd hw 10 rfl) (wd hw 6 rfl) (wd hw 12 rfl) (by decide) (E_ALPHA.ext O.2) (ct_wev l Z a0 hw w_ALPHA w_NUMERIC w_TIME w_BINARY w_DATE w_DF cl_DF S_ALPHA S_NUMERIC S_TIME S_BINARY S_DATE E_ALPHA E_NUMERIC E_TIME E_BINARY E_DATE F_ALPHA F_NUMERIC F_TIME F_BINARY F_DATE ne_ALPHA_NUMERIC ne_ALPHA_TIME ne_ALPHA_BINARY ne_ALPHA_DATE ne_NUMERIC_TIME ne_NUMERIC_BINARY ne_NUMERIC_DATE ne_TIME_BINARY ne_TIME_DATE ne_BINARY_DATE S_DF A_DF E_DF Q_DF z_DF w_ALPHA (1 : Int32) h3 n0 O (by simp [ne_ALPHA_NUMERIC, Ne.symm ne_ALPHA_NUMERIC, ne_ALPHA_TIME, Ne.symm ne_ALPHA_TIME, ne_ALPHA_BINARY, Ne.symm ne_ALPHA_BINARY, ne_ALPHA_DATE, Ne.symm ne_ALPHA_DATE, ne_NUMERIC_TIME, Ne.symm ne_NUMERIC_TIME, ne_NUMERIC_BINARY, Ne.symm ne_NUMERIC_BINARY, ne_NUMERIC_DATE, Ne.symm ne_NUMERIC_DATE, ne_TIME_BINARY, Ne.symm ne_TIME_BINARY, ne_TIME_DATE, Ne.symm ne_TIME_DATE, ne_BINARY_DATE, Ne.symm ne_BINARY_DATE])) e4 (by rw [hml]; rfl) (lenOf pd___Z_8338 rfl) rfl rfl (hb hby at_35) (by decide) (by decide) (by decide) (by decide) ?_
    intro v5 T5 h5 L5 X5 e5 q5
    obtain ⟨rfl, N5, rfl⟩ := q5
    replace N5 := Fr.app N4 N5
    show Go p e below _ T5 (mkF m 38 #[.val (.int p0), .val (.int (0 : Int32)), .val (.ref w_ALPHA), .val (.int (1 : Int32)), .val (.int (1 : Int32)), .unset, .unset] [(.int (1 : Int32))])
    refine Go.by (T' := T5) (g' := (mkF m 54 #[.val (.int p0), .val (.int (0 : Int32)), .val (.ref w_ALPHA), .val (.int (1 : Int32)), .val (.int (1 : Int32)), .val (.int (1 : Int32)), .unset] [(.ref w_ALPHA)])) (fun t k => ?_) ?_
    · show Steps p.tables e below (T5.setTop (mkF m 38 #[.val (.int p0), .val (.int (0 : Int32)), .val (.ref w_ALPHA), .val (.int (1 : Int32)), .val (.int (1 : Int32)), .unset, .unset] [(.int (1 : Int32))])) _
      refine XS.iloadN X5.here hx rfl (hb hby at_38) rfl ?_
      show Steps p.tables e below (T5.setTop (mkF m 39 #[.val (.int p0), .val (.int (0 : Int32)), .val (.ref w_ALPHA), .val (.int (1 : Int32)), .val (.int (1 : Int32)), .unset, .unset] [(.int (1 : Int32)), (.int (1 : Int32))])) _
      refine XS.icmpNo X5.here hx rfl (hb hby at_39) rfl (teq (by decide : (1 : Int32) = (1 : Int32))).2 ?_
      show Steps p.tables e below (T5.setTop (mkF m 42 #[.val (.int p0), .val (.int (0 : Int32)), .val (.ref w_ALPHA), .val (.int (1 : Int32)), .val (.int (1 : Int32)), .unset, .unset] [])) _
      refine XS.iconst X5.here hx rfl (hb hby at_42) ?_
      show Steps p.tables e below (T5.setTop (mkF m 43 #[.val (.int p0), .val (.int (0 : Int32)), .val (.ref w_ALPHA), .val (.int (1 : Int32)), .val (.int (1 : Int32)), .unset, .unset] [(.int (1 : Int32))])) _
      refine XS.goto X5.here hx rfl (pc0 := 43) (pc' := 47) rfl (hb hby at_43) (by decide) (by decide) ?_
      show Steps p.tables e below (T5.setTop (mkF m 47 #[.val (.int p0), .val (.int (0 : Int32)), .val (.ref w_ALPHA), .val (.int (1 : Int32)), .val (.int (1 : Int32)), .unset, .unset] [(.int (1 : Int32))])) _
      refine XS.istore X5.here hx rfl (hb hby at_47) rfl (l' := #[.val (.int p0), .val (.int (0 : Int32)), .val (.ref w_ALPHA), .val (.int (1 : Int32)), .val (.int (1 : Int32)), .val (.int (1 : Int32)), .unset]) rfl ?_
      show Steps p.tables e below (T5.setTop (mkF m 49 #[.val (.int p0), .val (.int (0 : Int32)), .val (.ref w_ALPHA), .val (.int (1 : Int32)), .val (.int (1 : Int32)), .val (.int (1 : Int32)), .unset] [])) _
      refine XS.iloadN X5.here hx rfl (hb hby at_49) rfl ?_
      show Steps p.tables e below (T5.setTop (mkF m 50 #[.val (.int p0), .val (.int (0 : Int32)), .val (.ref w_ALPHA), .val (.int (1 : Int32)), .val (.int (1 : Int32)), .val (.int (1 : Int32)), .unset] [(.int (1 : Int32))])) _
      refine XS.ifNo X5.here hx rfl (hb hby at_50) rfl ((if0 _ _).trans (feq (by decide : ¬ (1 : Int32) = (0 : Int32))).1) ?_
      show Steps p.tables e below (T5.setTop (mkF m 53 #[.val (.int p0), .val (.int (0 : Int32)), .val (.ref w_ALPHA), .val (.int (1 : Int32)), .val (.int (1 : Int32)), .val (.int (1 : Int32)), .unset] [])) _
      refine XS.aloadN X5.here hx rfl (hb hby at_53) rfl rfl ?_
      exact k
    refine Go.callV X5 hx hZ (W := 0) (argsL := []) (rest := []) hown (wd hw 36 rfl) (wd hw 37 rfl) (notFace_of_selects (args := #[]) (mvT hZ (wd hw 39 rfl))) (wd hw 39 rfl) (wd hw 38 rfl) (wd hw 6 rfl) (wd hw 40 rfl) (by decide) (E_ALPHA.ext O.2) (ct_dense l Z a0 hw w_ALPHA w_NUMERIC w_TIME w_BINARY w_DATE w_DF cl_DF S_ALPHA S_NUMERIC S_TIME S_BINARY S_DATE E_ALPHA E_NUMERIC E_TIME E_BINARY E_DATE F_ALPHA F_NUMERIC F_TIME F_BINARY F_DATE ne_ALPHA_NUMERIC ne_ALPHA_TIME ne_ALPHA_BINARY ne_ALPHA_DATE ne_NUMERIC_TIME ne_NUMERIC_BINARY ne_NUMERIC_DATE ne_TIME_BINARY ne_TIME_DATE ne_BINARY_DATE S_DF A_DF E_DF Q_DF z_DF w_ALPHA (0 : Int32) h3 n0 O (by simp [ne_ALPHA_NUMERIC, Ne.symm ne_ALPHA_NUMERIC, ne_ALPHA_TIME, Ne.symm ne_ALPHA_TIME, ne_ALPHA_BINARY, Ne.symm ne_ALPHA_BINARY, ne_ALPHA_DATE, Ne.symm ne_ALPHA_DATE, ne_NUMERIC_TIME, Ne.symm ne_NUMERIC_TIME, ne_NUMERIC_BINARY, Ne.symm ne_NUMERIC_BINARY, ne_NUMERIC_DATE, Ne.symm ne_NUMERIC_DATE, ne_TIME_BINARY, Ne.symm ne_TIME_BINARY, ne_TIME_DATE, Ne.symm ne_TIME_DATE, ne_BINARY_DATE, Ne.symm ne_BINARY_DATE])) e5 (by rw [hml]; rfl) (lenOf pd___Z_8338 rfl) rfl rfl (hb hby at_54) (by decide) (by decide) (by decide) (by decide) ?_
    intro v6 T6 h6 L6 X6 e6 q6
    obtain ⟨rfl, N6, rfl⟩ := q6
    replace N6 := Fr.app N5 N6
    show Go p e below _ T6 (mkF m 57 #[.val (.int p0), .val (.int (0 : Int32)), .val (.ref w_ALPHA), .val (.int (1 : Int32)), .val (.int (1 : Int32)), .val (.int (1 : Int32)), .unset] [(.int (0 : Int32))])
    refine Go.by (T' := T6) (g' := (mkF m 88 #[.val (.int p0), .val (.int (0 : Int32)), .val (.ref w_ALPHA), .val (.int (1 : Int32)), .val (.int (1 : Int32)), .val (.int (1 : Int32)), .val (.int (1 : Int32))] [(.int (1 : Int32))])) (fun t k => ?_) ?_
    · show Steps p.tables e below (T6.setTop (mkF m 57 #[.val (.int p0), .val (.int (0 : Int32)), .val (.ref w_ALPHA), .val (.int (1 : Int32)), .val (.int (1 : Int32)), .val (.int (1 : Int32)), .unset] [(.int (0 : Int32))])) _
      refine XS.ifNo X6.here hx rfl (hb hby at_57) rfl ((if0 _ _).trans (teq (by decide : (0 : Int32) = (0 : Int32))).2) ?_
      show Steps p.tables e below (T6.setTop (mkF m 60 #[.val (.int p0), .val (.int (0 : Int32)), .val (.ref w_ALPHA), .val (.int (1 : Int32)), .val (.int (1 : Int32)), .val (.int (1 : Int32)), .unset] [])) _
      refine XS.iconst X6.here hx rfl (hb hby at_60) ?_
      show Steps p.tables e below (T6.setTop (mkF m 61 #[.val (.int p0), .val (.int (0 : Int32)), .val (.ref w_ALPHA), .val (.int (1 : Int32)), .val (.int (1 : Int32)), .val (.int (1 : Int32)), .unset] [(.int (1 : Int32))])) _
      refine XS.goto X6.here hx rfl (pc0 := 61) (pc' := 65) rfl (hb hby at_61) (by decide) (by decide) ?_
      show Steps p.tables e below (T6.setTop (mkF m 65 #[.val (.int p0), .val (.int (0 : Int32)), .val (.ref w_ALPHA), .val (.int (1 : Int32)), .val (.int (1 : Int32)), .val (.int (1 : Int32)), .unset] [(.int (1 : Int32))])) _
      refine XS.istore X6.here hx rfl (hb hby at_65) rfl (l' := #[.val (.int p0), .val (.int (0 : Int32)), .val (.ref w_ALPHA), .val (.int (1 : Int32)), .val (.int (1 : Int32)), .val (.int (1 : Int32)), .val (.int (1 : Int32))]) rfl ?_
      show Steps p.tables e below (T6.setTop (mkF m 67 #[.val (.int p0), .val (.int (0 : Int32)), .val (.ref w_ALPHA), .val (.int (1 : Int32)), .val (.int (1 : Int32)), .val (.int (1 : Int32)), .val (.int (1 : Int32))] [])) _
      refine XS.iloadN X6.here hx rfl (hb hby at_67) rfl ?_
      show Steps p.tables e below (T6.setTop (mkF m 68 #[.val (.int p0), .val (.int (0 : Int32)), .val (.ref w_ALPHA), .val (.int (1 : Int32)), .val (.int (1 : Int32)), .val (.int (1 : Int32)), .val (.int (1 : Int32))] [(.int (1 : Int32))])) _
      refine XS.iload X6.here hx rfl (hb hby at_68) rfl ?_
      show Steps p.tables e below (T6.setTop (mkF m 70 #[.val (.int p0), .val (.int (0 : Int32)), .val (.ref w_ALPHA), .val (.int (1 : Int32)), .val (.int (1 : Int32)), .val (.int (1 : Int32)), .val (.int (1 : Int32))] [(.int (1 : Int32)), (.int (1 : Int32))])) _
      refine XS.icmpNo X6.here hx rfl (hb hby at_70) rfl (teq (by decide : (1 : Int32) = (1 : Int32))).2 ?_
      show Steps p.tables e below (T6.setTop (mkF m 73 #[.val (.int p0), .val (.int (0 : Int32)), .val (.ref w_ALPHA), .val (.int (1 : Int32)), .val (.int (1 : Int32)), .val (.int (1 : Int32)), .val (.int (1 : Int32))] [])) _
      refine XS.iload X6.here hx rfl (hb hby at_73) rfl ?_
      show Steps p.tables e below (T6.setTop (mkF m 75 #[.val (.int p0), .val (.int (0 : Int32)), .val (.ref w_ALPHA), .val (.int (1 : Int32)), .val (.int (1 : Int32)), .val (.int (1 : Int32)), .val (.int (1 : Int32))] [(.int (1 : Int32))])) _
      refine XS.ifNo X6.here hx rfl (hb hby at_75) rfl ((if0 _ _).trans (feq (by decide : ¬ (1 : Int32) = (0 : Int32))).1) ?_
      show Steps p.tables e below (T6.setTop (mkF m 78 #[.val (.int p0), .val (.int (0 : Int32)), .val (.ref w_ALPHA), .val (.int (1 : Int32)), .val (.int (1 : Int32)), .val (.int (1 : Int32)), .val (.int (1 : Int32))] [])) _
      refine XS.iload X6.here hx rfl (hb hby at_78) rfl ?_
      show Steps p.tables e below (T6.setTop (mkF m 80 #[.val (.int p0), .val (.int (0 : Int32)), .val (.ref w_ALPHA), .val (.int (1 : Int32)), .val (.int (1 : Int32)), .val (.int (1 : Int32)), .val (.int (1 : Int32))] [(.int (1 : Int32))])) _
      refine XS.ifNo X6.here hx rfl (hb hby at_80) rfl ((if0 _ _).trans (feq (by decide : ¬ (1 : Int32) = (0 : Int32))).1) ?_
      show Steps p.tables e below (T6.setTop (mkF m 83 #[.val (.int p0), .val (.int (0 : Int32)), .val (.ref w_ALPHA), .val (.int (1 : Int32)), .val (.int (1 : Int32)), .val (.int (1 : Int32)), .val (.int (1 : Int32))] [])) _
      refine XS.iconst X6.here hx rfl (hb hby at_83) ?_
      show Steps p.tables e below (T6.setTop (mkF m 84 #[.val (.int p0), .val (.int (0 : Int32)), .val (.ref w_ALPHA), .val (.int (1 : Int32)), .val (.int (1 : Int32)), .val (.int (1 : Int32)), .val (.int (1 : Int32))] [(.int (1 : Int32))])) _
      refine XS.goto X6.here hx rfl (pc0 := 84) (pc' := 88) rfl (hb hby at_84) (by decide) (by decide) ?_
      exact k
    refine Go.retZ X6 hx hlk hret (Or.inr rfl) (hb hby at_88) (by decide) (by decide) e6 ?_
    exact ⟨rfl, N6⟩
  · skip
    rw [c]
    show Go p e below _ T0 (mkF m 7 #[.val (.int p0), .val (.int (1 : Int32)), .unset, .unset, .unset, .unset, .unset] [])
    refine Go.by (T' := T0) (g' := (mkF m 8 #[.val (.int p0), .val (.int (1 : Int32)), .unset, .unset, .unset, .unset, .unset] [(.int (1 : Int32))])) (fun t k => ?_) ?_
    · show Steps p.tables e below (T0.setTop (mkF m 7 #[.val (.int p0), .val (.int (1 : Int32)), .unset, .unset, .unset, .unset, .unset] [])) _
      refine XS.iloadN X0.here hx rfl (hb hby at_7) rfl ?_
      exact k
    refine Go.callS X0 hx hZ (W := 0) (argsL := [(.int (1 : Int32))]) (rest := []) hown (wd hw 1 rfl) (wd hw 2 rfl) (wd hw 3 rfl) (wd hw 4 rfl) (by decide) (ct_pick l Z a0 hw w_ALPHA w_NUMERIC w_TIME w_BINARY w_DATE w_DF cl_DF S_ALPHA S_NUMERIC S_TIME S_BINARY S_DATE E_ALPHA E_NUMERIC E_TIME E_BINARY E_DATE F_ALPHA F_NUMERIC F_TIME F_BINARY F_DATE ne_ALPHA_NUMERIC ne_ALPHA_TIME ne_ALPHA_BINARY ne_ALPHA_DATE ne_NUMERIC_TIME ne_NUMERIC_BINARY ne_NUMERIC_DATE ne_TIME_BINARY ne_TIME_DATE ne_BINARY_DATE S_DF A_DF E_DF Q_DF z_DF (1 : Int32) w_NUMERIC h0 n0 O (by simp)) e0 (by rw [hml]; rfl) (lenOf pd__I_Lcom_example_tagfold_tagfold_value_Or_8665 rfl) rfl rfl (hb hby at_8) (by decide) (by decide) (by decide) (by decide) ?_
    intro v7 T7 h7 L7 X7 e7 q7
    obtain ⟨rfl, N7, rfl⟩ := q7
    replace N7 := Fr.app N0 N7
    show Go p e below _ T7 (mkF m 11 #[.val (.int p0), .val (.int (1 : Int32)), .unset, .unset, .unset, .unset, .unset] [(.ref w_NUMERIC)])
    refine Go.by (T' := T7) (g' := (mkF m 13 #[.val (.int p0), .val (.int (1 : Int32)), .val (.ref w_NUMERIC), .unset, .unset, .unset, .unset] [(.ref w_NUMERIC)])) (fun t k => ?_) ?_
    · show Steps p.tables e below (T7.setTop (mkF m 11 #[.val (.int p0), .val (.int (1 : Int32)), .unset, .unset, .unset, .unset, .unset] [(.ref w_NUMERIC)])) _
      refine XS.astoreN X7.here hx rfl (hb hby at_11) rfl rfl (l' := #[.val (.int p0), .val (.int (1 : Int32)), .val (.ref w_NUMERIC), .unset, .unset, .unset, .unset]) rfl ?_
      show Steps p.tables e below (T7.setTop (mkF m 12 #[.val (.int p0), .val (.int (1 : Int32)), .val (.ref w_NUMERIC), .unset, .unset, .unset, .unset] [])) _
      refine XS.aloadN X7.here hx rfl (hb hby at_12) rfl rfl ?_
      exact k
    refine Go.callV X7 hx hZ (W := 0) (argsL := []) (rest := []) hown (wd hw 8 rfl) (wd hw 9 rfl) (notFace_of_selects (args := #[]) (mvT hZ (wd hw 11 rfl))) (wd hw 11 rfl) (wd hw 10 rfl) (wd hw 6 rfl) (wd hw 12 rfl) (by decide) (E_NUMERIC.ext O.2) (ct_wev l Z a0 hw w_ALPHA w_NUMERIC w_TIME w_BINARY w_DATE w_DF cl_DF S_ALPHA S_NUMERIC S_TIME S_BINARY S_DATE E_ALPHA E_NUMERIC E_TIME E_BINARY E_DATE F_ALPHA F_NUMERIC F_TIME F_BINARY F_DATE ne_ALPHA_NUMERIC ne_ALPHA_TIME ne_ALPHA_BINARY ne_ALPHA_DATE ne_NUMERIC_TIME ne_NUMERIC_BINARY ne_NUMERIC_DATE ne_TIME_BINARY ne_TIME_DATE ne_BINARY_DATE S_DF A_DF E_DF Q_DF z_DF w_NUMERIC (0 : Int32) h0 n0 O (by simp [ne_ALPHA_NUMERIC, Ne.symm ne_ALPHA_NUMERIC, ne_ALPHA_TIME, Ne.symm ne_ALPHA_TIME, ne_ALPHA_BINARY, Ne.symm ne_ALPHA_BINARY, ne_ALPHA_DATE, Ne.symm ne_ALPHA_DATE, ne_NUMERIC_TIME, Ne.symm ne_NUMERIC_TIME, ne_NUMERIC_BINARY, Ne.symm ne_NUMERIC_BINARY, ne_NUMERIC_DATE, Ne.symm ne_NUMERIC_DATE, ne_TIME_BINARY, Ne.symm ne_TIME_BINARY, ne_TIME_DATE, Ne.symm ne_TIME_DATE, ne_BINARY_DATE, Ne.symm ne_BINARY_DATE])) e7 (by rw [hml]; rfl) (lenOf pd___Z_8338 rfl) rfl rfl (hb hby at_13) (by decide) (by decide) (by decide) (by decide) ?_
    intro v8 T8 h8 L8 X8 e8 q8
    obtain ⟨rfl, N8, rfl⟩ := q8
    replace N8 := Fr.app N7 N8
    show Go p e below _ T8 (mkF m 16 #[.val (.int p0), .val (.int (1 : Int32)), .val (.ref w_NUMERIC), .unset, .unset, .unset, .unset] [(.int (0 : Int32))])
    refine Go.by (T' := T8) (g' := (mkF m 18 #[.val (.int p0), .val (.int (1 : Int32)), .val (.ref w_NUMERIC), .val (.int (0 : Int32)), .unset, .unset, .unset] [(.ref w_NUMERIC)])) (fun t k => ?_) ?_
    · show Steps p.tables e below (T8.setTop (mkF m 16 #[.val (.int p0), .val (.int (1 : Int32)), .val (.ref w_NUMERIC), .unset, .unset, .unset, .unset] [(.int (0 : Int32))])) _
      refine XS.istoreN X8.here hx rfl (hb hby at_16) rfl (l' := #[.val (.int p0), .val (.int (1 : Int32)), .val (.ref w_NUMERIC), .val (.int (0 : Int32)), .unset, .unset, .unset]) rfl ?_
      show Steps p.tables e below (T8.setTop (mkF m 17 #[.val (.int p0), .val (.int (1 : Int32)), .val (.ref w_NUMERIC), .val (.int (0 : Int32)), .unset, .unset, .unset] [])) _
      refine XS.aloadN X8.here hx rfl (hb hby at_17) rfl rfl ?_
      exact k
    refine Go.callV X8 hx hZ (W := 0) (argsL := []) (rest := []) hown (wd hw 14 rfl) (wd hw 15 rfl) (notFace_of_selects (args := #[]) (mvT hZ (wd hw 17 rfl))) (wd hw 17 rfl) (wd hw 16 rfl) (wd hw 6 rfl) (wd hw 18 rfl) (by decide) (E_NUMERIC.ext O.2) (ct_least1 l Z a0 hw w_ALPHA w_NUMERIC w_TIME w_BINARY w_DATE w_DF cl_DF S_ALPHA S_NUMERIC S_TIME S_BINARY S_DATE E_ALPHA E_NUMERIC E_TIME E_BINARY E_DATE F_ALPHA F_NUMERIC F_TIME F_BINARY F_DATE ne_ALPHA_NUMERIC ne_ALPHA_TIME ne_ALPHA_BINARY ne_ALPHA_DATE ne_NUMERIC_TIME ne_NUMERIC_BINARY ne_NUMERIC_DATE ne_TIME_BINARY ne_TIME_DATE ne_BINARY_DATE S_DF A_DF E_DF Q_DF z_DF w_NUMERIC h0 n0 O (E_NUMERIC.ext O.2) (F_NUMERIC.ext O.2)) e8 (by rw [hml]; rfl) (lenOf pd____B_8554 rfl) rfl rfl (hb hby at_18) (by decide) (by decide) (by decide) (by decide) ?_
    intro v9 T9 h9 L9 X9 e9 q9
    obtain ⟨rfl, N9, rfl⟩ := q9
    replace N9 := Fr.app N8 N9
    show Go p e below _ T9 (mkF m 21 #[.val (.int p0), .val (.int (1 : Int32)), .val (.ref w_NUMERIC), .val (.int (0 : Int32)), .unset, .unset, .unset] [.null])
    refine Go.by (T' := T9) (g' := (mkF m 32 #[.val (.int p0), .val (.int (1 : Int32)), .val (.ref w_NUMERIC), .val (.int (0 : Int32)), .val (.int (0 : Int32)), .unset, .unset] [(.ref w_NUMERIC)])) (fun t k => ?_) ?_
    · show Steps p.tables e below (T9.setTop (mkF m 21 #[.val (.int p0), .val (.int (1 : Int32)), .val (.ref w_NUMERIC), .val (.int (0 : Int32)), .unset, .unset, .unset] [.null])) _
      refine XS.ifnullYes X9.here hx rfl (pc0 := 21) (pc' := 28) rfl (hb hby at_21) rfl (by decide) (by decide) ?_
      show Steps p.tables e below (T9.setTop (mkF m 28 #[.val (.int p0), .val (.int (1 : Int32)), .val (.ref w_NUMERIC), .val (.int (0 : Int32)), .unset, .unset, .unset] [])) _
      refine XS.iconst X9.here hx rfl (hb hby at_28) ?_
      show Steps p.tables e below (T9.setTop (mkF m 29 #[.val (.int p0), .val (.int (1 : Int32)), .val (.ref w_NUMERIC), .val (.int (0 : Int32)), .unset, .unset, .unset] [(.int (0 : Int32))])) _
      refine XS.istore X9.here hx rfl (hb hby at_29) rfl (l' := #[.val (.int p0), .val (.int (1 : Int32)), .val (.ref w_NUMERIC), .val (.int (0 : Int32)), .val (.int (0 : Int32)), .unset, .unset]) rfl ?_
      show Steps p.tables e below (T9.setTop (mkF m 31 #[.val (.int p0), .val (.int (1 : Int32)), .val (.ref w_NUMERIC), .val (.int (0 : Int32)), .val (.int (0 : Int32)), .unset, .unset] [])) _
      refine XS.aloadN X9.here hx rfl (hb hby at_31) rfl rfl ?_
      exact k
    refine Go.callV X9 hx hZ (W := 0) (argsL := []) (rest := []) hown (wd hw 29 rfl) (wd hw 30 rfl) (notFace_of_selects (args := #[]) (mvT hZ (wd hw 32 rfl))) (wd hw 32 rfl) (wd hw 31 rfl) (wd hw 6 rfl) (wd hw 33 rfl) (by decide) (E_NUMERIC.ext O.2) (ct_scale l Z a0 hw w_ALPHA w_NUMERIC w_TIME w_BINARY w_DATE w_DF cl_DF S_ALPHA S_NUMERIC S_TIME S_BINARY S_DATE E_ALPHA E_NUMERIC E_TIME E_BINARY E_DATE F_ALPHA F_NUMERIC F_TIME F_BINARY F_DATE ne_ALPHA_NUMERIC ne_ALPHA_TIME ne_ALPHA_BINARY ne_ALPHA_DATE ne_NUMERIC_TIME ne_NUMERIC_BINARY ne_NUMERIC_DATE ne_TIME_BINARY ne_TIME_DATE ne_BINARY_DATE S_DF A_DF E_DF Q_DF z_DF w_NUMERIC w_NUMERIC h0 n0 O (by simp [ne_ALPHA_NUMERIC, Ne.symm ne_ALPHA_NUMERIC, ne_ALPHA_TIME, Ne.symm ne_ALPHA_TIME, ne_ALPHA_BINARY, Ne.symm ne_ALPHA_BINARY, ne_ALPHA_DATE, Ne.symm ne_ALPHA_DATE, ne_NUMERIC_TIME, Ne.symm ne_NUMERIC_TIME, ne_NUMERIC_BINARY, Ne.symm ne_NUMERIC_BINARY, ne_NUMERIC_DATE, Ne.symm ne_NUMERIC_DATE, ne_TIME_BINARY, Ne.symm ne_TIME_BINARY, ne_TIME_DATE, Ne.symm ne_TIME_DATE, ne_BINARY_DATE, Ne.symm ne_BINARY_DATE])) e9 (by rw [hml]; rfl) (lenOf pd___Lcom_example_tagfold_tagfold_value_Ord_986 rfl) rfl rfl (hb hby at_32) (by decide) (by decide) (by decide) (by decide) ?_
    intro v10 T10 h10 L10 X10 e10 q10
    obtain ⟨rfl, N10, rfl⟩ := q10
    replace N10 := Fr.app N9 N10
    show Go p e below _ T10 (mkF m 35 #[.val (.int p0), .val (.int (1 : Int32)), .val (.ref w_NUMERIC), .val (.int (0 : Int32)), .val (.int (0 : Int32)), .unset, .unset] [(.ref w_NUMERIC)])
    refine Go.callV X10 hx hZ (W := 0) (argsL := []) (rest := []) hown (wd hw 8 rfl) (wd hw 9 rfl) (notFace_of_selects (args := #[]) (mvT hZ (wd hw 11 rfl))) (wd hw 11 rfl) (wd hw 10 rfl) (wd hw 6 rfl) (wd hw 12 rfl) (by decide) (E_NUMERIC.ext O.2) (ct_wev l Z a0 hw w_ALPHA w_NUMERIC w_TIME w_BINARY w_DATE w_DF cl_DF S_ALPHA S_NUMERIC S_TIME S_BINARY S_DATE E_ALPHA E_NUMERIC E_TIME E_BINARY E_DATE F_ALPHA F_NUMERIC F_TIME F_BINARY F_DATE ne_ALPHA_NUMERIC ne_ALPHA_TIME ne_ALPHA_BINARY ne_ALPHA_DATE ne_NUMERIC_TIME ne_NUMERIC_BINARY ne_NUMERIC_DATE ne_TIME_BINARY ne_TIME_DATE ne_BINARY_DATE S_DF A_DF E_DF Q_DF z_DF w_NUMERIC (0 : Int32) h0 n0 O (by simp [ne_ALPHA_NUMERIC, Ne.symm ne_ALPHA_NUMERIC, ne_ALPHA_TIME, Ne.symm ne_ALPHA_TIME, ne_ALPHA_BINARY, Ne.symm ne_ALPHA_BINARY, ne_ALPHA_DATE, Ne.symm ne_ALPHA_DATE, ne_NUMERIC_TIME, Ne.symm ne_NUMERIC_TIME, ne_NUMERIC_BINARY, Ne.symm ne_NUMERIC_BINARY, ne_NUMERIC_DATE, Ne.symm ne_NUMERIC_DATE, ne_TIME_BINARY, Ne.symm ne_TIME_BINARY, ne_TIME_DATE, Ne.symm ne_TIME_DATE, ne_BINARY_DATE, Ne.symm ne_BINARY_DATE])) e10 (by rw [hml]; rfl) (lenOf pd___Z_8338 rfl) rfl rfl (hb hby at_35) (by decide) (by decide) (by decide) (by decide) ?_
    intro v11 T11 h11 L11 X11 e11 q11
    obtain ⟨rfl, N11, rfl⟩ := q11
    replace N11 := Fr.app N10 N11
    show Go p e below _ T11 (mkF m 38 #[.val (.int p0), .val (.int (1 : Int32)), .val (.ref w_NUMERIC), .val (.int (0 : Int32)), .val (.int (0 : Int32)), .unset, .unset] [(.int (0 : Int32))])
    refine Go.by (T' := T11) (g' := (mkF m 88 #[.val (.int p0), .val (.int (1 : Int32)), .val (.ref w_NUMERIC), .val (.int (0 : Int32)), .val (.int (0 : Int32)), .val (.int (1 : Int32)), .val (.int (1 : Int32))] [(.int (1 : Int32))])) (fun t k => ?_) ?_
    · show Steps p.tables e below (T11.setTop (mkF m 38 #[.val (.int p0), .val (.int (1 : Int32)), .val (.ref w_NUMERIC), .val (.int (0 : Int32)), .val (.int (0 : Int32)), .unset, .unset] [(.int (0 : Int32))])) _
      refine XS.iloadN X11.here hx rfl (hb hby at_38) rfl ?_
      show Steps p.tables e below (T11.setTop (mkF m 39 #[.val (.int p0), .val (.int (1 : Int32)), .val (.ref w_NUMERIC), .val (.int (0 : Int32)), .val (.int (0 : Int32)), .unset, .unset] [(.int (0 : Int32)), (.int (0 : Int32))])) _
      refine XS.icmpNo X11.here hx rfl (hb hby at_39) rfl (teq (by decide : (0 : Int32) = (0 : Int32))).2 ?_
      show Steps p.tables e below (T11.setTop (mkF m 42 #[.val (.int p0), .val (.int (1 : Int32)), .val (.ref w_NUMERIC), .val (.int (0 : Int32)), .val (.int (0 : Int32)), .unset, .unset] [])) _
      refine XS.iconst X11.here hx rfl (hb hby at_42) ?_
      show Steps p.tables e below (T11.setTop (mkF m 43 #[.val (.int p0), .val (.int (1 : Int32)), .val (.ref w_NUMERIC), .val (.int (0 : Int32)), .val (.int (0 : Int32)), .unset, .unset] [(.int (1 : Int32))])) _
      refine XS.goto X11.here hx rfl (pc0 := 43) (pc' := 47) rfl (hb hby at_43) (by decide) (by decide) ?_
      show Steps p.tables e below (T11.setTop (mkF m 47 #[.val (.int p0), .val (.int (1 : Int32)), .val (.ref w_NUMERIC), .val (.int (0 : Int32)), .val (.int (0 : Int32)), .unset, .unset] [(.int (1 : Int32))])) _
      refine XS.istore X11.here hx rfl (hb hby at_47) rfl (l' := #[.val (.int p0), .val (.int (1 : Int32)), .val (.ref w_NUMERIC), .val (.int (0 : Int32)), .val (.int (0 : Int32)), .val (.int (1 : Int32)), .unset]) rfl ?_
      show Steps p.tables e below (T11.setTop (mkF m 49 #[.val (.int p0), .val (.int (1 : Int32)), .val (.ref w_NUMERIC), .val (.int (0 : Int32)), .val (.int (0 : Int32)), .val (.int (1 : Int32)), .unset] [])) _
      refine XS.iloadN X11.here hx rfl (hb hby at_49) rfl ?_
      show Steps p.tables e below (T11.setTop (mkF m 50 #[.val (.int p0), .val (.int (1 : Int32)), .val (.ref w_NUMERIC), .val (.int (0 : Int32)), .val (.int (0 : Int32)), .val (.int (1 : Int32)), .unset] [(.int (0 : Int32))])) _
      refine XS.ifYes X11.here hx rfl (pc0 := 50) (pc' := 60) rfl (hb hby at_50) rfl ((if0 _ _).trans (teq (by decide : (0 : Int32) = (0 : Int32))).1) (by decide) (by decide) ?_
      show Steps p.tables e below (T11.setTop (mkF m 60 #[.val (.int p0), .val (.int (1 : Int32)), .val (.ref w_NUMERIC), .val (.int (0 : Int32)), .val (.int (0 : Int32)), .val (.int (1 : Int32)), .unset] [])) _
      refine XS.iconst X11.here hx rfl (hb hby at_60) ?_
      show Steps p.tables e below (T11.setTop (mkF m 61 #[.val (.int p0), .val (.int (1 : Int32)), .val (.ref w_NUMERIC), .val (.int (0 : Int32)), .val (.int (0 : Int32)), .val (.int (1 : Int32)), .unset] [(.int (1 : Int32))])) _
      refine XS.goto X11.here hx rfl (pc0 := 61) (pc' := 65) rfl (hb hby at_61) (by decide) (by decide) ?_
      show Steps p.tables e below (T11.setTop (mkF m 65 #[.val (.int p0), .val (.int (1 : Int32)), .val (.ref w_NUMERIC), .val (.int (0 : Int32)), .val (.int (0 : Int32)), .val (.int (1 : Int32)), .unset] [(.int (1 : Int32))])) _
      refine XS.istore X11.here hx rfl (hb hby at_65) rfl (l' := #[.val (.int p0), .val (.int (1 : Int32)), .val (.ref w_NUMERIC), .val (.int (0 : Int32)), .val (.int (0 : Int32)), .val (.int (1 : Int32)), .val (.int (1 : Int32))]) rfl ?_
      show Steps p.tables e below (T11.setTop (mkF m 67 #[.val (.int p0), .val (.int (1 : Int32)), .val (.ref w_NUMERIC), .val (.int (0 : Int32)), .val (.int (0 : Int32)), .val (.int (1 : Int32)), .val (.int (1 : Int32))] [])) _
      refine XS.iloadN X11.here hx rfl (hb hby at_67) rfl ?_
      show Steps p.tables e below (T11.setTop (mkF m 68 #[.val (.int p0), .val (.int (1 : Int32)), .val (.ref w_NUMERIC), .val (.int (0 : Int32)), .val (.int (0 : Int32)), .val (.int (1 : Int32)), .val (.int (1 : Int32))] [(.int (0 : Int32))])) _
      refine XS.iload X11.here hx rfl (hb hby at_68) rfl ?_
      show Steps p.tables e below (T11.setTop (mkF m 70 #[.val (.int p0), .val (.int (1 : Int32)), .val (.ref w_NUMERIC), .val (.int (0 : Int32)), .val (.int (0 : Int32)), .val (.int (1 : Int32)), .val (.int (1 : Int32))] [(.int (0 : Int32)), (.int (0 : Int32))])) _
      refine XS.icmpNo X11.here hx rfl (hb hby at_70) rfl (teq (by decide : (0 : Int32) = (0 : Int32))).2 ?_
      show Steps p.tables e below (T11.setTop (mkF m 73 #[.val (.int p0), .val (.int (1 : Int32)), .val (.ref w_NUMERIC), .val (.int (0 : Int32)), .val (.int (0 : Int32)), .val (.int (1 : Int32)), .val (.int (1 : Int32))] [])) _
      refine XS.iload X11.here hx rfl (hb hby at_73) rfl ?_
      show Steps p.tables e below (T11.setTop (mkF m 75 #[.val (.int p0), .val (.int (1 : Int32)), .val (.ref w_NUMERIC), .val (.int (0 : Int32)), .val (.int (0 : Int32)), .val (.int (1 : Int32)), .val (.int (1 : Int32))] [(.int (1 : Int32))])) _
      refine XS.ifNo X11.here hx rfl (hb hby at_75) rfl ((if0 _ _).trans (feq (by decide : ¬ (1 : Int32) = (0 : Int32))).1) ?_
      show Steps p.tables e below (T11.setTop (mkF m 78 #[.val (.int p0), .val (.int (1 : Int32)), .val (.ref w_NUMERIC), .val (.int (0 : Int32)), .val (.int (0 : Int32)), .val (.int (1 : Int32)), .val (.int (1 : Int32))] [])) _
      refine XS.iload X11.here hx rfl (hb hby at_78) rfl ?_
      show Steps p.tables e below (T11.setTop (mkF m 80 #[.val (.int p0), .val (.int (1 : Int32)), .val (.ref w_NUMERIC), .val (.int (0 : Int32)), .val (.int (0 : Int32)), .val (.int (1 : Int32)), .val (.int (1 : Int32))] [(.int (1 : Int32))])) _
      refine XS.ifNo X11.here hx rfl (hb hby at_80) rfl ((if0 _ _).trans (feq (by decide : ¬ (1 : Int32) = (0 : Int32))).1) ?_
      show Steps p.tables e below (T11.setTop (mkF m 83 #[.val (.int p0), .val (.int (1 : Int32)), .val (.ref w_NUMERIC), .val (.int (0 : Int32)), .val (.int (0 : Int32)), .val (.int (1 : Int32)), .val (.int (1 : Int32))] [])) _
      refine XS.iconst X11.here hx rfl (hb hby at_83) ?_
      show Steps p.tables e below (T11.setTop (mkF m 84 #[.val (.int p0), .val (.int (1 : Int32)), .val (.ref w_NUMERIC), .val (.int (0 : Int32)), .val (.int (0 : Int32)), .val (.int (1 : Int32)), .val (.int (1 : Int32))] [(.int (1 : Int32))])) _
      refine XS.goto X11.here hx rfl (pc0 := 84) (pc' := 88) rfl (hb hby at_84) (by decide) (by decide) ?_
      exact k
    refine Go.retZ X11 hx hlk hret (Or.inr rfl) (hb hby at_88) (by decide) (by decide) e11 ?_
    exact ⟨rfl, N11⟩
  · skip
    rw [c]
    show Go p e below _ T0 (mkF m 7 #[.val (.int p0), .val (.int (2 : Int32)), .unset, .unset, .unset, .unset, .unset] [])
    refine Go.by (T' := T0) (g' := (mkF m 8 #[.val (.int p0), .val (.int (2 : Int32)), .unset, .unset, .unset, .unset, .unset] [(.int (2 : Int32))])) (fun t k => ?_) ?_
    · show Steps p.tables e below (T0.setTop (mkF m 7 #[.val (.int p0), .val (.int (2 : Int32)), .unset, .unset, .unset, .unset, .unset] [])) _
      refine XS.iloadN X0.here hx rfl (hb hby at_7) rfl ?_
      exact k
    refine Go.callS X0 hx hZ (W := 0) (argsL := [(.int (2 : Int32))]) (rest := []) hown (wd hw 1 rfl) (wd hw 2 rfl) (wd hw 3 rfl) (wd hw 4 rfl) (by decide) (ct_pick l Z a0 hw w_ALPHA w_NUMERIC w_TIME w_BINARY w_DATE w_DF cl_DF S_ALPHA S_NUMERIC S_TIME S_BINARY S_DATE E_ALPHA E_NUMERIC E_TIME E_BINARY E_DATE F_ALPHA F_NUMERIC F_TIME F_BINARY F_DATE ne_ALPHA_NUMERIC ne_ALPHA_TIME ne_ALPHA_BINARY ne_ALPHA_DATE ne_NUMERIC_TIME ne_NUMERIC_BINARY ne_NUMERIC_DATE ne_TIME_BINARY ne_TIME_DATE ne_BINARY_DATE S_DF A_DF E_DF Q_DF z_DF (2 : Int32) w_TIME h0 n0 O (by simp)) e0 (by rw [hml]; rfl) (lenOf pd__I_Lcom_example_tagfold_tagfold_value_Or_8665 rfl) rfl rfl (hb hby at_8) (by decide) (by decide) (by decide) (by decide) ?_
    intro v12 T12 h12 L12 X12 e12 q12
    obtain ⟨rfl, N12, rfl⟩ := q12
    replace N12 := Fr.app N0 N12
    show Go p e below _ T12 (mkF m 11 #[.val (.int p0), .val (.int (2 : Int32)), .unset, .unset, .unset, .unset, .unset] [(.ref w_TIME)])
    refine Go.by (T' := T12) (g' := (mkF m 13 #[.val (.int p0), .val (.int (2 : Int32)), .val (.ref w_TIME), .unset, .unset, .unset, .unset] [(.ref w_TIME)])) (fun t k => ?_) ?_
    · show Steps p.tables e below (T12.setTop (mkF m 11 #[.val (.int p0), .val (.int (2 : Int32)), .unset, .unset, .unset, .unset, .unset] [(.ref w_TIME)])) _
      refine XS.astoreN X12.here hx rfl (hb hby at_11) rfl rfl (l' := #[.val (.int p0), .val (.int (2 : Int32)), .val (.ref w_TIME), .unset, .unset, .unset, .unset]) rfl ?_
      show Steps p.tables e below (T12.setTop (mkF m 12 #[.val (.int p0), .val (.int (2 : Int32)), .val (.ref w_TIME), .unset, .unset, .unset, .unset] [])) _
      refine XS.aloadN X12.here hx rfl (hb hby at_12) rfl rfl ?_
      exact k
    refine Go.callV X12 hx hZ (W := 0) (argsL := []) (rest := []) hown (wd hw 8 rfl) (wd hw 9 rfl) (notFace_of_selects (args := #[]) (mvT hZ (wd hw 11 rfl))) (wd hw 11 rfl) (wd hw 10 rfl) (wd hw 6 rfl) (wd hw 12 rfl) (by decide) (E_TIME.ext O.2) (ct_wev l Z a0 hw w_ALPHA w_NUMERIC w_TIME w_BINARY w_DATE w_DF cl_DF S_ALPHA S_NUMERIC S_TIME S_BINARY S_DATE E_ALPHA E_NUMERIC E_TIME E_BINARY E_DATE F_ALPHA F_NUMERIC F_TIME F_BINARY F_DATE ne_ALPHA_NUMERIC ne_ALPHA_TIME ne_ALPHA_BINARY ne_ALPHA_DATE ne_NUMERIC_TIME ne_NUMERIC_BINARY ne_NUMERIC_DATE ne_TIME_BINARY ne_TIME_DATE ne_BINARY_DATE S_DF A_DF E_DF Q_DF z_DF w_TIME (1 : Int32) h0 n0 O (by simp [ne_ALPHA_NUMERIC, Ne.symm ne_ALPHA_NUMERIC, ne_ALPHA_TIME, Ne.symm ne_ALPHA_TIME, ne_ALPHA_BINARY, Ne.symm ne_ALPHA_BINARY, ne_ALPHA_DATE, Ne.symm ne_ALPHA_DATE, ne_NUMERIC_TIME, Ne.symm ne_NUMERIC_TIME, ne_NUMERIC_BINARY, Ne.symm ne_NUMERIC_BINARY, ne_NUMERIC_DATE, Ne.symm ne_NUMERIC_DATE, ne_TIME_BINARY, Ne.symm ne_TIME_BINARY, ne_TIME_DATE, Ne.symm ne_TIME_DATE, ne_BINARY_DATE, Ne.symm ne_BINARY_DATE])) e12 (by rw [hml]; rfl) (lenOf pd___Z_8338 rfl) rfl rfl (hb hby at_13) (by decide) (by decide) (by decide) (by decide) ?_
    intro v13 T13 h13 L13 X13 e13 q13
    obtain ⟨rfl, N13, rfl⟩ := q13
    replace N13 := Fr.app N12 N13
    show Go p e below _ T13 (mkF m 16 #[.val (.int p0), .val (.int (2 : Int32)), .val (.ref w_TIME), .unset, .unset, .unset, .unset] [(.int (1 : Int32))])
    refine Go.by (T' := T13) (g' := (mkF m 18 #[.val (.int p0), .val (.int (2 : Int32)), .val (.ref w_TIME), .val (.int (1 : Int32)), .unset, .unset, .unset] [(.ref w_TIME)])) (fun t k => ?_) ?_
    · show Steps p.tables e below (T13.setTop (mkF m 16 #[.val (.int p0), .val (.int (2 : Int32)), .val (.ref w_TIME), .unset, .unset, .unset, .unset] [(.int (1 : Int32))])) _
      refine XS.istoreN X13.here hx rfl (hb hby at_16) rfl (l' := #[.val (.int p0), .val (.int (2 : Int32)), .val (.ref w_TIME), .val (.int (1 : Int32)), .unset, .unset, .unset]) rfl ?_
      show Steps p.tables e below (T13.setTop (mkF m 17 #[.val (.int p0), .val (.int (2 : Int32)), .val (.ref w_TIME), .val (.int (1 : Int32)), .unset, .unset, .unset] [])) _
      refine XS.aloadN X13.here hx rfl (hb hby at_17) rfl rfl ?_
      exact k
    refine Go.callV X13 hx hZ (W := 0) (argsL := []) (rest := []) hown (wd hw 14 rfl) (wd hw 15 rfl) (notFace_of_selects (args := #[]) (mvT hZ (wd hw 17 rfl))) (wd hw 17 rfl) (wd hw 16 rfl) (wd hw 6 rfl) (wd hw 18 rfl) (by decide) (E_TIME.ext O.2) (ct_least2 l Z a0 hw w_ALPHA w_NUMERIC w_TIME w_BINARY w_DATE w_DF cl_DF S_ALPHA S_NUMERIC S_TIME S_BINARY S_DATE E_ALPHA E_NUMERIC E_TIME E_BINARY E_DATE F_ALPHA F_NUMERIC F_TIME F_BINARY F_DATE ne_ALPHA_NUMERIC ne_ALPHA_TIME ne_ALPHA_BINARY ne_ALPHA_DATE ne_NUMERIC_TIME ne_NUMERIC_BINARY ne_NUMERIC_DATE ne_TIME_BINARY ne_TIME_DATE ne_BINARY_DATE S_DF A_DF E_DF Q_DF z_DF w_TIME h0 n0 O (E_TIME.ext O.2) (F_TIME.ext O.2)) e13 (by rw [hml]; rfl) (lenOf pd____B_8554 rfl) rfl rfl (hb hby at_18) (by decide) (by decide) (by decide) (by decide) ?_
    intro v14 T14 h14 L14 X14 e14 q14
    obtain ⟨o14, rfl, N14, K14⟩ := q14
    replace N14 := Fr.app N13 N14
    replace O := O.keep K14 all0
    show Go p e below _ T14 (mkF m 21 #[.val (.int p0), .val (.int (2 : Int32)), .val (.ref w_TIME), .val (.int (1 : Int32)), .unset, .unset, .unset] [(.ref o14)])
    refine Go.by (T' := T14) (g' := (mkF m 32 #[.val (.int p0), .val (.int (2 : Int32)), .val (.ref w_TIME), .val (.int (1 : Int32)), .val (.int (1 : Int32)), .unset, .unset] [(.ref w_TIME)])) (fun t k => ?_) ?_
    · show Steps p.tables e below (T14.setTop (mkF m 21 #[.val (.int p0), .val (.int (2 : Int32)), .val (.ref w_TIME), .val (.int (1 : Int32)), .unset, .unset, .unset] [(.ref o14)])) _
      refine XS.ifnullNo X14.here hx rfl (hb hby at_21) rfl ?_
      show Steps p.tables e below (T14.setTop (mkF m 24 #[.val (.int p0), .val (.int (2 : Int32)), .val (.ref w_TIME), .val (.int (1 : Int32)), .unset, .unset, .unset] [])) _
      refine XS.iconst X14.here hx rfl (hb hby at_24) ?_
      show Steps p.tables e below (T14.setTop (mkF m 25 #[.val (.int p0), .val (.int (2 : Int32)), .val (.ref w_TIME), .val (.int (1 : Int32)), .unset, .unset, .unset] [(.int (1 : Int32))])) _
      refine XS.goto X14.here hx rfl (pc0 := 25) (pc' := 29) rfl (hb hby at_25) (by decide) (by decide) ?_
      show Steps p.tables e below (T14.setTop (mkF m 29 #[.val (.int p0), .val (.int (2 : Int32)), .val (.ref w_TIME), .val (.int (1 : Int32)), .unset, .unset, .unset] [(.int (1 : Int32))])) _
      refine XS.istore X14.here hx rfl (hb hby at_29) rfl (l' := #[.val (.int p0), .val (.int (2 : Int32)), .val (.ref w_TIME), .val (.int (1 : Int32)), .val (.int (1 : Int32)), .unset, .unset]) rfl ?_
      show Steps p.tables e below (T14.setTop (mkF m 31 #[.val (.int p0), .val (.int (2 : Int32)), .val (.ref w_TIME), .val (.int (1 : Int32)), .val (.int (1 : Int32)), .unset, .unset] [])) _
      refine XS.aloadN X14.here hx rfl (hb hby at_31) rfl rfl ?_
      exact k
    refine Go.callV X14 hx hZ (W := 0) (argsL := []) (rest := []) hown (wd hw 29 rfl) (wd hw 30 rfl) (notFace_of_selects (args := #[]) (mvT hZ (wd hw 32 rfl))) (wd hw 32 rfl) (wd hw 31 rfl) (wd hw 6 rfl) (wd hw 33 rfl) (by decide) (E_TIME.ext O.2) (ct_scale l Z a0 hw w_ALPHA w_NUMERIC w_TIME w_BINARY w_DATE w_DF cl_DF S_ALPHA S_NUMERIC S_TIME S_BINARY S_DATE E_ALPHA E_NUMERIC E_TIME E_BINARY E_DATE F_ALPHA F_NUMERIC F_TIME F_BINARY F_DATE ne_ALPHA_NUMERIC ne_ALPHA_TIME ne_ALPHA_BINARY ne_ALPHA_DATE ne_NUMERIC_TIME ne_NUMERIC_BINARY ne_NUMERIC_DATE ne_TIME_BINARY ne_TIME_DATE ne_BINARY_DATE S_DF A_DF E_DF Q_DF z_DF w_TIME w_DATE h14 n0 O (by simp [ne_ALPHA_NUMERIC, Ne.symm ne_ALPHA_NUMERIC, ne_ALPHA_TIME, Ne.symm ne_ALPHA_TIME, ne_ALPHA_BINARY, Ne.symm ne_ALPHA_BINARY, ne_ALPHA_DATE, Ne.symm ne_ALPHA_DATE, ne_NUMERIC_TIME, Ne.symm ne_NUMERIC_TIME, ne_NUMERIC_BINARY, Ne.symm ne_NUMERIC_BINARY, ne_NUMERIC_DATE, Ne.symm ne_NUMERIC_DATE, ne_TIME_BINARY, Ne.symm ne_TIME_BINARY, ne_TIME_DATE, Ne.symm ne_TIME_DATE, ne_BINARY_DATE, Ne.symm ne_BINARY_DATE])) e14 (by rw [hml]; rfl) (lenOf pd___Lcom_example_tagfold_tagfold_value_Ord_986 rfl) rfl rfl (hb hby at_32) (by decide) (by decide) (by decide) (by decide) ?_
    intro v15 T15 h15 L15 X15 e15 q15
    obtain ⟨rfl, N15, rfl⟩ := q15
    replace N15 := Fr.app N14 N15
    show Go p e below _ T15 (mkF m 35 #[.val (.int p0), .val (.int (2 : Int32)), .val (.ref w_TIME), .val (.int (1 : Int32)), .val (.int (1 : Int32)), .unset, .unset] [(.ref w_DATE)])
    refine Go.callV X15 hx hZ (W := 0) (argsL := []) (rest := []) hown (wd hw 8 rfl) (wd hw 9 rfl) (notFace_of_selects (args := #[]) (mvT hZ (wd hw 11 rfl))) (wd hw 11 rfl) (wd hw 10 rfl) (wd hw 6 rfl) (wd hw 12 rfl) (by decide) (E_DATE.ext O.2) (ct_wev l Z a0 hw w_ALPHA w_NUMERIC w_TIME w_BINARY w_DATE w_DF cl_DF S_ALPHA S_NUMERIC S_TIME S_BINARY S_DATE E_ALPHA E_NUMERIC E_TIME E_BINARY E_DATE F_ALPHA F_NUMERIC F_TIME F_BINARY F_DATE ne_ALPHA_NUMERIC ne_ALPHA_TIME ne_ALPHA_BINARY ne_ALPHA_DATE ne_NUMERIC_TIME ne_NUMERIC_BINARY ne_NUMERIC_DATE ne_TIME_BINARY ne_TIME_DATE ne_BINARY_DATE S_DF A_DF E_DF Q_DF z_DF w_DATE (1 : Int32) h14 n0 O (by simp [ne_ALPHA_NUMERIC, Ne.symm ne_ALPHA_NUMERIC, ne_ALPHA_TIME, Ne.symm ne_ALPHA_TIME, ne_ALPHA_BINARY, Ne.symm ne_ALPHA_BINARY, ne_ALPHA_DATE, Ne.symm ne_ALPHA_DATE, ne_NUMERIC_TIME, Ne.symm ne_NUMERIC_TIME, ne_NUMERIC_BINARY, Ne.symm ne_NUMERIC_BINARY, ne_NUMERIC_DATE, Ne.symm ne_NUMERIC_DATE, ne_TIME_BINARY, Ne.symm ne_TIME_BINARY, ne_TIME_DATE, Ne.symm ne_TIME_DATE, ne_BINARY_DATE, Ne.symm ne_BINARY_DATE])) e15 (by rw [hml]; rfl) (lenOf pd___Z_8338 rfl) rfl rfl (hb hby at_35) (by decide) (by decide) (by decide) (by decide) ?_
    intro v16 T16 h16 L16 X16 e16 q16
    obtain ⟨rfl, N16, rfl⟩ := q16
    replace N16 := Fr.app N15 N16
    show Go p e below _ T16 (mkF m 38 #[.val (.int p0), .val (.int (2 : Int32)), .val (.ref w_TIME), .val (.int (1 : Int32)), .val (.int (1 : Int32)), .unset, .unset] [(.int (1 : Int32))])
    refine Go.by (T' := T16) (g' := (mkF m 54 #[.val (.int p0), .val (.int (2 : Int32)), .val (.ref w_TIME), .val (.int (1 : Int32)), .val (.int (1 : Int32)), .val (.int (1 : Int32)), .unset] [(.ref w_TIME)])) (fun t k => ?_) ?_
    · show Steps p.tables e below (T16.setTop (mkF m 38 #[.val (.int p0), .val (.int (2 : Int32)), .val (.ref w_TIME), .val (.int (1 : Int32)), .val (.int (1 : Int32)), .unset, .unset] [(.int (1 : Int32))])) _
      refine XS.iloadN X16.here hx rfl (hb hby at_38) rfl ?_
      show Steps p.tables e below (T16.setTop (mkF m 39 #[.val (.int p0), .val (.int (2 : Int32)), .val (.ref w_TIME), .val (.int (1 : Int32)), .val (.int (1 : Int32)), .unset, .unset] [(.int (1 : Int32)), (.int (1 : Int32))])) _
      refine XS.icmpNo X16.here hx rfl (hb hby at_39) rfl (teq (by decide : (1 : Int32) = (1 : Int32))).2 ?_
      show Steps p.tables e below (T16.setTop (mkF m 42 #[.val (.int p0), .val (.int (2 : Int32)), .val (.ref w_TIME), .val (.int (1 : Int32)), .val (.int (1 : Int32)), .unset, .unset] [])) _
      refine XS.iconst X16.here hx rfl (hb hby at_42) ?_
      show Steps p.tables e below (T16.setTop (mkF m 43 #[.val (.int p0), .val (.int (2 : Int32)), .val (.ref w_TIME), .val (.int (1 : Int32)), .val (.int (1 : Int32)), .unset, .unset] [(.int (1 : Int32))])) _
      refine XS.goto X16.here hx rfl (pc0 := 43) (pc' := 47) rfl (hb hby at_43) (by decide) (by decide) ?_
      show Steps p.tables e below (T16.setTop (mkF m 47 #[.val (.int p0), .val (.int (2 : Int32)), .val (.ref w_TIME), .val (.int (1 : Int32)), .val (.int (1 : Int32)), .unset, .unset] [(.int (1 : Int32))])) _
      refine XS.istore X16.here hx rfl (hb hby at_47) rfl (l' := #[.val (.int p0), .val (.int (2 : Int32)), .val (.ref w_TIME), .val (.int (1 : Int32)), .val (.int (1 : Int32)), .val (.int (1 : Int32)), .unset]) rfl ?_
      show Steps p.tables e below (T16.setTop (mkF m 49 #[.val (.int p0), .val (.int (2 : Int32)), .val (.ref w_TIME), .val (.int (1 : Int32)), .val (.int (1 : Int32)), .val (.int (1 : Int32)), .unset] [])) _
      refine XS.iloadN X16.here hx rfl (hb hby at_49) rfl ?_
      show Steps p.tables e below (T16.setTop (mkF m 50 #[.val (.int p0), .val (.int (2 : Int32)), .val (.ref w_TIME), .val (.int (1 : Int32)), .val (.int (1 : Int32)), .val (.int (1 : Int32)), .unset] [(.int (1 : Int32))])) _
      refine XS.ifNo X16.here hx rfl (hb hby at_50) rfl ((if0 _ _).trans (feq (by decide : ¬ (1 : Int32) = (0 : Int32))).1) ?_
      show Steps p.tables e below (T16.setTop (mkF m 53 #[.val (.int p0), .val (.int (2 : Int32)), .val (.ref w_TIME), .val (.int (1 : Int32)), .val (.int (1 : Int32)), .val (.int (1 : Int32)), .unset] [])) _
      refine XS.aloadN X16.here hx rfl (hb hby at_53) rfl rfl ?_
      exact k
    refine Go.callV X16 hx hZ (W := 0) (argsL := []) (rest := []) hown (wd hw 36 rfl) (wd hw 37 rfl) (notFace_of_selects (args := #[]) (mvT hZ (wd hw 39 rfl))) (wd hw 39 rfl) (wd hw 38 rfl) (wd hw 6 rfl) (wd hw 40 rfl) (by decide) (E_TIME.ext O.2) (ct_dense l Z a0 hw w_ALPHA w_NUMERIC w_TIME w_BINARY w_DATE w_DF cl_DF S_ALPHA S_NUMERIC S_TIME S_BINARY S_DATE E_ALPHA E_NUMERIC E_TIME E_BINARY E_DATE F_ALPHA F_NUMERIC F_TIME F_BINARY F_DATE ne_ALPHA_NUMERIC ne_ALPHA_TIME ne_ALPHA_BINARY ne_ALPHA_DATE ne_NUMERIC_TIME ne_NUMERIC_BINARY ne_NUMERIC_DATE ne_TIME_BINARY ne_TIME_DATE ne_BINARY_DATE S_DF A_DF E_DF Q_DF z_DF w_TIME (0 : Int32) h14 n0 O (by simp [ne_ALPHA_NUMERIC, Ne.symm ne_ALPHA_NUMERIC, ne_ALPHA_TIME, Ne.symm ne_ALPHA_TIME, ne_ALPHA_BINARY, Ne.symm ne_ALPHA_BINARY, ne_ALPHA_DATE, Ne.symm ne_ALPHA_DATE, ne_NUMERIC_TIME, Ne.symm ne_NUMERIC_TIME, ne_NUMERIC_BINARY, Ne.symm ne_NUMERIC_BINARY, ne_NUMERIC_DATE, Ne.symm ne_NUMERIC_DATE, ne_TIME_BINARY, Ne.symm ne_TIME_BINARY, ne_TIME_DATE, Ne.symm ne_TIME_DATE, ne_BINARY_DATE, Ne.symm ne_BINARY_DATE])) e16 (by rw [hml]; rfl) (lenOf pd___Z_8338 rfl) rfl rfl (hb hby at_54) (by decide) (by decide) (by decide) (by decide) ?_
    intro v17 T17 h17 L17 X17 e17 q17
    obtain ⟨rfl, N17, rfl⟩ := q17
    replace N17 := Fr.app N16 N17
    show Go p e below _ T17 (mkF m 57 #[.val (.int p0), .val (.int (2 : Int32)), .val (.ref w_TIME), .val (.int (1 : Int32)), .val (.int (1 : Int32)), .val (.int (1 : Int32)), .unset] [(.int (0 : Int32))])
    refine Go.by (T' := T17) (g' := (mkF m 88 #[.val (.int p0), .val (.int (2 : Int32)), .val (.ref w_TIME), .val (.int (1 : Int32)), .val (.int (1 : Int32)), .val (.int (1 : Int32)), .val (.int (1 : Int32))] [(.int (1 : Int32))])) (fun t k => ?_) ?_
    · show Steps p.tables e below (T17.setTop (mkF m 57 #[.val (.int p0), .val (.int (2 : Int32)), .val (.ref w_TIME), .val (.int (1 : Int32)), .val (.int (1 : Int32)), .val (.int (1 : Int32)), .unset] [(.int (0 : Int32))])) _
      refine XS.ifNo X17.here hx rfl (hb hby at_57) rfl ((if0 _ _).trans (teq (by decide : (0 : Int32) = (0 : Int32))).2) ?_
      show Steps p.tables e below (T17.setTop (mkF m 60 #[.val (.int p0), .val (.int (2 : Int32)), .val (.ref w_TIME), .val (.int (1 : Int32)), .val (.int (1 : Int32)), .val (.int (1 : Int32)), .unset] [])) _
      refine XS.iconst X17.here hx rfl (hb hby at_60) ?_
      show Steps p.tables e below (T17.setTop (mkF m 61 #[.val (.int p0), .val (.int (2 : Int32)), .val (.ref w_TIME), .val (.int (1 : Int32)), .val (.int (1 : Int32)), .val (.int (1 : Int32)), .unset] [(.int (1 : Int32))])) _
      refine XS.goto X17.here hx rfl (pc0 := 61) (pc' := 65) rfl (hb hby at_61) (by decide) (by decide) ?_
      show Steps p.tables e below (T17.setTop (mkF m 65 #[.val (.int p0), .val (.int (2 : Int32)), .val (.ref w_TIME), .val (.int (1 : Int32)), .val (.int (1 : Int32)), .val (.int (1 : Int32)), .unset] [(.int (1 : Int32))])) _
      refine XS.istore X17.here hx rfl (hb hby at_65) rfl (l' := #[.val (.int p0), .val (.int (2 : Int32)), .val (.ref w_TIME), .val (.int (1 : Int32)), .val (.int (1 : Int32)), .val (.int (1 : Int32)), .val (.int (1 : Int32))]) rfl ?_
      show Steps p.tables e below (T17.setTop (mkF m 67 #[.val (.int p0), .val (.int (2 : Int32)), .val (.ref w_TIME), .val (.int (1 : Int32)), .val (.int (1 : Int32)), .val (.int (1 : Int32)), .val (.int (1 : Int32))] [])) _
      refine XS.iloadN X17.here hx rfl (hb hby at_67) rfl ?_
      show Steps p.tables e below (T17.setTop (mkF m 68 #[.val (.int p0), .val (.int (2 : Int32)), .val (.ref w_TIME), .val (.int (1 : Int32)), .val (.int (1 : Int32)), .val (.int (1 : Int32)), .val (.int (1 : Int32))] [(.int (1 : Int32))])) _
      refine XS.iload X17.here hx rfl (hb hby at_68) rfl ?_
      show Steps p.tables e below (T17.setTop (mkF m 70 #[.val (.int p0), .val (.int (2 : Int32)), .val (.ref w_TIME), .val (.int (1 : Int32)), .val (.int (1 : Int32)), .val (.int (1 : Int32)), .val (.int (1 : Int32))] [(.int (1 : Int32)), (.int (1 : Int32))])) _
      refine XS.icmpNo X17.here hx rfl (hb hby at_70) rfl (teq (by decide : (1 : Int32) = (1 : Int32))).2 ?_
      show Steps p.tables e below (T17.setTop (mkF m 73 #[.val (.int p0), .val (.int (2 : Int32)), .val (.ref w_TIME), .val (.int (1 : Int32)), .val (.int (1 : Int32)), .val (.int (1 : Int32)), .val (.int (1 : Int32))] [])) _
      refine XS.iload X17.here hx rfl (hb hby at_73) rfl ?_
      show Steps p.tables e below (T17.setTop (mkF m 75 #[.val (.int p0), .val (.int (2 : Int32)), .val (.ref w_TIME), .val (.int (1 : Int32)), .val (.int (1 : Int32)), .val (.int (1 : Int32)), .val (.int (1 : Int32))] [(.int (1 : Int32))])) _
      refine XS.ifNo X17.here hx rfl (hb hby at_75) rfl ((if0 _ _).trans (feq (by decide : ¬ (1 : Int32) = (0 : Int32))).1) ?_
      show Steps p.tables e below (T17.setTop (mkF m 78 #[.val (.int p0), .val (.int (2 : Int32)), .val (.ref w_TIME), .val (.int (1 : Int32)), .val (.int (1 : Int32)), .val (.int (1 : Int32)), .val (.int (1 : Int32))] [])) _
      refine XS.iload X17.here hx rfl (hb hby at_78) rfl ?_
      show Steps p.tables e below (T17.setTop (mkF m 80 #[.val (.int p0), .val (.int (2 : Int32)), .val (.ref w_TIME), .val (.int (1 : Int32)), .val (.int (1 : Int32)), .val (.int (1 : Int32)), .val (.int (1 : Int32))] [(.int (1 : Int32))])) _
      refine XS.ifNo X17.here hx rfl (hb hby at_80) rfl ((if0 _ _).trans (feq (by decide : ¬ (1 : Int32) = (0 : Int32))).1) ?_
      show Steps p.tables e below (T17.setTop (mkF m 83 #[.val (.int p0), .val (.int (2 : Int32)), .val (.ref w_TIME), .val (.int (1 : Int32)), .val (.int (1 : Int32)), .val (.int (1 : Int32)), .val (.int (1 : Int32))] [])) _
      refine XS.iconst X17.here hx rfl (hb hby at_83) ?_
      show Steps p.tables e below (T17.setTop (mkF m 84 #[.val (.int p0), .val (.int (2 : Int32)), .val (.ref w_TIME), .val (.int (1 : Int32)), .val (.int (1 : Int32)), .val (.int (1 : Int32)), .val (.int (1 : Int32))] [(.int (1 : Int32))])) _
      refine XS.goto X17.here hx rfl (pc0 := 84) (pc' := 88) rfl (hb hby at_84) (by decide) (by decide) ?_
      exact k
    refine Go.retZ X17 hx hlk hret (Or.inr rfl) (hb hby at_88) (by decide) (by decide) e17 ?_
    exact ⟨rfl, N17⟩
  · skip
    rw [c]
    show Go p e below _ T0 (mkF m 7 #[.val (.int p0), .val (.int (3 : Int32)), .unset, .unset, .unset, .unset, .unset] [])
    refine Go.by (T' := T0) (g' := (mkF m 8 #[.val (.int p0), .val (.int (3 : Int32)), .unset, .unset, .unset, .unset, .unset] [(.int (3 : Int32))])) (fun t k => ?_) ?_
    · show Steps p.tables e below (T0.setTop (mkF m 7 #[.val (.int p0), .val (.int (3 : Int32)), .unset, .unset, .unset, .unset, .unset] [])) _
      refine XS.iloadN X0.here hx rfl (hb hby at_7) rfl ?_
      exact k
    refine Go.callS X0 hx hZ (W := 0) (argsL := [(.int (3 : Int32))]) (rest := []) hown (wd hw 1 rfl) (wd hw 2 rfl) (wd hw 3 rfl) (wd hw 4 rfl) (by decide) (ct_pick l Z a0 hw w_ALPHA w_NUMERIC w_TIME w_BINARY w_DATE w_DF cl_DF S_ALPHA S_NUMERIC S_TIME S_BINARY S_DATE E_ALPHA E_NUMERIC E_TIME E_BINARY E_DATE F_ALPHA F_NUMERIC F_TIME F_BINARY F_DATE ne_ALPHA_NUMERIC ne_ALPHA_TIME ne_ALPHA_BINARY ne_ALPHA_DATE ne_NUMERIC_TIME ne_NUMERIC_BINARY ne_NUMERIC_DATE ne_TIME_BINARY ne_TIME_DATE ne_BINARY_DATE S_DF A_DF E_DF Q_DF z_DF (3 : Int32) w_BINARY h0 n0 O (by simp)) e0 (by rw [hml]; rfl) (lenOf pd__I_Lcom_example_tagfold_tagfold_value_Or_8665 rfl) rfl rfl (hb hby at_8) (by decide) (by decide) (by decide) (by decide) ?_
    intro v18 T18 h18 L18 X18 e18 q18
    obtain ⟨rfl, N18, rfl⟩ := q18
    replace N18 := Fr.app N0 N18
    show Go p e below _ T18 (mkF m 11 #[.val (.int p0), .val (.int (3 : Int32)), .unset, .unset, .unset, .unset, .unset] [(.ref w_BINARY)])
    refine Go.by (T' := T18) (g' := (mkF m 13 #[.val (.int p0), .val (.int (3 : Int32)), .val (.ref w_BINARY), .unset, .unset, .unset, .unset] [(.ref w_BINARY)])) (fun t k => ?_) ?_
    · show Steps p.tables e below (T18.setTop (mkF m 11 #[.val (.int p0), .val (.int (3 : Int32)), .unset, .unset, .unset, .unset, .unset] [(.ref w_BINARY)])) _
      refine XS.astoreN X18.here hx rfl (hb hby at_11) rfl rfl (l' := #[.val (.int p0), .val (.int (3 : Int32)), .val (.ref w_BINARY), .unset, .unset, .unset, .unset]) rfl ?_
      show Steps p.tables e below (T18.setTop (mkF m 12 #[.val (.int p0), .val (.int (3 : Int32)), .val (.ref w_BINARY), .unset, .unset, .unset, .unset] [])) _
      refine XS.aloadN X18.here hx rfl (hb hby at_12) rfl rfl ?_
      exact k
    refine Go.callV X18 hx hZ (W := 0) (argsL := []) (rest := []) hown (wd hw 8 rfl) (wd hw 9 rfl) (notFace_of_selects (args := #[]) (mvT hZ (wd hw 11 rfl))) (wd hw 11 rfl) (wd hw 10 rfl) (wd hw 6 rfl) (wd hw 12 rfl) (by decide) (E_BINARY.ext O.2) (ct_wev l Z a0 hw w_ALPHA w_NUMERIC w_TIME w_BINARY w_DATE w_DF cl_DF S_ALPHA S_NUMERIC S_TIME S_BINARY S_DATE E_ALPHA E_NUMERIC E_TIME E_BINARY E_DATE F_ALPHA F_NUMERIC F_TIME F_BINARY F_DATE ne_ALPHA_NUMERIC ne_ALPHA_TIME ne_ALPHA_BINARY ne_ALPHA_DATE ne_NUMERIC_TIME ne_NUMERIC_BINARY ne_NUMERIC_DATE ne_TIME_BINARY ne_TIME_DATE ne_BINARY_DATE S_DF A_DF E_DF Q_DF z_DF w_BINARY (0 : Int32) h0 n0 O (by simp [ne_ALPHA_NUMERIC, Ne.symm ne_ALPHA_NUMERIC, ne_ALPHA_TIME, Ne.symm ne_ALPHA_TIME, ne_ALPHA_BINARY, Ne.symm ne_ALPHA_BINARY, ne_ALPHA_DATE, Ne.symm ne_ALPHA_DATE, ne_NUMERIC_TIME, Ne.symm ne_NUMERIC_TIME, ne_NUMERIC_BINARY, Ne.symm ne_NUMERIC_BINARY, ne_NUMERIC_DATE, Ne.symm ne_NUMERIC_DATE, ne_TIME_BINARY, Ne.symm ne_TIME_BINARY, ne_TIME_DATE, Ne.symm ne_TIME_DATE, ne_BINARY_DATE, Ne.symm ne_BINARY_DATE])) e18 (by rw [hml]; rfl) (lenOf pd___Z_8338 rfl) rfl rfl (hb hby at_13) (by decide) (by decide) (by decide) (by decide) ?_
    intro v19 T19 h19 L19 X19 e19 q19
    obtain ⟨rfl, N19, rfl⟩ := q19
    replace N19 := Fr.app N18 N19
    show Go p e below _ T19 (mkF m 16 #[.val (.int p0), .val (.int (3 : Int32)), .val (.ref w_BINARY), .unset, .unset, .unset, .unset] [(.int (0 : Int32))])
    refine Go.by (T' := T19) (g' := (mkF m 18 #[.val (.int p0), .val (.int (3 : Int32)), .val (.ref w_BINARY), .val (.int (0 : Int32)), .unset, .unset, .unset] [(.ref w_BINARY)])) (fun t k => ?_) ?_
    · show Steps p.tables e below (T19.setTop (mkF m 16 #[.val (.int p0), .val (.int (3 : Int32)), .val (.ref w_BINARY), .unset, .unset, .unset, .unset] [(.int (0 : Int32))])) _
      refine XS.istoreN X19.here hx rfl (hb hby at_16) rfl (l' := #[.val (.int p0), .val (.int (3 : Int32)), .val (.ref w_BINARY), .val (.int (0 : Int32)), .unset, .unset, .unset]) rfl ?_
      show Steps p.tables e below (T19.setTop (mkF m 17 #[.val (.int p0), .val (.int (3 : Int32)), .val (.ref w_BINARY), .val (.int (0 : Int32)), .unset, .unset, .unset] [])) _
      refine XS.aloadN X19.here hx rfl (hb hby at_17) rfl rfl ?_
      exact k
    refine Go.callV X19 hx hZ (W := 0) (argsL := []) (rest := []) hown (wd hw 14 rfl) (wd hw 15 rfl) (notFace_of_selects (args := #[]) (mvT hZ (wd hw 17 rfl))) (wd hw 17 rfl) (wd hw 16 rfl) (wd hw 6 rfl) (wd hw 18 rfl) (by decide) (E_BINARY.ext O.2) (ct_least3 l Z a0 hw w_ALPHA w_NUMERIC w_TIME w_BINARY w_DATE w_DF cl_DF S_ALPHA S_NUMERIC S_TIME S_BINARY S_DATE E_ALPHA E_NUMERIC E_TIME E_BINARY E_DATE F_ALPHA F_NUMERIC F_TIME F_BINARY F_DATE ne_ALPHA_NUMERIC ne_ALPHA_TIME ne_ALPHA_BINARY ne_ALPHA_DATE ne_NUMERIC_TIME ne_NUMERIC_BINARY ne_NUMERIC_DATE ne_TIME_BINARY ne_TIME_DATE ne_BINARY_DATE S_DF A_DF E_DF Q_DF z_DF w_BINARY h0 n0 O (E_BINARY.ext O.2) (F_BINARY.ext O.2)) e19 (by rw [hml]; rfl) (lenOf pd____B_8554 rfl) rfl rfl (hb hby at_18) (by decide) (by decide) (by decide) (by decide) ?_
    intro v20 T20 h20 L20 X20 e20 q20
    obtain ⟨rfl, N20, rfl⟩ := q20
    replace N20 := Fr.app N19 N20
    show Go p e below _ T20 (mkF m 21 #[.val (.int p0), .val (.int (3 : Int32)), .val (.ref w_BINARY), .val (.int (0 : Int32)), .unset, .unset, .unset] [.null])
    refine Go.by (T' := T20) (g' := (mkF m 32 #[.val (.int p0), .val (.int (3 : Int32)), .val (.ref w_BINARY), .val (.int (0 : Int32)), .val (.int (0 : Int32)), .unset, .unset] [(.ref w_BINARY)])) (fun t k => ?_) ?_
    · show Steps p.tables e below (T20.setTop (mkF m 21 #[.val (.int p0), .val (.int (3 : Int32)), .val (.ref w_BINARY), .val (.int (0 : Int32)), .unset, .unset, .unset] [.null])) _
      refine XS.ifnullYes X20.here hx rfl (pc0 := 21) (pc' := 28) rfl (hb hby at_21) rfl (by decide) (by decide) ?_
      show Steps p.tables e below (T20.setTop (mkF m 28 #[.val (.int p0), .val (.int (3 : Int32)), .val (.ref w_BINARY), .val (.int (0 : Int32)), .unset, .unset, .unset] [])) _
      refine XS.iconst X20.here hx rfl (hb hby at_28) ?_
      show Steps p.tables e below (T20.setTop (mkF m 29 #[.val (.int p0), .val (.int (3 : Int32)), .val (.ref w_BINARY), .val (.int (0 : Int32)), .unset, .unset, .unset] [(.int (0 : Int32))])) _
      refine XS.istore X20.here hx rfl (hb hby at_29) rfl (l' := #[.val (.int p0), .val (.int (3 : Int32)), .val (.ref w_BINARY), .val (.int (0 : Int32)), .val (.int (0 : Int32)), .unset, .unset]) rfl ?_
      show Steps p.tables e below (T20.setTop (mkF m 31 #[.val (.int p0), .val (.int (3 : Int32)), .val (.ref w_BINARY), .val (.int (0 : Int32)), .val (.int (0 : Int32)), .unset, .unset] [])) _
      refine XS.aloadN X20.here hx rfl (hb hby at_31) rfl rfl ?_
      exact k
    refine Go.callV X20 hx hZ (W := 0) (argsL := []) (rest := []) hown (wd hw 29 rfl) (wd hw 30 rfl) (notFace_of_selects (args := #[]) (mvT hZ (wd hw 32 rfl))) (wd hw 32 rfl) (wd hw 31 rfl) (wd hw 6 rfl) (wd hw 33 rfl) (by decide) (E_BINARY.ext O.2) (ct_scale l Z a0 hw w_ALPHA w_NUMERIC w_TIME w_BINARY w_DATE w_DF cl_DF S_ALPHA S_NUMERIC S_TIME S_BINARY S_DATE E_ALPHA E_NUMERIC E_TIME E_BINARY E_DATE F_ALPHA F_NUMERIC F_TIME F_BINARY F_DATE ne_ALPHA_NUMERIC ne_ALPHA_TIME ne_ALPHA_BINARY ne_ALPHA_DATE ne_NUMERIC_TIME ne_NUMERIC_BINARY ne_NUMERIC_DATE ne_TIME_BINARY ne_TIME_DATE ne_BINARY_DATE S_DF A_DF E_DF Q_DF z_DF w_BINARY w_BINARY h0 n0 O (by simp [ne_ALPHA_NUMERIC, Ne.symm ne_ALPHA_NUMERIC, ne_ALPHA_TIME, Ne.symm ne_ALPHA_TIME, ne_ALPHA_BINARY, Ne.symm ne_ALPHA_BINARY, ne_ALPHA_DATE, Ne.symm ne_ALPHA_DATE, ne_NUMERIC_TIME, Ne.symm ne_NUMERIC_TIME, ne_NUMERIC_BINARY, Ne.symm ne_NUMERIC_BINARY, ne_NUMERIC_DATE, Ne.symm ne_NUMERIC_DATE, ne_TIME_BINARY, Ne.symm ne_TIME_BINARY, ne_TIME_DATE, Ne.symm ne_TIME_DATE, ne_BINARY_DATE, Ne.symm ne_BINARY_DATE])) e20 (by rw [hml]; rfl) (lenOf pd___Lcom_example_tagfold_tagfold_value_Ord_986 rfl) rfl rfl (hb hby at_32) (by decide) (by decide) (by decide) (by decide) ?_
    intro v21 T21 h21 L21 X21 e21 q21
    obtain ⟨rfl, N21, rfl⟩ := q21
    replace N21 := Fr.app N20 N21
    show Go p e below _ T21 (mkF m 35 #[.val (.int p0), .val (.int (3 : Int32)), .val (.ref w_BINARY), .val (.int (0 : Int32)), .val (.int (0 : Int32)), .unset, .unset] [(.ref w_BINARY)])
    refine Go.callV X21 hx hZ (W := 0) (argsL := []) (rest := []) hown (wd hw 8 rfl) (wd hw 9 rfl) (notFace_of_selects (args := #[]) (mvT hZ (wd hw 11 rfl))) (wd hw 11 rfl) (wd hw 10 rfl) (wd hw 6 rfl) (wd hw 12 rfl) (by decide) (E_BINARY.ext O.2) (ct_wev l Z a0 hw w_ALPHA w_NUMERIC w_TIME w_BINARY w_DATE w_DF cl_DF S_ALPHA S_NUMERIC S_TIME S_BINARY S_DATE E_ALPHA E_NUMERIC E_TIME E_BINARY E_DATE F_ALPHA F_NUMERIC F_TIME F_BINARY F_DATE ne_ALPHA_NUMERIC ne_ALPHA_TIME ne_ALPHA_BINARY ne_ALPHA_DATE ne_NUMERIC_TIME ne_NUMERIC_BINARY ne_NUMERIC_DATE ne_TIME_BINARY ne_TIME_DATE ne_BINARY_DATE S_DF A_DF E_DF Q_DF z_DF w_BINARY (0 : Int32) h0 n0 O (by simp [ne_ALPHA_NUMERIC, Ne.symm ne_ALPHA_NUMERIC, ne_ALPHA_TIME, Ne.symm ne_ALPHA_TIME, ne_ALPHA_BINARY, Ne.symm ne_ALPHA_BINARY, ne_ALPHA_DATE, Ne.symm ne_ALPHA_DATE, ne_NUMERIC_TIME, Ne.symm ne_NUMERIC_TIME, ne_NUMERIC_BINARY, Ne.symm ne_NUMERIC_BINARY, ne_NUMERIC_DATE, Ne.symm ne_NUMERIC_DATE, ne_TIME_BINARY, Ne.symm ne_TIME_BINARY, ne_TIME_DATE, Ne.symm ne_TIME_DATE, ne_BINARY_DATE, Ne.symm ne_BINARY_DATE])) e21 (by rw [hml]; rfl) (lenOf pd___Z_8338 rfl) rfl rfl (hb hby at_35) (by decide) (by decide) (by decide) (by decide) ?_
    intro v22 T22 h22 L22 X22 e22 q22
    obtain ⟨rfl, N22, rfl⟩ := q22
    replace N22 := Fr.app N21 N22
    show Go p e below _ T22 (mkF m 38 #[.val (.int p0), .val (.int (3 : Int32)), .val (.ref w_BINARY), .val (.int (0 : Int32)), .val (.int (0 : Int32)), .unset, .unset] [(.int (0 : Int32))])
    refine Go.by (T' := T22) (g' := (mkF m 88 #[.val (.int p0), .val (.int (3 : Int32)), .val (.ref w_BINARY), .val (.int (0 : Int32)), .val (.int (0 : Int32)), .val (.int (1 : Int32)), .val (.int (1 : Int32))] [(.int (1 : Int32))])) (fun t k => ?_) ?_
    · show Steps p.tables e below (T22.setTop (mkF m 38 #[.val (.int p0), .val (.int (3 : Int32)), .val (.ref w_BINARY), .val (.int (0 : Int32)), .val (.int (0 : Int32)), .unset, .unset] [(.int (0 : Int32))])) _
      refine XS.iloadN X22.here hx rfl (hb hby at_38) rfl ?_
      show Steps p.tables e below (T22.setTop (mkF m 39 #[.val (.int p0), .val (.int (3 : Int32)), .val (.ref w_BINARY), .val (.int (0 : Int32)), .val (.int (0 : Int32)), .unset, .unset] [(.int (0 : Int32)), (.int (0 : Int32))])) _
      refine XS.icmpNo X22.here hx rfl (hb hby at_39) rfl (teq (by decide : (0 : Int32) = (0 : Int32))).2 ?_
      show Steps p.tables e below (T22.setTop (mkF m 42 #[.val (.int p0), .val (.int (3 : Int32)), .val (.ref w_BINARY), .val (.int (0 : Int32)), .val (.int (0 : Int32)), .unset, .unset] [])) _
      refine XS.iconst X22.here hx rfl (hb hby at_42) ?_
      show Steps p.tables e below (T22.setTop (mkF m 43 #[.val (.int p0), .val (.int (3 : Int32)), .val (.ref w_BINARY), .val (.int (0 : Int32)), .val (.int (0 : Int32)), .unset, .unset] [(.int (1 : Int32))])) _
      refine XS.goto X22.here hx rfl (pc0 := 43) (pc' := 47) rfl (hb hby at_43) (by decide) (by decide) ?_
      show Steps p.tables e below (T22.setTop (mkF m 47 #[.val (.int p0), .val (.int (3 : Int32)), .val (.ref w_BINARY), .val (.int (0 : Int32)), .val (.int (0 : Int32)), .unset, .unset] [(.int (1 : Int32))])) _
      refine XS.istore X22.here hx rfl (hb hby at_47) rfl (l' := #[.val (.int p0), .val (.int (3 : Int32)), .val (.ref w_BINARY), .val (.int (0 : Int32)), .val (.int (0 : Int32)), .val (.int (1 : Int32)), .unset]) rfl ?_
      show Steps p.tables e below (T22.setTop (mkF m 49 #[.val (.int p0), .val (.int (3 : Int32)), .val (.ref w_BINARY), .val (.int (0 : Int32)), .val (.int (0 : Int32)), .val (.int (1 : Int32)), .unset] [])) _
      refine XS.iloadN X22.here hx rfl (hb hby at_49) rfl ?_
      show Steps p.tables e below (T22.setTop (mkF m 50 #[.val (.int p0), .val (.int (3 : Int32)), .val (.ref w_BINARY), .val (.int (0 : Int32)), .val (.int (0 : Int32)), .val (.int (1 : Int32)), .unset] [(.int (0 : Int32))])) _
      refine XS.ifYes X22.here hx rfl (pc0 := 50) (pc' := 60) rfl (hb hby at_50) rfl ((if0 _ _).trans (teq (by decide : (0 : Int32) = (0 : Int32))).1) (by decide) (by decide) ?_
      show Steps p.tables e below (T22.setTop (mkF m 60 #[.val (.int p0), .val (.int (3 : Int32)), .val (.ref w_BINARY), .val (.int (0 : Int32)), .val (.int (0 : Int32)), .val (.int (1 : Int32)), .unset] [])) _
      refine XS.iconst X22.here hx rfl (hb hby at_60) ?_
      show Steps p.tables e below (T22.setTop (mkF m 61 #[.val (.int p0), .val (.int (3 : Int32)), .val (.ref w_BINARY), .val (.int (0 : Int32)), .val (.int (0 : Int32)), .val (.int (1 : Int32)), .unset] [(.int (1 : Int32))])) _
      refine XS.goto X22.here hx rfl (pc0 := 61) (pc' := 65) rfl (hb hby at_61) (by decide) (by decide) ?_
      show Steps p.tables e below (T22.setTop (mkF m 65 #[.val (.int p0), .val (.int (3 : Int32)), .val (.ref w_BINARY), .val (.int (0 : Int32)), .val (.int (0 : Int32)), .val (.int (1 : Int32)), .unset] [(.int (1 : Int32))])) _
      refine XS.istore X22.here hx rfl (hb hby at_65) rfl (l' := #[.val (.int p0), .val (.int (3 : Int32)), .val (.ref w_BINARY), .val (.int (0 : Int32)), .val (.int (0 : Int32)), .val (.int (1 : Int32)), .val (.int (1 : Int32))]) rfl ?_
      show Steps p.tables e below (T22.setTop (mkF m 67 #[.val (.int p0), .val (.int (3 : Int32)), .val (.ref w_BINARY), .val (.int (0 : Int32)), .val (.int (0 : Int32)), .val (.int (1 : Int32)), .val (.int (1 : Int32))] [])) _
      refine XS.iloadN X22.here hx rfl (hb hby at_67) rfl ?_
      show Steps p.tables e below (T22.setTop (mkF m 68 #[.val (.int p0), .val (.int (3 : Int32)), .val (.ref w_BINARY), .val (.int (0 : Int32)), .val (.int (0 : Int32)), .val (.int (1 : Int32)), .val (.int (1 : Int32))] [(.int (0 : Int32))])) _
      refine XS.iload X22.here hx rfl (hb hby at_68) rfl ?_
      show Steps p.tables e below (T22.setTop (mkF m 70 #[.val (.int p0), .val (.int (3 : Int32)), .val (.ref w_BINARY), .val (.int (0 : Int32)), .val (.int (0 : Int32)), .val (.int (1 : Int32)), .val (.int (1 : Int32))] [(.int (0 : Int32)), (.int (0 : Int32))])) _
      refine XS.icmpNo X22.here hx rfl (hb hby at_70) rfl (teq (by decide : (0 : Int32) = (0 : Int32))).2 ?_
      show Steps p.tables e below (T22.setTop (mkF m 73 #[.val (.int p0), .val (.int (3 : Int32)), .val (.ref w_BINARY), .val (.int (0 : Int32)), .val (.int (0 : Int32)), .val (.int (1 : Int32)), .val (.int (1 : Int32))] [])) _
      refine XS.iload X22.here hx rfl (hb hby at_73) rfl ?_
      show Steps p.tables e below (T22.setTop (mkF m 75 #[.val (.int p0), .val (.int (3 : Int32)), .val (.ref w_BINARY), .val (.int (0 : Int32)), .val (.int (0 : Int32)), .val (.int (1 : Int32)), .val (.int (1 : Int32))] [(.int (1 : Int32))])) _
      refine XS.ifNo X22.here hx rfl (hb hby at_75) rfl ((if0 _ _).trans (feq (by decide : ¬ (1 : Int32) = (0 : Int32))).1) ?_
      show Steps p.tables e below (T22.setTop (mkF m 78 #[.val (.int p0), .val (.int (3 : Int32)), .val (.ref w_BINARY), .val (.int (0 : Int32)), .val (.int (0 : Int32)), .val (.int (1 : Int32)), .val (.int (1 : Int32))] [])) _
      refine XS.iload X22.here hx rfl (hb hby at_78) rfl ?_
      show Steps p.tables e below (T22.setTop (mkF m 80 #[.val (.int p0), .val (.int (3 : Int32)), .val (.ref w_BINARY), .val (.int (0 : Int32)), .val (.int (0 : Int32)), .val (.int (1 : Int32)), .val (.int (1 : Int32))] [(.int (1 : Int32))])) _
      refine XS.ifNo X22.here hx rfl (hb hby at_80) rfl ((if0 _ _).trans (feq (by decide : ¬ (1 : Int32) = (0 : Int32))).1) ?_
      show Steps p.tables e below (T22.setTop (mkF m 83 #[.val (.int p0), .val (.int (3 : Int32)), .val (.ref w_BINARY), .val (.int (0 : Int32)), .val (.int (0 : Int32)), .val (.int (1 : Int32)), .val (.int (1 : Int32))] [])) _
      refine XS.iconst X22.here hx rfl (hb hby at_83) ?_
      show Steps p.tables e below (T22.setTop (mkF m 84 #[.val (.int p0), .val (.int (3 : Int32)), .val (.ref w_BINARY), .val (.int (0 : Int32)), .val (.int (0 : Int32)), .val (.int (1 : Int32)), .val (.int (1 : Int32))] [(.int (1 : Int32))])) _
      refine XS.goto X22.here hx rfl (pc0 := 84) (pc' := 88) rfl (hb hby at_84) (by decide) (by decide) ?_
      exact k
    refine Go.retZ X22 hx hlk hret (Or.inr rfl) (hb hby at_88) (by decide) (by decide) e22 ?_
    exact ⟨rfl, N22⟩
  · skip
    rw [c]
    show Go p e below _ T0 (mkF m 7 #[.val (.int p0), .val (.int (4 : Int32)), .unset, .unset, .unset, .unset, .unset] [])
    refine Go.by (T' := T0) (g' := (mkF m 8 #[.val (.int p0), .val (.int (4 : Int32)), .unset, .unset, .unset, .unset, .unset] [(.int (4 : Int32))])) (fun t k => ?_) ?_
    · show Steps p.tables e below (T0.setTop (mkF m 7 #[.val (.int p0), .val (.int (4 : Int32)), .unset, .unset, .unset, .unset, .unset] [])) _
      refine XS.iloadN X0.here hx rfl (hb hby at_7) rfl ?_
      exact k
    refine Go.callS X0 hx hZ (W := 0) (argsL := [(.int (4 : Int32))]) (rest := []) hown (wd hw 1 rfl) (wd hw 2 rfl) (wd hw 3 rfl) (wd hw 4 rfl) (by decide) (ct_pick l Z a0 hw w_ALPHA w_NUMERIC w_TIME w_BINARY w_DATE w_DF cl_DF S_ALPHA S_NUMERIC S_TIME S_BINARY S_DATE E_ALPHA E_NUMERIC E_TIME E_BINARY E_DATE F_ALPHA F_NUMERIC F_TIME F_BINARY F_DATE ne_ALPHA_NUMERIC ne_ALPHA_TIME ne_ALPHA_BINARY ne_ALPHA_DATE ne_NUMERIC_TIME ne_NUMERIC_BINARY ne_NUMERIC_DATE ne_TIME_BINARY ne_TIME_DATE ne_BINARY_DATE S_DF A_DF E_DF Q_DF z_DF (4 : Int32) w_DATE h0 n0 O (by simp)) e0 (by rw [hml]; rfl) (lenOf pd__I_Lcom_example_tagfold_tagfold_value_Or_8665 rfl) rfl rfl (hb hby at_8) (by decide) (by decide) (by decide) (by decide) ?_
    intro v23 T23 h23 L23 X23 e23 q23
    obtain ⟨rfl, N23, rfl⟩ := q23
    replace N23 := Fr.app N0 N23
    show Go p e below _ T23 (mkF m 11 #[.val (.int p0), .val (.int (4 : Int32)), .unset, .unset, .unset, .unset, .unset] [(.ref w_DATE)])
    refine Go.by (T' := T23) (g' := (mkF m 13 #[.val (.int p0), .val (.int (4 : Int32)), .val (.ref w_DATE), .unset, .unset, .unset, .unset] [(.ref w_DATE)])) (fun t k => ?_) ?_
    · show Steps p.tables e below (T23.setTop (mkF m 11 #[.val (.int p0), .val (.int (4 : Int32)), .unset, .unset, .unset, .unset, .unset] [(.ref w_DATE)])) _
      refine XS.astoreN X23.here hx rfl (hb hby at_11) rfl rfl (l' := #[.val (.int p0), .val (.int (4 : Int32)), .val (.ref w_DATE), .unset, .unset, .unset, .unset]) rfl ?_
      show Steps p.tables e below (T23.setTop (mkF m 12 #[.val (.int p0), .val (.int (4 : Int32)), .val (.ref w_DATE), .unset, .unset, .unset, .unset] [])) _
      refine XS.aloadN X23.here hx rfl (hb hby at_12) rfl rfl ?_
      exact k
    refine Go.callV X23 hx hZ (W := 0) (argsL := []) (rest := []) hown (wd hw 8 rfl) (wd hw 9 rfl) (notFace_of_selects (args := #[]) (mvT hZ (wd hw 11 rfl))) (wd hw 11 rfl) (wd hw 10 rfl) (wd hw 6 rfl) (wd hw 12 rfl) (by decide) (E_DATE.ext O.2) (ct_wev l Z a0 hw w_ALPHA w_NUMERIC w_TIME w_BINARY w_DATE w_DF cl_DF S_ALPHA S_NUMERIC S_TIME S_BINARY S_DATE E_ALPHA E_NUMERIC E_TIME E_BINARY E_DATE F_ALPHA F_NUMERIC F_TIME F_BINARY F_DATE ne_ALPHA_NUMERIC ne_ALPHA_TIME ne_ALPHA_BINARY ne_ALPHA_DATE ne_NUMERIC_TIME ne_NUMERIC_BINARY ne_NUMERIC_DATE ne_TIME_BINARY ne_TIME_DATE ne_BINARY_DATE S_DF A_DF E_DF Q_DF z_DF w_DATE (1 : Int32) h0 n0 O (by simp [ne_ALPHA_NUMERIC, Ne.symm ne_ALPHA_NUMERIC, ne_ALPHA_TIME, Ne.symm ne_ALPHA_TIME, ne_ALPHA_BINARY, Ne.symm ne_ALPHA_BINARY, ne_ALPHA_DATE, Ne.symm ne_ALPHA_DATE, ne_NUMERIC_TIME, Ne.symm ne_NUMERIC_TIME, ne_NUMERIC_BINARY, Ne.symm ne_NUMERIC_BINARY, ne_NUMERIC_DATE, Ne.symm ne_NUMERIC_DATE, ne_TIME_BINARY, Ne.symm ne_TIME_BINARY, ne_TIME_DATE, Ne.symm ne_TIME_DATE, ne_BINARY_DATE, Ne.symm ne_BINARY_DATE])) e23 (by rw [hml]; rfl) (lenOf pd___Z_8338 rfl) rfl rfl (hb hby at_13) (by decide) (by decide) (by decide) (by decide) ?_
    intro v24 T24 h24 L24 X24 e24 q24
    obtain ⟨rfl, N24, rfl⟩ := q24
    replace N24 := Fr.app N23 N24
    show Go p e below _ T24 (mkF m 16 #[.val (.int p0), .val (.int (4 : Int32)), .val (.ref w_DATE), .unset, .unset, .unset, .unset] [(.int (1 : Int32))])
    refine Go.by (T' := T24) (g' := (mkF m 18 #[.val (.int p0), .val (.int (4 : Int32)), .val (.ref w_DATE), .val (.int (1 : Int32)), .unset, .unset, .unset] [(.ref w_DATE)])) (fun t k => ?_) ?_
    · show Steps p.tables e below (T24.setTop (mkF m 16 #[.val (.int p0), .val (.int (4 : Int32)), .val (.ref w_DATE), .unset, .unset, .unset, .unset] [(.int (1 : Int32))])) _
      refine XS.istoreN X24.here hx rfl (hb hby at_16) rfl (l' := #[.val (.int p0), .val (.int (4 : Int32)), .val (.ref w_DATE), .val (.int (1 : Int32)), .unset, .unset, .unset]) rfl ?_
      show Steps p.tables e below (T24.setTop (mkF m 17 #[.val (.int p0), .val (.int (4 : Int32)), .val (.ref w_DATE), .val (.int (1 : Int32)), .unset, .unset, .unset] [])) _
      refine XS.aloadN X24.here hx rfl (hb hby at_17) rfl rfl ?_
      exact k
    refine Go.callV X24 hx hZ (W := 0) (argsL := []) (rest := []) hown (wd hw 14 rfl) (wd hw 15 rfl) (notFace_of_selects (args := #[]) (mvT hZ (wd hw 17 rfl))) (wd hw 17 rfl) (wd hw 16 rfl) (wd hw 6 rfl) (wd hw 18 rfl) (by decide) (E_DATE.ext O.2) (ct_least4 l Z a0 hw w_ALPHA w_NUMERIC w_TIME w_BINARY w_DATE w_DF cl_DF S_ALPHA S_NUMERIC S_TIME S_BINARY S_DATE E_ALPHA E_NUMERIC E_TIME E_BINARY E_DATE F_ALPHA F_NUMERIC F_TIME F_BINARY F_DATE ne_ALPHA_NUMERIC ne_ALPHA_TIME ne_ALPHA_BINARY ne_ALPHA_DATE ne_NUMERIC_TIME ne_NUMERIC_BINARY ne_NUMERIC_DATE ne_TIME_BINARY ne_TIME_DATE ne_BINARY_DATE S_DF A_DF E_DF Q_DF z_DF w_DATE h0 n0 O (E_DATE.ext O.2) (F_DATE.ext O.2)) e24 (by rw [hml]; rfl) (lenOf pd____B_8554 rfl) rfl rfl (hb hby at_18) (by decide) (by decide) (by decide) (by decide) ?_
    intro v25 T25 h25 L25 X25 e25 q25
    obtain ⟨o25, rfl, N25, K25⟩ := q25
    replace N25 := Fr.app N24 N25
    replace O := O.keep K25 all0
    show Go p e below _ T25 (mkF m 21 #[.val (.int p0), .val (.int (4 : Int32)), .val (.ref w_DATE), .val (.int (1 : Int32)), .unset, .unset, .unset] [(.ref o25)])
    refine Go.by (T' := T25) (g' := (mkF m 32 #[.val (.int p0), .val (.int (4 : Int32)), .val (.ref w_DATE), .val (.int (1 : Int32)), .val (.int (1 : Int32)), .unset, .unset] [(.ref w_DATE)])) (fun t k => ?_) ?_
    · show Steps p.tables e below (T25.setTop (mkF m 21 #[.val (.int p0), .val (.int (4 : Int32)), .val (.ref w_DATE), .val (.int (1 : Int32)), .unset, .unset, .unset] [(.ref o25)])) _
      refine XS.ifnullNo X25.here hx rfl (hb hby at_21) rfl ?_
      show Steps p.tables e below (T25.setTop (mkF m 24 #[.val (.int p0), .val (.int (4 : Int32)), .val (.ref w_DATE), .val (.int (1 : Int32)), .unset, .unset, .unset] [])) _
      refine XS.iconst X25.here hx rfl (hb hby at_24) ?_
      show Steps p.tables e below (T25.setTop (mkF m 25 #[.val (.int p0), .val (.int (4 : Int32)), .val (.ref w_DATE), .val (.int (1 : Int32)), .unset, .unset, .unset] [(.int (1 : Int32))])) _
      refine XS.goto X25.here hx rfl (pc0 := 25) (pc' := 29) rfl (hb hby at_25) (by decide) (by decide) ?_
      show Steps p.tables e below (T25.setTop (mkF m 29 #[.val (.int p0), .val (.int (4 : Int32)), .val (.ref w_DATE), .val (.int (1 : Int32)), .unset, .unset, .unset] [(.int (1 : Int32))])) _
      refine XS.istore X25.here hx rfl (hb hby at_29) rfl (l' := #[.val (.int p0), .val (.int (4 : Int32)), .val (.ref w_DATE), .val (.int (1 : Int32)), .val (.int (1 : Int32)), .unset, .unset]) rfl ?_
      show Steps p.tables e below (T25.setTop (mkF m 31 #[.val (.int p0), .val (.int (4 : Int32)), .val (.ref w_DATE), .val (.int (1 : Int32)), .val (.int (1 : Int32)), .unset, .unset] [])) _
      refine XS.aloadN X25.here hx rfl (hb hby at_31) rfl rfl ?_
      exact k
    refine Go.callV X25 hx hZ (W := 0) (argsL := []) (rest := []) hown (wd hw 29 rfl) (wd hw 30 rfl) (notFace_of_selects (args := #[]) (mvT hZ (wd hw 32 rfl))) (wd hw 32 rfl) (wd hw 31 rfl) (wd hw 6 rfl) (wd hw 33 rfl) (by decide) (E_DATE.ext O.2) (ct_scale l Z a0 hw w_ALPHA w_NUMERIC w_TIME w_BINARY w_DATE w_DF cl_DF S_ALPHA S_NUMERIC S_TIME S_BINARY S_DATE E_ALPHA E_NUMERIC E_TIME E_BINARY E_DATE F_ALPHA F_NUMERIC F_TIME F_BINARY F_DATE ne_ALPHA_NUMERIC ne_ALPHA_TIME ne_ALPHA_BINARY ne_ALPHA_DATE ne_NUMERIC_TIME ne_NUMERIC_BINARY ne_NUMERIC_DATE ne_TIME_BINARY ne_TIME_DATE ne_BINARY_DATE S_DF A_DF E_DF Q_DF z_DF w_DATE w_DATE h25 n0 O (by simp [ne_ALPHA_NUMERIC, Ne.symm ne_ALPHA_NUMERIC, ne_ALPHA_TIME, Ne.symm ne_ALPHA_TIME, ne_ALPHA_BINARY, Ne.symm ne_ALPHA_BINARY, ne_ALPHA_DATE, Ne.symm ne_ALPHA_DATE, ne_NUMERIC_TIME, Ne.symm ne_NUMERIC_TIME, ne_NUMERIC_BINARY, Ne.symm ne_NUMERIC_BINARY, ne_NUMERIC_DATE, Ne.symm ne_NUMERIC_DATE, ne_TIME_BINARY, Ne.symm ne_TIME_BINARY, ne_TIME_DATE, Ne.symm ne_TIME_DATE, ne_BINARY_DATE, Ne.symm ne_BINARY_DATE])) e25 (by rw [hml]; rfl) (lenOf pd___Lcom_example_tagfold_tagfold_value_Ord_986 rfl) rfl rfl (hb hby at_32) (by decide) (by decide) (by decide) (by decide) ?_
    intro v26 T26 h26 L26 X26 e26 q26
    obtain ⟨rfl, N26, rfl⟩ := q26
    replace N26 := Fr.app N25 N26
    show Go p e below _ T26 (mkF m 35 #[.val (.int p0), .val (.int (4 : Int32)), .val (.ref w_DATE), .val (.int (1 : Int32)), .val (.int (1 : Int32)), .unset, .unset] [(.ref w_DATE)])
    refine Go.callV X26 hx hZ (W := 0) (argsL := []) (rest := []) hown (wd hw 8 rfl) (wd hw 9 rfl) (notFace_of_selects (args := #[]) (mvT hZ (wd hw 11 rfl))) (wd hw 11 rfl) (wd hw 10 rfl) (wd hw 6 rfl) (wd hw 12 rfl) (by decide) (E_DATE.ext O.2) (ct_wev l Z a0 hw w_ALPHA w_NUMERIC w_TIME w_BINARY w_DATE w_DF cl_DF S_ALPHA S_NUMERIC S_TIME S_BINARY S_DATE E_ALPHA E_NUMERIC E_TIME E_BINARY E_DATE F_ALPHA F_NUMERIC F_TIME F_BINARY F_DATE ne_ALPHA_NUMERIC ne_ALPHA_TIME ne_ALPHA_BINARY ne_ALPHA_DATE ne_NUMERIC_TIME ne_NUMERIC_BINARY ne_NUMERIC_DATE ne_TIME_BINARY ne_TIME_DATE ne_BINARY_DATE S_DF A_DF E_DF Q_DF z_DF w_DATE (1 : Int32) h25 n0 O (by simp [ne_ALPHA_NUMERIC, Ne.symm ne_ALPHA_NUMERIC, ne_ALPHA_TIME, Ne.symm ne_ALPHA_TIME, ne_ALPHA_BINARY, Ne.symm ne_ALPHA_BINARY, ne_ALPHA_DATE, Ne.symm ne_ALPHA_DATE, ne_NUMERIC_TIME, Ne.symm ne_NUMERIC_TIME, ne_NUMERIC_BINARY, Ne.symm ne_NUMERIC_BINARY, ne_NUMERIC_DATE, Ne.symm ne_NUMERIC_DATE, ne_TIME_BINARY, Ne.symm ne_TIME_BINARY, ne_TIME_DATE, Ne.symm ne_TIME_DATE, ne_BINARY_DATE, Ne.symm ne_BINARY_DATE])) e26 (by rw [hml]; rfl) (lenOf pd___Z_8338 rfl) rfl rfl (hb hby at_35) (by decide) (by decide) (by decide) (by decide) ?_
    intro v27 T27 h27 L27 X27 e27 q27
    obtain ⟨rfl, N27, rfl⟩ := q27
    replace N27 := Fr.app N26 N27
    show Go p e below _ T27 (mkF m 38 #[.val (.int p0), .val (.int (4 : Int32)), .val (.ref w_DATE), .val (.int (1 : Int32)), .val (.int (1 : Int32)), .unset, .unset] [(.int (1 : Int32))])
    refine Go.by (T' := T27) (g' := (mkF m 54 #[.val (.int p0), .val (.int (4 : Int32)), .val (.ref w_DATE), .val (.int (1 : Int32)), .val (.int (1 : Int32)), .val (.int (1 : Int32)), .unset] [(.ref w_DATE)])) (fun t k => ?_) ?_
    · show Steps p.tables e below (T27.setTop (mkF m 38 #[.val (.int p0), .val (.int (4 : Int32)), .val (.ref w_DATE), .val (.int (1 : Int32)), .val (.int (1 : Int32)), .unset, .unset] [(.int (1 : Int32))])) _
      refine XS.iloadN X27.here hx rfl (hb hby at_38) rfl ?_
      show Steps p.tables e below (T27.setTop (mkF m 39 #[.val (.int p0), .val (.int (4 : Int32)), .val (.ref w_DATE), .val (.int (1 : Int32)), .val (.int (1 : Int32)), .unset, .unset] [(.int (1 : Int32)), (.int (1 : Int32))])) _
      refine XS.icmpNo X27.here hx rfl (hb hby at_39) rfl (teq (by decide : (1 : Int32) = (1 : Int32))).2 ?_
      show Steps p.tables e below (T27.setTop (mkF m 42 #[.val (.int p0), .val (.int (4 : Int32)), .val (.ref w_DATE), .val (.int (1 : Int32)), .val (.int (1 : Int32)), .unset, .unset] [])) _
      refine XS.iconst X27.here hx rfl (hb hby at_42) ?_
      show Steps p.tables e below (T27.setTop (mkF m 43 #[.val (.int p0), .val (.int (4 : Int32)), .val (.ref w_DATE), .val (.int (1 : Int32)), .val (.int (1 : Int32)), .unset, .unset] [(.int (1 : Int32))])) _
      refine XS.goto X27.here hx rfl (pc0 := 43) (pc' := 47) rfl (hb hby at_43) (by decide) (by decide) ?_
      show Steps p.tables e below (T27.setTop (mkF m 47 #[.val (.int p0), .val (.int (4 : Int32)), .val (.ref w_DATE), .val (.int (1 : Int32)), .val (.int (1 : Int32)), .unset, .unset] [(.int (1 : Int32))])) _
      refine XS.istore X27.here hx rfl (hb hby at_47) rfl (l' := #[.val (.int p0), .val (.int (4 : Int32)), .val (.ref w_DATE), .val (.int (1 : Int32)), .val (.int (1 : Int32)), .val (.int (1 : Int32)), .unset]) rfl ?_
      show Steps p.tables e below (T27.setTop (mkF m 49 #[.val (.int p0), .val (.int (4 : Int32)), .val (.ref w_DATE), .val (.int (1 : Int32)), .val (.int (1 : Int32)), .val (.int (1 : Int32)), .unset] [])) _
      refine XS.iloadN X27.here hx rfl (hb hby at_49) rfl ?_
      show Steps p.tables e below (T27.setTop (mkF m 50 #[.val (.int p0), .val (.int (4 : Int32)), .val (.ref w_DATE), .val (.int (1 : Int32)), .val (.int (1 : Int32)), .val (.int (1 : Int32)), .unset] [(.int (1 : Int32))])) _
      refine XS.ifNo X27.here hx rfl (hb hby at_50) rfl ((if0 _ _).trans (feq (by decide : ¬ (1 : Int32) = (0 : Int32))).1) ?_
      show Steps p.tables e below (T27.setTop (mkF m 53 #[.val (.int p0), .val (.int (4 : Int32)), .val (.ref w_DATE), .val (.int (1 : Int32)), .val (.int (1 : Int32)), .val (.int (1 : Int32)), .unset] [])) _
      refine XS.aloadN X27.here hx rfl (hb hby at_53) rfl rfl ?_
      exact k
    refine Go.callV X27 hx hZ (W := 0) (argsL := []) (rest := []) hown (wd hw 36 rfl) (wd hw 37 rfl) (notFace_of_selects (args := #[]) (mvT hZ (wd hw 39 rfl))) (wd hw 39 rfl) (wd hw 38 rfl) (wd hw 6 rfl) (wd hw 40 rfl) (by decide) (E_DATE.ext O.2) (ct_dense l Z a0 hw w_ALPHA w_NUMERIC w_TIME w_BINARY w_DATE w_DF cl_DF S_ALPHA S_NUMERIC S_TIME S_BINARY S_DATE E_ALPHA E_NUMERIC E_TIME E_BINARY E_DATE F_ALPHA F_NUMERIC F_TIME F_BINARY F_DATE ne_ALPHA_NUMERIC ne_ALPHA_TIME ne_ALPHA_BINARY ne_ALPHA_DATE ne_NUMERIC_TIME ne_NUMERIC_BINARY ne_NUMERIC_DATE ne_TIME_BINARY ne_TIME_DATE ne_BINARY_DATE S_DF A_DF E_DF Q_DF z_DF w_DATE (0 : Int32) h25 n0 O (by simp [ne_ALPHA_NUMERIC, Ne.symm ne_ALPHA_NUMERIC, ne_ALPHA_TIME, Ne.symm ne_ALPHA_TIME, ne_ALPHA_BINARY, Ne.symm ne_ALPHA_BINARY, ne_ALPHA_DATE, Ne.symm ne_ALPHA_DATE, ne_NUMERIC_TIME, Ne.symm ne_NUMERIC_TIME, ne_NUMERIC_BINARY, Ne.symm ne_NUMERIC_BINARY, ne_NUMERIC_DATE, Ne.symm ne_NUMERIC_DATE, ne_TIME_BINARY, Ne.symm ne_TIME_BINARY, ne_TIME_DATE, Ne.symm ne_TIME_DATE, ne_BINARY_DATE, Ne.symm ne_BINARY_DATE])) e27 (by rw [hml]; rfl) (lenOf pd___Z_8338 rfl) rfl rfl (hb hby at_54) (by decide) (by decide) (by decide) (by decide) ?_
    intro v28 T28 h28 L28 X28 e28 q28
    obtain ⟨rfl, N28, rfl⟩ := q28
    replace N28 := Fr.app N27 N28
    show Go p e below _ T28 (mkF m 57 #[.val (.int p0), .val (.int (4 : Int32)), .val (.ref w_DATE), .val (.int (1 : Int32)), .val (.int (1 : Int32)), .val (.int (1 : Int32)), .unset] [(.int (0 : Int32))])
    refine Go.by (T' := T28) (g' := (mkF m 88 #[.val (.int p0), .val (.int (4 : Int32)), .val (.ref w_DATE), .val (.int (1 : Int32)), .val (.int (1 : Int32)), .val (.int (1 : Int32)), .val (.int (1 : Int32))] [(.int (1 : Int32))])) (fun t k => ?_) ?_
    · show Steps p.tables e below (T28.setTop (mkF m 57 #[.val (.int p0), .val (.int (4 : Int32)), .val (.ref w_DATE), .val (.int (1 : Int32)), .val (.int (1 : Int32)), .val (.int (1 : Int32)), .unset] [(.int (0 : Int32))])) _
      refine XS.ifNo X28.here hx rfl (hb hby at_57) rfl ((if0 _ _).trans (teq (by decide : (0 : Int32) = (0 : Int32))).2) ?_
      show Steps p.tables e below (T28.setTop (mkF m 60 #[.val (.int p0), .val (.int (4 : Int32)), .val (.ref w_DATE), .val (.int (1 : Int32)), .val (.int (1 : Int32)), .val (.int (1 : Int32)), .unset] [])) _
      refine XS.iconst X28.here hx rfl (hb hby at_60) ?_
      show Steps p.tables e below (T28.setTop (mkF m 61 #[.val (.int p0), .val (.int (4 : Int32)), .val (.ref w_DATE), .val (.int (1 : Int32)), .val (.int (1 : Int32)), .val (.int (1 : Int32)), .unset] [(.int (1 : Int32))])) _
      refine XS.goto X28.here hx rfl (pc0 := 61) (pc' := 65) rfl (hb hby at_61) (by decide) (by decide) ?_
      show Steps p.tables e below (T28.setTop (mkF m 65 #[.val (.int p0), .val (.int (4 : Int32)), .val (.ref w_DATE), .val (.int (1 : Int32)), .val (.int (1 : Int32)), .val (.int (1 : Int32)), .unset] [(.int (1 : Int32))])) _
      refine XS.istore X28.here hx rfl (hb hby at_65) rfl (l' := #[.val (.int p0), .val (.int (4 : Int32)), .val (.ref w_DATE), .val (.int (1 : Int32)), .val (.int (1 : Int32)), .val (.int (1 : Int32)), .val (.int (1 : Int32))]) rfl ?_
      show Steps p.tables e below (T28.setTop (mkF m 67 #[.val (.int p0), .val (.int (4 : Int32)), .val (.ref w_DATE), .val (.int (1 : Int32)), .val (.int (1 : Int32)), .val (.int (1 : Int32)), .val (.int (1 : Int32))] [])) _
      refine XS.iloadN X28.here hx rfl (hb hby at_67) rfl ?_
      show Steps p.tables e below (T28.setTop (mkF m 68 #[.val (.int p0), .val (.int (4 : Int32)), .val (.ref w_DATE), .val (.int (1 : Int32)), .val (.int (1 : Int32)), .val (.int (1 : Int32)), .val (.int (1 : Int32))] [(.int (1 : Int32))])) _
      refine XS.iload X28.here hx rfl (hb hby at_68) rfl ?_
      show Steps p.tables e below (T28.setTop (mkF m 70 #[.val (.int p0), .val (.int (4 : Int32)), .val (.ref w_DATE), .val (.int (1 : Int32)), .val (.int (1 : Int32)), .val (.int (1 : Int32)), .val (.int (1 : Int32))] [(.int (1 : Int32)), (.int (1 : Int32))])) _
      refine XS.icmpNo X28.here hx rfl (hb hby at_70) rfl (teq (by decide : (1 : Int32) = (1 : Int32))).2 ?_
      show Steps p.tables e below (T28.setTop (mkF m 73 #[.val (.int p0), .val (.int (4 : Int32)), .val (.ref w_DATE), .val (.int (1 : Int32)), .val (.int (1 : Int32)), .val (.int (1 : Int32)), .val (.int (1 : Int32))] [])) _
      refine XS.iload X28.here hx rfl (hb hby at_73) rfl ?_
      show Steps p.tables e below (T28.setTop (mkF m 75 #[.val (.int p0), .val (.int (4 : Int32)), .val (.ref w_DATE), .val (.int (1 : Int32)), .val (.int (1 : Int32)), .val (.int (1 : Int32)), .val (.int (1 : Int32))] [(.int (1 : Int32))])) _
      refine XS.ifNo X28.here hx rfl (hb hby at_75) rfl ((if0 _ _).trans (feq (by decide : ¬ (1 : Int32) = (0 : Int32))).1) ?_
      show Steps p.tables e below (T28.setTop (mkF m 78 #[.val (.int p0), .val (.int (4 : Int32)), .val (.ref w_DATE), .val (.int (1 : Int32)), .val (.int (1 : Int32)), .val (.int (1 : Int32)), .val (.int (1 : Int32))] [])) _
      refine XS.iload X28.here hx rfl (hb hby at_78) rfl ?_
      show Steps p.tables e below (T28.setTop (mkF m 80 #[.val (.int p0), .val (.int (4 : Int32)), .val (.ref w_DATE), .val (.int (1 : Int32)), .val (.int (1 : Int32)), .val (.int (1 : Int32)), .val (.int (1 : Int32))] [(.int (1 : Int32))])) _
      refine XS.ifNo X28.here hx rfl (hb hby at_80) rfl ((if0 _ _).trans (feq (by decide : ¬ (1 : Int32) = (0 : Int32))).1) ?_
      show Steps p.tables e below (T28.setTop (mkF m 83 #[.val (.int p0), .val (.int (4 : Int32)), .val (.ref w_DATE), .val (.int (1 : Int32)), .val (.int (1 : Int32)), .val (.int (1 : Int32)), .val (.int (1 : Int32))] [])) _
      refine XS.iconst X28.here hx rfl (hb hby at_83) ?_
      show Steps p.tables e below (T28.setTop (mkF m 84 #[.val (.int p0), .val (.int (4 : Int32)), .val (.ref w_DATE), .val (.int (1 : Int32)), .val (.int (1 : Int32)), .val (.int (1 : Int32)), .val (.int (1 : Int32))] [(.int (1 : Int32))])) _
      refine XS.goto X28.here hx rfl (pc0 := 84) (pc' := 88) rfl (hb hby at_84) (by decide) (by decide) ?_
      exact k
    refine Go.retZ X28 hx hlk hret (Or.inr rfl) (hb hby at_88) (by decide) (by decide) e28 ?_
    exact ⟨rfl, N28⟩
set_option maxRecDepth 65536 in
set_option maxHeartbeats 40000000 in
theorem comes_1 {Post : Tables → Env → Array Value → State → Outcome → State → Prop} (hpost : ∀ tb e args s v u, (limb_1_1.after args s (.returned v) u = true ∧ limb_1_2.after args s (.returned v) u = true ∧ True) → FrameEnd s (.returned v) u (Jvm.fieldLocs frame_1_writes args s ++ Jvm.arrayLocs frame_1_arrays args s ++ Jvm.staticLocs frame_1_statics s) 16 128 → Post tb e args s (.returned v) u) :
    ArmFor flags0 classFile x code maxLocals ret World_1 tables_1 room_1 Calls_1 rest_1 Pre_1 Post := by
  intro l hfl _ _ p e ha hc hk s m args below hf hA hF happ hP
  obtain ⟨hcalls, hrest, hpre⟩ := hP
  obtain ⟨-, -, -, hnamed, -, -, -, hat⟩ := (Spec.applies_iff hf).mp happ
  obtain ⟨hg, hn⟩ := and_e (Cond.before_iff.mp (show (Jvm.Cond.and given_1 narrow_1).before args s = true from hpre))
  obtain ⟨hcnt, hg⟩ := and_e hg
  have ha0 := hg
  obtain ⟨u0, rfl⟩ : ∃ u0 : Value, args = #[u0] := by
    have hs : args.size = 1 := by simpa [Cond.value] using hcnt
    obtain ⟨L⟩ := args
    match L, hs with
    | [u0], _ => exact ⟨u0, rfl⟩
  have hw := fun d (hd : d ∈ tables_1) => atoms_spec (ws := Jvm.Cond.code x code maxLocals ret :: tables_1) hat d (List.mem_cons_of_mem _ hd)
  have hfit : Fit s := fun {y c} hc i hi => by
    obtain ⟨ha, rfl⟩ := Array.getElem?_eq_some_iff.mp hc
    have q := List.all_eq_true.mp ((Array.all_eq_true_iff_forall_mem.mp hF) _ (Array.getElem_mem ha)) i (List.mem_range.mpr hi)
    simpa [Array.getElem?_eq_getElem hi] using q
  obtain ⟨i0, ei0⟩ := is_v ha0
  obtain rfl : u0 = (.int i0) := Option.some.inj ei0
  obtain ⟨n1, hn⟩ := and_e hn
  obtain ⟨n2, hn⟩ := and_e hn
  obtain ⟨n3, hn⟩ := and_e hn
  obtain ⟨n4, hn⟩ := and_e hn
  obtain ⟨n5, hn⟩ := and_e hn
  obtain ⟨n6, hn⟩ := and_e hn
  obtain ⟨n7, hn⟩ := and_e hn
  obtain ⟨n8, hn⟩ := and_e hn
  obtain ⟨n9, hn⟩ := and_e hn
  obtain ⟨n10, hn⟩ := and_e hn
  obtain ⟨n11, hn⟩ := and_e hn
  obtain ⟨n12, hn⟩ := and_e hn
  obtain ⟨n13, hn⟩ := and_e hn
  obtain ⟨n14, hn⟩ := and_e hn
  obtain ⟨n15, hn⟩ := and_e hn
  obtain ⟨n16, hn⟩ := and_e hn
  obtain ⟨n17, hn⟩ := and_e hn
  obtain ⟨n18, hn⟩ := and_e hn
  obtain ⟨n19, hn⟩ := and_e hn
  obtain ⟨n20, hn⟩ := and_e hn
  obtain ⟨n21, hn⟩ := and_e hn
  obtain ⟨n22, hn⟩ := and_e hn
  obtain ⟨n23, hn⟩ := and_e hn
  obtain ⟨n24, hn⟩ := and_e hn
  obtain ⟨n25, hn⟩ := and_e hn
  obtain ⟨n26, hn⟩ := and_e hn
  obtain ⟨n27, hn⟩ := and_e hn
  obtain ⟨n28, hn⟩ := and_e hn
  obtain ⟨w_ALPHA, ev_ALPHA⟩ := exa_v n1
  have S_ALPHA := Sta.start ev_ALPHA (Or.inr ⟨(wd hw 6 rfl), (wd hw 7 rfl)⟩)
  have E_ALPHA := Exa.start ev_ALPHA n1
  obtain ⟨w_TIME, ev_TIME⟩ := exa_v n3
  have S_TIME := Sta.start ev_TIME (Or.inr ⟨(wd hw 6 rfl), (wd hw 35 rfl)⟩)
  have E_TIME := Exa.start ev_TIME n3
  obtain ⟨w_NUMERIC, ev_NUMERIC⟩ := exa_v n5
  have S_NUMERIC := Sta.start ev_NUMERIC (Or.inr ⟨(wd hw 6 rfl), (wd hw 42 rfl)⟩)
  have E_NUMERIC := Exa.start ev_NUMERIC n5
  obtain ⟨w_BINARY, ev_BINARY⟩ := exa_v n7
  have S_BINARY := Sta.start ev_BINARY (Or.inr ⟨(wd hw 6 rfl), (wd hw 44 rfl)⟩)
  have E_BINARY := Exa.start ev_BINARY n7
  obtain ⟨w_DATE, ev_DATE⟩ := exa_v n9
  have S_DATE := Sta.start ev_DATE (Or.inr ⟨(wd hw 6 rfl), (wd hw 46 rfl)⟩)
  have E_DATE := Exa.start ev_DATE n9
  have F_ALPHA := Fld.start ((fld_at ev_ALPHA).symm.trans (eqI_v n2))
  have F_TIME := Fld.start ((fld_at ev_TIME).symm.trans (eqI_v n4))
  have F_NUMERIC := Fld.start ((fld_at ev_NUMERIC).symm.trans (eqI_v n6))
  have F_BINARY := Fld.start ((fld_at ev_BINARY).symm.trans (eqI_v n8))
  have F_DATE := Fld.start ((fld_at ev_DATE).symm.trans (eqI_v n10))
  have ne_ALPHA_NUMERIC := Fld.ne F_ALPHA F_NUMERIC (by simp)
  have ne_ALPHA_TIME := Fld.ne F_ALPHA F_TIME (by simp)
  have ne_ALPHA_BINARY := Fld.ne F_ALPHA F_BINARY (by simp)
  have ne_ALPHA_DATE := Fld.ne F_ALPHA F_DATE (by simp)
  have ne_NUMERIC_TIME := Fld.ne F_NUMERIC F_TIME (by simp)
  have ne_NUMERIC_BINARY := Fld.ne F_NUMERIC F_BINARY (by simp)
  have ne_NUMERIC_DATE := Fld.ne F_NUMERIC F_DATE (by simp)
  have ne_TIME_BINARY := Fld.ne F_TIME F_BINARY (by simp)
  have ne_TIME_DATE := Fld.ne F_TIME F_DATE (by simp)
  have ne_BINARY_DATE := Fld.ne F_BINARY F_DATE (by simp)
  obtain ⟨w_DF, ev_DF⟩ := arr_v n11
  have S_DF := Sta.start ev_DF (Or.inr ⟨(wd hw 6 rfl), (wd hw 50 rfl)⟩)
  obtain ⟨cl_DF, A_DF⟩ := Arr.start ev_DF n11
  have E_DF := Exa.start ev_DF n12
  have Q_DF := FitC.start hfit A_DF
  have z_DF := size_le (k := 19) (lenI_v (eqI_v n13) ev_DF (A_DF.fin (Vm.Alike.refl _))) rfl
  obtain ⟨n, o, h1, h2, h3, _, L, rfl, ⟨rfl, N⟩, hq⟩ := ct_law l s _ hw w_ALPHA w_NUMERIC w_TIME w_BINARY w_DATE w_DF cl_DF S_ALPHA S_NUMERIC S_TIME S_BINARY S_DATE E_ALPHA E_NUMERIC E_TIME E_BINARY E_DATE F_ALPHA F_NUMERIC F_TIME F_BINARY F_DATE ne_ALPHA_NUMERIC ne_ALPHA_TIME ne_ALPHA_BINARY ne_ALPHA_DATE ne_NUMERIC_TIME ne_NUMERIC_BINARY ne_NUMERIC_DATE ne_TIME_BINARY ne_TIME_DATE ne_BINARY_DATE S_DF A_DF E_DF Q_DF z_DF i0 s.heap s.heap.size (Old.start s)  tables_1 p e ha hc hk s m _ below hf ((Spec.applies_iff_loose hf).mp happ).1 ⟨rfl, State.Warmed39.refl s, rfl⟩ trivial
  refine ⟨n, _, h1, h2, h3, hpost _ _ _ _ _ _ ⟨Cond.after_iff.mpr rfl, Cond.after_iff.mpr (eq_i res_at (Term.int_eval (1)) rfl), trivial⟩ ⟨hq.1, hq.2.1, (hq.2.2.sift fun y hy => Or.inr (N y hy)).mono (by decide) (by decide)⟩⟩
theorem main_1_1 : Claimed_1_1 := comes_1 fun _ _ _ _ _ _ h hF => ⟨h.1, hF⟩
theorem main_1_2 : Claimed_1_2 := comes_1 fun _ _ _ _ _ _ h hF => ⟨h.2.1, hF⟩
end Jvm.Pilot.@@N@@
namespace Jvm.Pilot.@@N@@
open Jvm Jvm.ClassFile Sem Op Lib Jvm.Free Jvm.Stand Jvm.Pilot.@@N@@.Jvm.D
/-! MADE BY PROGRAM (witnessworld.py) out of the Statement's table words and the real class files: 12 classes; the members and pool entries that the words name. The judged class is class 1, her method 2. -/
namespace start1
open Jvm.ClassFile
def u (s : String) : CpInfo := .utf8 (stringToUtf16 s)
/-- a pool by its gaps: so many unusable entries, then the entry; so many at the end -/
def gap : Nat → List CpInfo → List CpInfo
  | 0, r => r
  | n + 1, r => .unusable :: gap n r
def poolList (es : List (Nat × CpInfo)) (last : Nat) : List CpInfo := es.foldr (fun e r => gap e.1 (e.2 :: r)) (gap last [])
def pool (es : List (Nat × CpInfo)) (last : Nat) : Array CpInfo := ⟨poolList es last⟩
def fileOf (pool : Array CpInfo) (this : Nat) (attrs : Array Attribute := #[]) (ms : Array MethodInfo := #[]) (fl : Nat := 33) (sup : Nat := 0) (ifs : Array Nat := #[]) (fds : Array FieldInfo := #[]) : ClassFile where
  minorVersion := 0
  majorVersion := 65
  constantPool := pool
  accessFlags := fl
  thisClass := this
  superClass := sup
  interfaces := ifs
  fields := fds
  methods := ms
  attributes := attrs
def plain (name : String) (sup : Option ClassId) : Class where
  name := name
  kind := .ordinary
  loader := none
  accessFlags := 33
  super := sup
  interfaces := #[]
  cf := none
  fields := #[]
  methods := #[]
  instanceTypes := #[]
  staticTypes := #[]
  resolved := #[]
  callSites := []
  init := .initialized
  statics := none
  mirror := none

def pool0 : Array CpInfo := pool [(5, u "<init>"), (0, u "()V"), (1, .class_ 10), (1, u "java/lang/Object"), (85, u "clone"), (0, u "()Ljava/lang/Object;")] 26

def k0m0 : Method := { name := "<init>", desc := "()V", sig := { parameters := [], returnType := none }, accessFlags := 1, code := none }
def k0m1 : Method := { name := "clone", desc := "()Ljava/lang/Object;", sig := { parameters := [], returnType := some (.object "java/lang/Object") }, accessFlags := 260, code := none }
/-- java/lang/Object -/
def k0 : Class := { plain "java/lang/Object" none with
  accessFlags := 33
  interfaces := #[]
  cf := some (fileOf pool0 8 #[] #[{ accessFlags := 1, nameIndex := 5, descriptorIndex := 6, attributes := #[] }, { accessFlags := 260, nameIndex := 96, descriptorIndex := 97, attributes := #[] }] 33 0 #[] #[])
  fields := #[]
  methods := #[k0m0, k0m1]
  instanceTypes := #[]
  staticTypes := #[]
  resolved := Array.replicate 124 none
  statics := none }

def pool1 : Array CpInfo := pool [(2, .class_ 4), (1, u "java/lang/Object"), (0, u "<init>"), (0, u "()V"), (0, .fieldref 8 9), (0, .class_ 10), (0, .nameAndType 11 12), (0, u "com/example/tagfold/tagfold/value/Ordering"), (0, u "ALPHA"), (0, u "Lcom/example/tagfold/tagfold/value/Ordering;"), (0, .fieldref 8 14), (0, .nameAndType 15 12), (0, u "NUMERIC"), (0, .fieldref 8 17), (0, .nameAndType 18 12), (0, u "TIME"), (0, .fieldref 8 20), (0, .nameAndType 21 12), (0, u "BINARY"), (0, .fieldref 8 23), (0, .nameAndType 24 12), (0, u "DATE"), (0, .integer 2147483647), (0, .methodref 27 28), (0, .class_ 29), (0, .nameAndType 30 31), (0, u "com/example/tagfold/tagfold/value/OrderingWritesEachValueOncePinLaw"), (0, u "pick"), (0, u "(I)Lcom/example/tagfold/tagfold/value/Ordering;"), (0, .methodref 8 33), (0, .nameAndType 34 35), (0, u "writesEachValueOnce"), (0, u "()Z"), (0, .methodref 8 37), (0, .nameAndType 38 39), (0, u "least"), (0, u "()[B"), (0, .methodref 8 41), (0, .nameAndType 42 43), (0, u "scale"), (0, u "()Lcom/example/tagfold/tagfold/value/Ordering;"), (0, .methodref 8 45), (0, .nameAndType 46 35), (0, u "isDense"), (3, u "law"), (0, u "(I)Z")] 2

def k1m0 : Method := { name := "<init>", desc := "()V", sig := { parameters := [], returnType := none }, accessFlags := 1, code := none }
def k1c1 : Code := { maxStack := 2, maxLocals := 1, code := method_2_code, exceptionTable := #[], attributes := #[] }
def k1m1 : Method := { name := "pick", desc := "(I)Lcom/example/tagfold/tagfold/value/Ordering;", sig := { parameters := [.int], returnType := some (.object "com/example/tagfold/tagfold/value/Ordering") }, accessFlags := 10, code := some k1c1 }
def k1c2 : Code := { maxStack := 2, maxLocals := 7, code := code, exceptionTable := #[], attributes := #[] }
def k1m2 : Method := { name := "law", desc := "(I)Z", sig := { parameters := [.int], returnType := some .boolean }, accessFlags := 9, code := some k1c2 }
/-- com/example/tagfold/tagfold/value/OrderingWritesEachValueOncePinLaw -/
def k1 : Class := { plain "com/example/tagfold/tagfold/value/OrderingWritesEachValueOncePinLaw" (some 0) with
  accessFlags := 49
  interfaces := #[]
  cf := some (fileOf pool1 27 #[] #[{ accessFlags := 1, nameIndex := 5, descriptorIndex := 6, attributes := #[] }, { accessFlags := 10, nameIndex := 30, descriptorIndex := 31, attributes := #[] }, { accessFlags := 9, nameIndex := 50, descriptorIndex := 51, attributes := #[] }] 49 2 #[] #[])
  fields := #[]
  methods := #[k1m0, k1m1, k1m2]
  instanceTypes := #[]
  staticTypes := #[]
  resolved := Array.replicate 54 none
  statics := none }

def pool2 : Array CpInfo := pool [(1, .class_ 2), (0, u "java/lang/constant/Constable"), (0, .class_ 4), (0, u "java/lang/Object")] 6

/-- java/lang/constant/Constable -/
def k2 : Class := { plain "java/lang/constant/Constable" (some 0) with
  accessFlags := 1537
  interfaces := #[]
  cf := some (fileOf pool2 1 #[] #[] 1537 3 #[] #[])
  fields := #[]
  methods := #[]
  instanceTypes := #[]
  staticTypes := #[]
  resolved := Array.replicate 11 none
  statics := none }

def pool3 : Array CpInfo := pool [(1, .class_ 2), (0, u "java/lang/Comparable"), (0, .class_ 4), (0, u "java/lang/Object")] 7

/-- java/lang/Comparable -/
def k3 : Class := { plain "java/lang/Comparable" (some 0) with
  accessFlags := 1537
  interfaces := #[]
  cf := some (fileOf pool3 1 #[] #[] 1537 3 #[] #[])
  fields := #[]
  methods := #[]
  instanceTypes := #[]
  staticTypes := #[]
  resolved := Array.replicate 12 none
  statics := none }

def pool4 : Array CpInfo := pool [(1, .class_ 2), (0, u "java/io/Serializable"), (0, .class_ 4), (0, u "java/lang/Object")] 2

/-- java/io/Serializable -/
def k4 : Class := { plain "java/io/Serializable" (some 0) with
  accessFlags := 1537
  interfaces := #[]
  cf := some (fileOf pool4 1 #[] #[] 1537 3 #[] #[])
  fields := #[]
  methods := #[]
  instanceTypes := #[]
  staticTypes := #[]
  resolved := Array.replicate 7 none
  statics := none }

def pool5 : Array CpInfo := pool [(2, .class_ 4), (1, u "java/lang/Enum"), (0, u "name"), (0, u "Ljava/lang/String;"), (0, .fieldref 2 8), (0, .nameAndType 9 10), (0, u "ordinal"), (0, u "I"), (1, .class_ 14), (1, u "java/lang/Object"), (4, u "hash"), (86, .class_ 108), (1, u "java/lang/Enum$EnumDesc"), (2, .class_ 112), (0, u "java/lang/constant/Constable"), (0, .class_ 114), (0, u "java/lang/Comparable"), (0, .class_ 116), (0, u "java/io/Serializable"), (9, u "()I")] 77

def k5c0 : Code := { maxStack := 1, maxLocals := 1, code := jdk_37_method_2_code, exceptionTable := #[], attributes := #[] }
def k5m0 : Method := { name := "ordinal", desc := "()I", sig := { parameters := [], returnType := some .int }, accessFlags := 17, code := some k5c0 }
/-- java/lang/Enum -/
def k5 : Class := { plain "java/lang/Enum" (some 0) with
  accessFlags := 1057
  interfaces := #[2, 3, 4]
  cf := some (fileOf pool5 2 #[.nestMembers #[106]] #[{ accessFlags := 17, nameIndex := 9, descriptorIndex := 126, attributes := #[] }] 1057 12 #[111, 113, 115] #[{ accessFlags := 18, nameIndex := 5, descriptorIndex := 6, attributes := #[] }, { accessFlags := 18, nameIndex := 9, descriptorIndex := 10, attributes := #[] }, { accessFlags := 2, nameIndex := 19, descriptorIndex := 10, attributes := #[] }])
  fields := #[{ name := "name", type := (.object "java/lang/String"), accessFlags := 18, slot := 0, constantValue := 0 }, { name := "ordinal", type := .int, accessFlags := 18, slot := 1, constantValue := 0 }, { name := "hash", type := .int, accessFlags := 2, slot := 2, constantValue := 0 }]
  methods := #[k5m0]
  instanceTypes := #[(.object "java/lang/String"), .int, .int]
  staticTypes := #[]
  resolved := Array.replicate 204 none
  statics := none }

def pool6 : Array CpInfo := pool [(1, .class_ 2), (0, u "com/example/tagfold/tagfold/value/Ordering"), (0, .fieldref 1 4), (0, .nameAndType 5 6), (0, u "ALPHA"), (0, u "Lcom/example/tagfold/tagfold/value/Ordering;"), (0, .fieldref 1 8), (0, .nameAndType 9 6), (0, u "NUMERIC"), (0, .fieldref 1 11), (0, .nameAndType 12 6), (0, u "TIME"), (2, u "BINARY"), (0, .fieldref 1 17), (0, .nameAndType 18 6), (0, u "DATE"), (2, u "$VALUES"), (0, u "[Lcom/example/tagfold/tagfold/value/Ordering;"), (2, .nameAndType 26 27), (0, u "clone"), (0, u "()Ljava/lang/Object;"), (1, .class_ 31), (1, u "java/lang/Enum"), (40, u "atom"), (0, u "Lcom/example/tagfold/tagfold/value/Atom;"), (0, .methodref 1 75), (0, .nameAndType 76 77), (0, u "ordinal"), (0, u "()I"), (24, .fieldref 1 103), (0, .nameAndType 104 105), (0, u "DATE_FORM"), (0, u "[B"), (0, .methodref 107 25), (0, .class_ 105), (20, u "()[B"), (11, .class_ 141), (0, u "com/example/tagfold/tagfold/value/Ordering$Decimal"), (46, u "scale"), (0, u "()Lcom/example/tagfold/tagfold/value/Ordering;"), (2, u "writesEachValueOnce"), (0, u "()Z"), (0, u "isDense"), (0, u "least")] 8

def k6c0 : Code := { maxStack := 2, maxLocals := 1, code := prog_173_method_5_code, exceptionTable := #[], attributes := #[] }
def k6m0 : Method := { name := "scale", desc := "()Lcom/example/tagfold/tagfold/value/Ordering;", sig := { parameters := [], returnType := some (.object "com/example/tagfold/tagfold/value/Ordering") }, accessFlags := 1, code := some k6c0 }
def k6c1 : Code := { maxStack := 2, maxLocals := 1, code := prog_173_method_8_code, exceptionTable := #[], attributes := #[] }
def k6m1 : Method := { name := "writesEachValueOnce", desc := "()Z", sig := { parameters := [], returnType := some .boolean }, accessFlags := 1, code := some k6c1 }
def k6c2 : Code := { maxStack := 2, maxLocals := 1, code := prog_173_method_9_code, exceptionTable := #[], attributes := #[] }
def k6m2 : Method := { name := "isDense", desc := "()Z", sig := { parameters := [], returnType := some .boolean }, accessFlags := 1, code := some k6c2 }
def k6c3 : Code := { maxStack := 4, maxLocals := 1, code := prog_173_method_10_code, exceptionTable := #[], attributes := #[] }
def k6m3 : Method := { name := "least", desc := "()[B", sig := { parameters := [], returnType := some (.array .byte) }, accessFlags := 1, code := some k6c3 }
/-- com/example/tagfold/tagfold/value/Ordering -/
def k6 : Class := { plain "com/example/tagfold/tagfold/value/Ordering" (some 5) with
  accessFlags := 16433
  interfaces := #[]
  cf := some (fileOf pool6 1 #[.nestMembers #[140]] #[{ accessFlags := 1, nameIndex := 188, descriptorIndex := 189, attributes := #[] }, { accessFlags := 1, nameIndex := 192, descriptorIndex := 193, attributes := #[] }, { accessFlags := 1, nameIndex := 194, descriptorIndex := 193, attributes := #[] }, { accessFlags := 1, nameIndex := 195, descriptorIndex := 128, attributes := #[] }] 16433 29 #[] #[{ accessFlags := 16409, nameIndex := 5, descriptorIndex := 6, attributes := #[] }, { accessFlags := 16409, nameIndex := 9, descriptorIndex := 6, attributes := #[] }, { accessFlags := 16409, nameIndex := 12, descriptorIndex := 6, attributes := #[] }, { accessFlags := 16409, nameIndex := 15, descriptorIndex := 6, attributes := #[] }, { accessFlags := 16409, nameIndex := 18, descriptorIndex := 6, attributes := #[] }, { accessFlags := 26, nameIndex := 104, descriptorIndex := 105, attributes := #[] }, { accessFlags := 18, nameIndex := 72, descriptorIndex := 73, attributes := #[] }, { accessFlags := 4122, nameIndex := 21, descriptorIndex := 22, attributes := #[] }])
  fields := #[{ name := "ALPHA", type := (.object "com/example/tagfold/tagfold/value/Ordering"), accessFlags := 16409, slot := 0, constantValue := 0 }, { name := "NUMERIC", type := (.object "com/example/tagfold/tagfold/value/Ordering"), accessFlags := 16409, slot := 1, constantValue := 0 }, { name := "TIME", type := (.object "com/example/tagfold/tagfold/value/Ordering"), accessFlags := 16409, slot := 2, constantValue := 0 }, { name := "BINARY", type := (.object "com/example/tagfold/tagfold/value/Ordering"), accessFlags := 16409, slot := 3, constantValue := 0 }, { name := "DATE", type := (.object "com/example/tagfold/tagfold/value/Ordering"), accessFlags := 16409, slot := 4, constantValue := 0 }, { name := "DATE_FORM", type := (.array .byte), accessFlags := 26, slot := 5, constantValue := 0 }, { name := "atom", type := (.object "com/example/tagfold/tagfold/value/Atom"), accessFlags := 18, slot := 3, constantValue := 0 }, { name := "$VALUES", type := (.array (.object "com/example/tagfold/tagfold/value/Ordering")), accessFlags := 4122, slot := 6, constantValue := 0 }]
  methods := #[k6m0, k6m1, k6m2, k6m3]
  instanceTypes := #[(.object "java/lang/String"), .int, .int, (.object "com/example/tagfold/tagfold/value/Atom")]
  staticTypes := #[(.object "com/example/tagfold/tagfold/value/Ordering"), (.object "com/example/tagfold/tagfold/value/Ordering"), (.object "com/example/tagfold/tagfold/value/Ordering"), (.object "com/example/tagfold/tagfold/value/Ordering"), (.object "com/example/tagfold/tagfold/value/Ordering"), (.array .byte), (.array (.object "com/example/tagfold/tagfold/value/Ordering"))]
  resolved := Array.replicate 204 none
  statics := some 0 }

def pool7 : Array CpInfo := pool [(1, .class_ 2), (0, u "java/lang/Cloneable"), (0, .class_ 4), (0, u "java/lang/Object")] 2

/-- java/lang/Cloneable -/
def k7 : Class := { plain "java/lang/Cloneable" (some 0) with
  accessFlags := 1537
  interfaces := #[]
  cf := some (fileOf pool7 1 #[] #[] 1537 3 #[] #[])
  fields := #[]
  methods := #[]
  instanceTypes := #[]
  staticTypes := #[]
  resolved := Array.replicate 7 none
  statics := none }

/-- the primitive byte -/
def k8 : Class := { plain "byte" none with kind := .primitive 'B', accessFlags := 0x411 }
/-- [B -/
def k9 : Class := { plain "[B" (some 0) with kind := .array 8 .byte, interfaces := #[7, 4], accessFlags := 1041 }

/-- the primitive int -/
def k10 : Class := { plain "int" none with kind := .primitive 'I', accessFlags := 0x411 }
/-- [I -/
def k11 : Class := { plain "[I" (some 0) with kind := .array 10 .int, interfaces := #[7, 4], accessFlags := 1041 }

def heap : Heap := #[{ cls := 6, slots := #[.ref 1, .ref 2, .ref 3, .ref 4, .ref 5, .ref 6, .null], vm := .statics 6 },
  { cls := 6, slots := #[.null, .int 0, .int 0, .null], vm := .none },
  { cls := 6, slots := #[.null, .int 1, .int 0, .null], vm := .none },
  { cls := 6, slots := #[.null, .int 2, .int 0, .null], vm := .none },
  { cls := 6, slots := #[.null, .int 3, .int 0, .null], vm := .none },
  { cls := 6, slots := #[.null, .int 4, .int 0, .null], vm := .none },
  { cls := 9, slots := #[.int 48, .int 48, .int 48, .int 48, .int 45, .int 48, .int 48, .int 45, .int 48, .int 48, .int 95, .int 48, .int 48, .int 58, .int 48, .int 48, .int 58, .int 48, .int 48], vm := .none }]
def classes : Array Class := #[k0, k1, k2, k3, k4, k5, k6, k7, k8, k9, k10, k11]
def interned : List (Array UInt16 × Addr) := []
def slotsUsed : Nat := 46
def theMethod : MethodId := ⟨1, 2⟩
def args0 : Array Value := #[.int 5]
def aboutOver (below : List Frame) : State where
  vm := { classes := classes, interned := interned.toArray }
  heap := heap
  slotsUsed := slotsUsed
  threads := #[{ frames := .invoking theMethod args0 :: below }]
def below0 : List Frame := [.native { method := ⟨0, 0⟩, args := #[] }]
def about1 : State := aboutOver below0
def p0 : Program := .bare "" "" ""
def e0 : Env := launch0.env 0 0 0
theorem w_frames : about1.frames = Frame.invoking theMethod args0 :: below0 := rfl
set_option maxRecDepth 65536 in
theorem w_args : argsFit about1.vm theMethod args0 = true := by decide +kernel
set_option maxRecDepth 65536 in
theorem w_heap : heapFits about1 = true := by decide +kernel
set_option maxRecDepth 65536 in
theorem w_runnable : about1.curStatus? = some .runnable := by decide +kernel
set_option maxRecDepth 65536 in
theorem w_alone : about1.alone = true := by decide +kernel
set_option maxRecDepth 65536 in
theorem w_named : about1.methodNamed? x = some theMethod := by decide +kernel
set_option maxRecDepth 65536 in
theorem w_hears : about1.hears theMethod below0 = true := by decide +kernel
set_option maxRecDepth 65536 in
theorem w_ripe : about1.ripe theMethod args0 below0 = true := by decide +kernel
theorem w_running : about1.status = .running := rfl
set_option maxRecDepth 65536 in
theorem w_room : about1.hasRoom e0.platform room_1 = true :=
  launch0.hasRoom_least _ room_1 (by decide +kernel) (by decide +kernel) (by decide +kernel) (by decide +kernel) (by decide +kernel) (by decide +kernel)
theorem allAtoms_all (ts : List Jvm.Cond) (a : Array Jvm.Value) (st : Jvm.State) : (allAtoms ts).before a st = ts.all (fun c => c.before a st) := by
  induction ts with
  | nil => rfl
  | cons c t ih =>
    show (Jvm.Cond.and c (allAtoms t)).before a st = _
    rw [Jvm.Cond.before_and, ih, List.all_cons]
def words1 : List Jvm.Cond := Jvm.Cond.code x code maxLocals ret :: tables_1
/-- a 'code' word, met by the world's own term for the bytes: nothing is compared byte by byte -/
theorem code_word {y : MethodName} {bytes : ByteArray} {mx : Nat} {rt : Option FieldType} {a : Array Value} {s : State} {m : MethodId} {meth : Method} {c : Code} (h1 : s.methodNamed? y = some m) (h2 : s.vm.method? m = some meth) (h3 : meth.code = some c) (h4 : c.code = bytes)
    (h5 : (c.maxLocals == mx && c.exceptionTable.isEmpty && decide (c.maxStack ≤ mostOperands) && decide (meth.sig.returnType = rt) && !meth.locks && decide (parseMethodDescriptor y.desc = some meth.sig)) = true) : (Jvm.Cond.code y bytes mx rt).before a s = true := by
  simp only [Bool.and_eq_true, beq_iff_eq, Bool.not_eq_true', decide_eq_true_eq] at h5
  obtain ⟨⟨⟨⟨⟨g1, g2⟩, g3⟩, g4⟩, g5⟩, g6⟩ := h5
  simp [Cond.before, Cond.holds, Cond.value, h1, h2, h3, h4, g1, g2, g3, g4, g5, g6]
def isCode : Jvm.Cond → Bool
  | .code _ _ _ _ => true
  | _ => false
theorem all_split {L : List Jvm.Cond} {P : Jvm.Cond → Bool} (h1 : L.all (fun c => isCode c || P c) = true) (h2 : ∀ c ∈ L.filter isCode, P c = true) : L.all P = true := by
  refine List.all_eq_true.mpr fun c hc => ?_
  have h := List.all_eq_true.mp h1 c hc
  rcases Bool.eq_false_or_eq_true (isCode c) with hi | hi
  · exact h2 c (List.mem_filter.mpr ⟨hc, hi⟩)
  · simpa [hi] using h
set_option maxRecDepth 65536 in
theorem w_c0 : (Jvm.Cond.code x code maxLocals ret).before args0 about1 = true := code_word (m := ⟨1, 2⟩) (meth := k1m2) (c := k1c2) (by decide +kernel) rfl rfl rfl (by decide +kernel)
set_option maxRecDepth 65536 in
theorem w_c1 : (Jvm.Cond.code ({ cls := "com/example/tagfold/tagfold/value/OrderingWritesEachValueOncePinLaw", name := "pick", desc := "(I)Lcom/example/tagfold/tagfold/value/Ordering;" } : Jvm.MethodName) method_2_code (1 : Nat) (Option.some (Jvm.ClassFile.FieldType.object "com/example/tagfold/tagfold/value/Ordering"))).before args0 about1 = true := code_word (m := ⟨1, 1⟩) (meth := k1m1) (c := k1c1) (by decide +kernel) rfl rfl rfl (by decide +kernel)
set_option maxRecDepth 65536 in
theorem w_c2 : (Jvm.Cond.code ({ cls := "com/example/tagfold/tagfold/value/Ordering", name := "writesEachValueOnce", desc := "()Z" } : Jvm.MethodName) prog_173_method_8_code (1 : Nat) (Option.some Jvm.ClassFile.FieldType.boolean)).before args0 about1 = true := code_word (m := ⟨6, 1⟩) (meth := k6m1) (c := k6c1) (by decide +kernel) rfl rfl rfl (by decide +kernel)
set_option maxRecDepth 65536 in
theorem w_c3 : (Jvm.Cond.code ({ cls := "com/example/tagfold/tagfold/value/Ordering", name := "least", desc := "()[B" } : Jvm.MethodName) prog_173_method_10_code (1 : Nat) (Option.some (Jvm.ClassFile.FieldType.array Jvm.ClassFile.FieldType.byte))).before args0 about1 = true := code_word (m := ⟨6, 3⟩) (meth := k6m3) (c := k6c3) (by decide +kernel) rfl rfl rfl (by decide +kernel)
set_option maxRecDepth 65536 in
theorem w_c4 : (Jvm.Cond.code ({ cls := "java/lang/Enum", name := "ordinal", desc := "()I" } : Jvm.MethodName) jdk_37_method_2_code (1 : Nat) (Option.some Jvm.ClassFile.FieldType.int)).before args0 about1 = true := code_word (m := ⟨5, 0⟩) (meth := k5m0) (c := k5c0) (by decide +kernel) rfl rfl rfl (by decide +kernel)
set_option maxRecDepth 65536 in
theorem w_c5 : (Jvm.Cond.code ({ cls := "com/example/tagfold/tagfold/value/Ordering", name := "scale", desc := "()Lcom/example/tagfold/tagfold/value/Ordering;" } : Jvm.MethodName) prog_173_method_5_code (1 : Nat) (Option.some (Jvm.ClassFile.FieldType.object "com/example/tagfold/tagfold/value/Ordering"))).before args0 about1 = true := code_word (m := ⟨6, 0⟩) (meth := k6m0) (c := k6c0) (by decide +kernel) rfl rfl rfl (by decide +kernel)
set_option maxRecDepth 65536 in
theorem w_c6 : (Jvm.Cond.code ({ cls := "com/example/tagfold/tagfold/value/Ordering", name := "isDense", desc := "()Z" } : Jvm.MethodName) prog_173_method_9_code (1 : Nat) (Option.some Jvm.ClassFile.FieldType.boolean)).before args0 about1 = true := code_word (m := ⟨6, 2⟩) (meth := k6m2) (c := k6c2) (by decide +kernel) rfl rfl rfl (by decide +kernel)
def codes1 : List Jvm.Cond := [Jvm.Cond.code x code maxLocals ret, Jvm.Cond.code ({ cls := "com/example/tagfold/tagfold/value/OrderingWritesEachValueOncePinLaw", name := "pick", desc := "(I)Lcom/example/tagfold/tagfold/value/Ordering;" } : Jvm.MethodName) method_2_code (1 : Nat) (Option.some (Jvm.ClassFile.FieldType.object "com/example/tagfold/tagfold/value/Ordering")), Jvm.Cond.code ({ cls := "com/example/tagfold/tagfold/value/Ordering", name := "writesEachValueOnce", desc := "()Z" } : Jvm.MethodName) prog_173_method_8_code (1 : Nat) (Option.some Jvm.ClassFile.FieldType.boolean), Jvm.Cond.code ({ cls := "com/example/tagfold/tagfold/value/Ordering", name := "least", desc := "()[B" } : Jvm.MethodName) prog_173_method_10_code (1 : Nat) (Option.some (Jvm.ClassFile.FieldType.array Jvm.ClassFile.FieldType.byte)), Jvm.Cond.code ({ cls := "java/lang/Enum", name := "ordinal", desc := "()I" } : Jvm.MethodName) jdk_37_method_2_code (1 : Nat) (Option.some Jvm.ClassFile.FieldType.int), Jvm.Cond.code ({ cls := "com/example/tagfold/tagfold/value/Ordering", name := "scale", desc := "()Lcom/example/tagfold/tagfold/value/Ordering;" } : Jvm.MethodName) prog_173_method_5_code (1 : Nat) (Option.some (Jvm.ClassFile.FieldType.object "com/example/tagfold/tagfold/value/Ordering")), Jvm.Cond.code ({ cls := "com/example/tagfold/tagfold/value/Ordering", name := "isDense", desc := "()Z" } : Jvm.MethodName) prog_173_method_9_code (1 : Nat) (Option.some Jvm.ClassFile.FieldType.boolean)]
set_option maxRecDepth 65536 in
theorem codes_eq : words1.filter isCode = codes1 := rfl
theorem w_codes : ∀ c ∈ words1.filter isCode, c.before args0 about1 = true := by
  rw [codes_eq]
  intro c hc
  simp only [codes1, List.mem_cons, List.not_mem_nil, or_false] at hc
  rcases hc with rfl | rfl | rfl | rfl | rfl | rfl | rfl
  · exact w_c0
  · exact w_c1
  · exact w_c2
  · exact w_c3
  · exact w_c4
  · exact w_c5
  · exact w_c6
set_option maxRecDepth 65536 in
theorem w_t1 : (words1.take 24).all (fun c => isCode c || c.before args0 about1) = true := by decide +kernel
set_option maxRecDepth 65536 in
theorem w_t2 : ((words1.drop 24).take 24).all (fun c => isCode c || c.before args0 about1) = true := by decide +kernel
set_option maxRecDepth 65536 in
theorem w_t3 : ((words1.drop 24).drop 24).all (fun c => isCode c || c.before args0 about1) = true := by decide +kernel
theorem w_tables : (allAtoms (Jvm.Cond.code x code maxLocals ret :: tables_1)).before args0 about1 = true := by
  rw [allAtoms_all]
  show words1.all (fun c => c.before args0 about1) = true
  refine all_split ?_ w_codes
  rw [← List.take_append_drop 24 words1, List.all_append, w_t1, ← List.take_append_drop 24 (words1.drop 24), List.all_append, w_t2, w_t3]
  rfl
set_option maxRecDepth 65536 in
theorem w_case : (Jvm.Cond.and given_1 narrow_1).before args0 about1 = true := by decide +kernel
theorem w_applies : (headSpec (Jvm.Cond.code x code maxLocals ret :: tables_1) room_1).applies x e0.platform about1 = true :=
  (Spec.applies_iff w_frames).mpr ⟨w_running, w_runnable, w_alone, w_named, w_hears, w_ripe, w_room, w_tables⟩
theorem atStart : AtStart classFile x code maxLocals ret World_1 tables_1 room_1 Calls_1 rest_1 Pre_1 launch0 p0 e0 about1 theMethod args0 below0 :=
  ⟨lists_1, trivial, launch0.admits_env _ _ _, launch0.least_env, fairChoices_fair.cas, fairChoices_fair.clock, w_frames, w_args, w_heap, w_applies, trivial, trivial, w_case⟩
end start1
theorem witness_1 : WitnessClaimed_1 := ⟨start1.p0, start1.e0, start1.about1, start1.theMethod, start1.args0, start1.below0, start1.atStart⟩
end Jvm.Pilot.@@N@@
