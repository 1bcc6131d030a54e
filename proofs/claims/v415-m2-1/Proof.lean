import JvmDerived
import JvmDerived.Pilot.@@N@@Statement
import JvmDerived.Pilot.@@N@@Code
set_option linter.unusedVariables false
set_option linter.unusedSimpArgs false
namespace Jvm.OwnKit
open Jvm Sem ClassFile Op Lib Jvm.Stand Jvm.Free Jvm.LawKit Jvm.RoadKit
section K
variable {p : Program} {l : Launch} {e : Env} {R : Room} {s : State} {m : MethodId} {args : Array Value} {below : List Frame} {meth : Method} {c : Code} {T T' : State} {locs : List Loc} {cells slots : Nat} {Z : State} {a0 : Array Value} {h h0 : Heap} {ce sl : Nat} {Q : Option Value → Heap → List Loc → Prop} {P : Option Value → State → List Loc → Prop} {pc : Nat} {Ls : Array Slot} {rest : List Value}
/-- from this state and frame the body runs to its end, and Q holds there -/
def Go (p : Program) (e : Env) (below : List Frame) (P : Option Value → State → List Loc → Prop) (T : State) (g : JFrame) : Prop :=
  ∃ u v L, Steps p.tables e below (T.setTop g) u ∧ u.status = .running ∧ Ended u below (.returned v) ∧ P v u L
/-- the end of a body that interns nothing -/
def EndF (s : State) (ce sl : Nat) (Q : Option Value → Heap → List Loc → Prop) (v : Option Value) (u : State) (L : List Loc) : Prop := Q v u.heap L ∧ FrameEnd s (.returned v) u L ce sl
theorem Go.by {g g' : JFrame} (st : ∀ t, Steps p.tables e below (T'.setTop g') t → Steps p.tables e below (T.setTop g) t) (k : Go p e below P T' g') : Go p e below P T g := by
  obtain ⟨u, v, L, h1, r⟩ := k; exact ⟨u, v, L, st u h1, r⟩
theorem Go.cast {g g' : JFrame} (q : g = g') (k : Go p e below P T g') : Go p e below P T g := q ▸ k
/-- a body's contract at given arguments and a given heap -/
def Ct (l : Launch) (y : MethodName) (bytes : ByteArray) (maxL : Nat) (ret : Option FieldType) (rm : Room) (Z : State) (as' : Array Value) (h0 : Heap) (Q : Option Value → Heap → List Loc → Prop) : Prop :=
  ∀ ws : List Jvm.Cond, MetFree l y (head1 (Jvm.Cond.code y bytes maxL ret :: ws) rm) (fun a U => a = as' ∧ Z.Warmed39 U.vm ∧ U.heap = h0) (fun _ _ _ _ _ => True) (fun _ U o U' => ∃ v L, o = .returned v ∧ Q v U'.heap L ∧ FrameEnd U o U' L rm.cells rm.slots)
theorem Ct.of {y : MethodName} {bytes : ByteArray} {maxL : Nat} {ret : Option FieldType} {rm : Room} {as' : Array Value} (hpl : plainFor y = true)
    (body : ∀ (p : Program) (e : Env) (s : State) (m : MethodId) (below : List Frame) (meth : Method) (c : Code) (T : State), Stand p l e rm s m as' below meth c T [] 0 0 → p.tables.exec = Jvm.exec → c.code = bytes → c.maxLocals = maxL → s.vm.findClass y.cls = some m.cls → meth.name = y.name → meth.sig.returnType = ret → meth.locks = false → Z.Warmed39 s.vm → T.heap = h0 →
      Go p e below (EndF s rm.cells rm.slots Q) T (entryFrame m as' maxL)) : Ct l y bytes maxL ret rm Z as' h0 Q := by
  intro ws
  refine MetFree.of_bodySF hpl hisR ?_
  intro p e s m args below meth c s₁ Bd hml0 hP hK
  obtain ⟨rfl, hZ, hh⟩ := hP
  obtain ⟨u, v, L, h1, h2, h3, r⟩ := body p e s m below meth c s₁ (Stand.of_body Bd) Bd.exec Bd.bytes hml0 (findClass_of_methodNamed Bd.named) (name_of_methodNamed Bd.named Bd.method).1 Bd.returns (BodyLoose.notSynchronized Bd) hZ (by rw [← hh, Bd.state]; rfl)
  exact ⟨u, _, h1, h2, h3, v, L, rfl, r.1, r.2⟩
theorem Ct.mono {y : MethodName} {bytes : ByteArray} {maxL : Nat} {ret : Option FieldType} {rm : Room} {as' : Array Value} {Q' : Option Value → Heap → List Loc → Prop} (k : Ct l y bytes maxL ret rm Z as' h0 Q) (q : ∀ v h L, Q v h L → Q' v h L) : Ct l y bytes maxL ret rm Z as' h0 Q' := by
  intro ws p e ha hc hk s m args below hf happ hP hK
  obtain ⟨n, o, h1, h2, h3, v, L, h4, h5, h6⟩ := k ws p e ha hc hk s m args below hf happ hP hK
  exact ⟨n, o, h1, h2, h3, v, L, h4, q _ _ _ h5, h6⟩
theorem wd {ws : List Jvm.Cond} (hw : ∀ d ∈ ws, d.before a0 Z = true) {d : Jvm.Cond} (i : Nat) (q : ws[i]? = some d) : d.before a0 Z = true := hw _ (List.mem_of_getElem? q)
theorem Go.fin (X : Stand p l e R s m args below meth c T locs cells slots) (hlk : meth.locks = false) {v : Option Value} (hv : meth.sig.returnType = none → v = none) {g : JFrame}
    (st : ∀ fs, (∀ (f : JFrame) (acts : List Action), f.method = m → f.locked = none → f.entered = [] → (doReturn e (T.setTop f) acts v).1 = T.setFrames fs) → Steps p.tables e below (T.setTop g) (T.setFrames fs)) (hc : cells ≤ ce) (hs : slots ≤ sl) (eT : T.heap = h) (q : Q v h locs) : Go p e below (EndF s ce sl Q) T g := by
  obtain ⟨fs, hr, hrun, hended, hW, hsame⟩ := X.leave (v := v) hv hlk
  subst eT
  exact ⟨_, _, _, st fs hr, hrun, hended, q, ⟨_, rfl⟩, hW, hsame.mono hc hs⟩
theorem Go.retI (X : Stand p l e R s m args below meth c T locs cells slots) (hx : p.tables.exec = Jvm.exec) (hlk : meth.locks = false) (hret : meth.sig.returnType = some .int) {z : Int32} (hd : decode c.code pc = .ok (.ireturn, 1)) (hc : cells ≤ ce) (hs : slots ≤ sl) (eT : T.heap = h) (q : Q (some (.int z)) h locs) : Go p e below (EndF s ce sl Q) T (mkF m pc Ls (.int z :: rest)) :=
  Go.fin X hlk (fun h => by rw [hret] at h; cases h) (fun fs hl => retOut X hx hret rfl (Or.inl ⟨rfl, Or.inl rfl, z, rfl⟩) hd hl) hc hs eT q
theorem Go.retZ (X : Stand p l e R s m args below meth c T locs cells slots) (hx : p.tables.exec = Jvm.exec) (hlk : meth.locks = false) (hret : meth.sig.returnType = some .boolean) {z : Int32} (hz : z = 0 ∨ z = 1) (hd : decode c.code pc = .ok (.ireturn, 1)) (hc : cells ≤ ce) (hs : slots ≤ sl) (eT : T.heap = h) (q : Q (some (.int z)) h locs) : Go p e below (EndF s ce sl Q) T (mkF m pc Ls (.int z :: rest)) :=
  Go.fin X hlk (fun h => by rw [hret] at h; cases h) (fun fs hl => retOut X hx hret (by rcases hz with rfl | rfl <;> rfl) (Or.inl ⟨rfl, Or.inr (Or.inl rfl), z, rfl⟩) hd hl) hc hs eT q
theorem Go.retS (X : Stand p l e R s m args below meth c T locs cells slots) (hx : p.tables.exec = Jvm.exec) (hlk : meth.locks = false) {t : FieldType} (hret : meth.sig.returnType = some t) (ht : t = .byte ∨ t = .char ∨ t = .short) {z : Int32} (hz : narrow t (.int z) = .int z) (hd : decode c.code pc = .ok (.ireturn, 1)) (hc : cells ≤ ce) (hs : slots ≤ sl) (eT : T.heap = h) (q : Q (some (.int z)) h locs) : Go p e below (EndF s ce sl Q) T (mkF m pc Ls (.int z :: rest)) :=
  Go.fin X hlk (fun h => by rw [hret] at h; cases h) (fun fs hl => retOut X hx hret hz (Or.inl ⟨rfl, Or.inr (Or.inr ht), z, rfl⟩) hd hl) hc hs eT q
theorem Go.retJ (X : Stand p l e R s m args below meth c T locs cells slots) (hx : p.tables.exec = Jvm.exec) (hlk : meth.locks = false) (hret : meth.sig.returnType = some .long) {z : Int64} (hd : decode c.code pc = .ok (.lreturn, 1)) (hc : cells ≤ ce) (hs : slots ≤ sl) (eT : T.heap = h) (q : Q (some (.long z)) h locs) : Go p e below (EndF s ce sl Q) T (mkF m pc Ls (.long z :: rest)) :=
  Go.fin X hlk (fun h => by rw [hret] at h; cases h) (fun fs hl => retOut X hx hret rfl (Or.inr (Or.inl ⟨rfl, rfl, z, rfl⟩)) hd hl) hc hs eT q
theorem Go.retA (X : Stand p l e R s m args below meth c T locs cells slots) (hx : p.tables.exec = Jvm.exec) (hlk : meth.locks = false) {t : FieldType} (hret : meth.sig.returnType = some t) (ht : t.isReference = true) {v : Value} (hv : v.isRef = true) (hd : decode c.code pc = .ok (.areturn, 1)) (hc : cells ≤ ce) (hs : slots ≤ sl) (eT : T.heap = h) (q : Q (some v) h locs) : Go p e below (EndF s ce sl Q) T (mkF m pc Ls (v :: rest)) :=
  Go.fin X hlk (fun h => by rw [hret] at h; cases h) (fun fs hl => retOut X hx hret (by cases t <;> simp_all [FieldType.isReference, narrow]) (Or.inr (Or.inr (Or.inr (Or.inr ⟨rfl, ht, hv⟩)))) hd hl) hc hs eT q
theorem Go.retV (X : Stand p l e R s m args below meth c T locs cells slots) (hx : p.tables.exec = Jvm.exec) (hlk : meth.locks = false) (hret : meth.sig.returnType = none) (hd : decode c.code pc = .ok (.return_, 1)) (hc : cells ≤ ce) (hs : slots ≤ sl) (eT : T.heap = h) (q : Q none h locs) : Go p e below (EndF s ce sl Q) T (mkF m pc Ls []) :=
  Go.fin X hlk (fun _ => rfl) (fun fs hl => X.returnOut hx hret hd hl) hc hs eT q
/-! one law a step that reads the tables or the heap -/
theorem Go.getF (X : Stand p l e R s m args below meth c T locs cells slots) (hx : p.tables.exec = Jvm.exec) (hZ : Z.Warmed39 s.vm) {own R0 O n d : String} {index : Nat} (hown : s.vm.findClass own = some m.cls) (w : (Jvm.Cond.fieldLink own index R0 n d).before a0 Z = true) (via : Via Z R0 O n d) (eT : T.heap = h) {a : Addr} {v : Value} (F : Fld Z h a O n d v)
    (hd : decode c.code pc = .ok (.getfield index, 3)) (k : ∀ T', Stand p l e R s m args below meth c T' locs cells slots → T'.heap = h → Go p e below P T' (mkF m (pc + 3) Ls (v :: rest))) : Go p e below P T (mkF m pc Ls (.ref a :: rest)) := by
  obtain ⟨T', X', e', st⟩ := RoadKit.getF X hx hZ hown (host := "") (Or.inl w) via eT F (g := mkF m pc Ls (.ref a :: rest)) rfl rfl hd
  exact Go.by st (k T' X' e')
theorem Go.getFN (X : Stand p l e R s m args below meth c T locs cells slots) (hx : p.tables.exec = Jvm.exec) (hZ : Z.Warmed39 s.vm) {own R0 O n d host : String} {index : Nat} (hown : s.vm.findClass own = some m.cls) (w : (Jvm.Cond.fieldLinkNest own index R0 n d host).before a0 Z = true) (via : Via Z R0 O n d) (eT : T.heap = h) {a : Addr} {v : Value} (F : Fld Z h a O n d v)
    (hd : decode c.code pc = .ok (.getfield index, 3)) (k : ∀ T', Stand p l e R s m args below meth c T' locs cells slots → T'.heap = h → Go p e below P T' (mkF m (pc + 3) Ls (v :: rest))) : Go p e below P T (mkF m pc Ls (.ref a :: rest)) := by
  obtain ⟨T', X', e', st⟩ := RoadKit.getF X hx hZ hown (host := host) (Or.inr w) via eT F (g := mkF m pc Ls (.ref a :: rest)) rfl rfl hd
  exact Go.by st (k T' X' e')
theorem Go.putF (X : Stand p l e R s m args below meth c T locs cells slots) (hx : p.tables.exec = Jvm.exec) (hZ : Z.Warmed39 s.vm) {own R0 O n d C : String} {index kk : Nat} {ty : FieldType} (hown : s.vm.findClass own = some m.cls) (w : (Jvm.Cond.fieldLink own index R0 n d).before a0 Z = true) (via : Via Z R0 O n d) (eT : T.heap = h) {a : Addr} {v old : Value} (F : Fld Z h a O n d old) (E : Exa Z h a C)
    (L : (Jvm.Cond.lays C O n d).before a0 Z = true ∨ ((Jvm.Cond.laysFinal C O n d).before a0 Z = true ∧ own = O ∧ meth.name = "<init>")) (wi : (Jvm.Cond.instantiable C kk).before a0 Z = true) (hty : parseFieldDescriptor d = some ty) (hn : narrow ty v = v) (hf : fits ty v = true) (hd : decode c.code pc = .ok (.putfield index, 3))
    (k : ∀ T' h', Stand p l e R s m args below meth c T' (locs ++ [⟨a, RoadKit.slotOf Z O n d⟩]) cells slots → T'.heap = h' → Wr h h' a (RoadKit.slotOf Z O n d) v → Go p e below P T' (mkF m (pc + 3) Ls rest)) : Go p e below P T (mkF m pc Ls (v :: .ref a :: rest)) := by
  obtain ⟨T', h', X', e', W', st⟩ := RoadKit.putF X hx hZ hown (host := "") (Or.inl w) via eT F E L wi hty hn hf (g := mkF m pc Ls (v :: .ref a :: rest)) rfl rfl hd
  exact Go.by st (k T' h' X' e' W')
theorem Go.getS (X : Stand p l e R s m args below meth c T locs cells slots) (hx : p.tables.exec = Jvm.exec) (hZ : Z.Warmed39 s.vm) {own R0 O n d : String} {index : Nat} (hown : s.vm.findClass own = some m.cls) (w : (Jvm.Cond.fieldLink own index R0 n d).before a0 Z = true) (via : Via Z R0 O n d) (eT : T.heap = h) {v : Value} (F : Sta Z h O n d v) {st : List Value}
    (hd : decode c.code pc = .ok (.getstatic index, 3)) (k : ∀ T', Stand p l e R s m args below meth c T' locs cells slots → T'.heap = h → Go p e below P T' (mkF m (pc + 3) Ls (v :: st))) : Go p e below P T (mkF m pc Ls st) := by
  obtain ⟨T', X', e', st'⟩ := RoadKit.getS X hx hZ hown (host := "") w via eT F (g := mkF m pc Ls st) rfl hd
  exact Go.by st' (k T' X' e')
theorem Go.getSN (X : Stand p l e R s m args below meth c T locs cells slots) (hx : p.tables.exec = Jvm.exec) (hZ : Z.Warmed39 s.vm) {own R0 O n d host : String} {index : Nat} (hown : s.vm.findClass own = some m.cls) (w : (Jvm.Cond.fieldLinkNest own index R0 n d host).before a0 Z = true) (via : Via Z R0 O n d) (eT : T.heap = h) {v : Value} (F : Sta Z h O n d v) {st : List Value}
    (hd : decode c.code pc = .ok (.getstatic index, 3)) (k : ∀ T', Stand p l e R s m args below meth c T' locs cells slots → T'.heap = h → Go p e below P T' (mkF m (pc + 3) Ls (v :: st))) : Go p e below P T (mkF m pc Ls st) := by
  obtain ⟨T', X', e', st'⟩ := getS2 X hx hZ hown (Or.inr w) via eT F (g := mkF m pc Ls st) rfl hd
  exact Go.by st' (k T' X' e')
theorem Go.newO (X : Stand p l e R s m args below meth c T locs cells slots) (hx : p.tables.exec = Jvm.exec) (hZ : Z.Warmed39 s.vm) {own C : String} {index n : Nat} (hown : s.vm.findClass own = some m.cls) (w : (Jvm.Cond.classLink own index C).before a0 Z = true) (wi : (Jvm.Cond.instantiable C n).before a0 Z = true) (wz : (Jvm.Cond.initialized C).before a0 Z = true) (eT : T.heap = h) {st : List Value}
    (hd : decode c.code pc = .ok (.new index, 3)) (hc : cells + 1 ≤ R.cells) (hl : slots + n ≤ R.slots)
    (k : ∀ T' h' b, Stand p l e R s m args below meth c T' locs (cells + 1) (slots + n) → T'.heap = h' → Ext h h' → b = h.size → Exa Z h' b C → (∀ {O nm d : String} {ty : FieldType}, Laid Z a0 C O nm d → parseFieldDescriptor d = some ty → Fld Z h' b O nm d (defaultValue ty)) → Go p e below P T' (mkF m (pc + 3) Ls (.ref b :: st))) : Go p e below P T (mkF m pc Ls st) := by
  obtain ⟨T', h', X', e', E', A', D', -, st'⟩ := RoadKit.newO X hx hZ hown w wi wz eT (g := mkF m pc Ls st) rfl hd hc hl
  exact Go.by st' (k T' h' _ X' e' E' rfl A' D')
theorem Go.newP (X : Stand p l e R s m args below meth c T locs cells slots) (hx : p.tables.exec = Jvm.exec) (hZ : Z.Warmed39 s.vm) {aty : ArrayType} (w : (Jvm.Cond.arrayClass (newarray.typeOf aty)).before a0 Z = true) (eT : T.heap = h) {n : Int32} (hd : decode c.code pc = .ok (.newarray aty, 2)) (hn : ¬ n < 0) {cap : Nat} (hcap : n.toNatClampNeg ≤ cap) (hb : cap * 8 ≤ 536870912) (hc : cells + 1 ≤ R.cells) (hl : slots + cap ≤ R.slots)
    (k : ∀ T' h' b kA, Stand p l e R s m args below meth c T' locs (cells + 1) (slots + cap) → T'.heap = h' → Ext h h' → b = h.size → Arv Z h' b kA (newarray.typeOf aty) n [] (defaultValue (newarray.typeOf aty)) → Go p e below P T' (mkF m (pc + 2) Ls (.ref b :: rest))) : Go p e below P T (mkF m pc Ls (.int n :: rest)) := by
  obtain ⟨T', h', kA, X', e', E', A', st'⟩ := RoadKit.newP X hx hZ w eT (g := mkF m pc Ls (.int n :: rest)) rfl hd rfl hn hcap hb hc hl
  exact Go.by st' (k T' h' _ kA X' e' E' rfl (Arv.new A' hn))
theorem Go.initO (X : Stand p l e R s m args below meth c T locs cells slots) (hx : p.tables.exec = Jvm.exec) (hZ : Z.Warmed39 s.vm) {own : String} {idx : Nat} (hown : s.vm.findClass own = some m.cls) (w1 : (Jvm.Cond.methodLink own idx Lib.objectInit).before a0 Z = true) (w2 : (Jvm.Cond.instanceMethod Lib.objectInit).before a0 Z = true) (w3 : (Jvm.Cond.code Lib.objectInit ⟨#[0xb1]⟩ 1 none).before a0 Z = true) (eT : T.heap = h)
    {a : Addr} (hsz : Ls.size = c.maxLocals) (hd : decode c.code pc = .ok (.invokespecial idx, 3)) (hf : 1 ≤ R.frames) {W : Nat} (hW : (rest.map fun v => v.category).sum = W) (hl : W + 12 ≤ R.locals)
    (k : ∀ T', Stand p l e R s m args below meth c T' locs cells slots → T'.heap = h → Go p e below P T' (mkF m (pc + 3) Ls rest)) : Go p e below P T (mkF m pc Ls (.ref a :: rest)) := by
  obtain ⟨T', X', e', st⟩ := RoadKit.initO X hx hZ hown w1 w2 w3 eT (g := mkF m pc Ls (.ref a :: rest)) rfl hsz rfl hd hf (W := W) (by subst hW; show 2 * 0 + _ ≤ _; omega) hl
  exact Go.by st (k T' X' e')
theorem Go.castY (X : Stand p l e R s m args below meth c T locs cells slots) (hx : p.tables.exec = Jvm.exec) (hZ : Z.Warmed39 s.vm) {own K : String} {index : Nat} (hown : s.vm.findClass own = some m.cls) (w : (Jvm.Cond.classLink own index K).before a0 Z = true) (eT : T.heap = h) {a : Addr} (F : Ins Z h a K true) (hd : decode c.code pc = .ok (.checkcast index, 3))
    (k : ∀ T', Stand p l e R s m args below meth c T' locs cells slots → T'.heap = h → Go p e below P T' (mkF m (pc + 3) Ls (.ref a :: rest))) : Go p e below P T (mkF m pc Ls (.ref a :: rest)) := by
  obtain ⟨T', X', e', st⟩ := RoadKit.castY X hx hZ hown w eT F (g := mkF m pc Ls (.ref a :: rest)) rfl rfl hd
  exact Go.by st (k T' X' e')
theorem Go.instY (X : Stand p l e R s m args below meth c T locs cells slots) (hx : p.tables.exec = Jvm.exec) (hZ : Z.Warmed39 s.vm) {own K : String} {index : Nat} (hown : s.vm.findClass own = some m.cls) (w : (Jvm.Cond.classLink own index K).before a0 Z = true) (eT : T.heap = h) {a : Addr} (F : Ins Z h a K true) (hd : decode c.code pc = .ok (.instanceof index, 3))
    (k : ∀ T', Stand p l e R s m args below meth c T' locs cells slots → T'.heap = h → Go p e below P T' (mkF m (pc + 3) Ls (.int 1 :: rest))) : Go p e below P T (mkF m pc Ls (.ref a :: rest)) := by
  obtain ⟨T', X', e', st⟩ := RoadKit.instY X hx hZ hown w eT F (g := mkF m pc Ls (.ref a :: rest)) rfl rfl hd
  exact Go.by st (k T' X' e')
theorem Go.instN (X : Stand p l e R s m args below meth c T locs cells slots) (hx : p.tables.exec = Jvm.exec) (hZ : Z.Warmed39 s.vm) {own K C : String} {index : Nat} (hown : s.vm.findClass own = some m.cls) (w : (Jvm.Cond.classLink own index K).before a0 Z = true) (eT : T.heap = h) {a : Addr} (E : Exa Z h a C) (F : ∃ c t, Z.vm.findClass C = some c ∧ Z.vm.findClass K = some t ∧ Z.vm.assignable c t = false) (hd : decode c.code pc = .ok (.instanceof index, 3))
    (k : ∀ T', Stand p l e R s m args below meth c T' locs cells slots → T'.heap = h → Go p e below P T' (mkF m (pc + 3) Ls (.int 0 :: rest))) : Go p e below P T (mkF m pc Ls (.ref a :: rest)) := by
  obtain ⟨T', X', e', st⟩ := RoadKit.instNo X hx hZ hown w eT E F (g := mkF m pc Ls (.ref a :: rest)) rfl rfl hd
  exact Go.by st (k T' X' e')
theorem Go.aload (X : Stand p l e R s m args below meth c T locs cells slots) (hx : p.tables.exec = Jvm.exec) (hZ : Z.Warmed39 s.vm) (eT : T.heap = h) {a : Addr} {cl : Cell} {ty : FieldType} (A : Arr Z h a cl ty) {j : Int32} {v : Value} (hin : ¬ (j < 0 ∨ cl.slots.size ≤ j.toNatClampNeg)) (hat : cl.slots[j.toNatClampNeg]? = some v) {i : Instr}
    (hi : (i = .iaload ∧ ty = .int) ∨ (i = .laload ∧ ty = .long) ∨ (i = .aaload ∧ ty.isReference = true) ∨ (i = .caload ∧ ty = .char) ∨ (i = .saload ∧ ty = .short) ∨ (i = .baload ∧ ty = .byte)) (hd : decode c.code pc = .ok (i, 1)) (k : Go p e below P T (mkF m (pc + 1) Ls (v :: rest))) : Go p e below P T (mkF m pc Ls (.int j :: .ref a :: rest)) := by
  refine Go.by (fun t kk => ?_) k
  have hc : T.heap[a]? = some cl := by rw [eT]; exact A.1
  have ha := State.isArrayOf_alike hZ.alike A.2.1
  rcases hi with ⟨rfl, rfl⟩ | ⟨rfl, rfl⟩ | ⟨rfl, hr⟩ | ⟨rfl, rfl⟩ | ⟨rfl, rfl⟩ | ⟨rfl, rfl⟩
  · exact X.iaload hx hc ha A.2.2 hin hat (g := mkF m pc Ls (.int j :: .ref a :: rest)) rfl rfl hd _ kk
  · exact X.laload hx hc ha A.2.2 hin hat (g := mkF m pc Ls (.int j :: .ref a :: rest)) rfl rfl hd _ kk
  · exact X.aaload hx hc ha hr A.2.2 hin hat (g := mkF m pc Ls (.int j :: .ref a :: rest)) rfl rfl hd _ kk
  · exact X.caload hx hc ha A.2.2 hin hat (g := mkF m pc Ls (.int j :: .ref a :: rest)) rfl rfl hd _ kk
  · exact X.saload hx hc ha A.2.2 hin hat (g := mkF m pc Ls (.int j :: .ref a :: rest)) rfl rfl hd _ kk
  · exact X.baloadBytes hx hc ha A.2.2 hin hat (g := mkF m pc Ls (.int j :: .ref a :: rest)) rfl rfl hd _ kk
theorem Go.alen (X : Stand p l e R s m args below meth c T locs cells slots) (hx : p.tables.exec = Jvm.exec) (hZ : Z.Warmed39 s.vm) (eT : T.heap = h) {a : Addr} {cl : Cell} {ty : FieldType} (A : Arr Z h a cl ty) {z : Int32} (hz : cl.slots.size.toInt32 = z) (hd : decode c.code pc = .ok (.arraylength, 1)) (k : Go p e below P T (mkF m (pc + 1) Ls (.int z :: rest))) : Go p e below P T (mkF m pc Ls (.ref a :: rest)) := by
  refine Go.by (fun t kk => ?_) k
  subst hz
  exact X.arraylength hx (by rw [eT]; exact A.1) (State.isArrayOf_alike hZ.alike A.2.1) (g := mkF m pc Ls (.ref a :: rest)) rfl rfl hd _ kk
theorem Go.alenV (X : Stand p l e R s m args below meth c T locs cells slots) (hx : p.tables.exec = Jvm.exec) (hZ : Z.Warmed39 s.vm) (eT : T.heap = h) {a : Addr} {k : ClassId} {ty : FieldType} {z : Int32} {vs : List Value} {dv : Value} (F : Arv Z h a k ty z vs dv) (hd : decode c.code pc = .ok (.arraylength, 1)) (kk : Go p e below P T (mkF m (pc + 1) Ls (.int z :: rest))) : Go p e below P T (mkF m pc Ls (.ref a :: rest)) := by
  obtain ⟨cl, A, -, S, q, -, -⟩ := F; exact Go.alen X hx hZ eT A (len_of S q) hd kk
theorem Go.aloadV (X : Stand p l e R s m args below meth c T locs cells slots) (hx : p.tables.exec = Jvm.exec) (hZ : Z.Warmed39 s.vm) (eT : T.heap = h) {a : Addr} {k : ClassId} {ty : FieldType} {z : Int32} {vs : List Value} {dv : Value} (F : Arv Z h a k ty z vs dv) {j : Int32} {v : Value} (hj : ¬ j < 0 ∧ j < z) (hv : vs.getD j.toNatClampNeg dv = v) {i : Instr}
    (hi : (i = .iaload ∧ ty = .int) ∨ (i = .laload ∧ ty = .long) ∨ (i = .aaload ∧ ty.isReference = true) ∨ (i = .caload ∧ ty = .char) ∨ (i = .saload ∧ ty = .short) ∨ (i = .baload ∧ ty = .byte)) (hd : decode c.code pc = .ok (i, 1)) (kk : Go p e below P T (mkF m (pc + 1) Ls (v :: rest))) : Go p e below P T (mkF m pc Ls (.int j :: .ref a :: rest)) := by
  obtain ⟨cl, A, -, S, q, H, -⟩ := F
  have hin := inb_of S hj
  exact Go.aload X hx hZ eT A hin (H.at hin hv) hi hd kk
theorem Go.istV (X : Stand p l e R s m args below meth c T locs cells slots) (hx : p.tables.exec = Jvm.exec) (hZ : Z.Warmed39 s.vm) (eT : T.heap = h) {a : Addr} {k : ClassId} {z : Int32} {vs : List Value} {dv : Value} (F : Arv Z h a k .int z vs dv) {j x : Int32} (hj : ¬ j < 0 ∧ j < z) (i : Nat) (hji : j.toNatClampNeg = i) (hi : i < vs.length) (hd : decode c.code pc = .ok (.iastore, 1))
    (kk : ∀ T' h', Stand p l e R s m args below meth c T' (locs ++ [⟨a, j.toNatClampNeg⟩]) cells slots → T'.heap = h' → Wr h h' a j.toNatClampNeg (.int x) → Arv Z h' a k .int z (vs.set i (.int x)) dv → Go p e below P T' (mkF m (pc + 1) Ls rest)) : Go p e below P T (mkF m pc Ls (.int x :: .int j :: .ref a :: rest)) := by
  obtain ⟨cl, A, q1, S, q3, H, G⟩ := F
  have hin := inb_of S hj
  obtain ⟨T', h', X', e', W', st⟩ := stI X hx hZ eT A (j := j) (x := x) hin (g := mkF m pc Ls (.int x :: .int j :: .ref a :: rest)) rfl rfl hd
  exact Go.by st (kk T' h' X' e' W' (Arv.set A q1 S q3 H G rfl W' i hji hi))
theorem Go.jstV (X : Stand p l e R s m args below meth c T locs cells slots) (hx : p.tables.exec = Jvm.exec) (hZ : Z.Warmed39 s.vm) (eT : T.heap = h) {a : Addr} {k : ClassId} {z : Int32} {vs : List Value} {dv : Value} (F : Arv Z h a k .long z vs dv) {j : Int32} {x : Int64} (hj : ¬ j < 0 ∧ j < z) (i : Nat) (hji : j.toNatClampNeg = i) (hi : i < vs.length) (hd : decode c.code pc = .ok (.lastore, 1))
    (kk : ∀ T' h', Stand p l e R s m args below meth c T' (locs ++ [⟨a, j.toNatClampNeg⟩]) cells slots → T'.heap = h' → Wr h h' a j.toNatClampNeg (.long x) → Arv Z h' a k .long z (vs.set i (.long x)) dv → Go p e below P T' (mkF m (pc + 1) Ls rest)) : Go p e below P T (mkF m pc Ls (.long x :: .int j :: .ref a :: rest)) := by
  obtain ⟨cl, A, q1, S, q3, H, G⟩ := F
  have hin := inb_of S hj
  obtain ⟨T', h', X', e', W', st⟩ := stJ X hx hZ eT A (j := j) (x := x) hin (g := mkF m pc Ls (.long x :: .int j :: .ref a :: rest)) rfl rfl hd
  exact Go.by st (kk T' h' X' e' W' (Arv.set A q1 S q3 H G rfl W' i hji hi))
theorem Go.cloneA (X : Stand p l e R s m args below meth c T locs cells slots) (hx : p.tables.exec = Jvm.exec) (hZ : Z.Warmed39 s.vm) {own ad : String} {index : Nat} (hown : s.vm.findClass own = some m.cls) (w1 : (Jvm.Cond.methodLink own index ⟨ad, "clone", "()Ljava/lang/Object;"⟩).before a0 Z = true) (w2 : (Jvm.Cond.sameMethod ad "java/lang/Object" "clone" "()Ljava/lang/Object;").before a0 Z = true) (w3 : (Jvm.Cond.native ⟨"java/lang/Object", "clone", "()Ljava/lang/Object;"⟩).before a0 Z = true)
    (w4 : (Jvm.Cond.instanceMethod ⟨"java/lang/Object", "clone", "()Ljava/lang/Object;"⟩).before a0 Z = true) (w5 : (Jvm.Cond.selects ad ⟨ad, "clone", "()Ljava/lang/Object;"⟩ ⟨"java/lang/Object", "clone", "()Ljava/lang/Object;"⟩).before a0 Z = true) (w6 : (Jvm.Cond.castable ad "java/lang/Cloneable").before a0 Z = true) (eT : T.heap = h) {a : Addr} {cl : Cell} {ty : FieldType} (A : Arr Z h a cl ty) (E : Exa Z h a ad) (F : FitC Z cl)
    (hsz : Ls.size = c.maxLocals) (hd : decode c.code pc = .ok (.invokevirtual index, 3)) (hf : 1 ≤ R.frames) {W cap : Nat} (hW : (rest.map fun v => v.category).sum = W) (hl : W + 14 ≤ R.locals) (hcap : cl.slots.size ≤ cap) (hc : cells + 1 ≤ R.cells) (hsl : slots + cap ≤ R.slots)
    (k : ∀ T' h' b, Stand p l e R s m args below meth c T' locs (cells + 1) (slots + cap) → T'.heap = h' → Ext h h' → b = h.size → Arr Z h' b (cloneOf cl) ty → Exa Z h' b ad → Go p e below P T' (mkF m (pc + 3) Ls (.ref b :: rest))) : Go p e below P T (mkF m pc Ls (.ref a :: rest)) := by
  obtain ⟨T', h', X', e', E', A', X2, st⟩ := RoadKit.cloneA X hx hZ hown w1 w2 w3 w4 w5 w6 eT A E F (g := mkF m pc Ls (.ref a :: rest)) rfl hsz rfl hd hf (W := W) (cap := cap) (by subst hW; show 2 * 0 + _ ≤ _; omega) hl hcap hc hsl
  exact Go.by st (k T' h' _ X' e' E' rfl A' X2)
/-! calls by the callee's contract -/
section Call
variable {own : String} {index : Nat} {y : MethodName} {bytes : ByteArray} {maxL : Nat} {ret : Option FieldType} {rm : Room} {argsL : List Value} {Q' : Option Value → Heap → List Loc → Prop} {st : List Value} {W : Nat}
theorem Go.callS (X : Stand p l e R s m args below meth c T locs cells slots) (hx : p.tables.exec = Jvm.exec) (hZ : Z.Warmed39 s.vm) (hown : s.vm.findClass own = some m.cls) (w1 : (Jvm.Cond.methodLink own index y).before a0 Z = true) (w2 : (Jvm.Cond.static y).before a0 Z = true) (w3 : (Jvm.Cond.initialized y.cls).before a0 Z = true) (w4 : (Jvm.Cond.code y bytes maxL ret).before a0 Z = true)
    (hy : y.cls ≠ "java/lang/invoke/MethodHandle" ∧ y.cls ≠ "java/lang/invoke/VarHandle") (ct : Ct l y bytes maxL ret rm Z argsL.toArray h Q') (eT : T.heap = h) (hsz : Ls.size = c.maxLocals) (hlen : ∀ sig, parseMethodDescriptor y.desc = some sig → argsL.length = sig.parameters.length) (hst : st = argsL.reverse ++ rest) (hW : (rest.map fun v => v.category).sum = W)
    (hd : decode c.code pc = .ok (.invokestatic index, 3)) (hf : rm.frames + 1 ≤ R.frames) (hl : W + (maxL + 11) + rm.locals ≤ R.locals) (hc : cells + rm.cells ≤ R.cells) (hs : slots + rm.slots ≤ R.slots)
    (k : ∀ v T' h' L, Stand p l e R s m args below meth c T' (locs ++ L) (cells + rm.cells) (slots + rm.slots) → T'.heap = h' → Q' v h' L → Go p e below P T' (mkF m (pc + 3) Ls (v.toList ++ rest))) : Go p e below P T (mkF m pc Ls st) := by
  obtain ⟨v, _, ⟨T', L, k', n'⟩, -, X', ⟨Lc, hQ, hl', hk', hn'⟩, st'⟩ := Jvm.LawKit.callS X hx (y := y) hown (mvT hZ w1) (mvT hZ w2) (mvT hZ w3) (mvT hZ w4) hy (backOf (W := W) (ct []) hZ w4 w3 hf hl) (g := mkF m pc Ls st) rfl hsz (argsL := argsL) (rest := rest) hlen hst (by subst hW; show 2 * 0 + _ ≤ _; omega) hd (fun _ _ => ⟨rfl, eT, hc, hs⟩)
  dsimp only [Pt.U, Pt.locs, Pt.cells, Pt.slots] at X' hl' hk' hn' st' hQ
  subst hl' hk' hn'
  exact Go.by st' (k v T' _ Lc X' rfl hQ)
theorem Go.callC (X : Stand p l e R s m args below meth c T locs cells slots) (hx : p.tables.exec = Jvm.exec) (hZ : Z.Warmed39 s.vm) (hown : s.vm.findClass own = some m.cls) (hy1 : y.name = "<init>") (w1 : (Jvm.Cond.methodLink own index y).before a0 Z = true) (w2 : (Jvm.Cond.instanceMethod y).before a0 Z = true) (w3 : (Jvm.Cond.initialized y.cls).before a0 Z = true) (w4 : (Jvm.Cond.code y bytes maxL none).before a0 Z = true)
    (hy : y.cls ≠ "java/lang/invoke/MethodHandle" ∧ y.cls ≠ "java/lang/invoke/VarHandle") {a : Addr} (ct : Ct l y bytes maxL none rm Z (.ref a :: argsL).toArray h Q') (eT : T.heap = h) (hsz : Ls.size = c.maxLocals) (hlen : ∀ sig, parseMethodDescriptor y.desc = some sig → argsL.length = sig.parameters.length) (hst : st = argsL.reverse ++ .ref a :: rest) (hW : (rest.map fun v => v.category).sum = W)
    (hd : decode c.code pc = .ok (.invokespecial index, 3)) (hf : rm.frames + 1 ≤ R.frames) (hl : W + (maxL + 11) + rm.locals ≤ R.locals) (hc : cells + rm.cells ≤ R.cells) (hs : slots + rm.slots ≤ R.slots)
    (k : ∀ v T' h' L, Stand p l e R s m args below meth c T' (locs ++ L) (cells + rm.cells) (slots + rm.slots) → T'.heap = h' → Q' v h' L → Go p e below P T' (mkF m (pc + 3) Ls (v.toList ++ rest))) : Go p e below P T (mkF m pc Ls st) := by
  obtain ⟨v, _, ⟨T', L, k', n'⟩, -, X', ⟨Lc, hQ, hl', hk', hn'⟩, st'⟩ := X.specialBack hx (y := y) hy1 hown (mvT hZ w1) (mvT hZ w2) (mvT hZ w4) hy (backOf (W := W) (ct []) hZ w4 w3 hf hl) (g := mkF m pc Ls st) rfl hsz (Steps.refl _) (a := a) (argsL := argsL) (rest := rest) hlen hst (by subst hW; show 2 * 0 + _ ≤ _; omega) hd (fun _ _ => ⟨rfl, eT, hc, hs⟩)
  dsimp only [Pt.U, Pt.locs, Pt.cells, Pt.slots] at X' hl' hk' hn' st' hQ
  subst hl' hk' hn'
  exact Go.by (fun _ kk => st'.trans kk) (k v T' _ Lc X' rfl hQ)
theorem Go.callV (X : Stand p l e R s m args below meth c T locs cells slots) (hx : p.tables.exec = Jvm.exec) (hZ : Z.Warmed39 s.vm) (hown : s.vm.findClass own = some m.cls) {C : String} {z : MethodName} (w1 : (Jvm.Cond.methodLink own index y).before a0 Z = true) (w2 : (Jvm.Cond.declares y).before a0 Z = true) (nf : NotFace s y) (w5 : (Jvm.Cond.selects C y z).before a0 Z = true) (w6 : (Jvm.Cond.instanceMethod z).before a0 Z = true) (w3 : (Jvm.Cond.initialized z.cls).before a0 Z = true) (w4 : (Jvm.Cond.code z bytes maxL ret).before a0 Z = true)
    (hy : y.cls ≠ "java/lang/invoke/MethodHandle" ∧ y.cls ≠ "java/lang/invoke/VarHandle") {a : Addr} (E : Exa Z h a C) (ct : Ct l z bytes maxL ret rm Z (.ref a :: argsL).toArray h Q') (eT : T.heap = h) (hsz : Ls.size = c.maxLocals) (hlen : ∀ sig, parseMethodDescriptor y.desc = some sig → argsL.length = sig.parameters.length) (hst : st = argsL.reverse ++ .ref a :: rest) (hW : (rest.map fun v => v.category).sum = W)
    (hd : decode c.code pc = .ok (.invokevirtual index, 3)) (hf : rm.frames + 1 ≤ R.frames) (hl : W + (maxL + 11) + rm.locals ≤ R.locals) (hc : cells + rm.cells ≤ R.cells) (hs : slots + rm.slots ≤ R.slots)
    (k : ∀ v T' h' L, Stand p l e R s m args below meth c T' (locs ++ L) (cells + rm.cells) (slots + rm.slots) → T'.heap = h' → Q' v h' L → Go p e below P T' (mkF m (pc + 3) Ls (v.toList ++ rest))) : Go p e below P T (mkF m pc Ls st) := by
  obtain ⟨cq, kq, qa, qb, qc⟩ := isOf hZ eT E
  obtain ⟨v, _, ⟨T', L, k', n'⟩, -, X', ⟨Lc, hQ, hl', hk', hn'⟩, st'⟩ := X.virtualBack hx (y := y) (z := z) hown (mvT hZ w1) (mvT hZ w2) nf (mvT hZ w5) (mvT hZ w6) hy (backOf (W := W) (ct []) hZ w4 w3 hf hl) qa qc (g := mkF m pc Ls st) rfl hsz (Steps.refl _) (argsL := argsL) (rest := rest) hlen hst (by subst hW; show 2 * 0 + _ ≤ _; omega) hd (fun _ _ => ⟨rfl, eT, hc, hs⟩)
  dsimp only [Pt.U, Pt.locs, Pt.cells, Pt.slots] at X' hl' hk' hn' st' hQ
  subst hl' hk' hn'
  exact Go.by (fun _ kk => st'.trans kk) (k v T' _ Lc X' rfl hQ)
theorem Go.callVU (X : Stand p l e R s m args below meth c T locs cells slots) (hx : p.tables.exec = Jvm.exec) (hZ : Z.Warmed39 s.vm) (hown : s.vm.findClass own = some m.cls) {C owner : String} {z : MethodName} (w1 : (Jvm.Cond.methodLink own index y).before a0 Z = true) (ws : (Jvm.Cond.sameMethod y.cls owner y.name y.desc).before a0 Z = true) (w2 : (Jvm.Cond.declares ⟨owner, y.name, y.desc⟩).before a0 Z = true) (ho : owner ≠ "java/lang/invoke/MethodHandle" ∧ owner ≠ "java/lang/invoke/VarHandle") (w5 : (Jvm.Cond.selects C y z).before a0 Z = true) (w6 : (Jvm.Cond.instanceMethod z).before a0 Z = true) (w3 : (Jvm.Cond.initialized z.cls).before a0 Z = true) (w4 : (Jvm.Cond.code z bytes maxL ret).before a0 Z = true)
    {a : Addr} (E : Exa Z h a C) (ct : Ct l z bytes maxL ret rm Z (.ref a :: argsL).toArray h Q') (eT : T.heap = h) (hsz : Ls.size = c.maxLocals) (hlen : ∀ sig, parseMethodDescriptor y.desc = some sig → argsL.length = sig.parameters.length) (hst : st = argsL.reverse ++ .ref a :: rest) (hW : (rest.map fun v => v.category).sum = W)
    (hd : decode c.code pc = .ok (.invokevirtual index, 3)) (hf : rm.frames + 1 ≤ R.frames) (hl : W + (maxL + 11) + rm.locals ≤ R.locals) (hc : cells + rm.cells ≤ R.cells) (hs : slots + rm.slots ≤ R.slots)
    (k : ∀ v T' h' L, Stand p l e R s m args below meth c T' (locs ++ L) (cells + rm.cells) (slots + rm.slots) → T'.heap = h' → Q' v h' L → Go p e below P T' (mkF m (pc + 3) Ls (v.toList ++ rest))) : Go p e below P T (mkF m pc Ls st) := by
  obtain ⟨cq, kq, qa, qb, qc⟩ := isOf hZ eT E
  obtain ⟨v, _, ⟨T', L, k', n'⟩, -, X', ⟨Lc, hQ, hl', hk', hn'⟩, st'⟩ := X.virtualBackUp hx (x := y) (y := z) (owner := owner) hown (mvT hZ w1) (mvT hZ ws) (mvT hZ w2) ho (mvT hZ w5) (mvT hZ w6) (backOf (W := W) (ct []) hZ w4 w3 hf hl) qa qc (g := mkF m pc Ls st) rfl hsz (Steps.refl _) (argsL := argsL) (rest := rest) hlen hst (by subst hW; show 2 * 0 + _ ≤ _; omega) hd (fun _ _ => ⟨rfl, eT, hc, hs⟩)
  dsimp only [Pt.U, Pt.locs, Pt.cells, Pt.slots] at X' hl' hk' hn' st' hQ
  subst hl' hk' hn'
  exact Go.by (fun _ kk => st'.trans kk) (k v T' _ Lc X' rfl hQ)
end Call
theorem eqI_v {args : Array Value} {first s : State} {o : Option Outcome} {idx : List Nat} {t : Term} {n : Int32} (h : (Jvm.Cond.eq t (.int n)).value args first o s idx = some true) : t.eval args first o idx s = some (.int n) := by
  simp only [Cond.value, Term.eval] at h
  cases ht : t.eval args first o idx s with
  | none => simp [ht] at h
  | some x => cases x <;> simp [ht] at h ⊢; exact h
theorem nsRoot {O K : String} {n : Nat} (w : (Jvm.Cond.noSuperclass O).before a0 Z = true) (wk : (Jvm.Cond.instantiable K n).before a0 Z = true) (hn : O ≠ K) : NS Z O K := by
  obtain ⟨c, k, h1, h2, h3, -, -⟩ := Cond.noSuperclass_spec w
  obtain ⟨t, kt, g1, -⟩ := Cond.instantiable_spec wk
  have ne := ids_ne h1 g1 hn
  refine ⟨c, t, h1, g1, fun fuel => ?_⟩
  cases fuel with
  | zero => rfl
  | succ f => simp [Vm.isSubclassAux, ne, h2, h3]
theorem nsNo {C S K : String} {n : Nat} (w : (Jvm.Cond.superclass C S).before a0 Z = true) (wk : (Jvm.Cond.instantiable K n).before a0 Z = true) (ns : NS Z C K) (hn : C ≠ K) : ∃ c t, Z.vm.findClass C = some c ∧ Z.vm.findClass K = some t ∧ Z.vm.assignable c t = false := by
  obtain ⟨c, t, h0, g0, n3⟩ := ns
  obtain ⟨p, k, kp, h1, h2, h3, h4, h5, -, h7⟩ := Cond.superclass_spec h0 w
  obtain ⟨t', k', g1, g2, g3, g4, -⟩ := Cond.instantiable_spec wk
  cases g0.symm.trans g1
  have ne := ids_ne h0 g0 hn
  have g5 : k'.isInterface = false := by cases hq : k'.isInterface <;> simp [hq] at g4 ⊢
  refine ⟨c, t, h0, g0, ?_⟩
  show Z.vm.assignableAux (255 + 1) c t = false
  simp [Vm.assignableAux, ne, h2, g2, h5, g3, g5, Vm.isSubclass, n3]
theorem lenI_v {args : Array Value} {first s : State} {o : Option Outcome} {idx : List Nat} {t : Term} {a : Addr} {cl : Cell} {n : Int32} (h : (Term.length t).eval args first o idx s = some (.int n)) (ht : t.eval args first o idx s = some (.ref a)) (ha : s.arrayAt? a = some cl) : cl.slots.size < 2 ^ 31 ∧ cl.slots.size.toInt32 = n := by
  simp [Term.eval, ht, ha] at h; exact h
theorem size_le {cl : Cell} {n : Int32} {k : Nat} (q : cl.slots.size < 2 ^ 31 ∧ cl.slots.size.toInt32 = n) (hn : n.toInt = k) : cl.slots.size = k := by
  have := len_toInt q.1; rw [q.2, hn] at this; exact (Int.ofNat.inj this).symm
theorem eqR_v {args : Array Value} {first s : State} {o : Option Outcome} {idx : List Nat} {t u : Term} {w : Addr} (hu : u.eval args first o idx s = some (.ref w)) (h : (Jvm.Cond.eq t u).value args first o s idx = some true) : t.eval args first o idx s = some (.ref w) := by
  simp only [Cond.value, hu] at h
  cases ht : t.eval args first o idx s with
  | none => simp [ht] at h
  | some x => cases x <;> simp [ht] at h ⊢; exact h
theorem Old.le {n0 : Nat} (O : Old Z n0 h) : n0 ≤ h.size := O.1 ▸ O.2.1
end K
end Jvm.OwnKit
namespace Jvm.Pilot.@@N@@
open Jvm Jvm.ClassFile Sem Op Lib Jvm.Free Jvm.Stand Jvm.LawKit Jvm.RoadKit Jvm.OwnKit Bundle Jvm.Pilot.@@N@@.Jvm.D
theorem own_none {c : Int32} (h0 : ¬ (0 : Int32) = c) (h1 : ¬ (1 : Int32) = c) (h2 : ¬ (2 : Int32) = c) (h3 : ¬ (3 : Int32) = c) (h4 : ¬ (4 : Int32) = c) (h5 : ¬ (5 : Int32) = c) (h6 : ¬ (6 : Int32) = c) (h7 : ¬ (7 : Int32) = c) (h8 : ¬ (8 : Int32) = c) (h9 : ¬ (9 : Int32) = c) (h10 : ¬ (10 : Int32) = c) (h11 : ¬ (11 : Int32) = c) (h12 : ¬ (12 : Int32) = c) (h13 : ¬ (13 : Int32) = c) (h14 : ¬ (14 : Int32) = c) (h15 : ¬ (15 : Int32) = c) : c < 0 ∨ (15 : Int32) < c := by
  have q0 : c.toInt ≠ 0 := fun q => h0 (Int32.toInt_inj.mp (q.symm ▸ rfl))
  have q1 : c.toInt ≠ 1 := fun q => h1 (Int32.toInt_inj.mp (q.symm ▸ rfl))
  have q2 : c.toInt ≠ 2 := fun q => h2 (Int32.toInt_inj.mp (q.symm ▸ rfl))
  have q3 : c.toInt ≠ 3 := fun q => h3 (Int32.toInt_inj.mp (q.symm ▸ rfl))
  have q4 : c.toInt ≠ 4 := fun q => h4 (Int32.toInt_inj.mp (q.symm ▸ rfl))
  have q5 : c.toInt ≠ 5 := fun q => h5 (Int32.toInt_inj.mp (q.symm ▸ rfl))
  have q6 : c.toInt ≠ 6 := fun q => h6 (Int32.toInt_inj.mp (q.symm ▸ rfl))
  have q7 : c.toInt ≠ 7 := fun q => h7 (Int32.toInt_inj.mp (q.symm ▸ rfl))
  have q8 : c.toInt ≠ 8 := fun q => h8 (Int32.toInt_inj.mp (q.symm ▸ rfl))
  have q9 : c.toInt ≠ 9 := fun q => h9 (Int32.toInt_inj.mp (q.symm ▸ rfl))
  have q10 : c.toInt ≠ 10 := fun q => h10 (Int32.toInt_inj.mp (q.symm ▸ rfl))
  have q11 : c.toInt ≠ 11 := fun q => h11 (Int32.toInt_inj.mp (q.symm ▸ rfl))
  have q12 : c.toInt ≠ 12 := fun q => h12 (Int32.toInt_inj.mp (q.symm ▸ rfl))
  have q13 : c.toInt ≠ 13 := fun q => h13 (Int32.toInt_inj.mp (q.symm ▸ rfl))
  have q14 : c.toInt ≠ 14 := fun q => h14 (Int32.toInt_inj.mp (q.symm ▸ rfl))
  have q15 : c.toInt ≠ 15 := fun q => h15 (Int32.toInt_inj.mp (q.symm ▸ rfl))
  have e0 : (0 : Int32).toInt = 0 := rfl
  have e15 : (15 : Int32).toInt = 15 := rfl
  rw [Int32.lt_iff_toInt_lt, Int32.lt_iff_toInt_lt]; omega
theorem own_nar (x : Int32) : narrow .short (.int x.toInt16.toInt32) = .int x.toInt16.toInt32 := by
  simp [narrow]
theorem d_p16_m1_0 : decode prog_16_method_1_code 0 = .ok (.getstatic 52, 3) := by decide +kernel
theorem d_p16_m1_3 : decode prog_16_method_1_code 3 = .ok (.invokevirtual 56, 3) := by decide +kernel
theorem d_p16_m1_6 : decode prog_16_method_1_code 6 = .ok (.checkcast 57, 3) := by decide +kernel
theorem d_p16_m1_9 : decode prog_16_method_1_code 9 = .ok (.areturn, 1) := by decide +kernel
theorem pn_ErrorKind_184 : plainName "com/example/ferrule/ferrule/ErrorKind" = true := by first | (simp [plainName, overriddenIn]; done) | decide +kernel
theorem pd____Lcom_example_ferrule_ferrule_ErrorKin_1092 : parseMethodDescriptor "()[Lcom/example/ferrule/ferrule/ErrorKind;" = some ⟨[], some (.array (.object "com/example/ferrule/ferrule/ErrorKind"))⟩ := by decide +kernel
theorem d_p16_m5_0 : decode prog_16_method_5_code 0 = .ok (.invokestatic 79, 3) := by decide +kernel
theorem d_p16_m5_3 : decode prog_16_method_5_code 3 = .ok (.astore_n 1, 1) := by decide +kernel
theorem d_p16_m5_4 : decode prog_16_method_5_code 4 = .ok (.aload_n 1, 1) := by decide +kernel
theorem d_p16_m5_5 : decode prog_16_method_5_code 5 = .ok (.arraylength, 1) := by decide +kernel
theorem d_p16_m5_6 : decode prog_16_method_5_code 6 = .ok (.istore_n 2, 1) := by decide +kernel
theorem d_p16_m5_7 : decode prog_16_method_5_code 7 = .ok (.iconst 0, 1) := by decide +kernel
theorem d_p16_m5_8 : decode prog_16_method_5_code 8 = .ok (.istore_n 3, 1) := by decide +kernel
theorem d_p16_m5_9 : decode prog_16_method_5_code 9 = .ok (.iload_n 3, 1) := by decide +kernel
theorem d_p16_m5_10 : decode prog_16_method_5_code 10 = .ok (.iload_n 2, 1) := by decide +kernel
theorem d_p16_m5_11 : decode prog_16_method_5_code 11 = .ok (.if_icmp .ge 26, 3) := by decide +kernel
theorem d_p16_m5_14 : decode prog_16_method_5_code 14 = .ok (.aload_n 1, 1) := by decide +kernel
theorem d_p16_m5_15 : decode prog_16_method_5_code 15 = .ok (.iload_n 3, 1) := by decide +kernel
theorem d_p16_m5_16 : decode prog_16_method_5_code 16 = .ok (.aaload, 1) := by decide +kernel
theorem d_p16_m5_17 : decode prog_16_method_5_code 17 = .ok (.astore 4, 2) := by decide +kernel
theorem d_p16_m5_19 : decode prog_16_method_5_code 19 = .ok (.aload 4, 2) := by decide +kernel
theorem d_p16_m5_21 : decode prog_16_method_5_code 21 = .ok (.getfield 71, 3) := by decide +kernel
theorem d_p16_m5_24 : decode prog_16_method_5_code 24 = .ok (.iload_n 0, 1) := by decide +kernel
theorem d_p16_m5_25 : decode prog_16_method_5_code 25 = .ok (.if_icmp .ne 6, 3) := by decide +kernel
theorem d_p16_m5_28 : decode prog_16_method_5_code 28 = .ok (.aload 4, 2) := by decide +kernel
theorem d_p16_m5_30 : decode prog_16_method_5_code 30 = .ok (.areturn, 1) := by decide +kernel
theorem d_p16_m5_31 : decode prog_16_method_5_code 31 = .ok (.iinc 3 1, 3) := by decide +kernel
theorem d_p16_m5_34 : decode prog_16_method_5_code 34 = .ok (.goto (-25), 3) := by decide +kernel
theorem d_p16_m5_37 : decode prog_16_method_5_code 37 = .ok (.aconst_null, 1) := by decide +kernel
theorem d_p16_m5_38 : decode prog_16_method_5_code 38 = .ok (.areturn, 1) := by decide +kernel
theorem d_p16_m4_0 : decode prog_16_method_4_code 0 = .ok (.aload_n 0, 1) := by decide +kernel
theorem d_p16_m4_1 : decode prog_16_method_4_code 1 = .ok (.getfield 71, 3) := by decide +kernel
theorem d_p16_m4_4 : decode prog_16_method_4_code 4 = .ok (.ireturn, 1) := by decide +kernel
theorem d_m2_0 : decode method_2_code 0 = .ok (.iload_n 0, 1) := by decide +kernel
theorem pd__S_Lcom_example_ferrule_ferrule_ErrorKin_7342 : parseMethodDescriptor "(S)Lcom/example/ferrule/ferrule/ErrorKind;" = some ⟨[.short], some (.object "com/example/ferrule/ferrule/ErrorKind")⟩ := by decide +kernel
theorem d_m2_1 : decode method_2_code 1 = .ok (.invokestatic 7, 3) := by decide +kernel
theorem d_m2_4 : decode method_2_code 4 = .ok (.astore_n 1, 1) := by decide +kernel
theorem d_m2_5 : decode method_2_code 5 = .ok (.iload_n 0, 1) := by decide +kernel
theorem d_m2_6 : decode method_2_code 6 = .ok (.ifCond .lt 27, 3) := by decide +kernel
theorem d_m2_33 : decode method_2_code 33 = .ok (.aload_n 1, 1) := by decide +kernel
theorem d_m2_34 : decode method_2_code 34 = .ok (.ifnonnull 7, 3) := by decide +kernel
theorem d_m2_37 : decode method_2_code 37 = .ok (.iconst 1, 1) := by decide +kernel
theorem d_m2_38 : decode method_2_code 38 = .ok (.goto 4, 3) := by decide +kernel
theorem d_m2_42 : decode method_2_code 42 = .ok (.ireturn, 1) := by decide +kernel
theorem d_m2_9 : decode method_2_code 9 = .ok (.iload_n 0, 1) := by decide +kernel
theorem d_m2_10 : decode method_2_code 10 = .ok (.bipush 15, 2) := by decide +kernel
theorem d_m2_12 : decode method_2_code 12 = .ok (.if_icmp .gt 21, 3) := by decide +kernel
theorem d_m2_15 : decode method_2_code 15 = .ok (.aload_n 1, 1) := by decide +kernel
theorem d_m2_16 : decode method_2_code 16 = .ok (.ifnull 15, 3) := by decide +kernel
theorem d_m2_19 : decode method_2_code 19 = .ok (.aload_n 1, 1) := by decide +kernel
theorem pd___S_8331 : parseMethodDescriptor "()S" = some ⟨[], some .short⟩ := by decide +kernel
theorem d_m2_20 : decode method_2_code 20 = .ok (.invokevirtual 13, 3) := by decide +kernel
theorem d_m2_23 : decode method_2_code 23 = .ok (.iload_n 0, 1) := by decide +kernel
theorem d_m2_24 : decode method_2_code 24 = .ok (.if_icmp .ne 7, 3) := by decide +kernel
theorem d_m2_27 : decode method_2_code 27 = .ok (.iconst 1, 1) := by decide +kernel
theorem d_m2_28 : decode method_2_code 28 = .ok (.goto 4, 3) := by decide +kernel
theorem d_m2_32 : decode method_2_code 32 = .ok (.ireturn, 1) := by decide +kernel
theorem pn_ErrorKindForCodePinLaw_80 : plainName "com/example/ferrule/ferrule/ErrorKindForCodePinLaw" = true := by first | (simp [plainName, overriddenIn]; done) | decide +kernel
theorem pd__S_Z_7390 : parseMethodDescriptor "(S)Z" = some ⟨[.short], some .boolean⟩ := by decide +kernel
set_option maxRecDepth 65536 in
set_option maxHeartbeats 40000000 in
theorem ct_values (l : Launch) (Z : State) (a0 : Array Value) (hw : ∀ d ∈ tables_1, d.before a0 Z = true) (w_OTHER : Addr) (w_CONSTRAINT : Addr) (w_NUMERIC : Addr) (w_PROGRAM : Addr) (w_STORAGE : Addr) (w_TASKING : Addr) (w_STATUS : Addr) (w_MODE : Addr) (w_NAME : Addr) (w_USE : Addr) (w_DEVICE : Addr) (w_END : Addr) (w_DATA : Addr) (w_LAYOUT : Addr) (w_SERVER_DEFINED : Addr) (w_USER_NAME_OR_PASSWORD : Addr) (w_V : Addr) (cl_V : Cell) (E_OTHER : Exa Z Z.heap w_OTHER "com/example/ferrule/ferrule/ErrorKind") (E_CONSTRAINT : Exa Z Z.heap w_CONSTRAINT "com/example/ferrule/ferrule/ErrorKind") (E_NUMERIC : Exa Z Z.heap w_NUMERIC "com/example/ferrule/ferrule/ErrorKind") (E_PROGRAM : Exa Z Z.heap w_PROGRAM "com/example/ferrule/ferrule/ErrorKind") (E_STORAGE : Exa Z Z.heap w_STORAGE "com/example/ferrule/ferrule/ErrorKind") (E_TASKING : Exa Z Z.heap w_TASKING "com/example/ferrule/ferrule/ErrorKind") (E_STATUS : Exa Z Z.heap w_STATUS "com/example/ferrule/ferrule/ErrorKind") (E_MODE : Exa Z Z.heap w_MODE "com/example/ferrule/ferrule/ErrorKind") (E_NAME : Exa Z Z.heap w_NAME "com/example/ferrule/ferrule/ErrorKind") (E_USE : Exa Z Z.heap w_USE "com/example/ferrule/ferrule/ErrorKind") (E_DEVICE : Exa Z Z.heap w_DEVICE "com/example/ferrule/ferrule/ErrorKind") (E_END : Exa Z Z.heap w_END "com/example/ferrule/ferrule/ErrorKind") (E_DATA : Exa Z Z.heap w_DATA "com/example/ferrule/ferrule/ErrorKind") (E_LAYOUT : Exa Z Z.heap w_LAYOUT "com/example/ferrule/ferrule/ErrorKind") (E_SERVER_DEFINED : Exa Z Z.heap w_SERVER_DEFINED "com/example/ferrule/ferrule/ErrorKind") (E_USER_NAME_OR_PASSWORD : Exa Z Z.heap w_USER_NAME_OR_PASSWORD "com/example/ferrule/ferrule/ErrorKind") (F_OTHER : Fld Z Z.heap w_OTHER "com/example/ferrule/ferrule/ErrorKind" "code" "S" (.int (0 : Int32))) (F_CONSTRAINT : Fld Z Z.heap w_CONSTRAINT "com/example/ferrule/ferrule/ErrorKind" "code" "S" (.int (1 : Int32))) (F_NUMERIC : Fld Z Z.heap w_NUMERIC "com/example/ferrule/ferrule/ErrorKind" "code" "S" (.int (2 : Int32))) (F_PROGRAM : Fld Z Z.heap w_PROGRAM "com/example/ferrule/ferrule/ErrorKind" "code" "S" (.int (3 : Int32))) (F_STORAGE : Fld Z Z.heap w_STORAGE "com/example/ferrule/ferrule/ErrorKind" "code" "S" (.int (4 : Int32))) (F_TASKING : Fld Z Z.heap w_TASKING "com/example/ferrule/ferrule/ErrorKind" "code" "S" (.int (5 : Int32))) (F_STATUS : Fld Z Z.heap w_STATUS "com/example/ferrule/ferrule/ErrorKind" "code" "S" (.int (6 : Int32))) (F_MODE : Fld Z Z.heap w_MODE "com/example/ferrule/ferrule/ErrorKind" "code" "S" (.int (7 : Int32))) (F_NAME : Fld Z Z.heap w_NAME "com/example/ferrule/ferrule/ErrorKind" "code" "S" (.int (8 : Int32))) (F_USE : Fld Z Z.heap w_USE "com/example/ferrule/ferrule/ErrorKind" "code" "S" (.int (9 : Int32))) (F_DEVICE : Fld Z Z.heap w_DEVICE "com/example/ferrule/ferrule/ErrorKind" "code" "S" (.int (10 : Int32))) (F_END : Fld Z Z.heap w_END "com/example/ferrule/ferrule/ErrorKind" "code" "S" (.int (11 : Int32))) (F_DATA : Fld Z Z.heap w_DATA "com/example/ferrule/ferrule/ErrorKind" "code" "S" (.int (12 : Int32))) (F_LAYOUT : Fld Z Z.heap w_LAYOUT "com/example/ferrule/ferrule/ErrorKind" "code" "S" (.int (13 : Int32))) (F_SERVER_DEFINED : Fld Z Z.heap w_SERVER_DEFINED "com/example/ferrule/ferrule/ErrorKind" "code" "S" (.int (14 : Int32))) (F_USER_NAME_OR_PASSWORD : Fld Z Z.heap w_USER_NAME_OR_PASSWORD "com/example/ferrule/ferrule/ErrorKind" "code" "S" (.int (15 : Int32))) (S_V : Sta Z Z.heap "com/example/ferrule/ferrule/ErrorKind" "$VALUES" "[Lcom/example/ferrule/ferrule/ErrorKind;" (.ref w_V)) (A_V : Arr Z Z.heap w_V cl_V (.object "com/example/ferrule/ferrule/ErrorKind")) (E_V : Exa Z Z.heap w_V "[Lcom/example/ferrule/ferrule/ErrorKind;") (Q_V : FitC Z cl_V) (z_V : cl_V.slots.size = 16) (t_OTHER : cl_V.slots[0]? = some (.ref w_OTHER)) (t_CONSTRAINT : cl_V.slots[1]? = some (.ref w_CONSTRAINT)) (t_NUMERIC : cl_V.slots[2]? = some (.ref w_NUMERIC)) (t_PROGRAM : cl_V.slots[3]? = some (.ref w_PROGRAM)) (t_STORAGE : cl_V.slots[4]? = some (.ref w_STORAGE)) (t_TASKING : cl_V.slots[5]? = some (.ref w_TASKING)) (t_STATUS : cl_V.slots[6]? = some (.ref w_STATUS)) (t_MODE : cl_V.slots[7]? = some (.ref w_MODE)) (t_NAME : cl_V.slots[8]? = some (.ref w_NAME)) (t_USE : cl_V.slots[9]? = some (.ref w_USE)) (t_DEVICE : cl_V.slots[10]? = some (.ref w_DEVICE)) (t_END : cl_V.slots[11]? = some (.ref w_END)) (t_DATA : cl_V.slots[12]? = some (.ref w_DATA)) (t_LAYOUT : cl_V.slots[13]? = some (.ref w_LAYOUT)) (t_SERVER_DEFINED : cl_V.slots[14]? = some (.ref w_SERVER_DEFINED)) (t_USER_NAME_OR_PASSWORD : cl_V.slots[15]? = some (.ref w_USER_NAME_OR_PASSWORD)) (h0 : Heap) (n0 : Nat) (O : Old Z n0 h0)  :
    Ct l (⟨"com/example/ferrule/ferrule/ErrorKind", "values", "()[Lcom/example/ferrule/ferrule/ErrorKind;"⟩ : MethodName) prog_16_method_1_code 0 (some (.array (.object "com/example/ferrule/ferrule/ErrorKind"))) ({ frames := 1, cells := 1, slots := 16, locals := 14 } : Room) Z #[] h0 (fun v h L => ∃ b, v = some (.ref b) ∧ Fr n0 L ∧ Keep h0 h [] ∧ Arr Z h b (cloneOf cl_V) (.object "com/example/ferrule/ferrule/ErrorKind")) := by
  refine Ct.of (plainFor_of_name pn_ErrorKind_184) ?_
  intro p e s m below meth c T0 X0 hx hby hml hown hnm hret hlk hZ e0
  have hown : s.vm.findClass "com/example/ferrule/ferrule/ErrorKind" = some m.cls := hown
  have hml : c.maxLocals = 0 := hml
  have N0 := Fr.nil n0
  refine Go.cast (g' := mkF m 0 #[] []) (by first | (simp [entryFrame, mkF, argsToLocals, Value.category]; done) | rfl) ?_
  have K : Keep h0 h0 [] := Keep.refl _ _
  refine Go.getS X0 hx hZ hown (wd hw 11 rfl) Via.refl e0 (S_V.ext O.2) (hb hby d_p16_m1_0) ?_
  intro T1 X1 e1
  show Go p e below _ T1 (mkF m 3 #[] [(.ref w_V)])
  refine Go.cloneA X1 hx hZ hown (wd hw 13 rfl) (wd hw 14 rfl) (wd hw 18 rfl) (wd hw 16 rfl) (wd hw 17 rfl) (wd hw 19 rfl) e1 (A_V.ext O.2) (E_V.ext O.2) Q_V (by rw [hml]; rfl) (hb hby d_p16_m1_3) (by decide) (W := 0) (cap := 16) rfl (by decide) (Nat.le_of_eq z_V) (by decide) (by decide) ?_
  intro T2 h2 b2 X2 e2 E2 g2 A2 B2
  have lb2 := Nat.le_of_eq g2.symm
  have g_b2 : n0 ≤ b2 := Nat.le_trans (OwnKit.Old.le O) lb2
  have sz_b2 : h0.size ≤ b2 := Nat.le_trans K.1 lb2
  replace O := O.ext E2
  replace K := K.ext E2
  show Go p e below _ T2 (mkF m 6 #[] [(.ref b2)])
  refine Go.castY X2 hx hZ hown (wd hw 37 rfl) e2 (Ins.self B2) (hb hby d_p16_m1_6) ?_
  intro T3 X3 e3
  show Go p e below _ T3 (mkF m 9 #[] [(.ref b2)])
  refine Go.retA X3 hx hlk hret rfl rfl (hb hby d_p16_m1_9) (by decide) (by decide) e3 ?_
  exact ⟨_, rfl, N0, K, A2⟩
set_option maxRecDepth 65536 in
set_option maxHeartbeats 40000000 in
theorem ct_forCode (l : Launch) (Z : State) (a0 : Array Value) (hw : ∀ d ∈ tables_1, d.before a0 Z = true) (w_OTHER : Addr) (w_CONSTRAINT : Addr) (w_NUMERIC : Addr) (w_PROGRAM : Addr) (w_STORAGE : Addr) (w_TASKING : Addr) (w_STATUS : Addr) (w_MODE : Addr) (w_NAME : Addr) (w_USE : Addr) (w_DEVICE : Addr) (w_END : Addr) (w_DATA : Addr) (w_LAYOUT : Addr) (w_SERVER_DEFINED : Addr) (w_USER_NAME_OR_PASSWORD : Addr) (w_V : Addr) (cl_V : Cell) (E_OTHER : Exa Z Z.heap w_OTHER "com/example/ferrule/ferrule/ErrorKind") (E_CONSTRAINT : Exa Z Z.heap w_CONSTRAINT "com/example/ferrule/ferrule/ErrorKind") (E_NUMERIC : Exa Z Z.heap w_NUMERIC "com/example/ferrule/ferrule/ErrorKind") (E_PROGRAM : Exa Z Z.heap w_PROGRAM "com/example/ferrule/ferrule/ErrorKind") (E_STORAGE : Exa Z Z.heap w_STORAGE "com/example/ferrule/ferrule/ErrorKind") (E_TASKING : Exa Z Z.heap w_TASKING "com/example/ferrule/ferrule/ErrorKind") (E_STATUS : Exa Z Z.heap w_STATUS "com/example/ferrule/ferrule/ErrorKind") (E_MODE : Exa Z Z.heap w_MODE "com/example/ferrule/ferrule/ErrorKind") (E_NAME : Exa Z Z.heap w_NAME "com/example/ferrule/ferrule/ErrorKind") (E_USE : Exa Z Z.heap w_USE "com/example/ferrule/ferrule/ErrorKind") (E_DEVICE : Exa Z Z.heap w_DEVICE "com/example/ferrule/ferrule/ErrorKind") (E_END : Exa Z Z.heap w_END "com/example/ferrule/ferrule/ErrorKind") (E_DATA : Exa Z Z.heap w_DATA "com/example/ferrule/ferrule/ErrorKind") (E_LAYOUT : Exa Z Z.heap w_LAYOUT "com/example/ferrule/ferrule/ErrorKind") (E_SERVER_DEFINED : Exa Z Z.heap w_SERVER_DEFINED "com/example/ferrule/ferrule/ErrorKind") (E_USER_NAME_OR_PASSWORD : Exa Z Z.heap w_USER_NAME_OR_PASSWORD "com/example/ferrule/ferrule/ErrorKind") (F_OTHER : Fld Z Z.heap w_OTHER "com/example/ferrule/ferrule/ErrorKind" "code" "S" (.int (0 : Int32))) (F_CONSTRAINT : Fld Z Z.heap w_CONSTRAINT "com/example/ferrule/ferrule/ErrorKind" "code" "S" (.int (1 : Int32))) (F_NUMERIC : Fld Z Z.heap w_NUMERIC "com/example/ferrule/ferrule/ErrorKind" "code" "S" (.int (2 : Int32))) (F_PROGRAM : Fld Z Z.heap w_PROGRAM "com/example/ferrule/ferrule/ErrorKind" "code" "S" (.int (3 : Int32))) (F_STORAGE : Fld Z Z.heap w_STORAGE "com/example/ferrule/ferrule/ErrorKind" "code" "S" (.int (4 : Int32))) (F_TASKING : Fld Z Z.heap w_TASKING "com/example/ferrule/ferrule/ErrorKind" "code" "S" (.int (5 : Int32))) (F_STATUS : Fld Z Z.heap w_STATUS "com/example/ferrule/ferrule/ErrorKind" "code" "S" (.int (6 : Int32))) (F_MODE : Fld Z Z.heap w_MODE "com/example/ferrule/ferrule/ErrorKind" "code" "S" (.int (7 : Int32))) (F_NAME : Fld Z Z.heap w_NAME "com/example/ferrule/ferrule/ErrorKind" "code" "S" (.int (8 : Int32))) (F_USE : Fld Z Z.heap w_USE "com/example/ferrule/ferrule/ErrorKind" "code" "S" (.int (9 : Int32))) (F_DEVICE : Fld Z Z.heap w_DEVICE "com/example/ferrule/ferrule/ErrorKind" "code" "S" (.int (10 : Int32))) (F_END : Fld Z Z.heap w_END "com/example/ferrule/ferrule/ErrorKind" "code" "S" (.int (11 : Int32))) (F_DATA : Fld Z Z.heap w_DATA "com/example/ferrule/ferrule/ErrorKind" "code" "S" (.int (12 : Int32))) (F_LAYOUT : Fld Z Z.heap w_LAYOUT "com/example/ferrule/ferrule/ErrorKind" "code" "S" (.int (13 : Int32))) (F_SERVER_DEFINED : Fld Z Z.heap w_SERVER_DEFINED "com/example/ferrule/ferrule/ErrorKind" "code" "S" (.int (14 : Int32))) (F_USER_NAME_OR_PASSWORD : Fld Z Z.heap w_USER_NAME_OR_PASSWORD "com/example/ferrule/ferrule/ErrorKind" "code" "S" (.int (15 : Int32))) (S_V : Sta Z Z.heap "com/example/ferrule/ferrule/ErrorKind" "$VALUES" "[Lcom/example/ferrule/ferrule/ErrorKind;" (.ref w_V)) (A_V : Arr Z Z.heap w_V cl_V (.object "com/example/ferrule/ferrule/ErrorKind")) (E_V : Exa Z Z.heap w_V "[Lcom/example/ferrule/ferrule/ErrorKind;") (Q_V : FitC Z cl_V) (z_V : cl_V.slots.size = 16) (t_OTHER : cl_V.slots[0]? = some (.ref w_OTHER)) (t_CONSTRAINT : cl_V.slots[1]? = some (.ref w_CONSTRAINT)) (t_NUMERIC : cl_V.slots[2]? = some (.ref w_NUMERIC)) (t_PROGRAM : cl_V.slots[3]? = some (.ref w_PROGRAM)) (t_STORAGE : cl_V.slots[4]? = some (.ref w_STORAGE)) (t_TASKING : cl_V.slots[5]? = some (.ref w_TASKING)) (t_STATUS : cl_V.slots[6]? = some (.ref w_STATUS)) (t_MODE : cl_V.slots[7]? = some (.ref w_MODE)) (t_NAME : cl_V.slots[8]? = some (.ref w_NAME)) (t_USE : cl_V.slots[9]? = some (.ref w_USE)) (t_DEVICE : cl_V.slots[10]? = some (.ref w_DEVICE)) (t_END : cl_V.slots[11]? = some (.ref w_END)) (t_DATA : cl_V.slots[12]? = some (.ref w_DATA)) (t_LAYOUT : cl_V.slots[13]? = some (.ref w_LAYOUT)) (t_SERVER_DEFINED : cl_V.slots[14]? = some (.ref w_SERVER_DEFINED)) (t_USER_NAME_OR_PASSWORD : cl_V.slots[15]? = some (.ref w_USER_NAME_OR_PASSWORD)) (c1 : Int32) (h0 : Heap) (n0 : Nat) (O : Old Z n0 h0)  :
    Ct l (⟨"com/example/ferrule/ferrule/ErrorKind", "forCode", "(S)Lcom/example/ferrule/ferrule/ErrorKind;"⟩ : MethodName) prog_16_method_5_code 5 (some (.object "com/example/ferrule/ferrule/ErrorKind")) ({ frames := 2, cells := 1, slots := 16, locals := 25 } : Room) Z #[(.int c1)] h0 (fun v h L => ∃ r, v = some r ∧ Fr n0 L ∧ Keep h0 h [] ∧ ((r = .null ∧ (c1 < 0 ∨ 15 < c1)) ∨ ∃ a, r = .ref a ∧ ¬ c1 < 0 ∧ ¬ 15 < c1 ∧ Exa Z Z.heap a "com/example/ferrule/ferrule/ErrorKind" ∧ Fld Z Z.heap a "com/example/ferrule/ferrule/ErrorKind" "code" "S" (.int c1))) := by
  refine Ct.of (plainFor_of_name pn_ErrorKind_184) ?_
  intro p e s m below meth c T0 X0 hx hby hml hown hnm hret hlk hZ e0
  have hown : s.vm.findClass "com/example/ferrule/ferrule/ErrorKind" = some m.cls := hown
  have hml : c.maxLocals = 5 := hml
  have N0 := Fr.nil n0
  refine Go.cast (g' := mkF m 0 #[.val (.int c1), .unset, .unset, .unset, .unset] []) (by first | (simp [entryFrame, mkF, argsToLocals, Value.category]; done) | rfl) ?_
  have K : Keep h0 h0 [] := Keep.refl _ _
  refine Go.callS X0 hx hZ (W := 0) (argsL := []) (rest := []) hown (wd hw 8 rfl) (wd hw 9 rfl) (wd hw 6 rfl) (wd hw 10 rfl) (by decide) (ct_values l Z a0 hw w_OTHER w_CONSTRAINT w_NUMERIC w_PROGRAM w_STORAGE w_TASKING w_STATUS w_MODE w_NAME w_USE w_DEVICE w_END w_DATA w_LAYOUT w_SERVER_DEFINED w_USER_NAME_OR_PASSWORD w_V cl_V E_OTHER E_CONSTRAINT E_NUMERIC E_PROGRAM E_STORAGE E_TASKING E_STATUS E_MODE E_NAME E_USE E_DEVICE E_END E_DATA E_LAYOUT E_SERVER_DEFINED E_USER_NAME_OR_PASSWORD F_OTHER F_CONSTRAINT F_NUMERIC F_PROGRAM F_STORAGE F_TASKING F_STATUS F_MODE F_NAME F_USE F_DEVICE F_END F_DATA F_LAYOUT F_SERVER_DEFINED F_USER_NAME_OR_PASSWORD S_V A_V E_V Q_V z_V t_OTHER t_CONSTRAINT t_NUMERIC t_PROGRAM t_STORAGE t_TASKING t_STATUS t_MODE t_NAME t_USE t_DEVICE t_END t_DATA t_LAYOUT t_SERVER_DEFINED t_USER_NAME_OR_PASSWORD  h0 n0 O ) e0 (by rw [hml]; rfl) (lenOf pd____Lcom_example_ferrule_ferrule_ErrorKin_1092 rfl) rfl rfl (hb hby d_p16_m5_0) (by decide) (by decide) (by decide) (by decide) ?_
  intro v1 T1 h1 L1 X1 e1 q1
  obtain ⟨o1, rfl, N1, K1, A_o1⟩ := q1
  replace N1 := Fr.app N0 N1
  replace O := O.keep K1 all0
  replace K := K.trans K1 all0
  show Go p e below _ T1 (mkF m 3 #[.val (.int c1), .unset, .unset, .unset, .unset] [(.ref o1)])
  refine Go.by (T' := T1) (g' := (mkF m 5 #[.val (.int c1), .val (.ref o1), .unset, .unset, .unset] [(.ref o1)])) (fun t k => ?_) ?_
  · show Steps p.tables e below (T1.setTop (mkF m 3 #[.val (.int c1), .unset, .unset, .unset, .unset] [(.ref o1)])) _
    refine XS.astoreN X1.here hx rfl (hb hby d_p16_m5_3) rfl rfl (l' := #[.val (.int c1), .val (.ref o1), .unset, .unset, .unset]) rfl ?_
    show Steps p.tables e below (T1.setTop (mkF m 4 #[.val (.int c1), .val (.ref o1), .unset, .unset, .unset] [])) _
    refine XS.aloadN X1.here hx rfl (hb hby d_p16_m5_4) rfl rfl ?_
    exact k
  refine Go.alen X1 hx hZ e1 A_o1 (z := (16 : Int32)) (by show cl_V.slots.size.toInt32 = _; rw [z_V]; rfl) (hb hby d_p16_m5_5) ?_
  show Go p e below _ T1 (mkF m 6 #[.val (.int c1), .val (.ref o1), .unset, .unset, .unset] [(.int (16 : Int32))])
  refine Go.by (T' := T1) (g' := (mkF m 16 #[.val (.int c1), .val (.ref o1), .val (.int (16 : Int32)), .val (.int (0 : Int32)), .unset] [(.int (0 : Int32)), (.ref o1)])) (fun t k => ?_) ?_
  · show Steps p.tables e below (T1.setTop (mkF m 6 #[.val (.int c1), .val (.ref o1), .unset, .unset, .unset] [(.int (16 : Int32))])) _
    refine XS.istoreN X1.here hx rfl (hb hby d_p16_m5_6) rfl (l' := #[.val (.int c1), .val (.ref o1), .val (.int (16 : Int32)), .unset, .unset]) rfl ?_
    show Steps p.tables e below (T1.setTop (mkF m 7 #[.val (.int c1), .val (.ref o1), .val (.int (16 : Int32)), .unset, .unset] [])) _
    refine XS.iconst X1.here hx rfl (hb hby d_p16_m5_7) ?_
    show Steps p.tables e below (T1.setTop (mkF m 8 #[.val (.int c1), .val (.ref o1), .val (.int (16 : Int32)), .unset, .unset] [(.int (0 : Int32))])) _
    refine XS.istoreN X1.here hx rfl (hb hby d_p16_m5_8) rfl (l' := #[.val (.int c1), .val (.ref o1), .val (.int (16 : Int32)), .val (.int (0 : Int32)), .unset]) rfl ?_
    show Steps p.tables e below (T1.setTop (mkF m 9 #[.val (.int c1), .val (.ref o1), .val (.int (16 : Int32)), .val (.int (0 : Int32)), .unset] [])) _
    refine XS.iloadN X1.here hx rfl (hb hby d_p16_m5_9) rfl ?_
    show Steps p.tables e below (T1.setTop (mkF m 10 #[.val (.int c1), .val (.ref o1), .val (.int (16 : Int32)), .val (.int (0 : Int32)), .unset] [(.int (0 : Int32))])) _
    refine XS.iloadN X1.here hx rfl (hb hby d_p16_m5_10) rfl ?_
    show Steps p.tables e below (T1.setTop (mkF m 11 #[.val (.int c1), .val (.ref o1), .val (.int (16 : Int32)), .val (.int (0 : Int32)), .unset] [(.int (16 : Int32)), (.int (0 : Int32))])) _
    refine XS.icmpNo X1.here hx rfl (hb hby d_p16_m5_11) rfl (tlt (by decide : (0 : Int32) < (16 : Int32))).2.1 ?_
    show Steps p.tables e below (T1.setTop (mkF m 14 #[.val (.int c1), .val (.ref o1), .val (.int (16 : Int32)), .val (.int (0 : Int32)), .unset] [])) _
    refine XS.aloadN X1.here hx rfl (hb hby d_p16_m5_14) rfl rfl ?_
    show Steps p.tables e below (T1.setTop (mkF m 15 #[.val (.int c1), .val (.ref o1), .val (.int (16 : Int32)), .val (.int (0 : Int32)), .unset] [(.ref o1)])) _
    refine XS.iloadN X1.here hx rfl (hb hby d_p16_m5_15) rfl ?_
    exact k
  refine Go.aload X1 hx hZ e1 A_o1 (j := (0 : Int32)) (v := .ref w_OTHER) (by show ¬ (_ ∨ cl_V.slots.size ≤ _); rw [z_V]; decide) (show cl_V.slots[((0 : Int32)).toNatClampNeg]? = _ from t_OTHER) (Or.inr (Or.inr (Or.inl ⟨rfl, rfl⟩))) (hb hby d_p16_m5_16) ?_
  show Go p e below _ T1 (mkF m 17 #[.val (.int c1), .val (.ref o1), .val (.int (16 : Int32)), .val (.int (0 : Int32)), .unset] [(.ref w_OTHER)])
  refine Go.by (T' := T1) (g' := (mkF m 21 #[.val (.int c1), .val (.ref o1), .val (.int (16 : Int32)), .val (.int (0 : Int32)), .val (.ref w_OTHER)] [(.ref w_OTHER)])) (fun t k => ?_) ?_
  · show Steps p.tables e below (T1.setTop (mkF m 17 #[.val (.int c1), .val (.ref o1), .val (.int (16 : Int32)), .val (.int (0 : Int32)), .unset] [(.ref w_OTHER)])) _
    refine XS.astore X1.here hx rfl (hb hby d_p16_m5_17) rfl rfl (l' := #[.val (.int c1), .val (.ref o1), .val (.int (16 : Int32)), .val (.int (0 : Int32)), .val (.ref w_OTHER)]) rfl ?_
    show Steps p.tables e below (T1.setTop (mkF m 19 #[.val (.int c1), .val (.ref o1), .val (.int (16 : Int32)), .val (.int (0 : Int32)), .val (.ref w_OTHER)] [])) _
    refine XS.aload X1.here hx rfl (hb hby d_p16_m5_19) rfl rfl ?_
    exact k
  refine Go.getF X1 hx hZ hown (wd hw 39 rfl) Via.refl e1 (F_OTHER.ext O.2) (hb hby d_p16_m5_21) ?_
  intro T2 X2 e2
  show Go p e below _ T2 (mkF m 24 #[.val (.int c1), .val (.ref o1), .val (.int (16 : Int32)), .val (.int (0 : Int32)), .val (.ref w_OTHER)] [(.int (0 : Int32))])
  refine Go.by (T' := T2) (g' := (mkF m 25 #[.val (.int c1), .val (.ref o1), .val (.int (16 : Int32)), .val (.int (0 : Int32)), .val (.ref w_OTHER)] [(.int c1), (.int (0 : Int32))])) (fun t k => ?_) ?_
  · show Steps p.tables e below (T2.setTop (mkF m 24 #[.val (.int c1), .val (.ref o1), .val (.int (16 : Int32)), .val (.int (0 : Int32)), .val (.ref w_OTHER)] [(.int (0 : Int32))])) _
    refine XS.iloadN X2.here hx rfl (hb hby d_p16_m5_24) rfl ?_
    exact k
  by_cases hy3 : (0 : Int32) = c1
  · skip
    refine Go.by (T' := T2) (g' := (mkF m 30 #[.val (.int c1), .val (.ref o1), .val (.int (16 : Int32)), .val (.int (0 : Int32)), .val (.ref w_OTHER)] [(.ref w_OTHER)])) (fun t k => ?_) ?_
    · show Steps p.tables e below (T2.setTop (mkF m 25 #[.val (.int c1), .val (.ref o1), .val (.int (16 : Int32)), .val (.int (0 : Int32)), .val (.ref w_OTHER)] [(.int c1), (.int (0 : Int32))])) _
      refine XS.icmpNo X2.here hx rfl (hb hby d_p16_m5_25) rfl (teq hy3).2 ?_
      show Steps p.tables e below (T2.setTop (mkF m 28 #[.val (.int c1), .val (.ref o1), .val (.int (16 : Int32)), .val (.int (0 : Int32)), .val (.ref w_OTHER)] [])) _
      refine XS.aload X2.here hx rfl (hb hby d_p16_m5_28) rfl rfl ?_
      exact k
    refine Go.retA X2 hx hlk hret rfl rfl (hb hby d_p16_m5_30) (by decide) (by decide) e2 ?_
    exact ⟨_, rfl, N1, K, Or.inr ⟨w_OTHER, rfl, by rw [← hy3]; decide, by rw [← hy3]; decide, E_OTHER, hy3 ▸ F_OTHER⟩⟩
  · skip
    refine Go.by (T' := T2) (g' := (mkF m 16 #[.val (.int c1), .val (.ref o1), .val (.int (16 : Int32)), .val (.int (1 : Int32)), .val (.ref w_OTHER)] [(.int (1 : Int32)), (.ref o1)])) (fun t k => ?_) ?_
    · show Steps p.tables e below (T2.setTop (mkF m 25 #[.val (.int c1), .val (.ref o1), .val (.int (16 : Int32)), .val (.int (0 : Int32)), .val (.ref w_OTHER)] [(.int c1), (.int (0 : Int32))])) _
      refine XS.icmpYes X2.here hx rfl (pc0 := 25) (pc' := 31) rfl (hb hby d_p16_m5_25) rfl (feq hy3).2 (by decide) (by decide) ?_
      show Steps p.tables e below (T2.setTop (mkF m 31 #[.val (.int c1), .val (.ref o1), .val (.int (16 : Int32)), .val (.int (0 : Int32)), .val (.ref w_OTHER)] [])) _
      refine XS.iinc X2.here hx rfl (hb hby d_p16_m5_31) rfl (l' := #[.val (.int c1), .val (.ref o1), .val (.int (16 : Int32)), .val (.int (1 : Int32)), .val (.ref w_OTHER)]) rfl ?_
      show Steps p.tables e below (T2.setTop (mkF m 34 #[.val (.int c1), .val (.ref o1), .val (.int (16 : Int32)), .val (.int (1 : Int32)), .val (.ref w_OTHER)] [])) _
      refine XS.goto X2.here hx rfl (pc0 := 34) (pc' := 9) rfl (hb hby d_p16_m5_34) (by decide) (by decide) ?_
      show Steps p.tables e below (T2.setTop (mkF m 9 #[.val (.int c1), .val (.ref o1), .val (.int (16 : Int32)), .val (.int (1 : Int32)), .val (.ref w_OTHER)] [])) _
      refine XS.iloadN X2.here hx rfl (hb hby d_p16_m5_9) rfl ?_
      show Steps p.tables e below (T2.setTop (mkF m 10 #[.val (.int c1), .val (.ref o1), .val (.int (16 : Int32)), .val (.int (1 : Int32)), .val (.ref w_OTHER)] [(.int (1 : Int32))])) _
      refine XS.iloadN X2.here hx rfl (hb hby d_p16_m5_10) rfl ?_
      show Steps p.tables e below (T2.setTop (mkF m 11 #[.val (.int c1), .val (.ref o1), .val (.int (16 : Int32)), .val (.int (1 : Int32)), .val (.ref w_OTHER)] [(.int (16 : Int32)), (.int (1 : Int32))])) _
      refine XS.icmpNo X2.here hx rfl (hb hby d_p16_m5_11) rfl (tlt (by decide : (1 : Int32) < (16 : Int32))).2.1 ?_
      show Steps p.tables e below (T2.setTop (mkF m 14 #[.val (.int c1), .val (.ref o1), .val (.int (16 : Int32)), .val (.int (1 : Int32)), .val (.ref w_OTHER)] [])) _
      refine XS.aloadN X2.here hx rfl (hb hby d_p16_m5_14) rfl rfl ?_
      show Steps p.tables e below (T2.setTop (mkF m 15 #[.val (.int c1), .val (.ref o1), .val (.int (16 : Int32)), .val (.int (1 : Int32)), .val (.ref w_OTHER)] [(.ref o1)])) _
      refine XS.iloadN X2.here hx rfl (hb hby d_p16_m5_15) rfl ?_
      exact k
    refine Go.aload X2 hx hZ e2 A_o1 (j := (1 : Int32)) (v := .ref w_CONSTRAINT) (by show ¬ (_ ∨ cl_V.slots.size ≤ _); rw [z_V]; decide) (show cl_V.slots[((1 : Int32)).toNatClampNeg]? = _ from t_CONSTRAINT) (Or.inr (Or.inr (Or.inl ⟨rfl, rfl⟩))) (hb hby d_p16_m5_16) ?_
    show Go p e below _ T2 (mkF m 17 #[.val (.int c1), .val (.ref o1), .val (.int (16 : Int32)), .val (.int (1 : Int32)), .val (.ref w_OTHER)] [(.ref w_CONSTRAINT)])
    refine Go.by (T' := T2) (g' := (mkF m 21 #[.val (.int c1), .val (.ref o1), .val (.int (16 : Int32)), .val (.int (1 : Int32)), .val (.ref w_CONSTRAINT)] [(.ref w_CONSTRAINT)])) (fun t k => ?_) ?_
    · show Steps p.tables e below (T2.setTop (mkF m 17 #[.val (.int c1), .val (.ref o1), .val (.int (16 : Int32)), .val (.int (1 : Int32)), .val (.ref w_OTHER)] [(.ref w_CONSTRAINT)])) _
      refine XS.astore X2.here hx rfl (hb hby d_p16_m5_17) rfl rfl (l' := #[.val (.int c1), .val (.ref o1), .val (.int (16 : Int32)), .val (.int (1 : Int32)), .val (.ref w_CONSTRAINT)]) rfl ?_
      show Steps p.tables e below (T2.setTop (mkF m 19 #[.val (.int c1), .val (.ref o1), .val (.int (16 : Int32)), .val (.int (1 : Int32)), .val (.ref w_CONSTRAINT)] [])) _
      refine XS.aload X2.here hx rfl (hb hby d_p16_m5_19) rfl rfl ?_
      exact k
    refine Go.getF X2 hx hZ hown (wd hw 39 rfl) Via.refl e2 (F_CONSTRAINT.ext O.2) (hb hby d_p16_m5_21) ?_
    intro T4 X4 e4
    show Go p e below _ T4 (mkF m 24 #[.val (.int c1), .val (.ref o1), .val (.int (16 : Int32)), .val (.int (1 : Int32)), .val (.ref w_CONSTRAINT)] [(.int (1 : Int32))])
    refine Go.by (T' := T4) (g' := (mkF m 25 #[.val (.int c1), .val (.ref o1), .val (.int (16 : Int32)), .val (.int (1 : Int32)), .val (.ref w_CONSTRAINT)] [(.int c1), (.int (1 : Int32))])) (fun t k => ?_) ?_
    · show Steps p.tables e below (T4.setTop (mkF m 24 #[.val (.int c1), .val (.ref o1), .val (.int (16 : Int32)), .val (.int (1 : Int32)), .val (.ref w_CONSTRAINT)] [(.int (1 : Int32))])) _
      refine XS.iloadN X4.here hx rfl (hb hby d_p16_m5_24) rfl ?_
      exact k
    by_cases hy5 : (1 : Int32) = c1
    · skip
      refine Go.by (T' := T4) (g' := (mkF m 30 #[.val (.int c1), .val (.ref o1), .val (.int (16 : Int32)), .val (.int (1 : Int32)), .val (.ref w_CONSTRAINT)] [(.ref w_CONSTRAINT)])) (fun t k => ?_) ?_
      · show Steps p.tables e below (T4.setTop (mkF m 25 #[.val (.int c1), .val (.ref o1), .val (.int (16 : Int32)), .val (.int (1 : Int32)), .val (.ref w_CONSTRAINT)] [(.int c1), (.int (1 : Int32))])) _
        refine XS.icmpNo X4.here hx rfl (hb hby d_p16_m5_25) rfl (teq hy5).2 ?_
        show Steps p.tables e below (T4.setTop (mkF m 28 #[.val (.int c1), .val (.ref o1), .val (.int (16 : Int32)), .val (.int (1 : Int32)), .val (.ref w_CONSTRAINT)] [])) _
        refine XS.aload X4.here hx rfl (hb hby d_p16_m5_28) rfl rfl ?_
        exact k
      refine Go.retA X4 hx hlk hret rfl rfl (hb hby d_p16_m5_30) (by decide) (by decide) e4 ?_
      exact ⟨_, rfl, N1, K, Or.inr ⟨w_CONSTRAINT, rfl, by rw [← hy5]; decide, by rw [← hy5]; decide, E_CONSTRAINT, hy5 ▸ F_CONSTRAINT⟩⟩
    · skip
      refine Go.by (T' := T4) (g' := (mkF m 16 #[.val (.int c1), .val (.ref o1), .val (.int (16 : Int32)), .val (.int (2 : Int32)), .val (.ref w_CONSTRAINT)] [(.int (2 : Int32)), (.ref o1)])) (fun t k => ?_) ?_
      · show Steps p.tables e below (T4.setTop (mkF m 25 #[.val (.int c1), .val (.ref o1), .val (.int (16 : Int32)), .val (.int (1 : Int32)), .val (.ref w_CONSTRAINT)] [(.int c1), (.int (1 : Int32))])) _
        refine XS.icmpYes X4.here hx rfl (pc0 := 25) (pc' := 31) rfl (hb hby d_p16_m5_25) rfl (feq hy5).2 (by decide) (by decide) ?_
        show Steps p.tables e below (T4.setTop (mkF m 31 #[.val (.int c1), .val (.ref o1), .val (.int (16 : Int32)), .val (.int (1 : Int32)), .val (.ref w_CONSTRAINT)] [])) _
        refine XS.iinc X4.here hx rfl (hb hby d_p16_m5_31) rfl (l' := #[.val (.int c1), .val (.ref o1), .val (.int (16 : Int32)), .val (.int (2 : Int32)), .val (.ref w_CONSTRAINT)]) rfl ?_
        show Steps p.tables e below (T4.setTop (mkF m 34 #[.val (.int c1), .val (.ref o1), .val (.int (16 : Int32)), .val (.int (2 : Int32)), .val (.ref w_CONSTRAINT)] [])) _
        refine XS.goto X4.here hx rfl (pc0 := 34) (pc' := 9) rfl (hb hby d_p16_m5_34) (by decide) (by decide) ?_
        show Steps p.tables e below (T4.setTop (mkF m 9 #[.val (.int c1), .val (.ref o1), .val (.int (16 : Int32)), .val (.int (2 : Int32)), .val (.ref w_CONSTRAINT)] [])) _
        refine XS.iloadN X4.here hx rfl (hb hby d_p16_m5_9) rfl ?_
        show Steps p.tables e below (T4.setTop (mkF m 10 #[.val (.int c1), .val (.ref o1), .val (.int (16 : Int32)), .val (.int (2 : Int32)), .val (.ref w_CONSTRAINT)] [(.int (2 : Int32))])) _
        refine XS.iloadN X4.here hx rfl (hb hby d_p16_m5_10) rfl ?_
        show Steps p.tables e below (T4.setTop (mkF m 11 #[.val (.int c1), .val (.ref o1), .val (.int (16 : Int32)), .val (.int (2 : Int32)), .val (.ref w_CONSTRAINT)] [(.int (16 : Int32)), (.int (2 : Int32))])) _
        refine XS.icmpNo X4.here hx rfl (hb hby d_p16_m5_11) rfl (tlt (by decide : (2 : Int32) < (16 : Int32))).2.1 ?_
        show Steps p.tables e below (T4.setTop (mkF m 14 #[.val (.int c1), .val (.ref o1), .val (.int (16 : Int32)), .val (.int (2 : Int32)), .val (.ref w_CONSTRAINT)] [])) _
        refine XS.aloadN X4.here hx rfl (hb hby d_p16_m5_14) rfl rfl ?_
        show Steps p.tables e below (T4.setTop (mkF m 15 #[.val (.int c1), .val (.ref o1), .val (.int (16 : Int32)), .val (.int (2 : Int32)), .val (.ref w_CONSTRAINT)] [(.ref o1)])) _
        refine XS.iloadN X4.here hx rfl (hb hby d_p16_m5_15) rfl ?_
        exact k
      refine Go.aload X4 hx hZ e4 A_o1 (j := (2 : Int32)) (v := .ref w_NUMERIC) (by show ¬ (_ ∨ cl_V.slots.size ≤ _); rw [z_V]; decide) (show cl_V.slots[((2 : Int32)).toNatClampNeg]? = _ from t_NUMERIC) (Or.inr (Or.inr (Or.inl ⟨rfl, rfl⟩))) (hb hby d_p16_m5_16) ?_
      show Go p e below _ T4 (mkF m 17 #[.val (.int c1), .val (.ref o1), .val (.int (16 : Int32)), .val (.int (2 : Int32)), .val (.ref w_CONSTRAINT)] [(.ref w_NUMERIC)])
      refine Go.by (T' := T4) (g' := (mkF m 21 #[.val (.int c1), .val (.ref o1), .val (.int (16 : Int32)), .val (.int (2 : Int32)), .val (.ref w_NUMERIC)] [(.ref w_NUMERIC)])) (fun t k => ?_) ?_
      · show Steps p.tables e below (T4.setTop (mkF m 17 #[.val (.int c1), .val (.ref o1), .val (.int (16 : Int32)), .val (.int (2 : Int32)), .val (.ref w_CONSTRAINT)] [(.ref w_NUMERIC)])) _
        refine XS.astore X4.here hx rfl (hb hby d_p16_m5_17) rfl rfl (l' := #[.val (.int c1), .val (.ref o1), .val (.int (16 : Int32)), .val (.int (2 : Int32)), .val (.ref w_NUMERIC)]) rfl ?_
        show Steps p.tables e below (T4.setTop (mkF m 19 #[.val (.int c1), .val (.ref o1), .val (.int (16 : Int32)), .val (.int (2 : Int32)), .val (.ref w_NUMERIC)] [])) _
        refine XS.aload X4.here hx rfl (hb hby d_p16_m5_19) rfl rfl ?_
        exact k
      refine Go.getF X4 hx hZ hown (wd hw 39 rfl) Via.refl e4 (F_NUMERIC.ext O.2) (hb hby d_p16_m5_21) ?_
      intro T6 X6 e6
      show Go p e below _ T6 (mkF m 24 #[.val (.int c1), .val (.ref o1), .val (.int (16 : Int32)), .val (.int (2 : Int32)), .val (.ref w_NUMERIC)] [(.int (2 : Int32))])
      refine Go.by (T' := T6) (g' := (mkF m 25 #[.val (.int c1), .val (.ref o1), .val (.int (16 : Int32)), .val (.int (2 : Int32)), .val (.ref w_NUMERIC)] [(.int c1), (.int (2 : Int32))])) (fun t k => ?_) ?_
      · show Steps p.tables e below (T6.setTop (mkF m 24 #[.val (.int c1), .val (.ref o1), .val (.int (16 : Int32)), .val (.int (2 : Int32)), .val (.ref w_NUMERIC)] [(.int (2 : Int32))])) _
        refine XS.iloadN X6.here hx rfl (hb hby d_p16_m5_24) rfl ?_
        exact k
      by_cases hy7 : (2 : Int32) = c1
      · skip
        refine Go.by (T' := T6) (g' := (mkF m 30 #[.val (.int c1), .val (.ref o1), .val (.int (16 : Int32)), .val (.int (2 : Int32)), .val (.ref w_NUMERIC)] [(.ref w_NUMERIC)])) (fun t k => ?_) ?_
        · show Steps p.tables e below (T6.setTop (mkF m 25 #[.val (.int c1), .val (.ref o1), .val (.int (16 : Int32)), .val (.int (2 : Int32)), .val (.ref w_NUMERIC)] [(.int c1), (.int (2 : Int32))])) _
          refine XS.icmpNo X6.here hx rfl (hb hby d_p16_m5_25) rfl (teq hy7).2 ?_
          show Steps p.tables e below (T6.setTop (mkF m 28 #[.val (.int c1), .val (.ref o1), .val (.int (16 : Int32)), .val (.int (2 : Int32)), .val (.ref w_NUMERIC)] [])) _
          refine XS.aload X6.here hx rfl (hb hby d_p16_m5_28) rfl rfl ?_
          exact k
        refine Go.retA X6 hx hlk hret rfl rfl (hb hby d_p16_m5_30) (by decide) (by decide) e6 ?_
        exact ⟨_, rfl, N1, K, Or.inr ⟨w_NUMERIC, rfl, by rw [← hy7]; decide, by rw [← hy7]; decide, E_NUMERIC, hy7 ▸ F_NUMERIC⟩⟩
      · skip
        refine Go.by (T' := T6) (g' := (mkF m 16 #[.val (.int c1), .val (.ref o1), .val (.int (16 : Int32)), .val (.int (3 : Int32)), .val (.ref w_NUMERIC)] [(.int (3 : Int32)), (.ref o1)])) (fun t k => ?_) ?_
        · show Steps p.tables e below (T6.setTop (mkF m 25 #[.val (.int c1), .val (.ref o1), .val (.int (16 : Int32)), .val (.int (2 : Int32)), .val (.ref w_NUMERIC)] [(.int c1), (.int (2 : Int32))])) _
          refine XS.icmpYes X6.here hx rfl (pc0 := 25) (pc' := 31) rfl (hb hby d_p16_m5_25) rfl (feq hy7).2 (by decide) (by decide) ?_
          show Steps p.tables e below (T6.setTop (mkF m 31 #[.val (.int c1), .val (.ref o1), .val (.int (16 : Int32)), .val (.int (2 : Int32)), .val (.ref w_NUMERIC)] [])) _
          refine XS.iinc X6.here hx rfl (hb hby d_p16_m5_31) rfl (l' := #[.val (.int c1), .val (.ref o1), .val (.int (16 : Int32)), .val (.int (3 : Int32)), .val (.ref w_NUMERIC)]) rfl ?_
          show Steps p.tables e below (T6.setTop (mkF m 34 #[.val (.int c1), .val (.ref o1), .val (.int (16 : Int32)), .val (.int (3 : Int32)), .val (.ref w_NUMERIC)] [])) _
          refine XS.goto X6.here hx rfl (pc0 := 34) (pc' := 9) rfl (hb hby d_p16_m5_34) (by decide) (by decide) ?_
          show Steps p.tables e below (T6.setTop (mkF m 9 #[.val (.int c1), .val (.ref o1), .val (.int (16 : Int32)), .val (.int (3 : Int32)), .val (.ref w_NUMERIC)] [])) _
          refine XS.iloadN X6.here hx rfl (hb hby d_p16_m5_9) rfl ?_
          show Steps p.tables e below (T6.setTop (mkF m 10 #[.val (.int c1), .val (.ref o1), .val (.int (16 : Int32)), .val (.int (3 : Int32)), .val (.ref w_NUMERIC)] [(.int (3 : Int32))])) _
          refine XS.iloadN X6.here hx rfl (hb hby d_p16_m5_10) rfl ?_
          show Steps p.tables e below (T6.setTop (mkF m 11 #[.val (.int c1), .val (.ref o1), .val (.int (16 : Int32)), .val (.int (3 : Int32)), .val (.ref w_NUMERIC)] [(.int (16 : Int32)), (.int (3 : Int32))])) _
          refine XS.icmpNo X6.here hx rfl (hb hby d_p16_m5_11) rfl (tlt (by decide : (3 : Int32) < (16 : Int32))).2.1 ?_
          show Steps p.tables e below (T6.setTop (mkF m 14 #[.val (.int c1), .val (.ref o1), .val (.int (16 : Int32)), .val (.int (3 : Int32)), .val (.ref w_NUMERIC)] [])) _
          refine XS.aloadN X6.here hx rfl (hb hby d_p16_m5_14) rfl rfl ?_
          show Steps p.tables e below (T6.setTop (mkF m 15 #[.val (.int c1), .val (.ref o1), .val (.int (16 : Int32)), .val (.int (3 : Int32)), .val (.ref w_NUMERIC)] [(.ref o1)])) _
          refine XS.iloadN X6.here hx rfl (hb hby d_p16_m5_15) rfl ?_
          exact k
        refine Go.aload X6 hx hZ e6 A_o1 (j := (3 : Int32)) (v := .ref w_PROGRAM) (by show ¬ (_ ∨ cl_V.slots.size ≤ _); rw [z_V]; decide) (show cl_V.slots[((3 : Int32)).toNatClampNeg]? = _ from t_PROGRAM) (Or.inr (Or.inr (Or.inl ⟨rfl, rfl⟩))) (hb hby d_p16_m5_16) ?_
        show Go p e below _ T6 (mkF m 17 #[.val (.int c1), .val (.ref o1), .val (.int (16 : Int32)), .val (.int (3 : Int32)), .val (.ref w_NUMERIC)] [(.ref w_PROGRAM)])
        refine Go.by (T' := T6) (g' := (mkF m 21 #[.val (.int c1), .val (.ref o1), .val (.int (16 : Int32)), .val (.int (3 : Int32)), .val (.ref w_PROGRAM)] [(.ref w_PROGRAM)])) (fun t k => ?_) ?_
        · show Steps p.tables e below (T6.setTop (mkF m 17 #[.val (.int c1), .val (.ref o1), .val (.int (16 : Int32)), .val (.int (3 : Int32)), .val (.ref w_NUMERIC)] [(.ref w_PROGRAM)])) _
          refine XS.astore X6.here hx rfl (hb hby d_p16_m5_17) rfl rfl (l' := #[.val (.int c1), .val (.ref o1), .val (.int (16 : Int32)), .val (.int (3 : Int32)), .val (.ref w_PROGRAM)]) rfl ?_
          show Steps p.tables e below (T6.setTop (mkF m 19 #[.val (.int c1), .val (.ref o1), .val (.int (16 : Int32)), .val (.int (3 : Int32)), .val (.ref w_PROGRAM)] [])) _
          refine XS.aload X6.here hx rfl (hb hby d_p16_m5_19) rfl rfl ?_
          exact k
        refine Go.getF X6 hx hZ hown (wd hw 39 rfl) Via.refl e6 (F_PROGRAM.ext O.2) (hb hby d_p16_m5_21) ?_
        intro T8 X8 e8
        show Go p e below _ T8 (mkF m 24 #[.val (.int c1), .val (.ref o1), .val (.int (16 : Int32)), .val (.int (3 : Int32)), .val (.ref w_PROGRAM)] [(.int (3 : Int32))])
        refine Go.by (T' := T8) (g' := (mkF m 25 #[.val (.int c1), .val (.ref o1), .val (.int (16 : Int32)), .val (.int (3 : Int32)), .val (.ref w_PROGRAM)] [(.int c1), (.int (3 : Int32))])) (fun t k => ?_) ?_
        · show Steps p.tables e below (T8.setTop (mkF m 24 #[.val (.int c1), .val (.ref o1), .val (.int (16 : Int32)), .val (.int (3 : Int32)), .val (.ref w_PROGRAM)] [(.int (3 : Int32))])) _
          refine XS.iloadN X8.here hx rfl (hb hby d_p16_m5_24) rfl ?_
          exact k
        by_cases hy9 : (3 : Int32) = c1
        · skip
          refine Go.by (T' := T8) (g' := (mkF m 30 #[.val (.int c1), .val (.ref o1), .val (.int (16 : Int32)), .val (.int (3 : Int32)), .val (.ref w_PROGRAM)] [(.ref w_PROGRAM)])) (fun t k => ?_) ?_
          · show Steps p.tables e below (T8.setTop (mkF m 25 #[.val (.int c1), .val (.ref o1), .val (.int (16 : Int32)), .val (.int (3 : Int32)), .val (.ref w_PROGRAM)] [(.int c1), (.int (3 : Int32))])) _
            refine XS.icmpNo X8.here hx rfl (hb hby d_p16_m5_25) rfl (teq hy9).2 ?_
            show Steps p.tables e below (T8.setTop (mkF m 28 #[.val (.int c1), .val (.ref o1), .val (.int (16 : Int32)), .val (.int (3 : Int32)), .val (.ref w_PROGRAM)] [])) _
            refine XS.aload X8.here hx rfl (hb hby d_p16_m5_28) rfl rfl ?_
            exact k
          refine Go.retA X8 hx hlk hret rfl rfl (hb hby d_p16_m5_30) (by decide) (by decide) e8 ?_
          exact ⟨_, rfl, N1, K, Or.inr ⟨w_PROGRAM, rfl, by rw [← hy9]; decide, by rw [← hy9]; decide, E_PROGRAM, hy9 ▸ F_PROGRAM⟩⟩
        · skip
          refine Go.by (T' := T8) (g' := (mkF m 16 #[.val (.int c1), .val (.ref o1), .val (.int (16 : Int32)), .val (.int (4 : Int32)), .val (.ref w_PROGRAM)] [(.int (4 : Int32)), (.ref o1)])) (fun t k => ?_) ?_
          · show Steps p.tables e below (T8.setTop (mkF m 25 #[.val (.int c1), .val (.ref o1), .val (.int (16 : Int32)), .val (.int (3 : Int32)), .val (.ref w_PROGRAM)] [(.int c1), (.int (3 : Int32))])) _
            refine XS.icmpYes X8.here hx rfl (pc0 := 25) (pc' := 31) rfl (hb hby d_p16_m5_25) rfl (feq hy9).2 (by decide) (by decide) ?_
            show Steps p.tables e below (T8.setTop (mkF m 31 #[.val (.int c1), .val (.ref o1), .val (.int (16 : Int32)), .val (.int (3 : Int32)), .val (.ref w_PROGRAM)] [])) _
            refine XS.iinc X8.here hx rfl (hb hby d_p16_m5_31) rfl (l' := #[.val (.int c1), .val (.ref o1), .val (.int (16 : Int32)), .val (.int (4 : Int32)), .val (.ref w_PROGRAM)]) rfl ?_
            show Steps p.tables e below (T8.setTop (mkF m 34 #[.val (.int c1), .val (.ref o1), .val (.int (16 : Int32)), .val (.int (4 : Int32)), .val (.ref w_PROGRAM)] [])) _
            refine XS.goto X8.here hx rfl (pc0 := 34) (pc' := 9) rfl (hb hby d_p16_m5_34) (by decide) (by decide) ?_
            show Steps p.tables e below (T8.setTop (mkF m 9 #[.val (.int c1), .val (.ref o1), .val (.int (16 : Int32)), .val (.int (4 : Int32)), .val (.ref w_PROGRAM)] [])) _
            refine XS.iloadN X8.here hx rfl (hb hby d_p16_m5_9) rfl ?_
            show Steps p.tables e below (T8.setTop (mkF m 10 #[.val (.int c1), .val (.ref o1), .val (.int (16 : Int32)), .val (.int (4 : Int32)), .val (.ref w_PROGRAM)] [(.int (4 : Int32))])) _
            refine XS.iloadN X8.here hx rfl (hb hby d_p16_m5_10) rfl ?_
            show Steps p.tables e below (T8.setTop (mkF m 11 #[.val (.int c1), .val (.ref o1), .val (.int (16 : Int32)), .val (.int (4 : Int32)), .val (.ref w_PROGRAM)] [(.int (16 : Int32)), (.int (4 : Int32))])) _
            refine XS.icmpNo X8.here hx rfl (hb hby d_p16_m5_11) rfl (tlt (by decide : (4 : Int32) < (16 : Int32))).2.1 ?_
            show Steps p.tables e below (T8.setTop (mkF m 14 #[.val (.int c1), .val (.ref o1), .val (.int (16 : Int32)), .val (.int (4 : Int32)), .val (.ref w_PROGRAM)] [])) _
            refine XS.aloadN X8.here hx rfl (hb hby d_p16_m5_14) rfl rfl ?_
            show Steps p.tables e below (T8.setTop (mkF m 15 #[.val (.int c1), .val (.ref o1), .val (.int (16 : Int32)), .val (.int (4 : Int32)), .val (.ref w_PROGRAM)] [(.ref o1)])) _
            refine XS.iloadN X8.here hx rfl (hb hby d_p16_m5_15) rfl ?_
            exact k
          refine Go.aload X8 hx hZ e8 A_o1 (j := (4 : Int32)) (v := .ref w_STORAGE) (by show ¬ (_ ∨ cl_V.slots.size ≤ _); rw [z_V]; decide) (show cl_V.slots[((4 : Int32)).toNatClampNeg]? = _ from t_STORAGE) (Or.inr (Or.inr (Or.inl ⟨rfl, rfl⟩))) (hb hby d_p16_m5_16) ?_
          show Go p e below _ T8 (mkF m 17 #[.val (.int c1), .val (.ref o1), .val (.int (16 : Int32)), .val (.int (4 : Int32)), .val (.ref w_PROGRAM)] [(.ref w_STORAGE)])
          refine Go.by (T' := T8) (g' := (mkF m 21 #[.val (.int c1), .val (.ref o1), .val (.int (16 : Int32)), .val (.int (4 : Int32)), .val (.ref w_STORAGE)] [(.ref w_STORAGE)])) (fun t k => ?_) ?_
          · show Steps p.tables e below (T8.setTop (mkF m 17 #[.val (.int c1), .val (.ref o1), .val (.int (16 : Int32)), .val (.int (4 : Int32)), .val (.ref w_PROGRAM)] [(.ref w_STORAGE)])) _
            refine XS.astore X8.here hx rfl (hb hby d_p16_m5_17) rfl rfl (l' := #[.val (.int c1), .val (.ref o1), .val (.int (16 : Int32)), .val (.int (4 : Int32)), .val (.ref w_STORAGE)]) rfl ?_
            show Steps p.tables e below (T8.setTop (mkF m 19 #[.val (.int c1), .val (.ref o1), .val (.int (16 : Int32)), .val (.int (4 : Int32)), .val (.ref w_STORAGE)] [])) _
            refine XS.aload X8.here hx rfl (hb hby d_p16_m5_19) rfl rfl ?_
            exact k
          refine Go.getF X8 hx hZ hown (wd hw 39 rfl) Via.refl e8 (F_STORAGE.ext O.2) (hb hby d_p16_m5_21) ?_
          intro T10 X10 e10
          show Go p e below _ T10 (mkF m 24 #[.val (.int c1), .val (.ref o1), .val (.int (16 : Int32)), .val (.int (4 : Int32)), .val (.ref w_STORAGE)] [(.int (4 : Int32))])
          refine Go.by (T' := T10) (g' := (mkF m 25 #[.val (.int c1), .val (.ref o1), .val (.int (16 : Int32)), .val (.int (4 : Int32)), .val (.ref w_STORAGE)] [(.int c1), (.int (4 : Int32))])) (fun t k => ?_) ?_
          · show Steps p.tables e below (T10.setTop (mkF m 24 #[.val (.int c1), .val (.ref o1), .val (.int (16 : Int32)), .val (.int (4 : Int32)), .val (.ref w_STORAGE)] [(.int (4 : Int32))])) _
            refine XS.iloadN X10.here hx rfl (hb hby d_p16_m5_24) rfl ?_
            exact k
          by_cases hy11 : (4 : Int32) = c1
          · skip
            refine Go.by (T' := T10) (g' := (mkF m 30 #[.val (.int c1), .val (.ref o1), .val (.int (16 : Int32)), .val (.int (4 : Int32)), .val (.ref w_STORAGE)] [(.ref w_STORAGE)])) (fun t k => ?_) ?_
            · show Steps p.tables e below (T10.setTop (mkF m 25 #[.val (.int c1), .val (.ref o1), .val (.int (16 : Int32)), .val (.int (4 : Int32)), .val (.ref w_STORAGE)] [(.int c1), (.int (4 : Int32))])) _
              refine XS.icmpNo X10.here hx rfl (hb hby d_p16_m5_25) rfl (teq hy11).2 ?_
              show Steps p.tables e below (T10.setTop (mkF m 28 #[.val (.int c1), .val (.ref o1), .val (.int (16 : Int32)), .val (.int (4 : Int32)), .val (.ref w_STORAGE)] [])) _
              refine XS.aload X10.here hx rfl (hb hby d_p16_m5_28) rfl rfl ?_
              exact k
            refine Go.retA X10 hx hlk hret rfl rfl (hb hby d_p16_m5_30) (by decide) (by decide) e10 ?_
            exact ⟨_, rfl, N1, K, Or.inr ⟨w_STORAGE, rfl, by rw [← hy11]; decide, by rw [← hy11]; decide, E_STORAGE, hy11 ▸ F_STORAGE⟩⟩
          · skip
            refine Go.by (T' := T10) (g' := (mkF m 16 #[.val (.int c1), .val (.ref o1), .val (.int (16 : Int32)), .val (.int (5 : Int32)), .val (.ref w_STORAGE)] [(.int (5 : Int32)), (.ref o1)])) (fun t k => ?_) ?_
            · show Steps p.tables e below (T10.setTop (mkF m 25 #[.val (.int c1), .val (.ref o1), .val (.int (16 : Int32)), .val (.int (4 : Int32)), .val (.ref w_STORAGE)] [(.int c1), (.int (4 : Int32))])) _
              refine XS.icmpYes X10.here hx rfl (pc0 := 25) (pc' := 31) rfl (hb hby d_p16_m5_25) rfl (feq hy11).2 (by decide) (by decide) ?_
              show Steps p.tables e below (T10.setTop (mkF m 31 #[.val (.int c1), .val (.ref o1), .val (.int (16 : Int32)), .val (.int (4 : Int32)), .val (.ref w_STORAGE)] [])) _
              refine XS.iinc X10.here hx rfl (hb hby d_p16_m5_31) rfl (l' := #[.val (.int c1), .val (.ref o1), .val (.int (16 : Int32)), .val (.int (5 : Int32)), .val (.ref w_STORAGE)]) rfl ?_
              show Steps p.tables e below (T10.setTop (mkF m 34 #[.val (.int c1), .val (.ref o1), .val (.int (16 : Int32)), .val (.int (5 : Int32)), .val (.ref w_STORAGE)] [])) _
              refine XS.goto X10.here hx rfl (pc0 := 34) (pc' := 9) rfl (hb hby d_p16_m5_34) (by decide) (by decide) ?_
              show Steps p.tables e below (T10.setTop (mkF m 9 #[.val (.int c1), .val (.ref o1), .val (.int (16 : Int32)), .val (.int (5 : Int32)), .val (.ref w_STORAGE)] [])) _
              refine XS.iloadN X10.here hx rfl (hb hby d_p16_m5_9) rfl ?_
              show Steps p.tables e below (T10.setTop (mkF m 10 #[.val (.int c1), .val (.ref o1), .val (.int (16 : Int32)), .val (.int (5 : Int32)), .val (.ref w_STORAGE)] [(.int (5 : Int32))])) _
              refine XS.iloadN X10.here hx rfl (hb hby d_p16_m5_10) rfl ?_
              show Steps p.tables e below (T10.setTop (mkF m 11 #[.val (.int c1), .val (.ref o1), .val (.int (16 : Int32)), .val (.int (5 : Int32)), .val (.ref w_STORAGE)] [(.int (16 : Int32)), (.int (5 : Int32))])) _
              refine XS.icmpNo X10.here hx rfl (hb hby d_p16_m5_11) rfl (tlt (by decide : (5 : Int32) < (16 : Int32))).2.1 ?_
              show Steps p.tables e below (T10.setTop (mkF m 14 #[.val (.int c1), .val (.ref o1), .val (.int (16 : Int32)), .val (.int (5 : Int32)), .val (.ref w_STORAGE)] [])) _
              refine XS.aloadN X10.here hx rfl (hb hby d_p16_m5_14) rfl rfl ?_
              show Steps p.tables e below (T10.setTop (mkF m 15 #[.val (.int c1), .val (.ref o1), .val (.int (16 : Int32)), .val (.int (5 : Int32)), .val (.ref w_STORAGE)] [(.ref o1)])) _
              refine XS.iloadN X10.here hx rfl (hb hby d_p16_m5_15) rfl ?_
              exact k
            refine Go.aload X10 hx hZ e10 A_o1 (j := (5 : Int32)) (v := .ref w_TASKING) (by show ¬ (_ ∨ cl_V.slots.size ≤ _); rw [z_V]; decide) (show cl_V.slots[((5 : Int32)).toNatClampNeg]? = _ from t_TASKING) (Or.inr (Or.inr (Or.inl ⟨rfl, rfl⟩))) (hb hby d_p16_m5_16) ?_
            show Go p e below _ T10 (mkF m 17 #[.val (.int c1), .val (.ref o1), .val (.int (16 : Int32)), .val (.int (5 : Int32)), .val (.ref w_STORAGE)] [(.ref w_TASKING)])
            refine Go.by (T' := T10) (g' := (mkF m 21 #[.val (.int c1), .val (.ref o1), .val (.int (16 : Int32)), .val (.int (5 : Int32)), .val (.ref w_TASKING)] [(.ref w_TASKING)])) (fun t k => ?_) ?_
            · show Steps p.tables e below (T10.setTop (mkF m 17 #[.val (.int c1), .val (.ref o1), .val (.int (16 : Int32)), .val (.int (5 : Int32)), .val (.ref w_STORAGE)] [(.ref w_TASKING)])) _
              refine XS.astore X10.here hx rfl (hb hby d_p16_m5_17) rfl rfl (l' := #[.val (.int c1), .val (.ref o1), .val (.int (16 : Int32)), .val (.int (5 : Int32)), .val (.ref w_TASKING)]) rfl ?_
              show Steps p.tables e below (T10.setTop (mkF m 19 #[.val (.int c1), .val (.ref o1), .val (.int (16 : Int32)), .val (.int (5 : Int32)), .val (.ref w_TASKING)] [])) _
              refine XS.aload X10.here hx rfl (hb hby d_p16_m5_19) rfl rfl ?_
              exact k
            refine Go.getF X10 hx hZ hown (wd hw 39 rfl) Via.refl e10 (F_TASKING.ext O.2) (hb hby d_p16_m5_21) ?_
            intro T12 X12 e12
            show Go p e below _ T12 (mkF m 24 #[.val (.int c1), .val (.ref o1), .val (.int (16 : Int32)), .val (.int (5 : Int32)), .val (.ref w_TASKING)] [(.int (5 : Int32))])
            refine Go.by (T' := T12) (g' := (mkF m 25 #[.val (.int c1), .val (.ref o1), .val (.int (16 : Int32)), .val (.int (5 : Int32)), .val (.ref w_TASKING)] [(.int c1), (.int (5 : Int32))])) (fun t k => ?_) ?_
            · show Steps p.tables e below (T12.setTop (mkF m 24 #[.val (.int c1), .val (.ref o1), .val (.int (16 : Int32)), .val (.int (5 : Int32)), .val (.ref w_TASKING)] [(.int (5 : Int32))])) _
              refine XS.iloadN X12.here hx rfl (hb hby d_p16_m5_24) rfl ?_
              exact k
            by_cases hy13 : (5 : Int32) = c1
            · skip
              refine Go.by (T' := T12) (g' := (mkF m 30 #[.val (.int c1), .val (.ref o1), .val (.int (16 : Int32)), .val (.int (5 : Int32)), .val (.ref w_TASKING)] [(.ref w_TASKING)])) (fun t k => ?_) ?_
              · show Steps p.tables e below (T12.setTop (mkF m 25 #[.val (.int c1), .val (.ref o1), .val (.int (16 : Int32)), .val (.int (5 : Int32)), .val (.ref w_TASKING)] [(.int c1), (.int (5 : Int32))])) _
                refine XS.icmpNo X12.here hx rfl (hb hby d_p16_m5_25) rfl (teq hy13).2 ?_
                show Steps p.tables e below (T12.setTop (mkF m 28 #[.val (.int c1), .val (.ref o1), .val (.int (16 : Int32)), .val (.int (5 : Int32)), .val (.ref w_TASKING)] [])) _
                refine XS.aload X12.here hx rfl (hb hby d_p16_m5_28) rfl rfl ?_
                exact k
              refine Go.retA X12 hx hlk hret rfl rfl (hb hby d_p16_m5_30) (by decide) (by decide) e12 ?_
              exact ⟨_, rfl, N1, K, Or.inr ⟨w_TASKING, rfl, by rw [← hy13]; decide, by rw [← hy13]; decide, E_TASKING, hy13 ▸ F_TASKING⟩⟩
            · skip
              refine Go.by (T' := T12) (g' := (mkF m 16 #[.val (.int c1), .val (.ref o1), .val (.int (16 : Int32)), .val (.int (6 : Int32)), .val (.ref w_TASKING)] [(.int (6 : Int32)), (.ref o1)])) (fun t k => ?_) ?_
              · show Steps p.tables e below (T12.setTop (mkF m 25 #[.val (.int c1), .val (.ref o1), .val (.int (16 : Int32)), .val (.int (5 : Int32)), .val (.ref w_TASKING)] [(.int c1), (.int (5 : Int32))])) _
                refine XS.icmpYes X12.here hx rfl (pc0 := 25) (pc' := 31) rfl (hb hby d_p16_m5_25) rfl (feq hy13).2 (by decide) (by decide) ?_
                show Steps p.tables e below (T12.setTop (mkF m 31 #[.val (.int c1), .val (.ref o1), .val (.int (16 : Int32)), .val (.int (5 : Int32)), .val (.ref w_TASKING)] [])) _
                refine XS.iinc X12.here hx rfl (hb hby d_p16_m5_31) rfl (l' := #[.val (.int c1), .val (.ref o1), .val (.int (16 : Int32)), .val (.int (6 : Int32)), .val (.ref w_TASKING)]) rfl ?_
                show Steps p.tables e below (T12.setTop (mkF m 34 #[.val (.int c1), .val (.ref o1), .val (.int (16 : Int32)), .val (.int (6 : Int32)), .val (.ref w_TASKING)] [])) _
                refine XS.goto X12.here hx rfl (pc0 := 34) (pc' := 9) rfl (hb hby d_p16_m5_34) (by decide) (by decide) ?_
                show Steps p.tables e below (T12.setTop (mkF m 9 #[.val (.int c1), .val (.ref o1), .val (.int (16 : Int32)), .val (.int (6 : Int32)), .val (.ref w_TASKING)] [])) _
                refine XS.iloadN X12.here hx rfl (hb hby d_p16_m5_9) rfl ?_
                show Steps p.tables e below (T12.setTop (mkF m 10 #[.val (.int c1), .val (.ref o1), .val (.int (16 : Int32)), .val (.int (6 : Int32)), .val (.ref w_TASKING)] [(.int (6 : Int32))])) _
                refine XS.iloadN X12.here hx rfl (hb hby d_p16_m5_10) rfl ?_
                show Steps p.tables e below (T12.setTop (mkF m 11 #[.val (.int c1), .val (.ref o1), .val (.int (16 : Int32)), .val (.int (6 : Int32)), .val (.ref w_TASKING)] [(.int (16 : Int32)), (.int (6 : Int32))])) _
                refine XS.icmpNo X12.here hx rfl (hb hby d_p16_m5_11) rfl (tlt (by decide : (6 : Int32) < (16 : Int32))).2.1 ?_
                show Steps p.tables e below (T12.setTop (mkF m 14 #[.val (.int c1), .val (.ref o1), .val (.int (16 : Int32)), .val (.int (6 : Int32)), .val (.ref w_TASKING)] [])) _
                refine XS.aloadN X12.here hx rfl (hb hby d_p16_m5_14) rfl rfl ?_
                show Steps p.tables e below (T12.setTop (mkF m 15 #[.val (.int c1), .val (.ref o1), .val (.int (16 : Int32)), .val (.int (6 : Int32)), .val (.ref w_TASKING)] [(.ref o1)])) _
                refine XS.iloadN X12.here hx rfl (hb hby d_p16_m5_15) rfl ?_
                exact k
              refine Go.aload X12 hx hZ e12 A_o1 (j := (6 : Int32)) (v := .ref w_STATUS) (by show ¬ (_ ∨ cl_V.slots.size ≤ _); rw [z_V]; decide) (show cl_V.slots[((6 : Int32)).toNatClampNeg]? = _ from t_STATUS) (Or.inr (Or.inr (Or.inl ⟨rfl, rfl⟩))) (hb hby d_p16_m5_16) ?_
              show Go p e below _ T12 (mkF m 17 #[.val (.int c1), .val (.ref o1), .val (.int (16 : Int32)), .val (.int (6 : Int32)), .val (.ref w_TASKING)] [(.ref w_STATUS)])
              refine Go.by (T' := T12) (g' := (mkF m 21 #[.val (.int c1), .val (.ref o1), .val (.int (16 : Int32)), .val (.int (6 : Int32)), .val (.ref w_STATUS)] [(.ref w_STATUS)])) (fun t k => ?_) ?_
              · show Steps p.tables e below (T12.setTop (mkF m 17 #[.val (.int c1), .val (.ref o1), .val (.int (16 : Int32)), .val (.int (6 : Int32)), .val (.ref w_TASKING)] [(.ref w_STATUS)])) _
                refine XS.astore X12.here hx rfl (hb hby d_p16_m5_17) rfl rfl (l' := #[.val (.int c1), .val (.ref o1), .val (.int (16 : Int32)), .val (.int (6 : Int32)), .val (.ref w_STATUS)]) rfl ?_
                show Steps p.tables e below (T12.setTop (mkF m 19 #[.val (.int c1), .val (.ref o1), .val (.int (16 : Int32)), .val (.int (6 : Int32)), .val (.ref w_STATUS)] [])) _
                refine XS.aload X12.here hx rfl (hb hby d_p16_m5_19) rfl rfl ?_
                exact k
              refine Go.getF X12 hx hZ hown (wd hw 39 rfl) Via.refl e12 (F_STATUS.ext O.2) (hb hby d_p16_m5_21) ?_
              intro T14 X14 e14
              show Go p e below _ T14 (mkF m 24 #[.val (.int c1), .val (.ref o1), .val (.int (16 : Int32)), .val (.int (6 : Int32)), .val (.ref w_STATUS)] [(.int (6 : Int32))])
              refine Go.by (T' := T14) (g' := (mkF m 25 #[.val (.int c1), .val (.ref o1), .val (.int (16 : Int32)), .val (.int (6 : Int32)), .val (.ref w_STATUS)] [(.int c1), (.int (6 : Int32))])) (fun t k => ?_) ?_
              · show Steps p.tables e below (T14.setTop (mkF m 24 #[.val (.int c1), .val (.ref o1), .val (.int (16 : Int32)), .val (.int (6 : Int32)), .val (.ref w_STATUS)] [(.int (6 : Int32))])) _
                refine XS.iloadN X14.here hx rfl (hb hby d_p16_m5_24) rfl ?_
                exact k
              by_cases hy15 : (6 : Int32) = c1
              · skip
                refine Go.by (T' := T14) (g' := (mkF m 30 #[.val (.int c1), .val (.ref o1), .val (.int (16 : Int32)), .val (.int (6 : Int32)), .val (.ref w_STATUS)] [(.ref w_STATUS)])) (fun t k => ?_) ?_
                · show Steps p.tables e below (T14.setTop (mkF m 25 #[.val (.int c1), .val (.ref o1), .val (.int (16 : Int32)), .val (.int (6 : Int32)), .val (.ref w_STATUS)] [(.int c1), (.int (6 : Int32))])) _
                  refine XS.icmpNo X14.here hx rfl (hb hby d_p16_m5_25) rfl (teq hy15).2 ?_
                  show Steps p.tables e below (T14.setTop (mkF m 28 #[.val (.int c1), .val (.ref o1), .val (.int (16 : Int32)), .val (.int (6 : Int32)), .val (.ref w_STATUS)] [])) _
                  refine XS.aload X14.here hx rfl (hb hby d_p16_m5_28) rfl rfl ?_
                  exact k
                refine Go.retA X14 hx hlk hret rfl rfl (hb hby d_p16_m5_30) (by decide) (by decide) e14 ?_
                exact ⟨_, rfl, N1, K, Or.inr ⟨w_STATUS, rfl, by rw [← hy15]; decide, by rw [← hy15]; decide, E_STATUS, hy15 ▸ F_STATUS⟩⟩
              · skip
                refine Go.by (T' := T14) (g' := (mkF m 16 #[.val (.int c1), .val (.ref o1), .val (.int (16 : Int32)), .val (.int (7 : Int32)), .val (.ref w_STATUS)] [(.int (7 : Int32)), (.ref o1)])) (fun t k => ?_) ?_
                · show Steps p.tables e below (T14.setTop (mkF m 25 #[.val (.int c1), .val (.ref o1), .val (.int (16 : Int32)), .val (.int (6 : Int32)), .val (.ref w_STATUS)] [(.int c1), (.int (6 : Int32))])) _
                  refine XS.icmpYes X14.here hx rfl (pc0 := 25) (pc' := 31) rfl (hb hby d_p16_m5_25) rfl (feq hy15).2 (by decide) (by decide) ?_
                  show Steps p.tables e below (T14.setTop (mkF m 31 #[.val (.int c1), .val (.ref o1), .val (.int (16 : Int32)), .val (.int (6 : Int32)), .val (.ref w_STATUS)] [])) _
                  refine XS.iinc X14.here hx rfl (hb hby d_p16_m5_31) rfl (l' := #[.val (.int c1), .val (.ref o1), .val (.int (16 : Int32)), .val (.int (7 : Int32)), .val (.ref w_STATUS)]) rfl ?_
                  show Steps p.tables e below (T14.setTop (mkF m 34 #[.val (.int c1), .val (.ref o1), .val (.int (16 : Int32)), .val (.int (7 : Int32)), .val (.ref w_STATUS)] [])) _
                  refine XS.goto X14.here hx rfl (pc0 := 34) (pc' := 9) rfl (hb hby d_p16_m5_34) (by decide) (by decide) ?_
                  show Steps p.tables e below (T14.setTop (mkF m 9 #[.val (.int c1), .val (.ref o1), .val (.int (16 : Int32)), .val (.int (7 : Int32)), .val (.ref w_STATUS)] [])) _
                  refine XS.iloadN X14.here hx rfl (hb hby d_p16_m5_9) rfl ?_
                  show Steps p.tables e below (T14.setTop (mkF m 10 #[.val (.int c1), .val (.ref o1), .val (.int (16 : Int32)), .val (.int (7 : Int32)), .val (.ref w_STATUS)] [(.int (7 : Int32))])) _
                  refine XS.iloadN X14.here hx rfl (hb hby d_p16_m5_10) rfl ?_
                  show Steps p.tables e below (T14.setTop (mkF m 11 #[.val (.int c1), .val (.ref o1), .val (.int (16 : Int32)), .val (.int (7 : Int32)), .val (.ref w_STATUS)] [(.int (16 : Int32)), (.int (7 : Int32))])) _
                  refine XS.icmpNo X14.here hx rfl (hb hby d_p16_m5_11) rfl (tlt (by decide : (7 : Int32) < (16 : Int32))).2.1 ?_
                  show Steps p.tables e below (T14.setTop (mkF m 14 #[.val (.int c1), .val (.ref o1), .val (.int (16 : Int32)), .val (.int (7 : Int32)), .val (.ref w_STATUS)] [])) _
                  refine XS.aloadN X14.here hx rfl (hb hby d_p16_m5_14) rfl rfl ?_
                  show Steps p.tables e below (T14.setTop (mkF m 15 #[.val (.int c1), .val (.ref o1), .val (.int (16 : Int32)), .val (.int (7 : Int32)), .val (.ref w_STATUS)] [(.ref o1)])) _
                  refine XS.iloadN X14.here hx rfl (hb hby d_p16_m5_15) rfl ?_
                  exact k
                refine Go.aload X14 hx hZ e14 A_o1 (j := (7 : Int32)) (v := .ref w_MODE) (by show ¬ (_ ∨ cl_V.slots.size ≤ _); rw [z_V]; decide) (show cl_V.slots[((7 : Int32)).toNatClampNeg]? = _ from t_MODE) (Or.inr (Or.inr (Or.inl ⟨rfl, rfl⟩))) (hb hby d_p16_m5_16) ?_
                show Go p e below _ T14 (mkF m 17 #[.val (.int c1), .val (.ref o1), .val (.int (16 : Int32)), .val (.int (7 : Int32)), .val (.ref w_STATUS)] [(.ref w_MODE)])
                refine Go.by (T' := T14) (g' := (mkF m 21 #[.val (.int c1), .val (.ref o1), .val (.int (16 : Int32)), .val (.int (7 : Int32)), .val (.ref w_MODE)] [(.ref w_MODE)])) (fun t k => ?_) ?_
                · show Steps p.tables e below (T14.setTop (mkF m 17 #[.val (.int c1), .val (.ref o1), .val (.int (16 : Int32)), .val (.int (7 : Int32)), .val (.ref w_STATUS)] [(.ref w_MODE)])) _
                  refine XS.astore X14.here hx rfl (hb hby d_p16_m5_17) rfl rfl (l' := #[.val (.int c1), .val (.ref o1), .val (.int (16 : Int32)), .val (.int (7 : Int32)), .val (.ref w_MODE)]) rfl ?_
                  show Steps p.tables e below (T14.setTop (mkF m 19 #[.val (.int c1), .val (.ref o1), .val (.int (16 : Int32)), .val (.int (7 : Int32)), .val (.ref w_MODE)] [])) _
                  refine XS.aload X14.here hx rfl (hb hby d_p16_m5_19) rfl rfl ?_
                  exact k
                refine Go.getF X14 hx hZ hown (wd hw 39 rfl) Via.refl e14 (F_MODE.ext O.2) (hb hby d_p16_m5_21) ?_
                intro T16 X16 e16
                show Go p e below _ T16 (mkF m 24 #[.val (.int c1), .val (.ref o1), .val (.int (16 : Int32)), .val (.int (7 : Int32)), .val (.ref w_MODE)] [(.int (7 : Int32))])
                refine Go.by (T' := T16) (g' := (mkF m 25 #[.val (.int c1), .val (.ref o1), .val (.int (16 : Int32)), .val (.int (7 : Int32)), .val (.ref w_MODE)] [(.int c1), (.int (7 : Int32))])) (fun t k => ?_) ?_
                · show Steps p.tables e below (T16.setTop (mkF m 24 #[.val (.int c1), .val (.ref o1), .val (.int (16 : Int32)), .val (.int (7 : Int32)), .val (.ref w_MODE)] [(.int (7 : Int32))])) _
                  refine XS.iloadN X16.here hx rfl (hb hby d_p16_m5_24) rfl ?_
                  exact k
                by_cases hy17 : (7 : Int32) = c1
                · skip
                  refine Go.by (T' := T16) (g' := (mkF m 30 #[.val (.int c1), .val (.ref o1), .val (.int (16 : Int32)), .val (.int (7 : Int32)), .val (.ref w_MODE)] [(.ref w_MODE)])) (fun t k => ?_) ?_
                  · show Steps p.tables e below (T16.setTop (mkF m 25 #[.val (.int c1), .val (.ref o1), .val (.int (16 : Int32)), .val (.int (7 : Int32)), .val (.ref w_MODE)] [(.int c1), (.int (7 : Int32))])) _
                    refine XS.icmpNo X16.here hx rfl (hb hby d_p16_m5_25) rfl (teq hy17).2 ?_
                    show Steps p.tables e below (T16.setTop (mkF m 28 #[.val (.int c1), .val (.ref o1), .val (.int (16 : Int32)), .val (.int (7 : Int32)), .val (.ref w_MODE)] [])) _
                    refine XS.aload X16.here hx rfl (hb hby d_p16_m5_28) rfl rfl ?_
                    exact k
                  refine Go.retA X16 hx hlk hret rfl rfl (hb hby d_p16_m5_30) (by decide) (by decide) e16 ?_
                  exact ⟨_, rfl, N1, K, Or.inr ⟨w_MODE, rfl, by rw [← hy17]; decide, by rw [← hy17]; decide, E_MODE, hy17 ▸ F_MODE⟩⟩
                · skip
                  refine Go.by (T' := T16) (g' := (mkF m 16 #[.val (.int c1), .val (.ref o1), .val (.int (16 : Int32)), .val (.int (8 : Int32)), .val (.ref w_MODE)] [(.int (8 : Int32)), (.ref o1)])) (fun t k => ?_) ?_
                  · show Steps p.tables e below (T16.setTop (mkF m 25 #[.val (.int c1), .val (.ref o1), .val (.int (16 : Int32)), .val (.int (7 : Int32)), .val (.ref w_MODE)] [(.int c1), (.int (7 : Int32))])) _
                    refine XS.icmpYes X16.here hx rfl (pc0 := 25) (pc' := 31) rfl (hb hby d_p16_m5_25) rfl (feq hy17).2 (by decide) (by decide) ?_
                    show Steps p.tables e below (T16.setTop (mkF m 31 #[.val (.int c1), .val (.ref o1), .val (.int (16 : Int32)), .val (.int (7 : Int32)), .val (.ref w_MODE)] [])) _
                    refine XS.iinc X16.here hx rfl (hb hby d_p16_m5_31) rfl (l' := #[.val (.int c1), .val (.ref o1), .val (.int (16 : Int32)), .val (.int (8 : Int32)), .val (.ref w_MODE)]) rfl ?_
                    show Steps p.tables e below (T16.setTop (mkF m 34 #[.val (.int c1), .val (.ref o1), .val (.int (16 : Int32)), .val (.int (8 : Int32)), .val (.ref w_MODE)] [])) _
                    refine XS.goto X16.here hx rfl (pc0 := 34) (pc' := 9) rfl (hb hby d_p16_m5_34) (by decide) (by decide) ?_
                    show Steps p.tables e below (T16.setTop (mkF m 9 #[.val (.int c1), .val (.ref o1), .val (.int (16 : Int32)), .val (.int (8 : Int32)), .val (.ref w_MODE)] [])) _
                    refine XS.iloadN X16.here hx rfl (hb hby d_p16_m5_9) rfl ?_
                    show Steps p.tables e below (T16.setTop (mkF m 10 #[.val (.int c1), .val (.ref o1), .val (.int (16 : Int32)), .val (.int (8 : Int32)), .val (.ref w_MODE)] [(.int (8 : Int32))])) _
                    refine XS.iloadN X16.here hx rfl (hb hby d_p16_m5_10) rfl ?_
                    show Steps p.tables e below (T16.setTop (mkF m 11 #[.val (.int c1), .val (.ref o1), .val (.int (16 : Int32)), .val (.int (8 : Int32)), .val (.ref w_MODE)] [(.int (16 : Int32)), (.int (8 : Int32))])) _
                    refine XS.icmpNo X16.here hx rfl (hb hby d_p16_m5_11) rfl (tlt (by decide : (8 : Int32) < (16 : Int32))).2.1 ?_
                    show Steps p.tables e below (T16.setTop (mkF m 14 #[.val (.int c1), .val (.ref o1), .val (.int (16 : Int32)), .val (.int (8 : Int32)), .val (.ref w_MODE)] [])) _
                    refine XS.aloadN X16.here hx rfl (hb hby d_p16_m5_14) rfl rfl ?_
                    show Steps p.tables e below (T16.setTop (mkF m 15 #[.val (.int c1), .val (.ref o1), .val (.int (16 : Int32)), .val (.int (8 : Int32)), .val (.ref w_MODE)] [(.ref o1)])) _
                    refine XS.iloadN X16.here hx rfl (hb hby d_p16_m5_15) rfl ?_
                    exact k
                  refine Go.aload X16 hx hZ e16 A_o1 (j := (8 : Int32)) (v := .ref w_NAME) (by show ¬ (_ ∨ cl_V.slots.size ≤ _); rw [z_V]; decide) (show cl_V.slots[((8 : Int32)).toNatClampNeg]? = _ from t_NAME) (Or.inr (Or.inr (Or.inl ⟨rfl, rfl⟩))) (hb hby d_p16_m5_16) ?_
                  show Go p e below _ T16 (mkF m 17 #[.val (.int c1), .val (.ref o1), .val (.int (16 : Int32)), .val (.int (8 : Int32)), .val (.ref w_MODE)] [(.ref w_NAME)])
                  refine Go.by (T' := T16) (g' := (mkF m 21 #[.val (.int c1), .val (.ref o1), .val (.int (16 : Int32)), .val (.int (8 : Int32)), .val (.ref w_NAME)] [(.ref w_NAME)])) (fun t k => ?_) ?_
                  · show Steps p.tables e below (T16.setTop (mkF m 17 #[.val (.int c1), .val (.ref o1), .val (.int (16 : Int32)), .val (.int (8 : Int32)), .val (.ref w_MODE)] [(.ref w_NAME)])) _
                    refine XS.astore X16.here hx rfl (hb hby d_p16_m5_17) rfl rfl (l' := #[.val (.int c1), .val (.ref o1), .val (.int (16 : Int32)), .val (.int (8 : Int32)), .val (.ref w_NAME)]) rfl ?_
                    show Steps p.tables e below (T16.setTop (mkF m 19 #[.val (.int c1), .val (.ref o1), .val (.int (16 : Int32)), .val (.int (8 : Int32)), .val (.ref w_NAME)] [])) _
                    refine XS.aload X16.here hx rfl (hb hby d_p16_m5_19) rfl rfl ?_
                    exact k
                  refine Go.getF X16 hx hZ hown (wd hw 39 rfl) Via.refl e16 (F_NAME.ext O.2) (hb hby d_p16_m5_21) ?_
                  intro T18 X18 e18
                  show Go p e below _ T18 (mkF m 24 #[.val (.int c1), .val (.ref o1), .val (.int (16 : Int32)), .val (.int (8 : Int32)), .val (.ref w_NAME)] [(.int (8 : Int32))])
                  refine Go.by (T' := T18) (g' := (mkF m 25 #[.val (.int c1), .val (.ref o1), .val (.int (16 : Int32)), .val (.int (8 : Int32)), .val (.ref w_NAME)] [(.int c1), (.int (8 : Int32))])) (fun t k => ?_) ?_
                  · show Steps p.tables e below (T18.setTop (mkF m 24 #[.val (.int c1), .val (.ref o1), .val (.int (16 : Int32)), .val (.int (8 : Int32)), .val (.ref w_NAME)] [(.int (8 : Int32))])) _
                    refine XS.iloadN X18.here hx rfl (hb hby d_p16_m5_24) rfl ?_
                    exact k
                  by_cases hy19 : (8 : Int32) = c1
                  · skip
                    refine Go.by (T' := T18) (g' := (mkF m 30 #[.val (.int c1), .val (.ref o1), .val (.int (16 : Int32)), .val (.int (8 : Int32)), .val (.ref w_NAME)] [(.ref w_NAME)])) (fun t k => ?_) ?_
                    · show Steps p.tables e below (T18.setTop (mkF m 25 #[.val (.int c1), .val (.ref o1), .val (.int (16 : Int32)), .val (.int (8 : Int32)), .val (.ref w_NAME)] [(.int c1), (.int (8 : Int32))])) _
                      refine XS.icmpNo X18.here hx rfl (hb hby d_p16_m5_25) rfl (teq hy19).2 ?_
                      show Steps p.tables e below (T18.setTop (mkF m 28 #[.val (.int c1), .val (.ref o1), .val (.int (16 : Int32)), .val (.int (8 : Int32)), .val (.ref w_NAME)] [])) _
                      refine XS.aload X18.here hx rfl (hb hby d_p16_m5_28) rfl rfl ?_
                      exact k
                    refine Go.retA X18 hx hlk hret rfl rfl (hb hby d_p16_m5_30) (by decide) (by decide) e18 ?_
                    exact ⟨_, rfl, N1, K, Or.inr ⟨w_NAME, rfl, by rw [← hy19]; decide, by rw [← hy19]; decide, E_NAME, hy19 ▸ F_NAME⟩⟩
                  · skip
                    refine Go.by (T' := T18) (g' := (mkF m 16 #[.val (.int c1), .val (.ref o1), .val (.int (16 : Int32)), .val (.int (9 : Int32)), .val (.ref w_NAME)] [(.int (9 : Int32)), (.ref o1)])) (fun t k => ?_) ?_
                    · show Steps p.tables e below (T18.setTop (mkF m 25 #[.val (.int c1), .val (.ref o1), .val (.int (16 : Int32)), .val (.int (8 : Int32)), .val (.ref w_NAME)] [(.int c1), (.int (8 : Int32))])) _
                      refine XS.icmpYes X18.here hx rfl (pc0 := 25) (pc' := 31) rfl (hb hby d_p16_m5_25) rfl (feq hy19).2 (by decide) (by decide) ?_
                      show Steps p.tables e below (T18.setTop (mkF m 31 #[.val (.int c1), .val (.ref o1), .val (.int (16 : Int32)), .val (.int (8 : Int32)), .val (.ref w_NAME)] [])) _
                      refine XS.iinc X18.here hx rfl (hb hby d_p16_m5_31) rfl (l' := #[.val (.int c1), .val (.ref o1), .val (.int (16 : Int32)), .val (.int (9 : Int32)), .val (.ref w_NAME)]) rfl ?_
                      show Steps p.tables e below (T18.setTop (mkF m 34 #[.val (.int c1), .val (.ref o1), .val (.int (16 : Int32)), .val (.int (9 : Int32)), .val (.ref w_NAME)] [])) _
                      refine XS.goto X18.here hx rfl (pc0 := 34) (pc' := 9) rfl (hb hby d_p16_m5_34) (by decide) (by decide) ?_
                      show Steps p.tables e below (T18.setTop (mkF m 9 #[.val (.int c1), .val (.ref o1), .val (.int (16 : Int32)), .val (.int (9 : Int32)), .val (.ref w_NAME)] [])) _
                      refine XS.iloadN X18.here hx rfl (hb hby d_p16_m5_9) rfl ?_
                      show Steps p.tables e below (T18.setTop (mkF m 10 #[.val (.int c1), .val (.ref o1), .val (.int (16 : Int32)), .val (.int (9 : Int32)), .val (.ref w_NAME)] [(.int (9 : Int32))])) _
                      refine XS.iloadN X18.here hx rfl (hb hby d_p16_m5_10) rfl ?_
                      show Steps p.tables e below (T18.setTop (mkF m 11 #[.val (.int c1), .val (.ref o1), .val (.int (16 : Int32)), .val (.int (9 : Int32)), .val (.ref w_NAME)] [(.int (16 : Int32)), (.int (9 : Int32))])) _
                      refine XS.icmpNo X18.here hx rfl (hb hby d_p16_m5_11) rfl (tlt (by decide : (9 : Int32) < (16 : Int32))).2.1 ?_
                      show Steps p.tables e below (T18.setTop (mkF m 14 #[.val (.int c1), .val (.ref o1), .val (.int (16 : Int32)), .val (.int (9 : Int32)), .val (.ref w_NAME)] [])) _
                      refine XS.aloadN X18.here hx rfl (hb hby d_p16_m5_14) rfl rfl ?_
                      show Steps p.tables e below (T18.setTop (mkF m 15 #[.val (.int c1), .val (.ref o1), .val (.int (16 : Int32)), .val (.int (9 : Int32)), .val (.ref w_NAME)] [(.ref o1)])) _
                      refine XS.iloadN X18.here hx rfl (hb hby d_p16_m5_15) rfl ?_
                      exact k
                    refine Go.aload X18 hx hZ e18 A_o1 (j := (9 : Int32)) (v := .ref w_USE) (by show ¬ (_ ∨ cl_V.slots.size ≤ _); rw [z_V]; decide) (show cl_V.slots[((9 : Int32)).toNatClampNeg]? = _ from t_USE) (Or.inr (Or.inr (Or.inl ⟨rfl, rfl⟩))) (hb hby d_p16_m5_16) ?_
                    show Go p e below _ T18 (mkF m 17 #[.val (.int c1), .val (.ref o1), .val (.int (16 : Int32)), .val (.int (9 : Int32)), .val (.ref w_NAME)] [(.ref w_USE)])
                    refine Go.by (T' := T18) (g' := (mkF m 21 #[.val (.int c1), .val (.ref o1), .val (.int (16 : Int32)), .val (.int (9 : Int32)), .val (.ref w_USE)] [(.ref w_USE)])) (fun t k => ?_) ?_
                    · show Steps p.tables e below (T18.setTop (mkF m 17 #[.val (.int c1), .val (.ref o1), .val (.int (16 : Int32)), .val (.int (9 : Int32)), .val (.ref w_NAME)] [(.ref w_USE)])) _
                      refine XS.astore X18.here hx rfl (hb hby d_p16_m5_17) rfl rfl (l' := #[.val (.int c1), .val (.ref o1), .val (.int (16 : Int32)), .val (.int (9 : Int32)), .val (.ref w_USE)]) rfl ?_
                      show Steps p.tables e below (T18.setTop (mkF m 19 #[.val (.int c1), .val (.ref o1), .val (.int (16 : Int32)), .val (.int (9 : Int32)), .val (.ref w_USE)] [])) _
                      refine XS.aload X18.here hx rfl (hb hby d_p16_m5_19) rfl rfl ?_
                      exact k
                    refine Go.getF X18 hx hZ hown (wd hw 39 rfl) Via.refl e18 (F_USE.ext O.2) (hb hby d_p16_m5_21) ?_
                    intro T20 X20 e20
                    show Go p e below _ T20 (mkF m 24 #[.val (.int c1), .val (.ref o1), .val (.int (16 : Int32)), .val (.int (9 : Int32)), .val (.ref w_USE)] [(.int (9 : Int32))])
                    refine Go.by (T' := T20) (g' := (mkF m 25 #[.val (.int c1), .val (.ref o1), .val (.int (16 : Int32)), .val (.int (9 : Int32)), .val (.ref w_USE)] [(.int c1), (.int (9 : Int32))])) (fun t k => ?_) ?_
                    · show Steps p.tables e below (T20.setTop (mkF m 24 #[.val (.int c1), .val (.ref o1), .val (.int (16 : Int32)), .val (.int (9 : Int32)), .val (.ref w_USE)] [(.int (9 : Int32))])) _
                      refine XS.iloadN X20.here hx rfl (hb hby d_p16_m5_24) rfl ?_
                      exact k
                    by_cases hy21 : (9 : Int32) = c1
                    · skip
                      refine Go.by (T' := T20) (g' := (mkF m 30 #[.val (.int c1), .val (.ref o1), .val (.int (16 : Int32)), .val (.int (9 : Int32)), .val (.ref w_USE)] [(.ref w_USE)])) (fun t k => ?_) ?_
                      · show Steps p.tables e below (T20.setTop (mkF m 25 #[.val (.int c1), .val (.ref o1), .val (.int (16 : Int32)), .val (.int (9 : Int32)), .val (.ref w_USE)] [(.int c1), (.int (9 : Int32))])) _
                        refine XS.icmpNo X20.here hx rfl (hb hby d_p16_m5_25) rfl (teq hy21).2 ?_
                        show Steps p.tables e below (T20.setTop (mkF m 28 #[.val (.int c1), .val (.ref o1), .val (.int (16 : Int32)), .val (.int (9 : Int32)), .val (.ref w_USE)] [])) _
                        refine XS.aload X20.here hx rfl (hb hby d_p16_m5_28) rfl rfl ?_
                        exact k
                      refine Go.retA X20 hx hlk hret rfl rfl (hb hby d_p16_m5_30) (by decide) (by decide) e20 ?_
                      exact ⟨_, rfl, N1, K, Or.inr ⟨w_USE, rfl, by rw [← hy21]; decide, by rw [← hy21]; decide, E_USE, hy21 ▸ F_USE⟩⟩
                    · skip
                      refine Go.by (T' := T20) (g' := (mkF m 16 #[.val (.int c1), .val (.ref o1), .val (.int (16 : Int32)), .val (.int (10 : Int32)), .val (.ref w_USE)] [(.int (10 : Int32)), (.ref o1)])) (fun t k => ?_) ?_
                      · show Steps p.tables e below (T20.setTop (mkF m 25 #[.val (.int c1), .val (.ref o1), .val (.int (16 : Int32)), .val (.int (9 : Int32)), .val (.ref w_USE)] [(.int c1), (.int (9 : Int32))])) _
                        refine XS.icmpYes X20.here hx rfl (pc0 := 25) (pc' := 31) rfl (hb hby d_p16_m5_25) rfl (feq hy21).2 (by decide) (by decide) ?_
                        show Steps p.tables e below (T20.setTop (mkF m 31 #[.val (.int c1), .val (.ref o1), .val (.int (16 : Int32)), .val (.int (9 : Int32)), .val (.ref w_USE)] [])) _
                        refine XS.iinc X20.here hx rfl (hb hby d_p16_m5_31) rfl (l' := #[.val (.int c1), .val (.ref o1), .val (.int (16 : Int32)), .val (.int (10 : Int32)), .val (.ref w_USE)]) rfl ?_
                        show Steps p.tables e below (T20.setTop (mkF m 34 #[.val (.int c1), .val (.ref o1), .val (.int (16 : Int32)), .val (.int (10 : Int32)), .val (.ref w_USE)] [])) _
                        refine XS.goto X20.here hx rfl (pc0 := 34) (pc' := 9) rfl (hb hby d_p16_m5_34) (by decide) (by decide) ?_
                        show Steps p.tables e below (T20.setTop (mkF m 9 #[.val (.int c1), .val (.ref o1), .val (.int (16 : Int32)), .val (.int (10 : Int32)), .val (.ref w_USE)] [])) _
                        refine XS.iloadN X20.here hx rfl (hb hby d_p16_m5_9) rfl ?_
                        show Steps p.tables e below (T20.setTop (mkF m 10 #[.val (.int c1), .val (.ref o1), .val (.int (16 : Int32)), .val (.int (10 : Int32)), .val (.ref w_USE)] [(.int (10 : Int32))])) _
                        refine XS.iloadN X20.here hx rfl (hb hby d_p16_m5_10) rfl ?_
                        show Steps p.tables e below (T20.setTop (mkF m 11 #[.val (.int c1), .val (.ref o1), .val (.int (16 : Int32)), .val (.int (10 : Int32)), .val (.ref w_USE)] [(.int (16 : Int32)), (.int (10 : Int32))])) _
                        refine XS.icmpNo X20.here hx rfl (hb hby d_p16_m5_11) rfl (tlt (by decide : (10 : Int32) < (16 : Int32))).2.1 ?_
                        show Steps p.tables e below (T20.setTop (mkF m 14 #[.val (.int c1), .val (.ref o1), .val (.int (16 : Int32)), .val (.int (10 : Int32)), .val (.ref w_USE)] [])) _
                        refine XS.aloadN X20.here hx rfl (hb hby d_p16_m5_14) rfl rfl ?_
                        show Steps p.tables e below (T20.setTop (mkF m 15 #[.val (.int c1), .val (.ref o1), .val (.int (16 : Int32)), .val (.int (10 : Int32)), .val (.ref w_USE)] [(.ref o1)])) _
                        refine XS.iloadN X20.here hx rfl (hb hby d_p16_m5_15) rfl ?_
                        exact k
                      refine Go.aload X20 hx hZ e20 A_o1 (j := (10 : Int32)) (v := .ref w_DEVICE) (by show ¬ (_ ∨ cl_V.slots.size ≤ _); rw [z_V]; decide) (show cl_V.slots[((10 : Int32)).toNatClampNeg]? = _ from t_DEVICE) (Or.inr (Or.inr (Or.inl ⟨rfl, rfl⟩))) (hb hby d_p16_m5_16) ?_
                      show Go p e below _ T20 (mkF m 17 #[.val (.int c1), .val (.ref o1), .val (.int (16 : Int32)), .val (.int (10 : Int32)), .val (.ref w_USE)] [(.ref w_DEVICE)])
                      refine Go.by (T' := T20) (g' := (mkF m 21 #[.val (.int c1), .val (.ref o1), .val (.int (16 : Int32)), .val (.int (10 : Int32)), .val (.ref w_DEVICE)] [(.ref w_DEVICE)])) (fun t k => ?_) ?_
                      · show Steps p.tables e below (T20.setTop (mkF m 17 #[.val (.int c1), .val (.ref o1), .val (.int (16 : Int32)), .val (.int (10 : Int32)), .val (.ref w_USE)] [(.ref w_DEVICE)])) _
                        refine XS.astore X20.here hx rfl (hb hby d_p16_m5_17) rfl rfl (l' := #[.val (.int c1), .val (.ref o1), .val (.int (16 : Int32)), .val (.int (10 : Int32)), .val (.ref w_DEVICE)]) rfl ?_
                        show Steps p.tables e below (T20.setTop (mkF m 19 #[.val (.int c1), .val (.ref o1), .val (.int (16 : Int32)), .val (.int (10 : Int32)), .val (.ref w_DEVICE)] [])) _
                        refine XS.aload X20.here hx rfl (hb hby d_p16_m5_19) rfl rfl ?_
                        exact k
                      refine Go.getF X20 hx hZ hown (wd hw 39 rfl) Via.refl e20 (F_DEVICE.ext O.2) (hb hby d_p16_m5_21) ?_
                      intro T22 X22 e22
                      show Go p e below _ T22 (mkF m 24 #[.val (.int c1), .val (.ref o1), .val (.int (16 : Int32)), .val (.int (10 : Int32)), .val (.ref w_DEVICE)] [(.int (10 : Int32))])
                      refine Go.by (T' := T22) (g' := (mkF m 25 #[.val (.int c1), .val (.ref o1), .val (.int (16 : Int32)), .val (.int (10 : Int32)), .val (.ref w_DEVICE)] [(.int c1), (.int (10 : Int32))])) (fun t k => ?_) ?_
                      · show Steps p.tables e below (T22.setTop (mkF m 24 #[.val (.int c1), .val (.ref o1), .val (.int (16 : Int32)), .val (.int (10 : Int32)), .val (.ref w_DEVICE)] [(.int (10 : Int32))])) _
                        refine XS.iloadN X22.here hx rfl (hb hby d_p16_m5_24) rfl ?_
                        exact k
                      by_cases hy23 : (10 : Int32) = c1
                      · skip
                        refine Go.by (T' := T22) (g' := (mkF m 30 #[.val (.int c1), .val (.ref o1), .val (.int (16 : Int32)), .val (.int (10 : Int32)), .val (.ref w_DEVICE)] [(.ref w_DEVICE)])) (fun t k => ?_) ?_
                        · show Steps p.tables e below (T22.setTop (mkF m 25 #[.val (.int c1), .val (.ref o1), .val (.int (16 : Int32)), .val (.int (10 : Int32)), .val (.ref w_DEVICE)] [(.int c1), (.int (10 : Int32))])) _
                          refine XS.icmpNo X22.here hx rfl (hb hby d_p16_m5_25) rfl (teq hy23).2 ?_
                          show Steps p.tables e below (T22.setTop (mkF m 28 #[.val (.int c1), .val (.ref o1), .val (.int (16 : Int32)), .val (.int (10 : Int32)), .val (.ref w_DEVICE)] [])) _
                          refine XS.aload X22.here hx rfl (hb hby d_p16_m5_28) rfl rfl ?_
                          exact k
                        refine Go.retA X22 hx hlk hret rfl rfl (hb hby d_p16_m5_30) (by decide) (by decide) e22 ?_
                        exact ⟨_, rfl, N1, K, Or.inr ⟨w_DEVICE, rfl, by rw [← hy23]; decide, by rw [← hy23]; decide, E_DEVICE, hy23 ▸ F_DEVICE⟩⟩
                      · skip
                        refine Go.by (T' := T22) (g' := (mkF m 16 #[.val (.int c1), .val (.ref o1), .val (.int (16 : Int32)), .val (.int (11 : Int32)), .val (.ref w_DEVICE)] [(.int (11 : Int32)), (.ref o1)])) (fun t k => ?_) ?_
                        · show Steps p.tables e below (T22.setTop (mkF m 25 #[.val (.int c1), .val (.ref o1), .val (.int (16 : Int32)), .val (.int (10 : Int32)), .val (.ref w_DEVICE)] [(.int c1), (.int (10 : Int32))])) _
                          refine XS.icmpYes X22.here hx rfl (pc0 := 25) (pc' := 31) rfl (hb hby d_p16_m5_25) rfl (feq hy23).2 (by decide) (by decide) ?_
                          show Steps p.tables e below (T22.setTop (mkF m 31 #[.val (.int c1), .val (.ref o1), .val (.int (16 : Int32)), .val (.int (10 : Int32)), .val (.ref w_DEVICE)] [])) _
                          refine XS.iinc X22.here hx rfl (hb hby d_p16_m5_31) rfl (l' := #[.val (.int c1), .val (.ref o1), .val (.int (16 : Int32)), .val (.int (11 : Int32)), .val (.ref w_DEVICE)]) rfl ?_
                          show Steps p.tables e below (T22.setTop (mkF m 34 #[.val (.int c1), .val (.ref o1), .val (.int (16 : Int32)), .val (.int (11 : Int32)), .val (.ref w_DEVICE)] [])) _
                          refine XS.goto X22.here hx rfl (pc0 := 34) (pc' := 9) rfl (hb hby d_p16_m5_34) (by decide) (by decide) ?_
                          show Steps p.tables e below (T22.setTop (mkF m 9 #[.val (.int c1), .val (.ref o1), .val (.int (16 : Int32)), .val (.int (11 : Int32)), .val (.ref w_DEVICE)] [])) _
                          refine XS.iloadN X22.here hx rfl (hb hby d_p16_m5_9) rfl ?_
                          show Steps p.tables e below (T22.setTop (mkF m 10 #[.val (.int c1), .val (.ref o1), .val (.int (16 : Int32)), .val (.int (11 : Int32)), .val (.ref w_DEVICE)] [(.int (11 : Int32))])) _
                          refine XS.iloadN X22.here hx rfl (hb hby d_p16_m5_10) rfl ?_
                          show Steps p.tables e below (T22.setTop (mkF m 11 #[.val (.int c1), .val (.ref o1), .val (.int (16 : Int32)), .val (.int (11 : Int32)), .val (.ref w_DEVICE)] [(.int (16 : Int32)), (.int (11 : Int32))])) _
                          refine XS.icmpNo X22.here hx rfl (hb hby d_p16_m5_11) rfl (tlt (by decide : (11 : Int32) < (16 : Int32))).2.1 ?_
                          show Steps p.tables e below (T22.setTop (mkF m 14 #[.val (.int c1), .val (.ref o1), .val (.int (16 : Int32)), .val (.int (11 : Int32)), .val (.ref w_DEVICE)] [])) _
                          refine XS.aloadN X22.here hx rfl (hb hby d_p16_m5_14) rfl rfl ?_
                          show Steps p.tables e below (T22.setTop (mkF m 15 #[.val (.int c1), .val (.ref o1), .val (.int (16 : Int32)), .val (.int (11 : Int32)), .val (.ref w_DEVICE)] [(.ref o1)])) _
                          refine XS.iloadN X22.here hx rfl (hb hby d_p16_m5_15) rfl ?_
                          exact k
                        refine Go.aload X22 hx hZ e22 A_o1 (j := (11 : Int32)) (v := .ref w_END) (by show ¬ (_ ∨ cl_V.slots.size ≤ _); rw [z_V]; decide) (show cl_V.slots[((11 : Int32)).toNatClampNeg]? = _ from t_END) (Or.inr (Or.inr (Or.inl ⟨rfl, rfl⟩))) (hb hby d_p16_m5_16) ?_
                        show Go p e below _ T22 (mkF m 17 #[.val (.int c1), .val (.ref o1), .val (.int (16 : Int32)), .val (.int (11 : Int32)), .val (.ref w_DEVICE)] [(.ref w_END)])
                        refine Go.by (T' := T22) (g' := (mkF m 21 #[.val (.int c1), .val (.ref o1), .val (.int (16 : Int32)), .val (.int (11 : Int32)), .val (.ref w_END)] [(.ref w_END)])) (fun t k => ?_) ?_
                        · show Steps p.tables e below (T22.setTop (mkF m 17 #[.val (.int c1), .val (.ref o1), .val (.int (16 : Int32)), .val (.int (11 : Int32)), .val (.ref w_DEVICE)] [(.ref w_END)])) _
                          refine XS.astore X22.here hx rfl (hb hby d_p16_m5_17) rfl rfl (l' := #[.val (.int c1), .val (.ref o1), .val (.int (16 : Int32)), .val (.int (11 : Int32)), .val (.ref w_END)]) rfl ?_
                          show Steps p.tables e below (T22.setTop (mkF m 19 #[.val (.int c1), .val (.ref o1), .val (.int (16 : Int32)), .val (.int (11 : Int32)), .val (.ref w_END)] [])) _
                          refine XS.aload X22.here hx rfl (hb hby d_p16_m5_19) rfl rfl ?_
                          exact k
                        refine Go.getF X22 hx hZ hown (wd hw 39 rfl) Via.refl e22 (F_END.ext O.2) (hb hby d_p16_m5_21) ?_
                        intro T24 X24 e24
                        show Go p e below _ T24 (mkF m 24 #[.val (.int c1), .val (.ref o1), .val (.int (16 : Int32)), .val (.int (11 : Int32)), .val (.ref w_END)] [(.int (11 : Int32))])
                        refine Go.by (T' := T24) (g' := (mkF m 25 #[.val (.int c1), .val (.ref o1), .val (.int (16 : Int32)), .val (.int (11 : Int32)), .val (.ref w_END)] [(.int c1), (.int (11 : Int32))])) (fun t k => ?_) ?_
                        · show Steps p.tables e below (T24.setTop (mkF m 24 #[.val (.int c1), .val (.ref o1), .val (.int (16 : Int32)), .val (.int (11 : Int32)), .val (.ref w_END)] [(.int (11 : Int32))])) _
                          refine XS.iloadN X24.here hx rfl (hb hby d_p16_m5_24) rfl ?_
                          exact k
                        by_cases hy25 : (11 : Int32) = c1
                        · skip
                          refine Go.by (T' := T24) (g' := (mkF m 30 #[.val (.int c1), .val (.ref o1), .val (.int (16 : Int32)), .val (.int (11 : Int32)), .val (.ref w_END)] [(.ref w_END)])) (fun t k => ?_) ?_
                          · show Steps p.tables e below (T24.setTop (mkF m 25 #[.val (.int c1), .val (.ref o1), .val (.int (16 : Int32)), .val (.int (11 : Int32)), .val (.ref w_END)] [(.int c1), (.int (11 : Int32))])) _
                            refine XS.icmpNo X24.here hx rfl (hb hby d_p16_m5_25) rfl (teq hy25).2 ?_
                            show Steps p.tables e below (T24.setTop (mkF m 28 #[.val (.int c1), .val (.ref o1), .val (.int (16 : Int32)), .val (.int (11 : Int32)), .val (.ref w_END)] [])) _
                            refine XS.aload X24.here hx rfl (hb hby d_p16_m5_28) rfl rfl ?_
                            exact k
                          refine Go.retA X24 hx hlk hret rfl rfl (hb hby d_p16_m5_30) (by decide) (by decide) e24 ?_
                          exact ⟨_, rfl, N1, K, Or.inr ⟨w_END, rfl, by rw [← hy25]; decide, by rw [← hy25]; decide, E_END, hy25 ▸ F_END⟩⟩
                        · skip
                          refine Go.by (T' := T24) (g' := (mkF m 16 #[.val (.int c1), .val (.ref o1), .val (.int (16 : Int32)), .val (.int (12 : Int32)), .val (.ref w_END)] [(.int (12 : Int32)), (.ref o1)])) (fun t k => ?_) ?_
                          · show Steps p.tables e below (T24.setTop (mkF m 25 #[.val (.int c1), .val (.ref o1), .val (.int (16 : Int32)), .val (.int (11 : Int32)), .val (.ref w_END)] [(.int c1), (.int (11 : Int32))])) _
                            refine XS.icmpYes X24.here hx rfl (pc0 := 25) (pc' := 31) rfl (hb hby d_p16_m5_25) rfl (feq hy25).2 (by decide) (by decide) ?_
                            show Steps p.tables e below (T24.setTop (mkF m 31 #[.val (.int c1), .val (.ref o1), .val (.int (16 : Int32)), .val (.int (11 : Int32)), .val (.ref w_END)] [])) _
                            refine XS.iinc X24.here hx rfl (hb hby d_p16_m5_31) rfl (l' := #[.val (.int c1), .val (.ref o1), .val (.int (16 : Int32)), .val (.int (12 : Int32)), .val (.ref w_END)]) rfl ?_
                            show Steps p.tables e below (T24.setTop (mkF m 34 #[.val (.int c1), .val (.ref o1), .val (.int (16 : Int32)), .val (.int (12 : Int32)), .val (.ref w_END)] [])) _
                            refine XS.goto X24.here hx rfl (pc0 := 34) (pc' := 9) rfl (hb hby d_p16_m5_34) (by decide) (by decide) ?_
                            show Steps p.tables e below (T24.setTop (mkF m 9 #[.val (.int c1), .val (.ref o1), .val (.int (16 : Int32)), .val (.int (12 : Int32)), .val (.ref w_END)] [])) _
                            refine XS.iloadN X24.here hx rfl (hb hby d_p16_m5_9) rfl ?_
                            show Steps p.tables e below (T24.setTop (mkF m 10 #[.val (.int c1), .val (.ref o1), .val (.int (16 : Int32)), .val (.int (12 : Int32)), .val (.ref w_END)] [(.int (12 : Int32))])) _
                            refine XS.iloadN X24.here hx rfl (hb hby d_p16_m5_10) rfl ?_
                            show Steps p.tables e below (T24.setTop (mkF m 11 #[.val (.int c1), .val (.ref o1), .val (.int (16 : Int32)), .val (.int (12 : Int32)), .val (.ref w_END)] [(.int (16 : Int32)), (.int (12 : Int32))])) _
                            refine XS.icmpNo X24.here hx rfl (hb hby d_p16_m5_11) rfl (tlt (by decide : (12 : Int32) < (16 : Int32))).2.1 ?_
                            show Steps p.tables e below (T24.setTop (mkF m 14 #[.val (.int c1), .val (.ref o1), .val (.int (16 : Int32)), .val (.int (12 : Int32)), .val (.ref w_END)] [])) _
                            refine XS.aloadN X24.here hx rfl (hb hby d_p16_m5_14) rfl rfl ?_
                            show Steps p.tables e below (T24.setTop (mkF m 15 #[.val (.int c1), .val (.ref o1), .val (.int (16 : Int32)), .val (.int (12 : Int32)), .val (.ref w_END)] [(.ref o1)])) _
                            refine XS.iloadN X24.here hx rfl (hb hby d_p16_m5_15) rfl ?_
                            exact k
                          refine Go.aload X24 hx hZ e24 A_o1 (j := (12 : Int32)) (v := .ref w_DATA) (by show ¬ (_ ∨ cl_V.slots.size ≤ _); rw [z_V]; decide) (show cl_V.slots[((12 : Int32)).toNatClampNeg]? = _ from t_DATA) (Or.inr (Or.inr (Or.inl ⟨rfl, rfl⟩))) (hb hby d_p16_m5_16) ?_
                          show Go p e below _ T24 (mkF m 17 #[.val (.int c1), .val (.ref o1), .val (.int (16 : Int32)), .val (.int (12 : Int32)), .val (.ref w_END)] [(.ref w_DATA)])
                          refine Go.by (T' := T24) (g' := (mkF m 21 #[.val (.int c1), .val (.ref o1), .val (.int (16 : Int32)), .val (.int (12 : Int32)), .val (.ref w_DATA)] [(.ref w_DATA)])) (fun t k => ?_) ?_
                          · show Steps p.tables e below (T24.setTop (mkF m 17 #[.val (.int c1), .val (.ref o1), .val (.int (16 : Int32)), .val (.int (12 : Int32)), .val (.ref w_END)] [(.ref w_DATA)])) _
                            refine XS.astore X24.here hx rfl (hb hby d_p16_m5_17) rfl rfl (l' := #[.val (.int c1), .val (.ref o1), .val (.int (16 : Int32)), .val (.int (12 : Int32)), .val (.ref w_DATA)]) rfl ?_
                            show Steps p.tables e below (T24.setTop (mkF m 19 #[.val (.int c1), .val (.ref o1), .val (.int (16 : Int32)), .val (.int (12 : Int32)), .val (.ref w_DATA)] [])) _
                            refine XS.aload X24.here hx rfl (hb hby d_p16_m5_19) rfl rfl ?_
                            exact k
                          refine Go.getF X24 hx hZ hown (wd hw 39 rfl) Via.refl e24 (F_DATA.ext O.2) (hb hby d_p16_m5_21) ?_
                          intro T26 X26 e26
                          show Go p e below _ T26 (mkF m 24 #[.val (.int c1), .val (.ref o1), .val (.int (16 : Int32)), .val (.int (12 : Int32)), .val (.ref w_DATA)] [(.int (12 : Int32))])
                          refine Go.by (T' := T26) (g' := (mkF m 25 #[.val (.int c1), .val (.ref o1), .val (.int (16 : Int32)), .val (.int (12 : Int32)), .val (.ref w_DATA)] [(.int c1), (.int (12 : Int32))])) (fun t k => ?_) ?_
                          · show Steps p.tables e below (T26.setTop (mkF m 24 #[.val (.int c1), .val (.ref o1), .val (.int (16 : Int32)), .val (.int (12 : Int32)), .val (.ref w_DATA)] [(.int (12 : Int32))])) _
                            refine XS.iloadN X26.here hx rfl (hb hby d_p16_m5_24) rfl ?_
                            exact k
                          by_cases hy27 : (12 : Int32) = c1
                          · skip
                            refine Go.by (T' := T26) (g' := (mkF m 30 #[.val (.int c1), .val (.ref o1), .val (.int (16 : Int32)), .val (.int (12 : Int32)), .val (.ref w_DATA)] [(.ref w_DATA)])) (fun t k => ?_) ?_
                            · show Steps p.tables e below (T26.setTop (mkF m 25 #[.val (.int c1), .val (.ref o1), .val (.int (16 : Int32)), .val (.int (12 : Int32)), .val (.ref w_DATA)] [(.int c1), (.int (12 : Int32))])) _
                              refine XS.icmpNo X26.here hx rfl (hb hby d_p16_m5_25) rfl (teq hy27).2 ?_
                              show Steps p.tables e below (T26.setTop (mkF m 28 #[.val (.int c1), .val (.ref o1), .val (.int (16 : Int32)), .val (.int (12 : Int32)), .val (.ref w_DATA)] [])) _
                              refine XS.aload X26.here hx rfl (hb hby d_p16_m5_28) rfl rfl ?_
                              exact k
                            refine Go.retA X26 hx hlk hret rfl rfl (hb hby d_p16_m5_30) (by decide) (by decide) e26 ?_
                            exact ⟨_, rfl, N1, K, Or.inr ⟨w_DATA, rfl, by rw [← hy27]; decide, by rw [← hy27]; decide, E_DATA, hy27 ▸ F_DATA⟩⟩
                          · skip
                            refine Go.by (T' := T26) (g' := (mkF m 16 #[.val (.int c1), .val (.ref o1), .val (.int (16 : Int32)), .val (.int (13 : Int32)), .val (.ref w_DATA)] [(.int (13 : Int32)), (.ref o1)])) (fun t k => ?_) ?_
                            · show Steps p.tables e below (T26.setTop (mkF m 25 #[.val (.int c1), .val (.ref o1), .val (.int (16 : Int32)), .val (.int (12 : Int32)), .val (.ref w_DATA)] [(.int c1), (.int (12 : Int32))])) _
                              refine XS.icmpYes X26.here hx rfl (pc0 := 25) (pc' := 31) rfl (hb hby d_p16_m5_25) rfl (feq hy27).2 (by decide) (by decide) ?_
                              show Steps p.tables e below (T26.setTop (mkF m 31 #[.val (.int c1), .val (.ref o1), .val (.int (16 : Int32)), .val (.int (12 : Int32)), .val (.ref w_DATA)] [])) _
                              refine XS.iinc X26.here hx rfl (hb hby d_p16_m5_31) rfl (l' := #[.val (.int c1), .val (.ref o1), .val (.int (16 : Int32)), .val (.int (13 : Int32)), .val (.ref w_DATA)]) rfl ?_
                              show Steps p.tables e below (T26.setTop (mkF m 34 #[.val (.int c1), .val (.ref o1), .val (.int (16 : Int32)), .val (.int (13 : Int32)), .val (.ref w_DATA)] [])) _
                              refine XS.goto X26.here hx rfl (pc0 := 34) (pc' := 9) rfl (hb hby d_p16_m5_34) (by decide) (by decide) ?_
                              show Steps p.tables e below (T26.setTop (mkF m 9 #[.val (.int c1), .val (.ref o1), .val (.int (16 : Int32)), .val (.int (13 : Int32)), .val (.ref w_DATA)] [])) _
                              refine XS.iloadN X26.here hx rfl (hb hby d_p16_m5_9) rfl ?_
                              show Steps p.tables e below (T26.setTop (mkF m 10 #[.val (.int c1), .val (.ref o1), .val (.int (16 : Int32)), .val (.int (13 : Int32)), .val (.ref w_DATA)] [(.int (13 : Int32))])) _
                              refine XS.iloadN X26.here hx rfl (hb hby d_p16_m5_10) rfl ?_
                              show Steps p.tables e below (T26.setTop (mkF m 11 #[.val (.int c1), .val (.ref o1), .val (.int (16 : Int32)), .val (.int (13 : Int32)), .val (.ref w_DATA)] [(.int (16 : Int32)), (.int (13 : Int32))])) _
                              refine XS.icmpNo X26.here hx rfl (hb hby d_p16_m5_11) rfl (tlt (by decide : (13 : Int32) < (16 : Int32))).2.1 ?_
                              show Steps p.tables e below (T26.setTop (mkF m 14 #[.val (.int c1), .val (.ref o1), .val (.int (16 : Int32)), .val (.int (13 : Int32)), .val (.ref w_DATA)] [])) _
                              refine XS.aloadN X26.here hx rfl (hb hby d_p16_m5_14) rfl rfl ?_
                              show Steps p.tables e below (T26.setTop (mkF m 15 #[.val (.int c1), .val (.ref o1), .val (.int (16 : Int32)), .val (.int (13 : Int32)), .val (.ref w_DATA)] [(.ref o1)])) _
                              refine XS.iloadN X26.here hx rfl (hb hby d_p16_m5_15) rfl ?_
                              exact k
                            refine Go.aload X26 hx hZ e26 A_o1 (j := (13 : Int32)) (v := .ref w_LAYOUT) (by show ¬ (_ ∨ cl_V.slots.size ≤ _); rw [z_V]; decide) (show cl_V.slots[((13 : Int32)).toNatClampNeg]? = _ from t_LAYOUT) (Or.inr (Or.inr (Or.inl ⟨rfl, rfl⟩))) (hb hby d_p16_m5_16) ?_
                            show Go p e below _ T26 (mkF m 17 #[.val (.int c1), .val (.ref o1), .val (.int (16 : Int32)), .val (.int (13 : Int32)), .val (.ref w_DATA)] [(.ref w_LAYOUT)])
                            refine Go.by (T' := T26) (g' := (mkF m 21 #[.val (.int c1), .val (.ref o1), .val (.int (16 : Int32)), .val (.int (13 : Int32)), .val (.ref w_LAYOUT)] [(.ref w_LAYOUT)])) (fun t k => ?_) ?_
                            · show Steps p.tables e below (T26.setTop (mkF m 17 #[.val (.int c1), .val (.ref o1), .val (.int (16 : Int32)), .val (.int (13 : Int32)), .val (.ref w_DATA)] [(.ref w_LAYOUT)])) _
                              refine XS.astore X26.here hx rfl (hb hby d_p16_m5_17) rfl rfl (l' := #[.val (.int c1), .val (.ref o1), .val (.int (16 : Int32)), .val (.int (13 : Int32)), .val (.ref w_LAYOUT)]) rfl ?_
                              show Steps p.tables e below (T26.setTop (mkF m 19 #[.val (.int c1), .val (.ref o1), .val (.int (16 : Int32)), .val (.int (13 : Int32)), .val (.ref w_LAYOUT)] [])) _
                              refine XS.aload X26.here hx rfl (hb hby d_p16_m5_19) rfl rfl ?_
                              exact k
                            refine Go.getF X26 hx hZ hown (wd hw 39 rfl) Via.refl e26 (F_LAYOUT.ext O.2) (hb hby d_p16_m5_21) ?_
                            intro T28 X28 e28
                            show Go p e below _ T28 (mkF m 24 #[.val (.int c1), .val (.ref o1), .val (.int (16 : Int32)), .val (.int (13 : Int32)), .val (.ref w_LAYOUT)] [(.int (13 : Int32))])
                            refine Go.by (T' := T28) (g' := (mkF m 25 #[.val (.int c1), .val (.ref o1), .val (.int (16 : Int32)), .val (.int (13 : Int32)), .val (.ref w_LAYOUT)] [(.int c1), (.int (13 : Int32))])) (fun t k => ?_) ?_
                            · show Steps p.tables e below (T28.setTop (mkF m 24 #[.val (.int c1), .val (.ref o1), .val (.int (16 : Int32)), .val (.int (13 : Int32)), .val (.ref w_LAYOUT)] [(.int (13 : Int32))])) _
                              refine XS.iloadN X28.here hx rfl (hb hby d_p16_m5_24) rfl ?_
                              exact k
                            by_cases hy29 : (13 : Int32) = c1
                            · skip
                              refine Go.by (T' := T28) (g' := (mkF m 30 #[.val (.int c1), .val (.ref o1), .val (.int (16 : Int32)), .val (.int (13 : Int32)), .val (.ref w_LAYOUT)] [(.ref w_LAYOUT)])) (fun t k => ?_) ?_
                              · show Steps p.tables e below (T28.setTop (mkF m 25 #[.val (.int c1), .val (.ref o1), .val (.int (16 : Int32)), .val (.int (13 : Int32)), .val (.ref w_LAYOUT)] [(.int c1), (.int (13 : Int32))])) _
                                refine XS.icmpNo X28.here hx rfl (hb hby d_p16_m5_25) rfl (teq hy29).2 ?_
                                show Steps p.tables e below (T28.setTop (mkF m 28 #[.val (.int c1), .val (.ref o1), .val (.int (16 : Int32)), .val (.int (13 : Int32)), .val (.ref w_LAYOUT)] [])) _
                                refine XS.aload X28.here hx rfl (hb hby d_p16_m5_28) rfl rfl ?_
                                exact k
                              refine Go.retA X28 hx hlk hret rfl rfl (hb hby d_p16_m5_30) (by decide) (by decide) e28 ?_
                              exact ⟨_, rfl, N1, K, Or.inr ⟨w_LAYOUT, rfl, by rw [← hy29]; decide, by rw [← hy29]; decide, E_LAYOUT, hy29 ▸ F_LAYOUT⟩⟩
                            · skip
                              refine Go.by (T' := T28) (g' := (mkF m 16 #[.val (.int c1), .val (.ref o1), .val (.int (16 : Int32)), .val (.int (14 : Int32)), .val (.ref w_LAYOUT)] [(.int (14 : Int32)), (.ref o1)])) (fun t k => ?_) ?_
                              · show Steps p.tables e below (T28.setTop (mkF m 25 #[.val (.int c1), .val (.ref o1), .val (.int (16 : Int32)), .val (.int (13 : Int32)), .val (.ref w_LAYOUT)] [(.int c1), (.int (13 : Int32))])) _
                                refine XS.icmpYes X28.here hx rfl (pc0 := 25) (pc' := 31) rfl (hb hby d_p16_m5_25) rfl (feq hy29).2 (by decide) (by decide) ?_
                                show Steps p.tables e below (T28.setTop (mkF m 31 #[.val (.int c1), .val (.ref o1), .val (.int (16 : Int32)), .val (.int (13 : Int32)), .val (.ref w_LAYOUT)] [])) _
                                refine XS.iinc X28.here hx rfl (hb hby d_p16_m5_31) rfl (l' := #[.val (.int c1), .val (.ref o1), .val (.int (16 : Int32)), .val (.int (14 : Int32)), .val (.ref w_LAYOUT)]) rfl ?_
                                show Steps p.tables e below (T28.setTop (mkF m 34 #[.val (.int c1), .val (.ref o1), .val (.int (16 : Int32)), .val (.int (14 : Int32)), .val (.ref w_LAYOUT)] [])) _
                                refine XS.goto X28.here hx rfl (pc0 := 34) (pc' := 9) rfl (hb hby d_p16_m5_34) (by decide) (by decide) ?_
                                show Steps p.tables e below (T28.setTop (mkF m 9 #[.val (.int c1), .val (.ref o1), .val (.int (16 : Int32)), .val (.int (14 : Int32)), .val (.ref w_LAYOUT)] [])) _
                                refine XS.iloadN X28.here hx rfl (hb hby d_p16_m5_9) rfl ?_
                                show Steps p.tables e below (T28.setTop (mkF m 10 #[.val (.int c1), .val (.ref o1), .val (.int (16 : Int32)), .val (.int (14 : Int32)), .val (.ref w_LAYOUT)] [(.int (14 : Int32))])) _
                                refine XS.iloadN X28.here hx rfl (hb hby d_p16_m5_10) rfl ?_
                                show Steps p.tables e below (T28.setTop (mkF m 11 #[.val (.int c1), .val (.ref o1), .val (.int (16 : Int32)), .val (.int (14 : Int32)), .val (.ref w_LAYOUT)] [(.int (16 : Int32)), (.int (14 : Int32))])) _
                                refine XS.icmpNo X28.here hx rfl (hb hby d_p16_m5_11) rfl (tlt (by decide : (14 : Int32) < (16 : Int32))).2.1 ?_
                                show Steps p.tables e below (T28.setTop (mkF m 14 #[.val (.int c1), .val (.ref o1), .val (.int (16 : Int32)), .val (.int (14 : Int32)), .val (.ref w_LAYOUT)] [])) _
                                refine XS.aloadN X28.here hx rfl (hb hby d_p16_m5_14) rfl rfl ?_
                                show Steps p.tables e below (T28.setTop (mkF m 15 #[.val (.int c1), .val (.ref o1), .val (.int (16 : Int32)), .val (.int (14 : Int32)), .val (.ref w_LAYOUT)] [(.ref o1)])) _
                                refine XS.iloadN X28.here hx rfl (hb hby d_p16_m5_15) rfl ?_
                                exact k
                              refine Go.aload X28 hx hZ e28 A_o1 (j := (14 : Int32)) (v := .ref w_SERVER_DEFINED) (by show ¬ (_ ∨ cl_V.slots.size ≤ _); rw [z_V]; decide) (show cl_V.slots[((14 : Int32)).toNatClampNeg]? = _ from t_SERVER_DEFINED) (Or.inr (Or.inr (Or.inl ⟨rfl, rfl⟩))) (hb hby d_p16_m5_16) ?_
                              show Go p e below _ T28 (mkF m 17 #[.val (.int c1), .val (.ref o1), .val (.int (16 : Int32)), .val (.int (14 : Int32)), .val (.ref w_LAYOUT)] [(.ref w_SERVER_DEFINED)])
                              refine Go.by (T' := T28) (g' := (mkF m 21 #[.val (.int c1), .val (.ref o1), .val (.int (16 : Int32)), .val (.int (14 : Int32)), .val (.ref w_SERVER_DEFINED)] [(.ref w_SERVER_DEFINED)])) (fun t k => ?_) ?_
                              · show Steps p.tables e below (T28.setTop (mkF m 17 #[.val (.int c1), .val (.ref o1), .val (.int (16 : Int32)), .val (.int (14 : Int32)), .val (.ref w_LAYOUT)] [(.ref w_SERVER_DEFINED)])) _
                                refine XS.astore X28.here hx rfl (hb hby d_p16_m5_17) rfl rfl (l' := #[.val (.int c1), .val (.ref o1), .val (.int (16 : Int32)), .val (.int (14 : Int32)), .val (.ref w_SERVER_DEFINED)]) rfl ?_
                                show Steps p.tables e below (T28.setTop (mkF m 19 #[.val (.int c1), .val (.ref o1), .val (.int (16 : Int32)), .val (.int (14 : Int32)), .val (.ref w_SERVER_DEFINED)] [])) _
                                refine XS.aload X28.here hx rfl (hb hby d_p16_m5_19) rfl rfl ?_
                                exact k
                              refine Go.getF X28 hx hZ hown (wd hw 39 rfl) Via.refl e28 (F_SERVER_DEFINED.ext O.2) (hb hby d_p16_m5_21) ?_
                              intro T30 X30 e30
                              show Go p e below _ T30 (mkF m 24 #[.val (.int c1), .val (.ref o1), .val (.int (16 : Int32)), .val (.int (14 : Int32)), .val (.ref w_SERVER_DEFINED)] [(.int (14 : Int32))])
                              refine Go.by (T' := T30) (g' := (mkF m 25 #[.val (.int c1), .val (.ref o1), .val (.int (16 : Int32)), .val (.int (14 : Int32)), .val (.ref w_SERVER_DEFINED)] [(.int c1), (.int (14 : Int32))])) (fun t k => ?_) ?_
                              · show Steps p.tables e below (T30.setTop (mkF m 24 #[.val (.int c1), .val (.ref o1), .val (.int (16 : Int32)), .val (.int (14 : Int32)), .val (.ref w_SERVER_DEFINED)] [(.int (14 : Int32))])) _
                                refine XS.iloadN X30.here hx rfl (hb hby d_p16_m5_24) rfl ?_
                                exact k
                              by_cases hy31 : (14 : Int32) = c1
                              · skip
                                refine Go.by (T' := T30) (g' := (mkF m 30 #[.val (.int c1), .val (.ref o1), .val (.int (16 : Int32)), .val (.int (14 : Int32)), .val (.ref w_SERVER_DEFINED)] [(.ref w_SERVER_DEFINED)])) (fun t k => ?_) ?_
                                · show Steps p.tables e below (T30.setTop (mkF m 25 #[.val (.int c1), .val (.ref o1), .val (.int (16 : Int32)), .val (.int (14 : Int32)), .val (.ref w_SERVER_DEFINED)] [(.int c1), (.int (14 : Int32))])) _
                                  refine XS.icmpNo X30.here hx rfl (hb hby d_p16_m5_25) rfl (teq hy31).2 ?_
                                  show Steps p.tables e below (T30.setTop (mkF m 28 #[.val (.int c1), .val (.ref o1), .val (.int (16 : Int32)), .val (.int (14 : Int32)), .val (.ref w_SERVER_DEFINED)] [])) _
                                  refine XS.aload X30.here hx rfl (hb hby d_p16_m5_28) rfl rfl ?_
                                  exact k
                                refine Go.retA X30 hx hlk hret rfl rfl (hb hby d_p16_m5_30) (by decide) (by decide) e30 ?_
                                exact ⟨_, rfl, N1, K, Or.inr ⟨w_SERVER_DEFINED, rfl, by rw [← hy31]; decide, by rw [← hy31]; decide, E_SERVER_DEFINED, hy31 ▸ F_SERVER_DEFINED⟩⟩
                              · skip
                                refine Go.by (T' := T30) (g' := (mkF m 16 #[.val (.int c1), .val (.ref o1), .val (.int (16 : Int32)), .val (.int (15 : Int32)), .val (.ref w_SERVER_DEFINED)] [(.int (15 : Int32)), (.ref o1)])) (fun t k => ?_) ?_
                                · show Steps p.tables e below (T30.setTop (mkF m 25 #[.val (.int c1), .val (.ref o1), .val (.int (16 : Int32)), .val (.int (14 : Int32)), .val (.ref w_SERVER_DEFINED)] [(.int c1), (.int (14 : Int32))])) _
                                  refine XS.icmpYes X30.here hx rfl (pc0 := 25) (pc' := 31) rfl (hb hby d_p16_m5_25) rfl (feq hy31).2 (by decide) (by decide) ?_
                                  show Steps p.tables e below (T30.setTop (mkF m 31 #[.val (.int c1), .val (.ref o1), .val (.int (16 : Int32)), .val (.int (14 : Int32)), .val (.ref w_SERVER_DEFINED)] [])) _
                                  refine XS.iinc X30.here hx rfl (hb hby d_p16_m5_31) rfl (l' := #[.val (.int c1), .val (.ref o1), .val (.int (16 : Int32)), .val (.int (15 : Int32)), .val (.ref w_SERVER_DEFINED)]) rfl ?_
                                  show Steps p.tables e below (T30.setTop (mkF m 34 #[.val (.int c1), .val (.ref o1), .val (.int (16 : Int32)), .val (.int (15 : Int32)), .val (.ref w_SERVER_DEFINED)] [])) _
                                  refine XS.goto X30.here hx rfl (pc0 := 34) (pc' := 9) rfl (hb hby d_p16_m5_34) (by decide) (by decide) ?_
                                  show Steps p.tables e below (T30.setTop (mkF m 9 #[.val (.int c1), .val (.ref o1), .val (.int (16 : Int32)), .val (.int (15 : Int32)), .val (.ref w_SERVER_DEFINED)] [])) _
                                  refine XS.iloadN X30.here hx rfl (hb hby d_p16_m5_9) rfl ?_
                                  show Steps p.tables e below (T30.setTop (mkF m 10 #[.val (.int c1), .val (.ref o1), .val (.int (16 : Int32)), .val (.int (15 : Int32)), .val (.ref w_SERVER_DEFINED)] [(.int (15 : Int32))])) _
                                  refine XS.iloadN X30.here hx rfl (hb hby d_p16_m5_10) rfl ?_
                                  show Steps p.tables e below (T30.setTop (mkF m 11 #[.val (.int c1), .val (.ref o1), .val (.int (16 : Int32)), .val (.int (15 : Int32)), .val (.ref w_SERVER_DEFINED)] [(.int (16 : Int32)), (.int (15 : Int32))])) _
                                  refine XS.icmpNo X30.here hx rfl (hb hby d_p16_m5_11) rfl (tlt (by decide : (15 : Int32) < (16 : Int32))).2.1 ?_
                                  show Steps p.tables e below (T30.setTop (mkF m 14 #[.val (.int c1), .val (.ref o1), .val (.int (16 : Int32)), .val (.int (15 : Int32)), .val (.ref w_SERVER_DEFINED)] [])) _
                                  refine XS.aloadN X30.here hx rfl (hb hby d_p16_m5_14) rfl rfl ?_
                                  show Steps p.tables e below (T30.setTop (mkF m 15 #[.val (.int c1), .val (.ref o1), .val (.int (16 : Int32)), .val (.int (15 : Int32)), .val (.ref w_SERVER_DEFINED)] [(.ref o1)])) _
                                  refine XS.iloadN X30.here hx rfl (hb hby d_p16_m5_15) rfl ?_
                                  exact k
                                refine Go.aload X30 hx hZ e30 A_o1 (j := (15 : Int32)) (v := .ref w_USER_NAME_OR_PASSWORD) (by show ¬ (_ ∨ cl_V.slots.size ≤ _); rw [z_V]; decide) (show cl_V.slots[((15 : Int32)).toNatClampNeg]? = _ from t_USER_NAME_OR_PASSWORD) (Or.inr (Or.inr (Or.inl ⟨rfl, rfl⟩))) (hb hby d_p16_m5_16) ?_
                                show Go p e below _ T30 (mkF m 17 #[.val (.int c1), .val (.ref o1), .val (.int (16 : Int32)), .val (.int (15 : Int32)), .val (.ref w_SERVER_DEFINED)] [(.ref w_USER_NAME_OR_PASSWORD)])
                                refine Go.by (T' := T30) (g' := (mkF m 21 #[.val (.int c1), .val (.ref o1), .val (.int (16 : Int32)), .val (.int (15 : Int32)), .val (.ref w_USER_NAME_OR_PASSWORD)] [(.ref w_USER_NAME_OR_PASSWORD)])) (fun t k => ?_) ?_
                                · show Steps p.tables e below (T30.setTop (mkF m 17 #[.val (.int c1), .val (.ref o1), .val (.int (16 : Int32)), .val (.int (15 : Int32)), .val (.ref w_SERVER_DEFINED)] [(.ref w_USER_NAME_OR_PASSWORD)])) _
                                  refine XS.astore X30.here hx rfl (hb hby d_p16_m5_17) rfl rfl (l' := #[.val (.int c1), .val (.ref o1), .val (.int (16 : Int32)), .val (.int (15 : Int32)), .val (.ref w_USER_NAME_OR_PASSWORD)]) rfl ?_
                                  show Steps p.tables e below (T30.setTop (mkF m 19 #[.val (.int c1), .val (.ref o1), .val (.int (16 : Int32)), .val (.int (15 : Int32)), .val (.ref w_USER_NAME_OR_PASSWORD)] [])) _
                                  refine XS.aload X30.here hx rfl (hb hby d_p16_m5_19) rfl rfl ?_
                                  exact k
                                refine Go.getF X30 hx hZ hown (wd hw 39 rfl) Via.refl e30 (F_USER_NAME_OR_PASSWORD.ext O.2) (hb hby d_p16_m5_21) ?_
                                intro T32 X32 e32
                                show Go p e below _ T32 (mkF m 24 #[.val (.int c1), .val (.ref o1), .val (.int (16 : Int32)), .val (.int (15 : Int32)), .val (.ref w_USER_NAME_OR_PASSWORD)] [(.int (15 : Int32))])
                                refine Go.by (T' := T32) (g' := (mkF m 25 #[.val (.int c1), .val (.ref o1), .val (.int (16 : Int32)), .val (.int (15 : Int32)), .val (.ref w_USER_NAME_OR_PASSWORD)] [(.int c1), (.int (15 : Int32))])) (fun t k => ?_) ?_
                                · show Steps p.tables e below (T32.setTop (mkF m 24 #[.val (.int c1), .val (.ref o1), .val (.int (16 : Int32)), .val (.int (15 : Int32)), .val (.ref w_USER_NAME_OR_PASSWORD)] [(.int (15 : Int32))])) _
                                  refine XS.iloadN X32.here hx rfl (hb hby d_p16_m5_24) rfl ?_
                                  exact k
                                by_cases hy33 : (15 : Int32) = c1
                                · skip
                                  refine Go.by (T' := T32) (g' := (mkF m 30 #[.val (.int c1), .val (.ref o1), .val (.int (16 : Int32)), .val (.int (15 : Int32)), .val (.ref w_USER_NAME_OR_PASSWORD)] [(.ref w_USER_NAME_OR_PASSWORD)])) (fun t k => ?_) ?_
                                  · show Steps p.tables e below (T32.setTop (mkF m 25 #[.val (.int c1), .val (.ref o1), .val (.int (16 : Int32)), .val (.int (15 : Int32)), .val (.ref w_USER_NAME_OR_PASSWORD)] [(.int c1), (.int (15 : Int32))])) _
                                    refine XS.icmpNo X32.here hx rfl (hb hby d_p16_m5_25) rfl (teq hy33).2 ?_
                                    show Steps p.tables e below (T32.setTop (mkF m 28 #[.val (.int c1), .val (.ref o1), .val (.int (16 : Int32)), .val (.int (15 : Int32)), .val (.ref w_USER_NAME_OR_PASSWORD)] [])) _
                                    refine XS.aload X32.here hx rfl (hb hby d_p16_m5_28) rfl rfl ?_
                                    exact k
                                  refine Go.retA X32 hx hlk hret rfl rfl (hb hby d_p16_m5_30) (by decide) (by decide) e32 ?_
                                  exact ⟨_, rfl, N1, K, Or.inr ⟨w_USER_NAME_OR_PASSWORD, rfl, by rw [← hy33]; decide, by rw [← hy33]; decide, E_USER_NAME_OR_PASSWORD, hy33 ▸ F_USER_NAME_OR_PASSWORD⟩⟩
                                · skip
                                  refine Go.by (T' := T32) (g' := (mkF m 38 #[.val (.int c1), .val (.ref o1), .val (.int (16 : Int32)), .val (.int (16 : Int32)), .val (.ref w_USER_NAME_OR_PASSWORD)] [.null])) (fun t k => ?_) ?_
                                  · show Steps p.tables e below (T32.setTop (mkF m 25 #[.val (.int c1), .val (.ref o1), .val (.int (16 : Int32)), .val (.int (15 : Int32)), .val (.ref w_USER_NAME_OR_PASSWORD)] [(.int c1), (.int (15 : Int32))])) _
                                    refine XS.icmpYes X32.here hx rfl (pc0 := 25) (pc' := 31) rfl (hb hby d_p16_m5_25) rfl (feq hy33).2 (by decide) (by decide) ?_
                                    show Steps p.tables e below (T32.setTop (mkF m 31 #[.val (.int c1), .val (.ref o1), .val (.int (16 : Int32)), .val (.int (15 : Int32)), .val (.ref w_USER_NAME_OR_PASSWORD)] [])) _
                                    refine XS.iinc X32.here hx rfl (hb hby d_p16_m5_31) rfl (l' := #[.val (.int c1), .val (.ref o1), .val (.int (16 : Int32)), .val (.int (16 : Int32)), .val (.ref w_USER_NAME_OR_PASSWORD)]) rfl ?_
                                    show Steps p.tables e below (T32.setTop (mkF m 34 #[.val (.int c1), .val (.ref o1), .val (.int (16 : Int32)), .val (.int (16 : Int32)), .val (.ref w_USER_NAME_OR_PASSWORD)] [])) _
                                    refine XS.goto X32.here hx rfl (pc0 := 34) (pc' := 9) rfl (hb hby d_p16_m5_34) (by decide) (by decide) ?_
                                    show Steps p.tables e below (T32.setTop (mkF m 9 #[.val (.int c1), .val (.ref o1), .val (.int (16 : Int32)), .val (.int (16 : Int32)), .val (.ref w_USER_NAME_OR_PASSWORD)] [])) _
                                    refine XS.iloadN X32.here hx rfl (hb hby d_p16_m5_9) rfl ?_
                                    show Steps p.tables e below (T32.setTop (mkF m 10 #[.val (.int c1), .val (.ref o1), .val (.int (16 : Int32)), .val (.int (16 : Int32)), .val (.ref w_USER_NAME_OR_PASSWORD)] [(.int (16 : Int32))])) _
                                    refine XS.iloadN X32.here hx rfl (hb hby d_p16_m5_10) rfl ?_
                                    show Steps p.tables e below (T32.setTop (mkF m 11 #[.val (.int c1), .val (.ref o1), .val (.int (16 : Int32)), .val (.int (16 : Int32)), .val (.ref w_USER_NAME_OR_PASSWORD)] [(.int (16 : Int32)), (.int (16 : Int32))])) _
                                    refine XS.icmpYes X32.here hx rfl (pc0 := 11) (pc' := 37) rfl (hb hby d_p16_m5_11) rfl (flt (by decide : ¬ (16 : Int32) < (16 : Int32))).2.1 (by decide) (by decide) ?_
                                    show Steps p.tables e below (T32.setTop (mkF m 37 #[.val (.int c1), .val (.ref o1), .val (.int (16 : Int32)), .val (.int (16 : Int32)), .val (.ref w_USER_NAME_OR_PASSWORD)] [])) _
                                    refine XS.aconstNull X32.here hx rfl (hb hby d_p16_m5_37) ?_
                                    exact k
                                  refine Go.retA X32 hx hlk hret rfl rfl (hb hby d_p16_m5_38) (by decide) (by decide) e32 ?_
                                  exact ⟨_, rfl, N1, K, Or.inl ⟨rfl, own_none hy3 hy5 hy7 hy9 hy11 hy13 hy15 hy17 hy19 hy21 hy23 hy25 hy27 hy29 hy31 hy33⟩⟩
set_option maxRecDepth 65536 in
set_option maxHeartbeats 40000000 in
theorem ct_code (l : Launch) (Z : State) (a0 : Array Value) (hw : ∀ d ∈ tables_1, d.before a0 Z = true) (w_OTHER : Addr) (w_CONSTRAINT : Addr) (w_NUMERIC : Addr) (w_PROGRAM : Addr) (w_STORAGE : Addr) (w_TASKING : Addr) (w_STATUS : Addr) (w_MODE : Addr) (w_NAME : Addr) (w_USE : Addr) (w_DEVICE : Addr) (w_END : Addr) (w_DATA : Addr) (w_LAYOUT : Addr) (w_SERVER_DEFINED : Addr) (w_USER_NAME_OR_PASSWORD : Addr) (w_V : Addr) (cl_V : Cell) (E_OTHER : Exa Z Z.heap w_OTHER "com/example/ferrule/ferrule/ErrorKind") (E_CONSTRAINT : Exa Z Z.heap w_CONSTRAINT "com/example/ferrule/ferrule/ErrorKind") (E_NUMERIC : Exa Z Z.heap w_NUMERIC "com/example/ferrule/ferrule/ErrorKind") (E_PROGRAM : Exa Z Z.heap w_PROGRAM "com/example/ferrule/ferrule/ErrorKind") (E_STORAGE : Exa Z Z.heap w_STORAGE "com/example/ferrule/ferrule/ErrorKind") (E_TASKING : Exa Z Z.heap w_TASKING "com/example/ferrule/ferrule/ErrorKind") (E_STATUS : Exa Z Z.heap w_STATUS "com/example/ferrule/ferrule/ErrorKind") (E_MODE : Exa Z Z.heap w_MODE "com/example/ferrule/ferrule/ErrorKind") (E_NAME : Exa Z Z.heap w_NAME "com/example/ferrule/ferrule/ErrorKind") (E_USE : Exa Z Z.heap w_USE "com/example/ferrule/ferrule/ErrorKind") (E_DEVICE : Exa Z Z.heap w_DEVICE "com/example/ferrule/ferrule/ErrorKind") (E_END : Exa Z Z.heap w_END "com/example/ferrule/ferrule/ErrorKind") (E_DATA : Exa Z Z.heap w_DATA "com/example/ferrule/ferrule/ErrorKind") (E_LAYOUT : Exa Z Z.heap w_LAYOUT "com/example/ferrule/ferrule/ErrorKind") (E_SERVER_DEFINED : Exa Z Z.heap w_SERVER_DEFINED "com/example/ferrule/ferrule/ErrorKind") (E_USER_NAME_OR_PASSWORD : Exa Z Z.heap w_USER_NAME_OR_PASSWORD "com/example/ferrule/ferrule/ErrorKind") (F_OTHER : Fld Z Z.heap w_OTHER "com/example/ferrule/ferrule/ErrorKind" "code" "S" (.int (0 : Int32))) (F_CONSTRAINT : Fld Z Z.heap w_CONSTRAINT "com/example/ferrule/ferrule/ErrorKind" "code" "S" (.int (1 : Int32))) (F_NUMERIC : Fld Z Z.heap w_NUMERIC "com/example/ferrule/ferrule/ErrorKind" "code" "S" (.int (2 : Int32))) (F_PROGRAM : Fld Z Z.heap w_PROGRAM "com/example/ferrule/ferrule/ErrorKind" "code" "S" (.int (3 : Int32))) (F_STORAGE : Fld Z Z.heap w_STORAGE "com/example/ferrule/ferrule/ErrorKind" "code" "S" (.int (4 : Int32))) (F_TASKING : Fld Z Z.heap w_TASKING "com/example/ferrule/ferrule/ErrorKind" "code" "S" (.int (5 : Int32))) (F_STATUS : Fld Z Z.heap w_STATUS "com/example/ferrule/ferrule/ErrorKind" "code" "S" (.int (6 : Int32))) (F_MODE : Fld Z Z.heap w_MODE "com/example/ferrule/ferrule/ErrorKind" "code" "S" (.int (7 : Int32))) (F_NAME : Fld Z Z.heap w_NAME "com/example/ferrule/ferrule/ErrorKind" "code" "S" (.int (8 : Int32))) (F_USE : Fld Z Z.heap w_USE "com/example/ferrule/ferrule/ErrorKind" "code" "S" (.int (9 : Int32))) (F_DEVICE : Fld Z Z.heap w_DEVICE "com/example/ferrule/ferrule/ErrorKind" "code" "S" (.int (10 : Int32))) (F_END : Fld Z Z.heap w_END "com/example/ferrule/ferrule/ErrorKind" "code" "S" (.int (11 : Int32))) (F_DATA : Fld Z Z.heap w_DATA "com/example/ferrule/ferrule/ErrorKind" "code" "S" (.int (12 : Int32))) (F_LAYOUT : Fld Z Z.heap w_LAYOUT "com/example/ferrule/ferrule/ErrorKind" "code" "S" (.int (13 : Int32))) (F_SERVER_DEFINED : Fld Z Z.heap w_SERVER_DEFINED "com/example/ferrule/ferrule/ErrorKind" "code" "S" (.int (14 : Int32))) (F_USER_NAME_OR_PASSWORD : Fld Z Z.heap w_USER_NAME_OR_PASSWORD "com/example/ferrule/ferrule/ErrorKind" "code" "S" (.int (15 : Int32))) (S_V : Sta Z Z.heap "com/example/ferrule/ferrule/ErrorKind" "$VALUES" "[Lcom/example/ferrule/ferrule/ErrorKind;" (.ref w_V)) (A_V : Arr Z Z.heap w_V cl_V (.object "com/example/ferrule/ferrule/ErrorKind")) (E_V : Exa Z Z.heap w_V "[Lcom/example/ferrule/ferrule/ErrorKind;") (Q_V : FitC Z cl_V) (z_V : cl_V.slots.size = 16) (t_OTHER : cl_V.slots[0]? = some (.ref w_OTHER)) (t_CONSTRAINT : cl_V.slots[1]? = some (.ref w_CONSTRAINT)) (t_NUMERIC : cl_V.slots[2]? = some (.ref w_NUMERIC)) (t_PROGRAM : cl_V.slots[3]? = some (.ref w_PROGRAM)) (t_STORAGE : cl_V.slots[4]? = some (.ref w_STORAGE)) (t_TASKING : cl_V.slots[5]? = some (.ref w_TASKING)) (t_STATUS : cl_V.slots[6]? = some (.ref w_STATUS)) (t_MODE : cl_V.slots[7]? = some (.ref w_MODE)) (t_NAME : cl_V.slots[8]? = some (.ref w_NAME)) (t_USE : cl_V.slots[9]? = some (.ref w_USE)) (t_DEVICE : cl_V.slots[10]? = some (.ref w_DEVICE)) (t_END : cl_V.slots[11]? = some (.ref w_END)) (t_DATA : cl_V.slots[12]? = some (.ref w_DATA)) (t_LAYOUT : cl_V.slots[13]? = some (.ref w_LAYOUT)) (t_SERVER_DEFINED : cl_V.slots[14]? = some (.ref w_SERVER_DEFINED)) (t_USER_NAME_OR_PASSWORD : cl_V.slots[15]? = some (.ref w_USER_NAME_OR_PASSWORD)) (a1 : Addr) (z1 : Int32) (h0 : Heap) (n0 : Nat) (O : Old Z n0 h0) (F_a1 : Fld Z h0 a1 "com/example/ferrule/ferrule/ErrorKind" "code" "S" (.int z1)) (hz : narrow .short (.int z1) = .int z1) :
    Ct l (⟨"com/example/ferrule/ferrule/ErrorKind", "code", "()S"⟩ : MethodName) prog_16_method_4_code 1 (some .short) ({ frames := 0, cells := 0, slots := 0, locals := 0 } : Room) Z #[(.ref a1)] h0 (fun v h L => v = some (.int z1) ∧ Fr n0 L ∧ h0 = h) := by
  refine Ct.of (plainFor_of_name pn_ErrorKind_184) ?_
  intro p e s m below meth c T0 X0 hx hby hml hown hnm hret hlk hZ e0
  have hown : s.vm.findClass "com/example/ferrule/ferrule/ErrorKind" = some m.cls := hown
  have hml : c.maxLocals = 1 := hml
  have N0 := Fr.nil n0
  refine Go.cast (g' := mkF m 0 #[.val (.ref a1)] []) (by first | (simp [entryFrame, mkF, argsToLocals, Value.category]; done) | rfl) ?_
  refine Go.by (T' := T0) (g' := (mkF m 1 #[.val (.ref a1)] [(.ref a1)])) (fun t k => ?_) ?_
  · show Steps p.tables e below (T0.setTop (mkF m 0 #[.val (.ref a1)] [])) _
    refine XS.aloadN X0.here hx rfl (hb hby d_p16_m4_0) rfl rfl ?_
    exact k
  refine Go.getF X0 hx hZ hown (wd hw 39 rfl) Via.refl e0 F_a1 (hb hby d_p16_m4_1) ?_
  intro T1 X1 e1
  show Go p e below _ T1 (mkF m 4 #[.val (.ref a1)] [(.int z1)])
  refine Go.retS X1 hx hlk hret (by simp) hz (hb hby d_p16_m4_4) (by decide) (by decide) e1 ?_
  exact ⟨rfl, N0, rfl⟩
set_option maxRecDepth 65536 in
set_option maxHeartbeats 40000000 in
theorem ct_check (l : Launch) (Z : State) (a0 : Array Value) (hw : ∀ d ∈ tables_1, d.before a0 Z = true) (w_OTHER : Addr) (w_CONSTRAINT : Addr) (w_NUMERIC : Addr) (w_PROGRAM : Addr) (w_STORAGE : Addr) (w_TASKING : Addr) (w_STATUS : Addr) (w_MODE : Addr) (w_NAME : Addr) (w_USE : Addr) (w_DEVICE : Addr) (w_END : Addr) (w_DATA : Addr) (w_LAYOUT : Addr) (w_SERVER_DEFINED : Addr) (w_USER_NAME_OR_PASSWORD : Addr) (w_V : Addr) (cl_V : Cell) (E_OTHER : Exa Z Z.heap w_OTHER "com/example/ferrule/ferrule/ErrorKind") (E_CONSTRAINT : Exa Z Z.heap w_CONSTRAINT "com/example/ferrule/ferrule/ErrorKind") (E_NUMERIC : Exa Z Z.heap w_NUMERIC "com/example/ferrule/ferrule/ErrorKind") (E_PROGRAM : Exa Z Z.heap w_PROGRAM "com/example/ferrule/ferrule/ErrorKind") (E_STORAGE : Exa Z Z.heap w_STORAGE "com/example/ferrule/ferrule/ErrorKind") (E_TASKING : Exa Z Z.heap w_TASKING "com/example/ferrule/ferrule/ErrorKind") (E_STATUS : Exa Z Z.heap w_STATUS "com/example/ferrule/ferrule/ErrorKind") (E_MODE : Exa Z Z.heap w_MODE "com/example/ferrule/ferrule/ErrorKind") (E_NAME : Exa Z Z.heap w_NAME "com/example/ferrule/ferrule/ErrorKind") (E_USE : Exa Z Z.heap w_USE "com/example/ferrule/ferrule/ErrorKind") (E_DEVICE : Exa Z Z.heap w_DEVICE "com/example/ferrule/ferrule/ErrorKind") (E_END : Exa Z Z.heap w_END "com/example/ferrule/ferrule/ErrorKind") (E_DATA : Exa Z Z.heap w_DATA "com/example/ferrule/ferrule/ErrorKind") (E_LAYOUT : Exa Z Z.heap w_LAYOUT "com/example/ferrule/ferrule/ErrorKind") (E_SERVER_DEFINED : Exa Z Z.heap w_SERVER_DEFINED "com/example/ferrule/ferrule/ErrorKind") (E_USER_NAME_OR_PASSWORD : Exa Z Z.heap w_USER_NAME_OR_PASSWORD "com/example/ferrule/ferrule/ErrorKind") (F_OTHER : Fld Z Z.heap w_OTHER "com/example/ferrule/ferrule/ErrorKind" "code" "S" (.int (0 : Int32))) (F_CONSTRAINT : Fld Z Z.heap w_CONSTRAINT "com/example/ferrule/ferrule/ErrorKind" "code" "S" (.int (1 : Int32))) (F_NUMERIC : Fld Z Z.heap w_NUMERIC "com/example/ferrule/ferrule/ErrorKind" "code" "S" (.int (2 : Int32))) (F_PROGRAM : Fld Z Z.heap w_PROGRAM "com/example/ferrule/ferrule/ErrorKind" "code" "S" (.int (3 : Int32))) (F_STORAGE : Fld Z Z.heap w_STORAGE "com/example/ferrule/ferrule/ErrorKind" "code" "S" (.int (4 : Int32))) (F_TASKING : Fld Z Z.heap w_TASKING "com/example/ferrule/ferrule/ErrorKind" "code" "S" (.int (5 : Int32))) (F_STATUS : Fld Z Z.heap w_STATUS "com/example/ferrule/ferrule/ErrorKind" "code" "S" (.int (6 : Int32))) (F_MODE : Fld Z Z.heap w_MODE "com/example/ferrule/ferrule/ErrorKind" "code" "S" (.int (7 : Int32))) (F_NAME : Fld Z Z.heap w_NAME "com/example/ferrule/ferrule/ErrorKind" "code" "S" (.int (8 : Int32))) (F_USE : Fld Z Z.heap w_USE "com/example/ferrule/ferrule/ErrorKind" "code" "S" (.int (9 : Int32))) (F_DEVICE : Fld Z Z.heap w_DEVICE "com/example/ferrule/ferrule/ErrorKind" "code" "S" (.int (10 : Int32))) (F_END : Fld Z Z.heap w_END "com/example/ferrule/ferrule/ErrorKind" "code" "S" (.int (11 : Int32))) (F_DATA : Fld Z Z.heap w_DATA "com/example/ferrule/ferrule/ErrorKind" "code" "S" (.int (12 : Int32))) (F_LAYOUT : Fld Z Z.heap w_LAYOUT "com/example/ferrule/ferrule/ErrorKind" "code" "S" (.int (13 : Int32))) (F_SERVER_DEFINED : Fld Z Z.heap w_SERVER_DEFINED "com/example/ferrule/ferrule/ErrorKind" "code" "S" (.int (14 : Int32))) (F_USER_NAME_OR_PASSWORD : Fld Z Z.heap w_USER_NAME_OR_PASSWORD "com/example/ferrule/ferrule/ErrorKind" "code" "S" (.int (15 : Int32))) (S_V : Sta Z Z.heap "com/example/ferrule/ferrule/ErrorKind" "$VALUES" "[Lcom/example/ferrule/ferrule/ErrorKind;" (.ref w_V)) (A_V : Arr Z Z.heap w_V cl_V (.object "com/example/ferrule/ferrule/ErrorKind")) (E_V : Exa Z Z.heap w_V "[Lcom/example/ferrule/ferrule/ErrorKind;") (Q_V : FitC Z cl_V) (z_V : cl_V.slots.size = 16) (t_OTHER : cl_V.slots[0]? = some (.ref w_OTHER)) (t_CONSTRAINT : cl_V.slots[1]? = some (.ref w_CONSTRAINT)) (t_NUMERIC : cl_V.slots[2]? = some (.ref w_NUMERIC)) (t_PROGRAM : cl_V.slots[3]? = some (.ref w_PROGRAM)) (t_STORAGE : cl_V.slots[4]? = some (.ref w_STORAGE)) (t_TASKING : cl_V.slots[5]? = some (.ref w_TASKING)) (t_STATUS : cl_V.slots[6]? = some (.ref w_STATUS)) (t_MODE : cl_V.slots[7]? = some (.ref w_MODE)) (t_NAME : cl_V.slots[8]? = some (.ref w_NAME)) (t_USE : cl_V.slots[9]? = some (.ref w_USE)) (t_DEVICE : cl_V.slots[10]? = some (.ref w_DEVICE)) (t_END : cl_V.slots[11]? = some (.ref w_END)) (t_DATA : cl_V.slots[12]? = some (.ref w_DATA)) (t_LAYOUT : cl_V.slots[13]? = some (.ref w_LAYOUT)) (t_SERVER_DEFINED : cl_V.slots[14]? = some (.ref w_SERVER_DEFINED)) (t_USER_NAME_OR_PASSWORD : cl_V.slots[15]? = some (.ref w_USER_NAME_OR_PASSWORD)) (c1 : Int32) (h0 : Heap) (n0 : Nat) (O : Old Z n0 h0) (hz : narrow .short (.int c1) = .int c1) :
    Ct l (⟨"com/example/ferrule/ferrule/ErrorKindForCodePinLaw", "check", "(S)Z"⟩ : MethodName) method_2_code 2 (some .boolean) ({ frames := 3, cells := 1, slots := 16, locals := 41 } : Room) Z #[(.int c1)] h0 (fun v h L => v = some (.int 1) ∧ Fr n0 L ∧ Keep h0 h []) := by
  refine Ct.of (plainFor_of_name pn_ErrorKindForCodePinLaw_80) ?_
  intro p e s m below meth c T0 X0 hx hby hml hown hnm hret hlk hZ e0
  have hown : s.vm.findClass "com/example/ferrule/ferrule/ErrorKindForCodePinLaw" = some m.cls := hown
  have hml : c.maxLocals = 2 := hml
  have N0 := Fr.nil n0
  refine Go.cast (g' := mkF m 0 #[.val (.int c1), .unset] []) (by first | (simp [entryFrame, mkF, argsToLocals, Value.category]; done) | rfl) ?_
  have K : Keep h0 h0 [] := Keep.refl _ _
  refine Go.by (T' := T0) (g' := (mkF m 1 #[.val (.int c1), .unset] [(.int c1)])) (fun t k => ?_) ?_
  · show Steps p.tables e below (T0.setTop (mkF m 0 #[.val (.int c1), .unset] [])) _
    refine XS.iloadN X0.here hx rfl (hb hby d_m2_0) rfl ?_
    exact k
  refine Go.callS X0 hx hZ (W := 0) (argsL := [(.int c1)]) (rest := []) hown (wd hw 4 rfl) (wd hw 5 rfl) (wd hw 6 rfl) (wd hw 7 rfl) (by decide) (ct_forCode l Z a0 hw w_OTHER w_CONSTRAINT w_NUMERIC w_PROGRAM w_STORAGE w_TASKING w_STATUS w_MODE w_NAME w_USE w_DEVICE w_END w_DATA w_LAYOUT w_SERVER_DEFINED w_USER_NAME_OR_PASSWORD w_V cl_V E_OTHER E_CONSTRAINT E_NUMERIC E_PROGRAM E_STORAGE E_TASKING E_STATUS E_MODE E_NAME E_USE E_DEVICE E_END E_DATA E_LAYOUT E_SERVER_DEFINED E_USER_NAME_OR_PASSWORD F_OTHER F_CONSTRAINT F_NUMERIC F_PROGRAM F_STORAGE F_TASKING F_STATUS F_MODE F_NAME F_USE F_DEVICE F_END F_DATA F_LAYOUT F_SERVER_DEFINED F_USER_NAME_OR_PASSWORD S_V A_V E_V Q_V z_V t_OTHER t_CONSTRAINT t_NUMERIC t_PROGRAM t_STORAGE t_TASKING t_STATUS t_MODE t_NAME t_USE t_DEVICE t_END t_DATA t_LAYOUT t_SERVER_DEFINED t_USER_NAME_OR_PASSWORD c1 h0 n0 O ) e0 (by rw [hml]; rfl) (lenOf pd__S_Lcom_example_ferrule_ferrule_ErrorKin_7342 rfl) rfl rfl (hb hby d_m2_1) (by decide) (by decide) (by decide) (by decide) ?_
  intro v1 T1 h1 L1 X1 e1 q1
  obtain ⟨r1, rfl, N1, K1, hd1⟩ := q1
  replace N1 := Fr.app N0 N1
  replace O := O.keep K1 all0
  replace K := K.trans K1 all0
  show Go p e below _ T1 (mkF m 4 #[.val (.int c1), .unset] [r1])
  rcases hd1 with ⟨rfl, hq1⟩ | ⟨a1, rfl, l1, u1, E_a1, F_a1⟩
  · skip
    show Go p e below _ T1 (mkF m 4 #[.val (.int c1), .unset] [.null])
    refine Go.by (T' := T1) (g' := (mkF m 6 #[.val (.int c1), .val .null] [(.int c1)])) (fun t k => ?_) ?_
    · show Steps p.tables e below (T1.setTop (mkF m 4 #[.val (.int c1), .unset] [.null])) _
      refine XS.astoreN X1.here hx rfl (hb hby d_m2_4) rfl rfl (l' := #[.val (.int c1), .val .null]) rfl ?_
      show Steps p.tables e below (T1.setTop (mkF m 5 #[.val (.int c1), .val .null] [])) _
      refine XS.iloadN X1.here hx rfl (hb hby d_m2_5) rfl ?_
      exact k
    by_cases hy2 : c1 < (0 : Int32)
    · skip
      refine Go.by (T' := T1) (g' := (mkF m 42 #[.val (.int c1), .val .null] [(.int (1 : Int32))])) (fun t k => ?_) ?_
      · show Steps p.tables e below (T1.setTop (mkF m 6 #[.val (.int c1), .val .null] [(.int c1)])) _
        refine XS.ifYes X1.here hx rfl (pc0 := 6) (pc' := 33) rfl (hb hby d_m2_6) rfl ((if0 _ _).trans (tlt hy2).1) (by decide) (by decide) ?_
        show Steps p.tables e below (T1.setTop (mkF m 33 #[.val (.int c1), .val .null] [])) _
        refine XS.aloadN X1.here hx rfl (hb hby d_m2_33) rfl rfl ?_
        show Steps p.tables e below (T1.setTop (mkF m 34 #[.val (.int c1), .val .null] [.null])) _
        refine XS.ifnonnullNo X1.here hx rfl (hb hby d_m2_34) rfl ?_
        show Steps p.tables e below (T1.setTop (mkF m 37 #[.val (.int c1), .val .null] [])) _
        refine XS.iconst X1.here hx rfl (hb hby d_m2_37) ?_
        show Steps p.tables e below (T1.setTop (mkF m 38 #[.val (.int c1), .val .null] [(.int (1 : Int32))])) _
        refine XS.goto X1.here hx rfl (pc0 := 38) (pc' := 42) rfl (hb hby d_m2_38) (by decide) (by decide) ?_
        exact k
      refine Go.retZ X1 hx hlk hret (Or.inr rfl) (hb hby d_m2_42) (by decide) (by decide) e1 ?_
      exact ⟨rfl, N1, K⟩
    · skip
      refine Go.by (T' := T1) (g' := (mkF m 42 #[.val (.int c1), .val .null] [(.int (1 : Int32))])) (fun t k => ?_) ?_
      · show Steps p.tables e below (T1.setTop (mkF m 6 #[.val (.int c1), .val .null] [(.int c1)])) _
        refine XS.ifNo X1.here hx rfl (hb hby d_m2_6) rfl ((if0 _ _).trans (flt hy2).1) ?_
        show Steps p.tables e below (T1.setTop (mkF m 9 #[.val (.int c1), .val .null] [])) _
        refine XS.iloadN X1.here hx rfl (hb hby d_m2_9) rfl ?_
        show Steps p.tables e below (T1.setTop (mkF m 10 #[.val (.int c1), .val .null] [(.int c1)])) _
        refine XS.bipush X1.here hx rfl (hb hby d_m2_10) ?_
        show Steps p.tables e below (T1.setTop (mkF m 12 #[.val (.int c1), .val .null] [(.int (15 : Int32)), (.int c1)])) _
        refine XS.icmpYes X1.here hx rfl (pc0 := 12) (pc' := 33) rfl (hb hby d_m2_12) rfl (tlt (hq1.resolve_left hy2)).2.2.1 (by decide) (by decide) ?_
        show Steps p.tables e below (T1.setTop (mkF m 33 #[.val (.int c1), .val .null] [])) _
        refine XS.aloadN X1.here hx rfl (hb hby d_m2_33) rfl rfl ?_
        show Steps p.tables e below (T1.setTop (mkF m 34 #[.val (.int c1), .val .null] [.null])) _
        refine XS.ifnonnullNo X1.here hx rfl (hb hby d_m2_34) rfl ?_
        show Steps p.tables e below (T1.setTop (mkF m 37 #[.val (.int c1), .val .null] [])) _
        refine XS.iconst X1.here hx rfl (hb hby d_m2_37) ?_
        show Steps p.tables e below (T1.setTop (mkF m 38 #[.val (.int c1), .val .null] [(.int (1 : Int32))])) _
        refine XS.goto X1.here hx rfl (pc0 := 38) (pc' := 42) rfl (hb hby d_m2_38) (by decide) (by decide) ?_
        exact k
      refine Go.retZ X1 hx hlk hret (Or.inr rfl) (hb hby d_m2_42) (by decide) (by decide) e1 ?_
      exact ⟨rfl, N1, K⟩
  · skip
    show Go p e below _ T1 (mkF m 4 #[.val (.int c1), .unset] [(.ref a1)])
    refine Go.by (T' := T1) (g' := (mkF m 20 #[.val (.int c1), .val (.ref a1)] [(.ref a1)])) (fun t k => ?_) ?_
    · show Steps p.tables e below (T1.setTop (mkF m 4 #[.val (.int c1), .unset] [(.ref a1)])) _
      refine XS.astoreN X1.here hx rfl (hb hby d_m2_4) rfl rfl (l' := #[.val (.int c1), .val (.ref a1)]) rfl ?_
      show Steps p.tables e below (T1.setTop (mkF m 5 #[.val (.int c1), .val (.ref a1)] [])) _
      refine XS.iloadN X1.here hx rfl (hb hby d_m2_5) rfl ?_
      show Steps p.tables e below (T1.setTop (mkF m 6 #[.val (.int c1), .val (.ref a1)] [(.int c1)])) _
      refine XS.ifNo X1.here hx rfl (hb hby d_m2_6) rfl ((if0 _ _).trans (flt l1).1) ?_
      show Steps p.tables e below (T1.setTop (mkF m 9 #[.val (.int c1), .val (.ref a1)] [])) _
      refine XS.iloadN X1.here hx rfl (hb hby d_m2_9) rfl ?_
      show Steps p.tables e below (T1.setTop (mkF m 10 #[.val (.int c1), .val (.ref a1)] [(.int c1)])) _
      refine XS.bipush X1.here hx rfl (hb hby d_m2_10) ?_
      show Steps p.tables e below (T1.setTop (mkF m 12 #[.val (.int c1), .val (.ref a1)] [(.int (15 : Int32)), (.int c1)])) _
      refine XS.icmpNo X1.here hx rfl (hb hby d_m2_12) rfl (flt u1).2.2.1 ?_
      show Steps p.tables e below (T1.setTop (mkF m 15 #[.val (.int c1), .val (.ref a1)] [])) _
      refine XS.aloadN X1.here hx rfl (hb hby d_m2_15) rfl rfl ?_
      show Steps p.tables e below (T1.setTop (mkF m 16 #[.val (.int c1), .val (.ref a1)] [(.ref a1)])) _
      refine XS.ifnullNo X1.here hx rfl (hb hby d_m2_16) rfl ?_
      show Steps p.tables e below (T1.setTop (mkF m 19 #[.val (.int c1), .val (.ref a1)] [])) _
      refine XS.aloadN X1.here hx rfl (hb hby d_m2_19) rfl rfl ?_
      exact k
    refine Go.callV X1 hx hZ (W := 0) (argsL := []) (rest := []) hown (wd hw 41 rfl) (wd hw 42 rfl) (notFace_of_selects (args := #[]) (mvT hZ (wd hw 44 rfl))) (wd hw 44 rfl) (wd hw 43 rfl) (wd hw 6 rfl) (wd hw 45 rfl) (by decide) (E_a1.ext O.2) (ct_code l Z a0 hw w_OTHER w_CONSTRAINT w_NUMERIC w_PROGRAM w_STORAGE w_TASKING w_STATUS w_MODE w_NAME w_USE w_DEVICE w_END w_DATA w_LAYOUT w_SERVER_DEFINED w_USER_NAME_OR_PASSWORD w_V cl_V E_OTHER E_CONSTRAINT E_NUMERIC E_PROGRAM E_STORAGE E_TASKING E_STATUS E_MODE E_NAME E_USE E_DEVICE E_END E_DATA E_LAYOUT E_SERVER_DEFINED E_USER_NAME_OR_PASSWORD F_OTHER F_CONSTRAINT F_NUMERIC F_PROGRAM F_STORAGE F_TASKING F_STATUS F_MODE F_NAME F_USE F_DEVICE F_END F_DATA F_LAYOUT F_SERVER_DEFINED F_USER_NAME_OR_PASSWORD S_V A_V E_V Q_V z_V t_OTHER t_CONSTRAINT t_NUMERIC t_PROGRAM t_STORAGE t_TASKING t_STATUS t_MODE t_NAME t_USE t_DEVICE t_END t_DATA t_LAYOUT t_SERVER_DEFINED t_USER_NAME_OR_PASSWORD a1 c1 h1 n0 O (F_a1.ext O.2) hz) e1 (by rw [hml]; rfl) (lenOf pd___S_8331 rfl) rfl rfl (hb hby d_m2_20) (by decide) (by decide) (by decide) (by decide) ?_
    intro v3 T3 h3 L3 X3 e3 q3
    obtain ⟨rfl, N3, rfl⟩ := q3
    replace N3 := Fr.app N1 N3
    show Go p e below _ T3 (mkF m 23 #[.val (.int c1), .val (.ref a1)] [(.int c1)])
    refine Go.by (T' := T3) (g' := (mkF m 32 #[.val (.int c1), .val (.ref a1)] [(.int (1 : Int32))])) (fun t k => ?_) ?_
    · show Steps p.tables e below (T3.setTop (mkF m 23 #[.val (.int c1), .val (.ref a1)] [(.int c1)])) _
      refine XS.iloadN X3.here hx rfl (hb hby d_m2_23) rfl ?_
      show Steps p.tables e below (T3.setTop (mkF m 24 #[.val (.int c1), .val (.ref a1)] [(.int c1), (.int c1)])) _
      refine XS.icmpNo X3.here hx rfl (hb hby d_m2_24) rfl (teq (rfl : c1 = c1)).2 ?_
      show Steps p.tables e below (T3.setTop (mkF m 27 #[.val (.int c1), .val (.ref a1)] [])) _
      refine XS.iconst X3.here hx rfl (hb hby d_m2_27) ?_
      show Steps p.tables e below (T3.setTop (mkF m 28 #[.val (.int c1), .val (.ref a1)] [(.int (1 : Int32))])) _
      refine XS.goto X3.here hx rfl (pc0 := 28) (pc' := 32) rfl (hb hby d_m2_28) (by decide) (by decide) ?_
      exact k
    refine Go.retZ X3 hx hlk hret (Or.inr rfl) (hb hby d_m2_32) (by decide) (by decide) e3 ?_
    exact ⟨rfl, N3, K⟩
set_option maxRecDepth 65536 in
set_option maxHeartbeats 40000000 in
theorem ct_law (l : Launch) (Z : State) (a0 : Array Value) (hw : ∀ d ∈ tables_1, d.before a0 Z = true) (w_OTHER : Addr) (w_CONSTRAINT : Addr) (w_NUMERIC : Addr) (w_PROGRAM : Addr) (w_STORAGE : Addr) (w_TASKING : Addr) (w_STATUS : Addr) (w_MODE : Addr) (w_NAME : Addr) (w_USE : Addr) (w_DEVICE : Addr) (w_END : Addr) (w_DATA : Addr) (w_LAYOUT : Addr) (w_SERVER_DEFINED : Addr) (w_USER_NAME_OR_PASSWORD : Addr) (w_V : Addr) (cl_V : Cell) (E_OTHER : Exa Z Z.heap w_OTHER "com/example/ferrule/ferrule/ErrorKind") (E_CONSTRAINT : Exa Z Z.heap w_CONSTRAINT "com/example/ferrule/ferrule/ErrorKind") (E_NUMERIC : Exa Z Z.heap w_NUMERIC "com/example/ferrule/ferrule/ErrorKind") (E_PROGRAM : Exa Z Z.heap w_PROGRAM "com/example/ferrule/ferrule/ErrorKind") (E_STORAGE : Exa Z Z.heap w_STORAGE "com/example/ferrule/ferrule/ErrorKind") (E_TASKING : Exa Z Z.heap w_TASKING "com/example/ferrule/ferrule/ErrorKind") (E_STATUS : Exa Z Z.heap w_STATUS "com/example/ferrule/ferrule/ErrorKind") (E_MODE : Exa Z Z.heap w_MODE "com/example/ferrule/ferrule/ErrorKind") (E_NAME : Exa Z Z.heap w_NAME "com/example/ferrule/ferrule/ErrorKind") (E_USE : Exa Z Z.heap w_USE "com/example/ferrule/ferrule/ErrorKind") (E_DEVICE : Exa Z Z.heap w_DEVICE "com/example/ferrule/ferrule/ErrorKind") (E_END : Exa Z Z.heap w_END "com/example/ferrule/ferrule/ErrorKind") (E_DATA : Exa Z Z.heap w_DATA "com/example/ferrule/ferrule/ErrorKind") (E_LAYOUT : Exa Z Z.heap w_LAYOUT "com/example/ferrule/ferrule/ErrorKind") (E_SERVER_DEFINED : Exa Z Z.heap w_SERVER_DEFINED "com/example/ferrule/ferrule/ErrorKind") (E_USER_NAME_OR_PASSWORD : Exa Z Z.heap w_USER_NAME_OR_PASSWORD "com/example/ferrule/ferrule/ErrorKind") (F_OTHER : Fld Z Z.heap w_OTHER "com/example/ferrule/ferrule/ErrorKind" "code" "S" (.int (0 : Int32))) (F_CONSTRAINT : Fld Z Z.heap w_CONSTRAINT "com/example/ferrule/ferrule/ErrorKind" "code" "S" (.int (1 : Int32))) (F_NUMERIC : Fld Z Z.heap w_NUMERIC "com/example/ferrule/ferrule/ErrorKind" "code" "S" (.int (2 : Int32))) (F_PROGRAM : Fld Z Z.heap w_PROGRAM "com/example/ferrule/ferrule/ErrorKind" "code" "S" (.int (3 : Int32))) (F_STORAGE : Fld Z Z.heap w_STORAGE "com/example/ferrule/ferrule/ErrorKind" "code" "S" (.int (4 : Int32))) (F_TASKING : Fld Z Z.heap w_TASKING "com/example/ferrule/ferrule/ErrorKind" "code" "S" (.int (5 : Int32))) (F_STATUS : Fld Z Z.heap w_STATUS "com/example/ferrule/ferrule/ErrorKind" "code" "S" (.int (6 : Int32))) (F_MODE : Fld Z Z.heap w_MODE "com/example/ferrule/ferrule/ErrorKind" "code" "S" (.int (7 : Int32))) (F_NAME : Fld Z Z.heap w_NAME "com/example/ferrule/ferrule/ErrorKind" "code" "S" (.int (8 : Int32))) (F_USE : Fld Z Z.heap w_USE "com/example/ferrule/ferrule/ErrorKind" "code" "S" (.int (9 : Int32))) (F_DEVICE : Fld Z Z.heap w_DEVICE "com/example/ferrule/ferrule/ErrorKind" "code" "S" (.int (10 : Int32))) (F_END : Fld Z Z.heap w_END "com/example/ferrule/ferrule/ErrorKind" "code" "S" (.int (11 : Int32))) (F_DATA : Fld Z Z.heap w_DATA "com/example/ferrule/ferrule/ErrorKind" "code" "S" (.int (12 : Int32))) (F_LAYOUT : Fld Z Z.heap w_LAYOUT "com/example/ferrule/ferrule/ErrorKind" "code" "S" (.int (13 : Int32))) (F_SERVER_DEFINED : Fld Z Z.heap w_SERVER_DEFINED "com/example/ferrule/ferrule/ErrorKind" "code" "S" (.int (14 : Int32))) (F_USER_NAME_OR_PASSWORD : Fld Z Z.heap w_USER_NAME_OR_PASSWORD "com/example/ferrule/ferrule/ErrorKind" "code" "S" (.int (15 : Int32))) (S_V : Sta Z Z.heap "com/example/ferrule/ferrule/ErrorKind" "$VALUES" "[Lcom/example/ferrule/ferrule/ErrorKind;" (.ref w_V)) (A_V : Arr Z Z.heap w_V cl_V (.object "com/example/ferrule/ferrule/ErrorKind")) (E_V : Exa Z Z.heap w_V "[Lcom/example/ferrule/ferrule/ErrorKind;") (Q_V : FitC Z cl_V) (z_V : cl_V.slots.size = 16) (t_OTHER : cl_V.slots[0]? = some (.ref w_OTHER)) (t_CONSTRAINT : cl_V.slots[1]? = some (.ref w_CONSTRAINT)) (t_NUMERIC : cl_V.slots[2]? = some (.ref w_NUMERIC)) (t_PROGRAM : cl_V.slots[3]? = some (.ref w_PROGRAM)) (t_STORAGE : cl_V.slots[4]? = some (.ref w_STORAGE)) (t_TASKING : cl_V.slots[5]? = some (.ref w_TASKING)) (t_STATUS : cl_V.slots[6]? = some (.ref w_STATUS)) (t_MODE : cl_V.slots[7]? = some (.ref w_MODE)) (t_NAME : cl_V.slots[8]? = some (.ref w_NAME)) (t_USE : cl_V.slots[9]? = some (.ref w_USE)) (t_DEVICE : cl_V.slots[10]? = some (.ref w_DEVICE)) (t_END : cl_V.slots[11]? = some (.ref w_END)) (t_DATA : cl_V.slots[12]? = some (.ref w_DATA)) (t_LAYOUT : cl_V.slots[13]? = some (.ref w_LAYOUT)) (t_SERVER_DEFINED : cl_V.slots[14]? = some (.ref w_SERVER_DEFINED)) (t_USER_NAME_OR_PASSWORD : cl_V.slots[15]? = some (.ref w_USER_NAME_OR_PASSWORD)) (p0 : Int32) (p1 : Int32) (h0 : Heap) (n0 : Nat) (O : Old Z n0 h0)  :
    Ct l x code maxLocals ret room_1 Z #[(.int p0), (.int p1)] h0 (fun v h L => v = some (.int 1) ∧ Fr n0 L) := by
  refine Ct.of (plainFor_of_name pn_ErrorKindForCodePinLaw_80) ?_
  intro p e s m below meth c T0 X0 hx hby hml hown hnm hret hlk hZ e0
  have hown : s.vm.findClass "com/example/ferrule/ferrule/ErrorKindForCodePinLaw" = some m.cls := hown
  have hml : c.maxLocals = 4 := hml
  have N0 := Fr.nil n0
  refine Go.cast (g' := mkF m 0 #[.val (.int p0), .val (.int p1), .unset, .unset] []) (by first | (simp [entryFrame, mkF, argsToLocals, Value.category, maxLocals]; done) | rfl) ?_
  refine Go.by (T' := T0) (g' := (mkF m 13 #[.val (.int p0), .val (.int p1), .val (.int (p0.toInt16.toInt32)), .val (.int (((p1 &&& (31 : Int32)) - (8 : Int32)).toInt16.toInt32))] [(.int (p0.toInt16.toInt32))])) (fun t k => ?_) ?_
  · show Steps p.tables e below (T0.setTop (mkF m 0 #[.val (.int p0), .val (.int p1), .unset, .unset] [])) _
    refine XS.iloadN X0.here hx rfl (hb hby at_0) rfl ?_
    show Steps p.tables e below (T0.setTop (mkF m 1 #[.val (.int p0), .val (.int p1), .unset, .unset] [(.int p0)])) _
    refine XS.i2s X0.here hx rfl (hb hby at_1) rfl ?_
    show Steps p.tables e below (T0.setTop (mkF m 2 #[.val (.int p0), .val (.int p1), .unset, .unset] [(.int (p0.toInt16.toInt32))])) _
    refine XS.istoreN X0.here hx rfl (hb hby at_2) rfl (l' := #[.val (.int p0), .val (.int p1), .val (.int (p0.toInt16.toInt32)), .unset]) rfl ?_
    show Steps p.tables e below (T0.setTop (mkF m 3 #[.val (.int p0), .val (.int p1), .val (.int (p0.toInt16.toInt32)), .unset] [])) _
    refine XS.iloadN X0.here hx rfl (hb hby at_3) rfl ?_
    show Steps p.tables e below (T0.setTop (mkF m 4 #[.val (.int p0), .val (.int p1), .val (.int (p0.toInt16.toInt32)), .unset] [(.int p1)])) _
    refine XS.bipush X0.here hx rfl (hb hby at_4) ?_
    show Steps p.tables e below (T0.setTop (mkF m 6 #[.val (.int p0), .val (.int p1), .val (.int (p0.toInt16.toInt32)), .unset] [(.int (31 : Int32)), (.int p1)])) _
    refine XS.iand X0.here hx rfl (hb hby at_6) rfl ?_
    show Steps p.tables e below (T0.setTop (mkF m 7 #[.val (.int p0), .val (.int p1), .val (.int (p0.toInt16.toInt32)), .unset] [(.int (p1 &&& (31 : Int32)))])) _
    refine XS.bipush X0.here hx rfl (hb hby at_7) ?_
    show Steps p.tables e below (T0.setTop (mkF m 9 #[.val (.int p0), .val (.int p1), .val (.int (p0.toInt16.toInt32)), .unset] [(.int (8 : Int32)), (.int (p1 &&& (31 : Int32)))])) _
    refine XS.isub X0.here hx rfl (hb hby at_9) rfl ?_
    show Steps p.tables e below (T0.setTop (mkF m 10 #[.val (.int p0), .val (.int p1), .val (.int (p0.toInt16.toInt32)), .unset] [(.int ((p1 &&& (31 : Int32)) - (8 : Int32)))])) _
    refine XS.i2s X0.here hx rfl (hb hby at_10) rfl ?_
    show Steps p.tables e below (T0.setTop (mkF m 11 #[.val (.int p0), .val (.int p1), .val (.int (p0.toInt16.toInt32)), .unset] [(.int (((p1 &&& (31 : Int32)) - (8 : Int32)).toInt16.toInt32))])) _
    refine XS.istoreN X0.here hx rfl (hb hby at_11) rfl (l' := #[.val (.int p0), .val (.int p1), .val (.int (p0.toInt16.toInt32)), .val (.int (((p1 &&& (31 : Int32)) - (8 : Int32)).toInt16.toInt32))]) rfl ?_
    show Steps p.tables e below (T0.setTop (mkF m 12 #[.val (.int p0), .val (.int p1), .val (.int (p0.toInt16.toInt32)), .val (.int (((p1 &&& (31 : Int32)) - (8 : Int32)).toInt16.toInt32))] [])) _
    refine XS.iloadN X0.here hx rfl (hb hby at_12) rfl ?_
    exact k
  refine Go.callS X0 hx hZ (W := 0) (argsL := [(.int (p0.toInt16.toInt32))]) (rest := []) hown (wd hw 0 rfl) (wd hw 1 rfl) (wd hw 2 rfl) (wd hw 3 rfl) (by decide) (ct_check l Z a0 hw w_OTHER w_CONSTRAINT w_NUMERIC w_PROGRAM w_STORAGE w_TASKING w_STATUS w_MODE w_NAME w_USE w_DEVICE w_END w_DATA w_LAYOUT w_SERVER_DEFINED w_USER_NAME_OR_PASSWORD w_V cl_V E_OTHER E_CONSTRAINT E_NUMERIC E_PROGRAM E_STORAGE E_TASKING E_STATUS E_MODE E_NAME E_USE E_DEVICE E_END E_DATA E_LAYOUT E_SERVER_DEFINED E_USER_NAME_OR_PASSWORD F_OTHER F_CONSTRAINT F_NUMERIC F_PROGRAM F_STORAGE F_TASKING F_STATUS F_MODE F_NAME F_USE F_DEVICE F_END F_DATA F_LAYOUT F_SERVER_DEFINED F_USER_NAME_OR_PASSWORD S_V A_V E_V Q_V z_V t_OTHER t_CONSTRAINT t_NUMERIC t_PROGRAM t_STORAGE t_TASKING t_STATUS t_MODE t_NAME t_USE t_DEVICE t_END t_DATA t_LAYOUT t_SERVER_DEFINED t_USER_NAME_OR_PASSWORD (p0.toInt16.toInt32) h0 n0 O (own_nar _)) e0 (by rw [hml]; rfl) (lenOf pd__S_Z_7390 rfl) rfl rfl (hb hby at_13) (by decide) (by decide) (by decide) (by decide) ?_
  intro v1 T1 h1 L1 X1 e1 q1
  obtain ⟨rfl, N1, K1⟩ := q1
  replace N1 := Fr.app N0 N1
  replace O := O.keep K1 all0
  show Go p e below _ T1 (mkF m 16 #[.val (.int p0), .val (.int p1), .val (.int (p0.toInt16.toInt32)), .val (.int (((p1 &&& (31 : Int32)) - (8 : Int32)).toInt16.toInt32))] [(.int (1 : Int32))])
  refine Go.by (T' := T1) (g' := (mkF m 20 #[.val (.int p0), .val (.int p1), .val (.int (p0.toInt16.toInt32)), .val (.int (((p1 &&& (31 : Int32)) - (8 : Int32)).toInt16.toInt32))] [(.int (((p1 &&& (31 : Int32)) - (8 : Int32)).toInt16.toInt32))])) (fun t k => ?_) ?_
  · show Steps p.tables e below (T1.setTop (mkF m 16 #[.val (.int p0), .val (.int p1), .val (.int (p0.toInt16.toInt32)), .val (.int (((p1 &&& (31 : Int32)) - (8 : Int32)).toInt16.toInt32))] [(.int (1 : Int32))])) _
    refine XS.ifNo X1.here hx rfl (hb hby at_16) rfl ((if0 _ _).trans (feq (by decide : ¬ (1 : Int32) = (0 : Int32))).1) ?_
    show Steps p.tables e below (T1.setTop (mkF m 19 #[.val (.int p0), .val (.int p1), .val (.int (p0.toInt16.toInt32)), .val (.int (((p1 &&& (31 : Int32)) - (8 : Int32)).toInt16.toInt32))] [])) _
    refine XS.iloadN X1.here hx rfl (hb hby at_19) rfl ?_
    exact k
  refine Go.callS X1 hx hZ (W := 0) (argsL := [(.int (((p1 &&& (31 : Int32)) - (8 : Int32)).toInt16.toInt32))]) (rest := []) hown (wd hw 0 rfl) (wd hw 1 rfl) (wd hw 2 rfl) (wd hw 3 rfl) (by decide) (ct_check l Z a0 hw w_OTHER w_CONSTRAINT w_NUMERIC w_PROGRAM w_STORAGE w_TASKING w_STATUS w_MODE w_NAME w_USE w_DEVICE w_END w_DATA w_LAYOUT w_SERVER_DEFINED w_USER_NAME_OR_PASSWORD w_V cl_V E_OTHER E_CONSTRAINT E_NUMERIC E_PROGRAM E_STORAGE E_TASKING E_STATUS E_MODE E_NAME E_USE E_DEVICE E_END E_DATA E_LAYOUT E_SERVER_DEFINED E_USER_NAME_OR_PASSWORD F_OTHER F_CONSTRAINT F_NUMERIC F_PROGRAM F_STORAGE F_TASKING F_STATUS F_MODE F_NAME F_USE F_DEVICE F_END F_DATA F_LAYOUT F_SERVER_DEFINED F_USER_NAME_OR_PASSWORD S_V A_V E_V Q_V z_V t_OTHER t_CONSTRAINT t_NUMERIC t_PROGRAM t_STORAGE t_TASKING t_STATUS t_MODE t_NAME t_USE t_DEVICE t_END t_DATA t_LAYOUT t_SERVER_DEFINED t_USER_NAME_OR_PASSWORD (((p1 &&& (31 : Int32)) - (8 : Int32)).toInt16.toInt32) h1 n0 O (own_nar _)) e1 (by rw [hml]; rfl) (lenOf pd__S_Z_7390 rfl) rfl rfl (hb hby at_20) (by decide) (by decide) (by decide) (by decide) ?_
  intro v2 T2 h2 L2 X2 e2 q2
  obtain ⟨rfl, N2, K2⟩ := q2
  replace N2 := Fr.app N1 N2
  replace O := O.keep K2 all0
  show Go p e below _ T2 (mkF m 23 #[.val (.int p0), .val (.int p1), .val (.int (p0.toInt16.toInt32)), .val (.int (((p1 &&& (31 : Int32)) - (8 : Int32)).toInt16.toInt32))] [(.int (1 : Int32))])
  refine Go.by (T' := T2) (g' := (mkF m 31 #[.val (.int p0), .val (.int p1), .val (.int (p0.toInt16.toInt32)), .val (.int (((p1 &&& (31 : Int32)) - (8 : Int32)).toInt16.toInt32))] [(.int (1 : Int32))])) (fun t k => ?_) ?_
  · show Steps p.tables e below (T2.setTop (mkF m 23 #[.val (.int p0), .val (.int p1), .val (.int (p0.toInt16.toInt32)), .val (.int (((p1 &&& (31 : Int32)) - (8 : Int32)).toInt16.toInt32))] [(.int (1 : Int32))])) _
    refine XS.ifNo X2.here hx rfl (hb hby at_23) rfl ((if0 _ _).trans (feq (by decide : ¬ (1 : Int32) = (0 : Int32))).1) ?_
    show Steps p.tables e below (T2.setTop (mkF m 26 #[.val (.int p0), .val (.int p1), .val (.int (p0.toInt16.toInt32)), .val (.int (((p1 &&& (31 : Int32)) - (8 : Int32)).toInt16.toInt32))] [])) _
    refine XS.iconst X2.here hx rfl (hb hby at_26) ?_
    show Steps p.tables e below (T2.setTop (mkF m 27 #[.val (.int p0), .val (.int p1), .val (.int (p0.toInt16.toInt32)), .val (.int (((p1 &&& (31 : Int32)) - (8 : Int32)).toInt16.toInt32))] [(.int (1 : Int32))])) _
    refine XS.goto X2.here hx rfl (pc0 := 27) (pc' := 31) rfl (hb hby at_27) (by decide) (by decide) ?_
    exact k
  refine Go.retZ X2 hx hlk hret (Or.inr rfl) (hb hby at_31) (by decide) (by decide) e2 ?_
  exact ⟨rfl, N2⟩
set_option maxRecDepth 65536 in
set_option maxHeartbeats 40000000 in
theorem comes_1 {Post : Tables → Env → Array Value → State → Outcome → State → Prop} (hpost : ∀ tb e args s v u, (limb_1_1.after args s (.returned v) u = true ∧ limb_1_2.after args s (.returned v) u = true ∧ True) → FrameEnd s (.returned v) u (Jvm.fieldLocs frame_1_writes args s ++ Jvm.arrayLocs frame_1_arrays args s ++ Jvm.staticLocs frame_1_statics s) 16 128 → Post tb e args s (.returned v) u) :
    ArmFor flags0 classFile x code maxLocals ret World_1 tables_1 room_1 Calls_1 rest_1 Pre_1 Post := by
  intro l hfl _ _ p e ha hc hk s m args below hf hA hF happ hP
  obtain ⟨hcalls, hrest, hpre⟩ := hP
  obtain ⟨-, -, -, hnamed, -, -, -, hat⟩ := (Spec.applies_iff hf).mp happ
  obtain ⟨hg, hn⟩ := and_e (Cond.before_iff.mp (show (Jvm.Cond.and given_1 narrow_1).before args s = true from hpre))
  obtain ⟨hcnt, hg⟩ := and_e hg
  obtain ⟨ha0, hg⟩ := and_e hg
  have ha1 := hg
  obtain ⟨u0, u1, rfl⟩ : ∃ u0 u1 : Value, args = #[u0, u1] := by
    have hs : args.size = 2 := by simpa [Cond.value] using hcnt
    obtain ⟨L⟩ := args
    match L, hs with
    | [u0, u1], _ => exact ⟨u0, u1, rfl⟩
  have hw := fun d (hd : d ∈ tables_1) => atoms_spec (ws := Jvm.Cond.code x code maxLocals ret :: tables_1) hat d (List.mem_cons_of_mem _ hd)
  have hfit : Fit s := fun {y c} hc i hi => by
    obtain ⟨ha, rfl⟩ := Array.getElem?_eq_some_iff.mp hc
    have q := List.all_eq_true.mp ((Array.all_eq_true_iff_forall_mem.mp hF) _ (Array.getElem_mem ha)) i (List.mem_range.mpr hi)
    simpa [Array.getElem?_eq_getElem hi] using q
  obtain ⟨i0, ei0⟩ := is_v ha0
  obtain rfl : u0 = (.int i0) := Option.some.inj ei0
  obtain ⟨i1, ei1⟩ := is_v ha1
  obtain rfl : u1 = (.int i1) := Option.some.inj ei1
  obtain ⟨n1, hn⟩ := and_e hn
  obtain ⟨n2, hn⟩ := and_e hn
  obtain ⟨n3, hn⟩ := and_e hn
  obtain ⟨n4, hn⟩ := and_e hn
  obtain ⟨n5, hn⟩ := and_e hn
  obtain ⟨n6, hn⟩ := and_e hn
  obtain ⟨n7, hn⟩ := and_e hn
  obtain ⟨n8, hn⟩ := and_e hn
  obtain ⟨n9, hn⟩ := and_e hn
  obtain ⟨n10, hn⟩ := and_e hn
  obtain ⟨n11, hn⟩ := and_e hn
  obtain ⟨n12, hn⟩ := and_e hn
  obtain ⟨n13, hn⟩ := and_e hn
  obtain ⟨n14, hn⟩ := and_e hn
  obtain ⟨n15, hn⟩ := and_e hn
  obtain ⟨n16, hn⟩ := and_e hn
  obtain ⟨n17, hn⟩ := and_e hn
  obtain ⟨n18, hn⟩ := and_e hn
  obtain ⟨n19, hn⟩ := and_e hn
  obtain ⟨n20, hn⟩ := and_e hn
  obtain ⟨n21, hn⟩ := and_e hn
  obtain ⟨n22, hn⟩ := and_e hn
  obtain ⟨n23, hn⟩ := and_e hn
  obtain ⟨n24, hn⟩ := and_e hn
  obtain ⟨n25, hn⟩ := and_e hn
  obtain ⟨n26, hn⟩ := and_e hn
  obtain ⟨n27, hn⟩ := and_e hn
  obtain ⟨n28, hn⟩ := and_e hn
  obtain ⟨n29, hn⟩ := and_e hn
  obtain ⟨n30, hn⟩ := and_e hn
  obtain ⟨n31, hn⟩ := and_e hn
  obtain ⟨n32, hn⟩ := and_e hn
  obtain ⟨n33, hn⟩ := and_e hn
  obtain ⟨n34, hn⟩ := and_e hn
  obtain ⟨n35, hn⟩ := and_e hn
  obtain ⟨n36, hn⟩ := and_e hn
  obtain ⟨n37, hn⟩ := and_e hn
  obtain ⟨n38, hn⟩ := and_e hn
  obtain ⟨n39, hn⟩ := and_e hn
  obtain ⟨n40, hn⟩ := and_e hn
  obtain ⟨n41, hn⟩ := and_e hn
  obtain ⟨n42, hn⟩ := and_e hn
  obtain ⟨n43, hn⟩ := and_e hn
  obtain ⟨n44, hn⟩ := and_e hn
  obtain ⟨n45, hn⟩ := and_e hn
  obtain ⟨n46, hn⟩ := and_e hn
  obtain ⟨n47, hn⟩ := and_e hn
  obtain ⟨n48, hn⟩ := and_e hn
  obtain ⟨n49, hn⟩ := and_e hn
  obtain ⟨n50, hn⟩ := and_e hn
  have k_arr := n1
  obtain ⟨w_V, ev_V⟩ := arr_v k_arr
  have S_V := Sta.start ev_V (Or.inl (wd hw 36 rfl))
  obtain ⟨cl_V, A_V⟩ := Arr.start ev_V k_arr
  have E_V := Exa.start ev_V n2
  have Q_V := FitC.start hfit A_V
  have z_V := size_le (k := 16) (lenI_v (eqI_v n3) ev_V (A_V.fin (Vm.Alike.refl _))) rfl
  obtain ⟨w_OTHER, ev_OTHER⟩ := exa_v n4
  have E_OTHER := Exa.start ev_OTHER n4
  have F_OTHER := Fld.start ((fld_at ev_OTHER).symm.trans (eqI_v n36))
  have t_OTHER : cl_V.slots[0]? = some (.ref w_OTHER) := (elem_in (eqR_v ev_OTHER n5) ev_V (Term.int_eval _) A_V.1).2
  obtain ⟨w_CONSTRAINT, ev_CONSTRAINT⟩ := exa_v n6
  have E_CONSTRAINT := Exa.start ev_CONSTRAINT n6
  have F_CONSTRAINT := Fld.start ((fld_at ev_CONSTRAINT).symm.trans (eqI_v n37))
  have t_CONSTRAINT : cl_V.slots[1]? = some (.ref w_CONSTRAINT) := (elem_in (eqR_v ev_CONSTRAINT n7) ev_V (Term.int_eval _) A_V.1).2
  obtain ⟨w_NUMERIC, ev_NUMERIC⟩ := exa_v n8
  have E_NUMERIC := Exa.start ev_NUMERIC n8
  have F_NUMERIC := Fld.start ((fld_at ev_NUMERIC).symm.trans (eqI_v n38))
  have t_NUMERIC : cl_V.slots[2]? = some (.ref w_NUMERIC) := (elem_in (eqR_v ev_NUMERIC n9) ev_V (Term.int_eval _) A_V.1).2
  obtain ⟨w_PROGRAM, ev_PROGRAM⟩ := exa_v n10
  have E_PROGRAM := Exa.start ev_PROGRAM n10
  have F_PROGRAM := Fld.start ((fld_at ev_PROGRAM).symm.trans (eqI_v n39))
  have t_PROGRAM : cl_V.slots[3]? = some (.ref w_PROGRAM) := (elem_in (eqR_v ev_PROGRAM n11) ev_V (Term.int_eval _) A_V.1).2
  obtain ⟨w_STORAGE, ev_STORAGE⟩ := exa_v n12
  have E_STORAGE := Exa.start ev_STORAGE n12
  have F_STORAGE := Fld.start ((fld_at ev_STORAGE).symm.trans (eqI_v n40))
  have t_STORAGE : cl_V.slots[4]? = some (.ref w_STORAGE) := (elem_in (eqR_v ev_STORAGE n13) ev_V (Term.int_eval _) A_V.1).2
  obtain ⟨w_TASKING, ev_TASKING⟩ := exa_v n14
  have E_TASKING := Exa.start ev_TASKING n14
  have F_TASKING := Fld.start ((fld_at ev_TASKING).symm.trans (eqI_v n41))
  have t_TASKING : cl_V.slots[5]? = some (.ref w_TASKING) := (elem_in (eqR_v ev_TASKING n15) ev_V (Term.int_eval _) A_V.1).2
  obtain ⟨w_STATUS, ev_STATUS⟩ := exa_v n16
  have E_STATUS := Exa.start ev_STATUS n16
  have F_STATUS := Fld.start ((fld_at ev_STATUS).symm.trans (eqI_v n42))
  have t_STATUS : cl_V.slots[6]? = some (.ref w_STATUS) := (elem_in (eqR_v ev_STATUS n17) ev_V (Term.int_eval _) A_V.1).2
  obtain ⟨w_MODE, ev_MODE⟩ := exa_v n18
  have E_MODE := Exa.start ev_MODE n18
  have F_MODE := Fld.start ((fld_at ev_MODE).symm.trans (eqI_v n43))
  have t_MODE : cl_V.slots[7]? = some (.ref w_MODE) := (elem_in (eqR_v ev_MODE n19) ev_V (Term.int_eval _) A_V.1).2
  obtain ⟨w_NAME, ev_NAME⟩ := exa_v n20
  have E_NAME := Exa.start ev_NAME n20
  have F_NAME := Fld.start ((fld_at ev_NAME).symm.trans (eqI_v n44))
  have t_NAME : cl_V.slots[8]? = some (.ref w_NAME) := (elem_in (eqR_v ev_NAME n21) ev_V (Term.int_eval _) A_V.1).2
  obtain ⟨w_USE, ev_USE⟩ := exa_v n22
  have E_USE := Exa.start ev_USE n22
  have F_USE := Fld.start ((fld_at ev_USE).symm.trans (eqI_v n45))
  have t_USE : cl_V.slots[9]? = some (.ref w_USE) := (elem_in (eqR_v ev_USE n23) ev_V (Term.int_eval _) A_V.1).2
  obtain ⟨w_DEVICE, ev_DEVICE⟩ := exa_v n24
  have E_DEVICE := Exa.start ev_DEVICE n24
  have F_DEVICE := Fld.start ((fld_at ev_DEVICE).symm.trans (eqI_v n46))
  have t_DEVICE : cl_V.slots[10]? = some (.ref w_DEVICE) := (elem_in (eqR_v ev_DEVICE n25) ev_V (Term.int_eval _) A_V.1).2
  obtain ⟨w_END, ev_END⟩ := exa_v n26
  have E_END := Exa.start ev_END n26
  have F_END := Fld.start ((fld_at ev_END).symm.trans (eqI_v n47))
  have t_END : cl_V.slots[11]? = some (.ref w_END) := (elem_in (eqR_v ev_END n27) ev_V (Term.int_eval _) A_V.1).2
  obtain ⟨w_DATA, ev_DATA⟩ := exa_v n28
  have E_DATA := Exa.start ev_DATA n28
  have F_DATA := Fld.start ((fld_at ev_DATA).symm.trans (eqI_v n48))
  have t_DATA : cl_V.slots[12]? = some (.ref w_DATA) := (elem_in (eqR_v ev_DATA n29) ev_V (Term.int_eval _) A_V.1).2
  obtain ⟨w_LAYOUT, ev_LAYOUT⟩ := exa_v n30
  have E_LAYOUT := Exa.start ev_LAYOUT n30
  have F_LAYOUT := Fld.start ((fld_at ev_LAYOUT).symm.trans (eqI_v n49))
  have t_LAYOUT : cl_V.slots[13]? = some (.ref w_LAYOUT) := (elem_in (eqR_v ev_LAYOUT n31) ev_V (Term.int_eval _) A_V.1).2
  obtain ⟨w_SERVER_DEFINED, ev_SERVER_DEFINED⟩ := exa_v n32
  have E_SERVER_DEFINED := Exa.start ev_SERVER_DEFINED n32
  have F_SERVER_DEFINED := Fld.start ((fld_at ev_SERVER_DEFINED).symm.trans (eqI_v n50))
  have t_SERVER_DEFINED : cl_V.slots[14]? = some (.ref w_SERVER_DEFINED) := (elem_in (eqR_v ev_SERVER_DEFINED n33) ev_V (Term.int_eval _) A_V.1).2
  obtain ⟨w_USER_NAME_OR_PASSWORD, ev_USER_NAME_OR_PASSWORD⟩ := exa_v n34
  have E_USER_NAME_OR_PASSWORD := Exa.start ev_USER_NAME_OR_PASSWORD n34
  have F_USER_NAME_OR_PASSWORD := Fld.start ((fld_at ev_USER_NAME_OR_PASSWORD).symm.trans (eqI_v hn))
  have t_USER_NAME_OR_PASSWORD : cl_V.slots[15]? = some (.ref w_USER_NAME_OR_PASSWORD) := (elem_in (eqR_v ev_USER_NAME_OR_PASSWORD n35) ev_V (Term.int_eval _) A_V.1).2
  obtain ⟨n, o, h1, h2, h3, _, L, rfl, ⟨rfl, N⟩, hq⟩ := ct_law l s _ hw w_OTHER w_CONSTRAINT w_NUMERIC w_PROGRAM w_STORAGE w_TASKING w_STATUS w_MODE w_NAME w_USE w_DEVICE w_END w_DATA w_LAYOUT w_SERVER_DEFINED w_USER_NAME_OR_PASSWORD w_V cl_V E_OTHER E_CONSTRAINT E_NUMERIC E_PROGRAM E_STORAGE E_TASKING E_STATUS E_MODE E_NAME E_USE E_DEVICE E_END E_DATA E_LAYOUT E_SERVER_DEFINED E_USER_NAME_OR_PASSWORD F_OTHER F_CONSTRAINT F_NUMERIC F_PROGRAM F_STORAGE F_TASKING F_STATUS F_MODE F_NAME F_USE F_DEVICE F_END F_DATA F_LAYOUT F_SERVER_DEFINED F_USER_NAME_OR_PASSWORD S_V A_V E_V Q_V z_V t_OTHER t_CONSTRAINT t_NUMERIC t_PROGRAM t_STORAGE t_TASKING t_STATUS t_MODE t_NAME t_USE t_DEVICE t_END t_DATA t_LAYOUT t_SERVER_DEFINED t_USER_NAME_OR_PASSWORD i0 i1 s.heap s.heap.size (Old.start s)  tables_1 p e ha hc hk s m _ below hf ((Spec.applies_iff_loose hf).mp happ).1 ⟨rfl, State.Warmed39.refl s, rfl⟩ trivial
  refine ⟨n, _, h1, h2, h3, hpost _ _ _ _ _ _ ⟨Cond.after_iff.mpr rfl, Cond.after_iff.mpr (eq_i res_at (Term.int_eval (1)) rfl), trivial⟩ ⟨hq.1, hq.2.1, (hq.2.2.sift fun y hy => Or.inr (N y hy)).mono (by decide) (by decide)⟩⟩
theorem main_1_1 : Claimed_1_1 := comes_1 fun _ _ _ _ _ _ h hF => ⟨h.1, hF⟩
theorem main_1_2 : Claimed_1_2 := comes_1 fun _ _ _ _ _ _ h hF => ⟨h.2.1, hF⟩
end Jvm.Pilot.@@N@@
namespace Jvm.Pilot.@@N@@
open Jvm Jvm.ClassFile Sem Op Lib Jvm.Free Jvm.Stand Jvm.Pilot.@@N@@.Jvm.D
/-! MADE BY PROGRAM (witnessworld.py) out of the Statement's table words and the real class files: 13 classes; the members and pool entries that the words name. The judged class is class 1, her method 2. -/
namespace start1
open Jvm.ClassFile
def u (s : String) : CpInfo := .utf8 (stringToUtf16 s)
/-- a pool by its gaps: so many unusable entries, then the entry; so many at the end -/
def gap : Nat → List CpInfo → List CpInfo
  | 0, r => r
  | n + 1, r => .unusable :: gap n r
def poolList (es : List (Nat × CpInfo)) (last : Nat) : List CpInfo := es.foldr (fun e r => gap e.1 (e.2 :: r)) (gap last [])
def pool (es : List (Nat × CpInfo)) (last : Nat) : Array CpInfo := ⟨poolList es last⟩
def fileOf (pool : Array CpInfo) (this : Nat) (attrs : Array Attribute := #[]) (ms : Array MethodInfo := #[]) (fl : Nat := 33) (sup : Nat := 0) (ifs : Array Nat := #[]) (fds : Array FieldInfo := #[]) : ClassFile where
  minorVersion := 0
  majorVersion := 65
  constantPool := pool
  accessFlags := fl
  thisClass := this
  superClass := sup
  interfaces := ifs
  fields := fds
  methods := ms
  attributes := attrs
def plain (name : String) (sup : Option ClassId) : Class where
  name := name
  kind := .ordinary
  loader := none
  accessFlags := 33
  super := sup
  interfaces := #[]
  cf := none
  fields := #[]
  methods := #[]
  instanceTypes := #[]
  staticTypes := #[]
  resolved := #[]
  callSites := []
  init := .initialized
  statics := none
  mirror := none

def pool0 : Array CpInfo := pool [(5, u "<init>"), (0, u "()V"), (1, .class_ 10), (1, u "java/lang/Object"), (85, u "clone"), (0, u "()Ljava/lang/Object;")] 26

def k0m0 : Method := { name := "<init>", desc := "()V", sig := { parameters := [], returnType := none }, accessFlags := 1, code := none }
def k0m1 : Method := { name := "clone", desc := "()Ljava/lang/Object;", sig := { parameters := [], returnType := some (.object "java/lang/Object") }, accessFlags := 260, code := none }
/-- java/lang/Object -/
def k0 : Class := { plain "java/lang/Object" none with
  accessFlags := 33
  interfaces := #[]
  cf := some (fileOf pool0 8 #[] #[{ accessFlags := 1, nameIndex := 5, descriptorIndex := 6, attributes := #[] }, { accessFlags := 260, nameIndex := 96, descriptorIndex := 97, attributes := #[] }] 33 0 #[] #[])
  fields := #[]
  methods := #[k0m0, k0m1]
  instanceTypes := #[]
  staticTypes := #[]
  resolved := Array.replicate 124 none
  statics := none }

def pool1 : Array CpInfo := pool [(2, .class_ 4), (1, u "java/lang/Object"), (0, u "<init>"), (0, u "()V"), (0, .methodref 8 9), (0, .class_ 10), (0, .nameAndType 11 12), (0, u "com/example/ferrule/ferrule/ErrorKind"), (0, u "forCode"), (0, u "(S)Lcom/example/ferrule/ferrule/ErrorKind;"), (0, .methodref 8 14), (0, .nameAndType 15 16), (0, u "code"), (0, u "()S"), (0, .methodref 18 19), (0, .class_ 20), (0, .nameAndType 21 22), (0, u "com/example/ferrule/ferrule/ErrorKindForCodePinLaw"), (0, u "check"), (0, u "(S)Z"), (3, u "law"), (0, u "(II)Z")] 2

def k1m0 : Method := { name := "<init>", desc := "()V", sig := { parameters := [], returnType := none }, accessFlags := 2, code := none }
def k1c1 : Code := { maxStack := 2, maxLocals := 2, code := method_2_code, exceptionTable := #[], attributes := #[] }
def k1m1 : Method := { name := "check", desc := "(S)Z", sig := { parameters := [.short], returnType := some .boolean }, accessFlags := 10, code := some k1c1 }
def k1c2 : Code := { maxStack := 2, maxLocals := 4, code := code, exceptionTable := #[], attributes := #[] }
def k1m2 : Method := { name := "law", desc := "(II)Z", sig := { parameters := [.int, .int], returnType := some .boolean }, accessFlags := 9, code := some k1c2 }
/-- com/example/ferrule/ferrule/ErrorKindForCodePinLaw -/
def k1 : Class := { plain "com/example/ferrule/ferrule/ErrorKindForCodePinLaw" (some 0) with
  accessFlags := 49
  interfaces := #[]
  cf := some (fileOf pool1 18 #[] #[{ accessFlags := 2, nameIndex := 5, descriptorIndex := 6, attributes := #[] }, { accessFlags := 10, nameIndex := 21, descriptorIndex := 22, attributes := #[] }, { accessFlags := 9, nameIndex := 26, descriptorIndex := 27, attributes := #[] }] 49 2 #[] #[])
  fields := #[]
  methods := #[k1m0, k1m1, k1m2]
  instanceTypes := #[]
  staticTypes := #[]
  resolved := Array.replicate 30 none
  statics := none }

def pool2 : Array CpInfo := pool [(1, .class_ 2), (0, u "java/lang/constant/Constable"), (0, .class_ 4), (0, u "java/lang/Object")] 6

/-- java/lang/constant/Constable -/
def k2 : Class := { plain "java/lang/constant/Constable" (some 0) with
  accessFlags := 1537
  interfaces := #[]
  cf := some (fileOf pool2 1 #[] #[] 1537 3 #[] #[])
  fields := #[]
  methods := #[]
  instanceTypes := #[]
  staticTypes := #[]
  resolved := Array.replicate 11 none
  statics := none }

def pool3 : Array CpInfo := pool [(1, .class_ 2), (0, u "java/lang/Comparable"), (0, .class_ 4), (0, u "java/lang/Object")] 7

/-- java/lang/Comparable -/
def k3 : Class := { plain "java/lang/Comparable" (some 0) with
  accessFlags := 1537
  interfaces := #[]
  cf := some (fileOf pool3 1 #[] #[] 1537 3 #[] #[])
  fields := #[]
  methods := #[]
  instanceTypes := #[]
  staticTypes := #[]
  resolved := Array.replicate 12 none
  statics := none }

def pool4 : Array CpInfo := pool [(1, .class_ 2), (0, u "java/io/Serializable"), (0, .class_ 4), (0, u "java/lang/Object")] 2

/-- java/io/Serializable -/
def k4 : Class := { plain "java/io/Serializable" (some 0) with
  accessFlags := 1537
  interfaces := #[]
  cf := some (fileOf pool4 1 #[] #[] 1537 3 #[] #[])
  fields := #[]
  methods := #[]
  instanceTypes := #[]
  staticTypes := #[]
  resolved := Array.replicate 7 none
  statics := none }

def pool5 : Array CpInfo := pool [(2, .class_ 4), (1, u "java/lang/Enum"), (0, u "name"), (0, u "Ljava/lang/String;"), (2, u "ordinal"), (0, u "I"), (1, .class_ 14), (1, u "java/lang/Object"), (4, u "hash"), (86, .class_ 108), (1, u "java/lang/Enum$EnumDesc"), (2, .class_ 112), (0, u "java/lang/constant/Constable"), (0, .class_ 114), (0, u "java/lang/Comparable"), (0, .class_ 116), (0, u "java/io/Serializable")] 87

/-- java/lang/Enum -/
def k5 : Class := { plain "java/lang/Enum" (some 0) with
  accessFlags := 1057
  interfaces := #[2, 3, 4]
  cf := some (fileOf pool5 2 #[.nestMembers #[106]] #[] 1057 12 #[111, 113, 115] #[{ accessFlags := 18, nameIndex := 5, descriptorIndex := 6, attributes := #[] }, { accessFlags := 18, nameIndex := 9, descriptorIndex := 10, attributes := #[] }, { accessFlags := 2, nameIndex := 19, descriptorIndex := 10, attributes := #[] }])
  fields := #[{ name := "name", type := (.object "java/lang/String"), accessFlags := 18, slot := 0, constantValue := 0 }, { name := "ordinal", type := .int, accessFlags := 18, slot := 1, constantValue := 0 }, { name := "hash", type := .int, accessFlags := 2, slot := 2, constantValue := 0 }]
  methods := #[]
  instanceTypes := #[(.object "java/lang/String"), .int, .int]
  staticTypes := #[]
  resolved := Array.replicate 204 none
  statics := none }

def pool6 : Array CpInfo := pool [(1, .class_ 2), (0, u "com/example/ferrule/ferrule/ErrorKind"), (2, u "OTHER"), (0, u "Lcom/example/ferrule/ferrule/ErrorKind;"), (2, u "CONSTRAINT"), (2, u "NUMERIC"), (2, u "PROGRAM"), (2, u "STORAGE"), (2, u "TASKING"), (2, u "STATUS"), (2, u "MODE"), (2, u "NAME"), (2, u "USE"), (2, u "DEVICE"), (2, u "END"), (2, u "DATA"), (2, u "LAYOUT"), (2, u "SERVER_DEFINED"), (2, u "USER_NAME_OR_PASSWORD"), (0, .fieldref 1 53), (0, .nameAndType 54 55), (0, u "$VALUES"), (0, u "[Lcom/example/ferrule/ferrule/ErrorKind;"), (0, .methodref 57 58), (0, .class_ 55), (0, .nameAndType 59 60), (0, u "clone"), (0, u "()Ljava/lang/Object;"), (1, .class_ 64), (1, u "java/lang/Enum"), (6, .fieldref 1 72), (0, .nameAndType 73 74), (0, u "code"), (0, u "S"), (2, u "description"), (0, u "Ljava/lang/String;"), (0, .methodref 1 80), (0, .nameAndType 81 82), (0, u "values"), (0, u "()[Lcom/example/ferrule/ferrule/ErrorKind;"), (10, u "RULES"), (0, u "Ljava/util/List;"), (15, .class_ 111), (0, u "com/example/ferrule/ferrule/ErrorKind$Rule"), (154, u "()S"), (0, u "forCode"), (0, u "(S)Lcom/example/ferrule/ferrule/ErrorKind;")] 12

def k6c0 : Code := { maxStack := 1, maxLocals := 0, code := prog_16_method_1_code, exceptionTable := #[], attributes := #[] }
def k6m0 : Method := { name := "values", desc := "()[Lcom/example/ferrule/ferrule/ErrorKind;", sig := { parameters := [], returnType := some (.array (.object "com/example/ferrule/ferrule/ErrorKind")) }, accessFlags := 9, code := some k6c0 }
def k6c1 : Code := { maxStack := 1, maxLocals := 1, code := prog_16_method_4_code, exceptionTable := #[], attributes := #[] }
def k6m1 : Method := { name := "code", desc := "()S", sig := { parameters := [], returnType := some .short }, accessFlags := 1, code := some k6c1 }
def k6c2 : Code := { maxStack := 2, maxLocals := 5, code := prog_16_method_5_code, exceptionTable := #[], attributes := #[] }
def k6m2 : Method := { name := "forCode", desc := "(S)Lcom/example/ferrule/ferrule/ErrorKind;", sig := { parameters := [.short], returnType := some (.object "com/example/ferrule/ferrule/ErrorKind") }, accessFlags := 8, code := some k6c2 }
/-- com/example/ferrule/ferrule/ErrorKind -/
def k6 : Class := { plain "com/example/ferrule/ferrule/ErrorKind" (some 5) with
  accessFlags := 16433
  interfaces := #[]
  cf := some (fileOf pool6 1 #[.nestMembers #[110]] #[{ accessFlags := 9, nameIndex := 81, descriptorIndex := 82, attributes := #[] }, { accessFlags := 1, nameIndex := 73, descriptorIndex := 266, attributes := #[] }, { accessFlags := 8, nameIndex := 267, descriptorIndex := 268, attributes := #[] }] 16433 62 #[] #[{ accessFlags := 16409, nameIndex := 5, descriptorIndex := 6, attributes := #[] }, { accessFlags := 16409, nameIndex := 9, descriptorIndex := 6, attributes := #[] }, { accessFlags := 16409, nameIndex := 12, descriptorIndex := 6, attributes := #[] }, { accessFlags := 16409, nameIndex := 15, descriptorIndex := 6, attributes := #[] }, { accessFlags := 16409, nameIndex := 18, descriptorIndex := 6, attributes := #[] }, { accessFlags := 16409, nameIndex := 21, descriptorIndex := 6, attributes := #[] }, { accessFlags := 16409, nameIndex := 24, descriptorIndex := 6, attributes := #[] }, { accessFlags := 16409, nameIndex := 27, descriptorIndex := 6, attributes := #[] }, { accessFlags := 16409, nameIndex := 30, descriptorIndex := 6, attributes := #[] }, { accessFlags := 16409, nameIndex := 33, descriptorIndex := 6, attributes := #[] }, { accessFlags := 16409, nameIndex := 36, descriptorIndex := 6, attributes := #[] }, { accessFlags := 16409, nameIndex := 39, descriptorIndex := 6, attributes := #[] }, { accessFlags := 16409, nameIndex := 42, descriptorIndex := 6, attributes := #[] }, { accessFlags := 16409, nameIndex := 45, descriptorIndex := 6, attributes := #[] }, { accessFlags := 16409, nameIndex := 48, descriptorIndex := 6, attributes := #[] }, { accessFlags := 16409, nameIndex := 51, descriptorIndex := 6, attributes := #[] }, { accessFlags := 26, nameIndex := 93, descriptorIndex := 94, attributes := #[] }, { accessFlags := 18, nameIndex := 73, descriptorIndex := 74, attributes := #[] }, { accessFlags := 18, nameIndex := 77, descriptorIndex := 78, attributes := #[] }, { accessFlags := 4122, nameIndex := 54, descriptorIndex := 55, attributes := #[] }])
  fields := #[{ name := "OTHER", type := (.object "com/example/ferrule/ferrule/ErrorKind"), accessFlags := 16409, slot := 0, constantValue := 0 }, { name := "CONSTRAINT", type := (.object "com/example/ferrule/ferrule/ErrorKind"), accessFlags := 16409, slot := 1, constantValue := 0 }, { name := "NUMERIC", type := (.object "com/example/ferrule/ferrule/ErrorKind"), accessFlags := 16409, slot := 2, constantValue := 0 }, { name := "PROGRAM", type := (.object "com/example/ferrule/ferrule/ErrorKind"), accessFlags := 16409, slot := 3, constantValue := 0 }, { name := "STORAGE", type := (.object "com/example/ferrule/ferrule/ErrorKind"), accessFlags := 16409, slot := 4, constantValue := 0 }, { name := "TASKING", type := (.object "com/example/ferrule/ferrule/ErrorKind"), accessFlags := 16409, slot := 5, constantValue := 0 }, { name := "STATUS", type := (.object "com/example/ferrule/ferrule/ErrorKind"), accessFlags := 16409, slot := 6, constantValue := 0 }, { name := "MODE", type := (.object "com/example/ferrule/ferrule/ErrorKind"), accessFlags := 16409, slot := 7, constantValue := 0 }, { name := "NAME", type := (.object "com/example/ferrule/ferrule/ErrorKind"), accessFlags := 16409, slot := 8, constantValue := 0 }, { name := "USE", type := (.object "com/example/ferrule/ferrule/ErrorKind"), accessFlags := 16409, slot := 9, constantValue := 0 }, { name := "DEVICE", type := (.object "com/example/ferrule/ferrule/ErrorKind"), accessFlags := 16409, slot := 10, constantValue := 0 }, { name := "END", type := (.object "com/example/ferrule/ferrule/ErrorKind"), accessFlags := 16409, slot := 11, constantValue := 0 }, { name := "DATA", type := (.object "com/example/ferrule/ferrule/ErrorKind"), accessFlags := 16409, slot := 12, constantValue := 0 }, { name := "LAYOUT", type := (.object "com/example/ferrule/ferrule/ErrorKind"), accessFlags := 16409, slot := 13, constantValue := 0 }, { name := "SERVER_DEFINED", type := (.object "com/example/ferrule/ferrule/ErrorKind"), accessFlags := 16409, slot := 14, constantValue := 0 }, { name := "USER_NAME_OR_PASSWORD", type := (.object "com/example/ferrule/ferrule/ErrorKind"), accessFlags := 16409, slot := 15, constantValue := 0 }, { name := "RULES", type := (.object "java/util/List"), accessFlags := 26, slot := 16, constantValue := 0 }, { name := "code", type := .short, accessFlags := 18, slot := 3, constantValue := 0 }, { name := "description", type := (.object "java/lang/String"), accessFlags := 18, slot := 4, constantValue := 0 }, { name := "$VALUES", type := (.array (.object "com/example/ferrule/ferrule/ErrorKind")), accessFlags := 4122, slot := 17, constantValue := 0 }]
  methods := #[k6m0, k6m1, k6m2]
  instanceTypes := #[(.object "java/lang/String"), .int, .int, .short, (.object "java/lang/String")]
  staticTypes := #[(.object "com/example/ferrule/ferrule/ErrorKind"), (.object "com/example/ferrule/ferrule/ErrorKind"), (.object "com/example/ferrule/ferrule/ErrorKind"), (.object "com/example/ferrule/ferrule/ErrorKind"), (.object "com/example/ferrule/ferrule/ErrorKind"), (.object "com/example/ferrule/ferrule/ErrorKind"), (.object "com/example/ferrule/ferrule/ErrorKind"), (.object "com/example/ferrule/ferrule/ErrorKind"), (.object "com/example/ferrule/ferrule/ErrorKind"), (.object "com/example/ferrule/ferrule/ErrorKind"), (.object "com/example/ferrule/ferrule/ErrorKind"), (.object "com/example/ferrule/ferrule/ErrorKind"), (.object "com/example/ferrule/ferrule/ErrorKind"), (.object "com/example/ferrule/ferrule/ErrorKind"), (.object "com/example/ferrule/ferrule/ErrorKind"), (.object "com/example/ferrule/ferrule/ErrorKind"), (.object "java/util/List"), (.array (.object "com/example/ferrule/ferrule/ErrorKind"))]
  resolved := Array.replicate 281 none
  statics := some 0 }

def pool7 : Array CpInfo := pool [(1, .class_ 2), (0, u "java/lang/Cloneable"), (0, .class_ 4), (0, u "java/lang/Object")] 2

/-- java/lang/Cloneable -/
def k7 : Class := { plain "java/lang/Cloneable" (some 0) with
  accessFlags := 1537
  interfaces := #[]
  cf := some (fileOf pool7 1 #[] #[] 1537 3 #[] #[])
  fields := #[]
  methods := #[]
  instanceTypes := #[]
  staticTypes := #[]
  resolved := Array.replicate 7 none
  statics := none }

/-- the primitive byte -/
def k8 : Class := { plain "byte" none with kind := .primitive 'B', accessFlags := 0x411 }
/-- [B -/
def k9 : Class := { plain "[B" (some 0) with kind := .array 8 .byte, interfaces := #[7, 4], accessFlags := 1041 }

/-- the primitive int -/
def k10 : Class := { plain "int" none with kind := .primitive 'I', accessFlags := 0x411 }
/-- [I -/
def k11 : Class := { plain "[I" (some 0) with kind := .array 10 .int, interfaces := #[7, 4], accessFlags := 1041 }

/-- [Lcom/example/ferrule/ferrule/ErrorKind; -/
def k12 : Class := { plain "[Lcom/example/ferrule/ferrule/ErrorKind;" (some 0) with kind := .array 6 (.object "com/example/ferrule/ferrule/ErrorKind"), interfaces := #[7, 4], accessFlags := 1041 }

def heap : Heap := #[{ cls := 6, slots := #[.ref 2, .ref 3, .ref 4, .ref 5, .ref 6, .ref 7, .ref 8, .ref 9, .ref 10, .ref 11, .ref 12, .ref 13, .ref 14, .ref 15, .ref 16, .ref 17, .null, .ref 1], vm := .statics 6 },
  { cls := 12, slots := #[.ref 2, .ref 3, .ref 4, .ref 5, .ref 6, .ref 7, .ref 8, .ref 9, .ref 10, .ref 11, .ref 12, .ref 13, .ref 14, .ref 15, .ref 16, .ref 17], vm := .none },
  { cls := 6, slots := #[.null, .int 0, .int 0, .int 0, .null], vm := .none },
  { cls := 6, slots := #[.null, .int 1, .int 0, .int 1, .null], vm := .none },
  { cls := 6, slots := #[.null, .int 2, .int 0, .int 2, .null], vm := .none },
  { cls := 6, slots := #[.null, .int 3, .int 0, .int 3, .null], vm := .none },
  { cls := 6, slots := #[.null, .int 4, .int 0, .int 4, .null], vm := .none },
  { cls := 6, slots := #[.null, .int 5, .int 0, .int 5, .null], vm := .none },
  { cls := 6, slots := #[.null, .int 6, .int 0, .int 6, .null], vm := .none },
  { cls := 6, slots := #[.null, .int 7, .int 0, .int 7, .null], vm := .none },
  { cls := 6, slots := #[.null, .int 8, .int 0, .int 8, .null], vm := .none },
  { cls := 6, slots := #[.null, .int 9, .int 0, .int 9, .null], vm := .none },
  { cls := 6, slots := #[.null, .int 10, .int 0, .int 10, .null], vm := .none },
  { cls := 6, slots := #[.null, .int 11, .int 0, .int 11, .null], vm := .none },
  { cls := 6, slots := #[.null, .int 12, .int 0, .int 12, .null], vm := .none },
  { cls := 6, slots := #[.null, .int 13, .int 0, .int 13, .null], vm := .none },
  { cls := 6, slots := #[.null, .int 14, .int 0, .int 14, .null], vm := .none },
  { cls := 6, slots := #[.null, .int 15, .int 0, .int 15, .null], vm := .none }]
def classes : Array Class := #[k0, k1, k2, k3, k4, k5, k6, k7, k8, k9, k10, k11, k12]
def interned : List (Array UInt16 × Addr) := []
def slotsUsed : Nat := 114
def theMethod : MethodId := ⟨1, 2⟩
def args0 : Array Value := #[.int 5, .int 4]
def aboutOver (below : List Frame) : State where
  vm := { classes := classes, interned := interned.toArray }
  heap := heap
  slotsUsed := slotsUsed
  threads := #[{ frames := .invoking theMethod args0 :: below }]
def below0 : List Frame := [.native { method := ⟨0, 0⟩, args := #[] }]
def about1 : State := aboutOver below0
def p0 : Program := .bare "" "" ""
def e0 : Env := launch0.env 0 0 0
theorem w_frames : about1.frames = Frame.invoking theMethod args0 :: below0 := rfl
set_option maxRecDepth 65536 in
theorem w_args : argsFit about1.vm theMethod args0 = true := by decide +kernel
set_option maxRecDepth 65536 in
theorem w_heap : heapFits about1 = true := by decide +kernel
set_option maxRecDepth 65536 in
theorem w_runnable : about1.curStatus? = some .runnable := by decide +kernel
set_option maxRecDepth 65536 in
theorem w_alone : about1.alone = true := by decide +kernel
set_option maxRecDepth 65536 in
theorem w_named : about1.methodNamed? x = some theMethod := by decide +kernel
set_option maxRecDepth 65536 in
theorem w_hears : about1.hears theMethod below0 = true := by decide +kernel
set_option maxRecDepth 65536 in
theorem w_ripe : about1.ripe theMethod args0 below0 = true := by decide +kernel
theorem w_running : about1.status = .running := rfl
set_option maxRecDepth 65536 in
theorem w_room : about1.hasRoom e0.platform room_1 = true :=
  launch0.hasRoom_least _ room_1 (by decide +kernel) (by decide +kernel) (by decide +kernel) (by decide +kernel) (by decide +kernel) (by decide +kernel)
theorem allAtoms_all (ts : List Jvm.Cond) (a : Array Jvm.Value) (st : Jvm.State) : (allAtoms ts).before a st = ts.all (fun c => c.before a st) := by
  induction ts with
  | nil => rfl
  | cons c t ih =>
    show (Jvm.Cond.and c (allAtoms t)).before a st = _
    rw [Jvm.Cond.before_and, ih, List.all_cons]
def words1 : List Jvm.Cond := Jvm.Cond.code x code maxLocals ret :: tables_1
/-- a 'code' word, met by the world's own term for the bytes: nothing is compared byte by byte -/
theorem code_word {y : MethodName} {bytes : ByteArray} {mx : Nat} {rt : Option FieldType} {a : Array Value} {s : State} {m : MethodId} {meth : Method} {c : Code} (h1 : s.methodNamed? y = some m) (h2 : s.vm.method? m = some meth) (h3 : meth.code = some c) (h4 : c.code = bytes)
    (h5 : (c.maxLocals == mx && c.exceptionTable.isEmpty && decide (c.maxStack ≤ mostOperands) && decide (meth.sig.returnType = rt) && !meth.locks && decide (parseMethodDescriptor y.desc = some meth.sig)) = true) : (Jvm.Cond.code y bytes mx rt).before a s = true := by
  simp only [Bool.and_eq_true, beq_iff_eq, Bool.not_eq_true', decide_eq_true_eq] at h5
  obtain ⟨⟨⟨⟨⟨g1, g2⟩, g3⟩, g4⟩, g5⟩, g6⟩ := h5
  simp [Cond.before, Cond.holds, Cond.value, h1, h2, h3, h4, g1, g2, g3, g4, g5, g6]
def isCode : Jvm.Cond → Bool
  | .code _ _ _ _ => true
  | _ => false
theorem all_split {L : List Jvm.Cond} {P : Jvm.Cond → Bool} (h1 : L.all (fun c => isCode c || P c) = true) (h2 : ∀ c ∈ L.filter isCode, P c = true) : L.all P = true := by
  refine List.all_eq_true.mpr fun c hc => ?_
  have h := List.all_eq_true.mp h1 c hc
  rcases Bool.eq_false_or_eq_true (isCode c) with hi | hi
  · exact h2 c (List.mem_filter.mpr ⟨hc, hi⟩)
  · simpa [hi] using h
set_option maxRecDepth 65536 in
theorem w_c0 : (Jvm.Cond.code x code maxLocals ret).before args0 about1 = true := code_word (m := ⟨1, 2⟩) (meth := k1m2) (c := k1c2) (by decide +kernel) rfl rfl rfl (by decide +kernel)
set_option maxRecDepth 65536 in
theorem w_c1 : (Jvm.Cond.code ({ cls := "com/example/ferrule/ferrule/ErrorKindForCodePinLaw", name := "check", desc := "(S)Z" } : Jvm.MethodName) method_2_code (2 : Nat) (Option.some Jvm.ClassFile.FieldType.boolean)).before args0 about1 = true := code_word (m := ⟨1, 1⟩) (meth := k1m1) (c := k1c1) (by decide +kernel) rfl rfl rfl (by decide +kernel)
set_option maxRecDepth 65536 in
theorem w_c2 : (Jvm.Cond.code ({ cls := "com/example/ferrule/ferrule/ErrorKind", name := "forCode", desc := "(S)Lcom/example/ferrule/ferrule/ErrorKind;" } : Jvm.MethodName) prog_16_method_5_code (5 : Nat) (Option.some (Jvm.ClassFile.FieldType.object "com/example/ferrule/ferrule/ErrorKind"))).before args0 about1 = true := code_word (m := ⟨6, 2⟩) (meth := k6m2) (c := k6c2) (by decide +kernel) rfl rfl rfl (by decide +kernel)
set_option maxRecDepth 65536 in
theorem w_c3 : (Jvm.Cond.code ({ cls := "com/example/ferrule/ferrule/ErrorKind", name := "values", desc := "()[Lcom/example/ferrule/ferrule/ErrorKind;" } : Jvm.MethodName) prog_16_method_1_code (0 : Nat) (Option.some (Jvm.ClassFile.FieldType.array (Jvm.ClassFile.FieldType.object "com/example/ferrule/ferrule/ErrorKind")))).before args0 about1 = true := code_word (m := ⟨6, 0⟩) (meth := k6m0) (c := k6c0) (by decide +kernel) rfl rfl rfl (by decide +kernel)
set_option maxRecDepth 65536 in
theorem w_c4 : (Jvm.Cond.code ({ cls := "com/example/ferrule/ferrule/ErrorKind", name := "code", desc := "()S" } : Jvm.MethodName) prog_16_method_4_code (1 : Nat) (Option.some Jvm.ClassFile.FieldType.short)).before args0 about1 = true := code_word (m := ⟨6, 1⟩) (meth := k6m1) (c := k6c1) (by decide +kernel) rfl rfl rfl (by decide +kernel)
def codes1 : List Jvm.Cond := [Jvm.Cond.code x code maxLocals ret, Jvm.Cond.code ({ cls := "com/example/ferrule/ferrule/ErrorKindForCodePinLaw", name := "check", desc := "(S)Z" } : Jvm.MethodName) method_2_code (2 : Nat) (Option.some Jvm.ClassFile.FieldType.boolean), Jvm.Cond.code ({ cls := "com/example/ferrule/ferrule/ErrorKind", name := "forCode", desc := "(S)Lcom/example/ferrule/ferrule/ErrorKind;" } : Jvm.MethodName) prog_16_method_5_code (5 : Nat) (Option.some (Jvm.ClassFile.FieldType.object "com/example/ferrule/ferrule/ErrorKind")), Jvm.Cond.code ({ cls := "com/example/ferrule/ferrule/ErrorKind", name := "values", desc := "()[Lcom/example/ferrule/ferrule/ErrorKind;" } : Jvm.MethodName) prog_16_method_1_code (0 : Nat) (Option.some (Jvm.ClassFile.FieldType.array (Jvm.ClassFile.FieldType.object "com/example/ferrule/ferrule/ErrorKind"))), Jvm.Cond.code ({ cls := "com/example/ferrule/ferrule/ErrorKind", name := "code", desc := "()S" } : Jvm.MethodName) prog_16_method_4_code (1 : Nat) (Option.some Jvm.ClassFile.FieldType.short)]
set_option maxRecDepth 65536 in
theorem codes_eq : words1.filter isCode = codes1 := rfl
theorem w_codes : ∀ c ∈ words1.filter isCode, c.before args0 about1 = true := by
  rw [codes_eq]
  intro c hc
  simp only [codes1, List.mem_cons, List.not_mem_nil, or_false] at hc
  rcases hc with rfl | rfl | rfl | rfl | rfl
  · exact w_c0
  · exact w_c1
  · exact w_c2
  · exact w_c3
  · exact w_c4
set_option maxRecDepth 65536 in
theorem w_t1 : (words1.take 24).all (fun c => isCode c || c.before args0 about1) = true := by decide +kernel
set_option maxRecDepth 65536 in
theorem w_t2 : (words1.drop 24).all (fun c => isCode c || c.before args0 about1) = true := by decide +kernel
theorem w_tables : (allAtoms (Jvm.Cond.code x code maxLocals ret :: tables_1)).before args0 about1 = true := by
  rw [allAtoms_all]
  show words1.all (fun c => c.before args0 about1) = true
  refine all_split ?_ w_codes
  rw [← List.take_append_drop 24 words1, List.all_append, w_t1, w_t2]
  rfl
set_option maxRecDepth 65536 in
theorem w_case : (Jvm.Cond.and given_1 narrow_1).before args0 about1 = true := by decide +kernel
theorem w_applies : (headSpec (Jvm.Cond.code x code maxLocals ret :: tables_1) room_1).applies x e0.platform about1 = true :=
  (Spec.applies_iff w_frames).mpr ⟨w_running, w_runnable, w_alone, w_named, w_hears, w_ripe, w_room, w_tables⟩
theorem atStart : AtStart classFile x code maxLocals ret World_1 tables_1 room_1 Calls_1 rest_1 Pre_1 launch0 p0 e0 about1 theMethod args0 below0 :=
  ⟨lists_1, trivial, launch0.admits_env _ _ _, launch0.least_env, fairChoices_fair.cas, fairChoices_fair.clock, w_frames, w_args, w_heap, w_applies, trivial, trivial, w_case⟩
end start1
theorem witness_1 : WitnessClaimed_1 := ⟨start1.p0, start1.e0, start1.about1, start1.theMethod, start1.args0, start1.below0, start1.atStart⟩
end Jvm.Pilot.@@N@@
