import JvmDerived
import JvmDerived.Pilot.@@N@@Statement
import JvmDerived.Pilot.@@N@@Code
set_option linter.unusedVariables false
set_option linter.unusedSimpArgs false
namespace Jvm.OwnKit
open Jvm Sem ClassFile Op Lib Jvm.Stand Jvm.Free Jvm.LawKit Jvm.RoadKit
section K
variable {p : Program} {l : Launch} {e : Env} {R : Room} {s : State} {m : MethodId} {args : Array Value} {below : List Frame} {meth : Method} {c : Code} {T T' : State} {locs : List Loc} {cells slots : Nat} {Z : State} {a0 : Array Value} {h h0 : Heap} {ce sl : Nat} {Q : Option Value → Heap → List Loc → Prop} {P : Option Value → State → List Loc → Prop} {pc : Nat} {Ls : Array Slot} {rest : List Value}
/-- from this state and frame the body runs to its end, and Q holds there -/
def Go (p : Program) (e : Env) (below : List Frame) (P : Option Value → State → List Loc → Prop) (T : State) (g : JFrame) : Prop :=
  ∃ u v L, Steps p.tables e below (T.setTop g) u ∧ u.status = .running ∧ Ended u below (.returned v) ∧ P v u L
/-- the end of a body that interns nothing -/
def EndF (s : State) (ce sl : Nat) (Q : Option Value → Heap → List Loc → Prop) (v : Option Value) (u : State) (L : List Loc) : Prop := Q v u.heap L ∧ FrameEnd s (.returned v) u L ce sl
theorem Go.by {g g' : JFrame} (st : ∀ t, Steps p.tables e below (T'.setTop g') t → Steps p.tables e below (T.setTop g) t) (k : Go p e below P T' g') : Go p e below P T g := by
  obtain ⟨u, v, L, h1, r⟩ := k; exact ⟨u, v, L, st u h1, r⟩
theorem Go.cast {g g' : JFrame} (q : g = g') (k : Go p e below P T g') : Go p e below P T g := q ▸ k
/-- a body's contract at given arguments and a given heap -/
def Ct (l : Launch) (y : MethodName) (bytes : ByteArray) (maxL : Nat) (ret : Option FieldType) (rm : Room) (Z : State) (as' : Array Value) (h0 : Heap) (Q : Option Value → Heap → List Loc → Prop) : Prop :=
  ∀ ws : List Jvm.Cond, MetFree l y (head1 (Jvm.Cond.code y bytes maxL ret :: ws) rm) (fun a U => a = as' ∧ Z.Warmed39 U.vm ∧ U.heap = h0) (fun _ _ _ _ _ => True) (fun _ U o U' => ∃ v L, o = .returned v ∧ Q v U'.heap L ∧ FrameEnd U o U' L rm.cells rm.slots)
theorem Ct.of {y : MethodName} {bytes : ByteArray} {maxL : Nat} {ret : Option FieldType} {rm : Room} {as' : Array Value} (hpl : plainFor y = true)
    (body : ∀ (p : Program) (e : Env) (s : State) (m : MethodId) (below : List Frame) (meth : Method) (c : Code) (T : State), Stand p l e rm s m as' below meth c T [] 0 0 → p.tables.exec = Jvm.exec → c.code = bytes → c.maxLocals = maxL → s.vm.findClass y.cls = some m.cls → meth.name = y.name → meth.sig.returnType = ret → meth.locks = false → Z.Warmed39 s.vm → T.heap = h0 →
      Go p e below (EndF s rm.cells rm.slots Q) T (entryFrame m as' maxL)) : Ct l y bytes maxL ret rm Z as' h0 Q := by
  intro ws
  refine MetFree.of_bodySF hpl hisR ?_
  intro p e s m args below meth c s₁ Bd hml0 hP hK
  obtain ⟨rfl, hZ, hh⟩ := hP
  obtain ⟨u, v, L, h1, h2, h3, r⟩ := body p e s m below meth c s₁ (Stand.of_body Bd) Bd.exec Bd.bytes hml0 (findClass_of_methodNamed Bd.named) (name_of_methodNamed Bd.named Bd.method).1 Bd.returns (BodyLoose.notSynchronized Bd) hZ (by rw [← hh, Bd.state]; rfl)
  exact ⟨u, _, h1, h2, h3, v, L, rfl, r.1, r.2⟩
theorem Ct.mono {y : MethodName} {bytes : ByteArray} {maxL : Nat} {ret : Option FieldType} {rm : Room} {as' : Array Value} {Q' : Option Value → Heap → List Loc → Prop} (k : Ct l y bytes maxL ret rm Z as' h0 Q) (q : ∀ v h L, Q v h L → Q' v h L) : Ct l y bytes maxL ret rm Z as' h0 Q' := by
  intro ws p e ha hc hk s m args below hf happ hP hK
  obtain ⟨n, o, h1, h2, h3, v, L, h4, h5, h6⟩ := k ws p e ha hc hk s m args below hf happ hP hK
  exact ⟨n, o, h1, h2, h3, v, L, h4, q _ _ _ h5, h6⟩
theorem wd {ws : List Jvm.Cond} (hw : ∀ d ∈ ws, d.before a0 Z = true) {d : Jvm.Cond} (i : Nat) (q : ws[i]? = some d) : d.before a0 Z = true := hw _ (List.mem_of_getElem? q)
theorem Go.fin (X : Stand p l e R s m args below meth c T locs cells slots) (hlk : meth.locks = false) {v : Option Value} (hv : meth.sig.returnType = none → v = none) {g : JFrame}
    (st : ∀ fs, (∀ (f : JFrame) (acts : List Action), f.method = m → f.locked = none → f.entered = [] → (doReturn e (T.setTop f) acts v).1 = T.setFrames fs) → Steps p.tables e below (T.setTop g) (T.setFrames fs)) (hc : cells ≤ ce) (hs : slots ≤ sl) (eT : T.heap = h) (q : Q v h locs) : Go p e below (EndF s ce sl Q) T g := by
  obtain ⟨fs, hr, hrun, hended, hW, hsame⟩ := X.leave (v := v) hv hlk
  subst eT
  exact ⟨_, _, _, st fs hr, hrun, hended, q, ⟨_, rfl⟩, hW, hsame.mono hc hs⟩
theorem Go.retI (X : Stand p l e R s m args below meth c T locs cells slots) (hx : p.tables.exec = Jvm.exec) (hlk : meth.locks = false) (hret : meth.sig.returnType = some .int) {z : Int32} (hd : decode c.code pc = .ok (.ireturn, 1)) (hc : cells ≤ ce) (hs : slots ≤ sl) (eT : T.heap = h) (q : Q (some (.int z)) h locs) : Go p e below (EndF s ce sl Q) T (mkF m pc Ls (.int z :: rest)) :=
  Go.fin X hlk (fun h => by rw [hret] at h; cases h) (fun fs hl => retOut X hx hret rfl (Or.inl ⟨rfl, Or.inl rfl, z, rfl⟩) hd hl) hc hs eT q
theorem Go.retZ (X : Stand p l e R s m args below meth c T locs cells slots) (hx : p.tables.exec = Jvm.exec) (hlk : meth.locks = false) (hret : meth.sig.returnType = some .boolean) {z : Int32} (hz : z = 0 ∨ z = 1) (hd : decode c.code pc = .ok (.ireturn, 1)) (hc : cells ≤ ce) (hs : slots ≤ sl) (eT : T.heap = h) (q : Q (some (.int z)) h locs) : Go p e below (EndF s ce sl Q) T (mkF m pc Ls (.int z :: rest)) :=
  Go.fin X hlk (fun h => by rw [hret] at h; cases h) (fun fs hl => retOut X hx hret (by rcases hz with rfl | rfl <;> rfl) (Or.inl ⟨rfl, Or.inr (Or.inl rfl), z, rfl⟩) hd hl) hc hs eT q
theorem Go.retS (X : Stand p l e R s m args below meth c T locs cells slots) (hx : p.tables.exec = Jvm.exec) (hlk : meth.locks = false) {t : FieldType} (hret : meth.sig.returnType = some t) (ht : t = .byte ∨ t = .char ∨ t = .short) {z : Int32} (hz : narrow t (.int z) = .int z) (hd : decode c.code pc = .ok (.ireturn, 1)) (hc : cells ≤ ce) (hs : slots ≤ sl) (eT : T.heap = h) (q : Q (some (.int z)) h locs) : Go p e below (EndF s ce sl Q) T (mkF m pc Ls (.int z :: rest)) :=
  Go.fin X hlk (fun h => by rw [hret] at h; cases h) (fun fs hl => retOut X hx hret hz (Or.inl ⟨rfl, Or.inr (Or.inr ht), z, rfl⟩) hd hl) hc hs eT q
theorem Go.retJ (X : Stand p l e R s m args below meth c T locs cells slots) (hx : p.tables.exec = Jvm.exec) (hlk : meth.locks = false) (hret : meth.sig.returnType = some .long) {z : Int64} (hd : decode c.code pc = .ok (.lreturn, 1)) (hc : cells ≤ ce) (hs : slots ≤ sl) (eT : T.heap = h) (q : Q (some (.long z)) h locs) : Go p e below (EndF s ce sl Q) T (mkF m pc Ls (.long z :: rest)) :=
  Go.fin X hlk (fun h => by rw [hret] at h; cases h) (fun fs hl => retOut X hx hret rfl (Or.inr (Or.inl ⟨rfl, rfl, z, rfl⟩)) hd hl) hc hs eT q
theorem Go.retA (X : Stand p l e R s m args below meth c T locs cells slots) (hx : p.tables.exec = Jvm.exec) (hlk : meth.locks = false) {t : FieldType} (hret : meth.sig.returnType = some t) (ht : t.isReference = true) {v : Value} (hv : v.isRef = true) (hd : decode c.code pc = .ok (.areturn, 1)) (hc : cells ≤ ce) (hs : slots ≤ sl) (eT : T.heap = h) (q : Q (some v) h locs) : Go p e below (EndF s ce sl Q) T (mkF m pc Ls (v :: rest)) :=
  Go.fin X hlk (fun h => by rw [hret] at h; cases h) (fun fs hl => retOut X hx hret (by cases t <;> simp_all [FieldType.isReference, narrow]) (Or.inr (Or.inr (Or.inr (Or.inr ⟨rfl, ht, hv⟩)))) hd hl) hc hs eT q
theorem Go.retV (X : Stand p l e R s m args below meth c T locs cells slots) (hx : p.tables.exec = Jvm.exec) (hlk : meth.locks = false) (hret : meth.sig.returnType = none) (hd : decode c.code pc = .ok (.return_, 1)) (hc : cells ≤ ce) (hs : slots ≤ sl) (eT : T.heap = h) (q : Q none h locs) : Go p e below (EndF s ce sl Q) T (mkF m pc Ls []) :=
  Go.fin X hlk (fun _ => rfl) (fun fs hl => X.returnOut hx hret hd hl) hc hs eT q
/-! one law a step that reads the tables or the heap -/
theorem Go.getF (X : Stand p l e R s m args below meth c T locs cells slots) (hx : p.tables.exec = Jvm.exec) (hZ : Z.Warmed39 s.vm) {own R0 O n d : String} {index : Nat} (hown : s.vm.findClass own = some m.cls) (w : (Jvm.Cond.fieldLink own index R0 n d).before a0 Z = true) (via : Via Z R0 O n d) (eT : T.heap = h) {a : Addr} {v : Value} (F : Fld Z h a O n d v)
    (hd : decode c.code pc = .ok (.getfield index, 3)) (k : ∀ T', Stand p l e R s m args below meth c T' locs cells slots → T'.heap = h → Go p e below P T' (mkF m (pc + 3) Ls (v :: rest))) : Go p e below P T (mkF m pc Ls (.ref a :: rest)) := by
  obtain ⟨T', X', e', st⟩ := RoadKit.getF X hx hZ hown (host := "") (Or.inl w) via eT F (g := mkF m pc Ls (.ref a :: rest)) rfl rfl hd
  exact Go.by st (k T' X' e')
theorem Go.getFN (X : Stand p l e R s m args below meth c T locs cells slots) (hx : p.tables.exec = Jvm.exec) (hZ : Z.Warmed39 s.vm) {own R0 O n d host : String} {index : Nat} (hown : s.vm.findClass own = some m.cls) (w : (Jvm.Cond.fieldLinkNest own index R0 n d host).before a0 Z = true) (via : Via Z R0 O n d) (eT : T.heap = h) {a : Addr} {v : Value} (F : Fld Z h a O n d v)
    (hd : decode c.code pc = .ok (.getfield index, 3)) (k : ∀ T', Stand p l e R s m args below meth c T' locs cells slots → T'.heap = h → Go p e below P T' (mkF m (pc + 3) Ls (v :: rest))) : Go p e below P T (mkF m pc Ls (.ref a :: rest)) := by
  obtain ⟨T', X', e', st⟩ := RoadKit.getF X hx hZ hown (host := host) (Or.inr w) via eT F (g := mkF m pc Ls (.ref a :: rest)) rfl rfl hd
  exact Go.by st (k T' X' e')
theorem Go.putF (X : Stand p l e R s m args below meth c T locs cells slots) (hx : p.tables.exec = Jvm.exec) (hZ : Z.Warmed39 s.vm) {own R0 O n d C : String} {index kk : Nat} {ty : FieldType} (hown : s.vm.findClass own = some m.cls) (w : (Jvm.Cond.fieldLink own index R0 n d).before a0 Z = true) (via : Via Z R0 O n d) (eT : T.heap = h) {a : Addr} {v old : Value} (F : Fld Z h a O n d old) (E : Exa Z h a C)
    (L : (Jvm.Cond.lays C O n d).before a0 Z = true ∨ ((Jvm.Cond.laysFinal C O n d).before a0 Z = true ∧ own = O ∧ meth.name = "<init>")) (wi : (Jvm.Cond.instantiable C kk).before a0 Z = true) (hty : parseFieldDescriptor d = some ty) (hn : narrow ty v = v) (hf : fits ty v = true) (hd : decode c.code pc = .ok (.putfield index, 3))
    (k : ∀ T' h', Stand p l e R s m args below meth c T' (locs ++ [⟨a, RoadKit.slotOf Z O n d⟩]) cells slots → T'.heap = h' → Wr h h' a (RoadKit.slotOf Z O n d) v → Go p e below P T' (mkF m (pc + 3) Ls rest)) : Go p e below P T (mkF m pc Ls (v :: .ref a :: rest)) := by
  obtain ⟨T', h', X', e', W', st⟩ := RoadKit.putF X hx hZ hown (host := "") (Or.inl w) via eT F E L wi hty hn hf (g := mkF m pc Ls (v :: .ref a :: rest)) rfl rfl hd
  exact Go.by st (k T' h' X' e' W')
theorem Go.getS (X : Stand p l e R s m args below meth c T locs cells slots) (hx : p.tables.exec = Jvm.exec) (hZ : Z.Warmed39 s.vm) {own R0 O n d : String} {index : Nat} (hown : s.vm.findClass own = some m.cls) (w : (Jvm.Cond.fieldLink own index R0 n d).before a0 Z = true) (via : Via Z R0 O n d) (eT : T.heap = h) {v : Value} (F : Sta Z h O n d v) {st : List Value}
    (hd : decode c.code pc = .ok (.getstatic index, 3)) (k : ∀ T', Stand p l e R s m args below meth c T' locs cells slots → T'.heap = h → Go p e below P T' (mkF m (pc + 3) Ls (v :: st))) : Go p e below P T (mkF m pc Ls st) := by
  obtain ⟨T', X', e', st'⟩ := RoadKit.getS X hx hZ hown (host := "") w via eT F (g := mkF m pc Ls st) rfl hd
  exact Go.by st' (k T' X' e')
theorem Go.getSN (X : Stand p l e R s m args below meth c T locs cells slots) (hx : p.tables.exec = Jvm.exec) (hZ : Z.Warmed39 s.vm) {own R0 O n d host : String} {index : Nat} (hown : s.vm.findClass own = some m.cls) (w : (Jvm.Cond.fieldLinkNest own index R0 n d host).before a0 Z = true) (via : Via Z R0 O n d) (eT : T.heap = h) {v : Value} (F : Sta Z h O n d v) {st : List Value}
    (hd : decode c.code pc = .ok (.getstatic index, 3)) (k : ∀ T', Stand p l e R s m args below meth c T' locs cells slots → T'.heap = h → Go p e below P T' (mkF m (pc + 3) Ls (v :: st))) : Go p e below P T (mkF m pc Ls st) := by
  obtain ⟨T', X', e', st'⟩ := getS2 X hx hZ hown (Or.inr w) via eT F (g := mkF m pc Ls st) rfl hd
  exact Go.by st' (k T' X' e')
theorem Go.newO (X : Stand p l e R s m args below meth c T locs cells slots) (hx : p.tables.exec = Jvm.exec) (hZ : Z.Warmed39 s.vm) {own C : String} {index n : Nat} (hown : s.vm.findClass own = some m.cls) (w : (Jvm.Cond.classLink own index C).before a0 Z = true) (wi : (Jvm.Cond.instantiable C n).before a0 Z = true) (wz : (Jvm.Cond.initialized C).before a0 Z = true) (eT : T.heap = h) {st : List Value}
    (hd : decode c.code pc = .ok (.new index, 3)) (hc : cells + 1 ≤ R.cells) (hl : slots + n ≤ R.slots)
    (k : ∀ T' h' b, Stand p l e R s m args below meth c T' locs (cells + 1) (slots + n) → T'.heap = h' → Ext h h' → b = h.size → Exa Z h' b C → (∀ {O nm d : String} {ty : FieldType}, Laid Z a0 C O nm d → parseFieldDescriptor d = some ty → Fld Z h' b O nm d (defaultValue ty)) → Go p e below P T' (mkF m (pc + 3) Ls (.ref b :: st))) : Go p e below P T (mkF m pc Ls st) := by
  obtain ⟨T', h', X', e', E', A', D', -, st'⟩ := RoadKit.newO X hx hZ hown w wi wz eT (g := mkF m pc Ls st) rfl hd hc hl
  exact Go.by st' (k T' h' _ X' e' E' rfl A' D')
theorem Go.newP (X : Stand p l e R s m args below meth c T locs cells slots) (hx : p.tables.exec = Jvm.exec) (hZ : Z.Warmed39 s.vm) {aty : ArrayType} (w : (Jvm.Cond.arrayClass (newarray.typeOf aty)).before a0 Z = true) (eT : T.heap = h) {n : Int32} (hd : decode c.code pc = .ok (.newarray aty, 2)) (hn : ¬ n < 0) {cap : Nat} (hcap : n.toNatClampNeg ≤ cap) (hb : cap * 8 ≤ 536870912) (hc : cells + 1 ≤ R.cells) (hl : slots + cap ≤ R.slots)
    (k : ∀ T' h' b kA, Stand p l e R s m args below meth c T' locs (cells + 1) (slots + cap) → T'.heap = h' → Ext h h' → b = h.size → Arv Z h' b kA (newarray.typeOf aty) n [] (defaultValue (newarray.typeOf aty)) → Go p e below P T' (mkF m (pc + 2) Ls (.ref b :: rest))) : Go p e below P T (mkF m pc Ls (.int n :: rest)) := by
  obtain ⟨T', h', kA, X', e', E', A', st'⟩ := RoadKit.newP X hx hZ w eT (g := mkF m pc Ls (.int n :: rest)) rfl hd rfl hn hcap hb hc hl
  exact Go.by st' (k T' h' _ kA X' e' E' rfl (Arv.new A' hn))
theorem Go.initO (X : Stand p l e R s m args below meth c T locs cells slots) (hx : p.tables.exec = Jvm.exec) (hZ : Z.Warmed39 s.vm) {own : String} {idx : Nat} (hown : s.vm.findClass own = some m.cls) (w1 : (Jvm.Cond.methodLink own idx Lib.objectInit).before a0 Z = true) (w2 : (Jvm.Cond.instanceMethod Lib.objectInit).before a0 Z = true) (w3 : (Jvm.Cond.code Lib.objectInit ⟨#[0xb1]⟩ 1 none).before a0 Z = true) (eT : T.heap = h)
    {a : Addr} (hsz : Ls.size = c.maxLocals) (hd : decode c.code pc = .ok (.invokespecial idx, 3)) (hf : 1 ≤ R.frames) {W : Nat} (hW : (rest.map fun v => v.category).sum = W) (hl : W + 12 ≤ R.locals)
    (k : ∀ T', Stand p l e R s m args below meth c T' locs cells slots → T'.heap = h → Go p e below P T' (mkF m (pc + 3) Ls rest)) : Go p e below P T (mkF m pc Ls (.ref a :: rest)) := by
  obtain ⟨T', X', e', st⟩ := RoadKit.initO X hx hZ hown w1 w2 w3 eT (g := mkF m pc Ls (.ref a :: rest)) rfl hsz rfl hd hf (W := W) (by subst hW; show 2 * 0 + _ ≤ _; omega) hl
  exact Go.by st (k T' X' e')
theorem Go.castY (X : Stand p l e R s m args below meth c T locs cells slots) (hx : p.tables.exec = Jvm.exec) (hZ : Z.Warmed39 s.vm) {own K : String} {index : Nat} (hown : s.vm.findClass own = some m.cls) (w : (Jvm.Cond.classLink own index K).before a0 Z = true) (eT : T.heap = h) {a : Addr} (F : Ins Z h a K true) (hd : decode c.code pc = .ok (.checkcast index, 3))
    (k : ∀ T', Stand p l e R s m args below meth c T' locs cells slots → T'.heap = h → Go p e below P T' (mkF m (pc + 3) Ls (.ref a :: rest))) : Go p e below P T (mkF m pc Ls (.ref a :: rest)) := by
  obtain ⟨T', X', e', st⟩ := RoadKit.castY X hx hZ hown w eT F (g := mkF m pc Ls (.ref a :: rest)) rfl rfl hd
  exact Go.by st (k T' X' e')
theorem Go.instY (X : Stand p l e R s m args below meth c T locs cells slots) (hx : p.tables.exec = Jvm.exec) (hZ : Z.Warmed39 s.vm) {own K : String} {index : Nat} (hown : s.vm.findClass own = some m.cls) (w : (Jvm.Cond.classLink own index K).before a0 Z = true) (eT : T.heap = h) {a : Addr} (F : Ins Z h a K true) (hd : decode c.code pc = .ok (.instanceof index, 3))
    (k : ∀ T', Stand p l e R s m args below meth c T' locs cells slots → T'.heap = h → Go p e below P T' (mkF m (pc + 3) Ls (.int 1 :: rest))) : Go p e below P T (mkF m pc Ls (.ref a :: rest)) := by
  obtain ⟨T', X', e', st⟩ := RoadKit.instY X hx hZ hown w eT F (g := mkF m pc Ls (.ref a :: rest)) rfl rfl hd
  exact Go.by st (k T' X' e')
theorem Go.instN (X : Stand p l e R s m args below meth c T locs cells slots) (hx : p.tables.exec = Jvm.exec) (hZ : Z.Warmed39 s.vm) {own K C : String} {index : Nat} (hown : s.vm.findClass own = some m.cls) (w : (Jvm.Cond.classLink own index K).before a0 Z = true) (eT : T.heap = h) {a : Addr} (E : Exa Z h a C) (F : ∃ c t, Z.vm.findClass C = some c ∧ Z.vm.findClass K = some t ∧ Z.vm.assignable c t = false) (hd : decode c.code pc = .ok (.instanceof index, 3))
    (k : ∀ T', Stand p l e R s m args below meth c T' locs cells slots → T'.heap = h → Go p e below P T' (mkF m (pc + 3) Ls (.int 0 :: rest))) : Go p e below P T (mkF m pc Ls (.ref a :: rest)) := by
  obtain ⟨T', X', e', st⟩ := RoadKit.instNo X hx hZ hown w eT E F (g := mkF m pc Ls (.ref a :: rest)) rfl rfl hd
  exact Go.by st (k T' X' e')
theorem Go.aload (X : Stand p l e R s m args below meth c T locs cells slots) (hx : p.tables.exec = Jvm.exec) (hZ : Z.Warmed39 s.vm) (eT : T.heap = h) {a : Addr} {cl : Cell} {ty : FieldType} (A : Arr Z h a cl ty) {j : Int32} {v : Value} (hin : ¬ (j < 0 ∨ cl.slots.size ≤ j.toNatClampNeg)) (hat : cl.slots[j.toNatClampNeg]? = some v) {i : Instr}
    (hi : (i = .iaload ∧ ty = .int) ∨ (i = .laload ∧ ty = .long) ∨ (i = .aaload ∧ ty.isReference = true) ∨ (i = .caload ∧ ty = .char) ∨ (i = .saload ∧ ty = .short) ∨ (i = .baload ∧ ty = .byte)) (hd : decode c.code pc = .ok (i, 1)) (k : Go p e below P T (mkF m (pc + 1) Ls (v :: rest))) : Go p e below P T (mkF m pc Ls (.int j :: .ref a :: rest)) := by
  refine Go.by (fun t kk => ?_) k
  have hc : T.heap[a]? = some cl := by rw [eT]; exact A.1
  have ha := State.isArrayOf_alike hZ.alike A.2.1
  rcases hi with ⟨rfl, rfl⟩ | ⟨rfl, rfl⟩ | ⟨rfl, hr⟩ | ⟨rfl, rfl⟩ | ⟨rfl, rfl⟩ | ⟨rfl, rfl⟩
  · exact X.iaload hx hc ha A.2.2 hin hat (g := mkF m pc Ls (.int j :: .ref a :: rest)) rfl rfl hd _ kk
  · exact X.laload hx hc ha A.2.2 hin hat (g := mkF m pc Ls (.int j :: .ref a :: rest)) rfl rfl hd _ kk
  · exact X.aaload hx hc ha hr A.2.2 hin hat (g := mkF m pc Ls (.int j :: .ref a :: rest)) rfl rfl hd _ kk
  · exact X.caload hx hc ha A.2.2 hin hat (g := mkF m pc Ls (.int j :: .ref a :: rest)) rfl rfl hd _ kk
  · exact X.saload hx hc ha A.2.2 hin hat (g := mkF m pc Ls (.int j :: .ref a :: rest)) rfl rfl hd _ kk
  · exact X.baloadBytes hx hc ha A.2.2 hin hat (g := mkF m pc Ls (.int j :: .ref a :: rest)) rfl rfl hd _ kk
theorem Go.alen (X : Stand p l e R s m args below meth c T locs cells slots) (hx : p.tables.exec = Jvm.exec) (hZ : Z.Warmed39 s.vm) (eT : T.heap = h) {a : Addr} {cl : Cell} {ty : FieldType} (A : Arr Z h a cl ty) {z : Int32} (hz : cl.slots.size.toInt32 = z) (hd : decode c.code pc = .ok (.arraylength, 1)) (k : Go p e below P T (mkF m (pc + 1) Ls (.int z :: rest))) : Go p e below P T (mkF m pc Ls (.ref a :: rest)) := by
  refine Go.by (fun t kk => ?_) k
  subst hz
  exact X.arraylength hx (by rw [eT]; exact A.1) (State.isArrayOf_alike hZ.alike A.2.1) (g := mkF m pc Ls (.ref a :: rest)) rfl rfl hd _ kk
theorem Go.alenV (X : Stand p l e R s m args below meth c T locs cells slots) (hx : p.tables.exec = Jvm.exec) (hZ : Z.Warmed39 s.vm) (eT : T.heap = h) {a : Addr} {k : ClassId} {ty : FieldType} {z : Int32} {vs : List Value} {dv : Value} (F : Arv Z h a k ty z vs dv) (hd : decode c.code pc = .ok (.arraylength, 1)) (kk : Go p e below P T (mkF m (pc + 1) Ls (.int z :: rest))) : Go p e below P T (mkF m pc Ls (.ref a :: rest)) := by
  obtain ⟨cl, A, -, S, q, -, -⟩ := F; exact Go.alen X hx hZ eT A (len_of S q) hd kk
theorem Go.aloadV (X : Stand p l e R s m args below meth c T locs cells slots) (hx : p.tables.exec = Jvm.exec) (hZ : Z.Warmed39 s.vm) (eT : T.heap = h) {a : Addr} {k : ClassId} {ty : FieldType} {z : Int32} {vs : List Value} {dv : Value} (F : Arv Z h a k ty z vs dv) {j : Int32} {v : Value} (hj : ¬ j < 0 ∧ j < z) (hv : vs.getD j.toNatClampNeg dv = v) {i : Instr}
    (hi : (i = .iaload ∧ ty = .int) ∨ (i = .laload ∧ ty = .long) ∨ (i = .aaload ∧ ty.isReference = true) ∨ (i = .caload ∧ ty = .char) ∨ (i = .saload ∧ ty = .short) ∨ (i = .baload ∧ ty = .byte)) (hd : decode c.code pc = .ok (i, 1)) (kk : Go p e below P T (mkF m (pc + 1) Ls (v :: rest))) : Go p e below P T (mkF m pc Ls (.int j :: .ref a :: rest)) := by
  obtain ⟨cl, A, -, S, q, H, -⟩ := F
  have hin := inb_of S hj
  exact Go.aload X hx hZ eT A hin (H.at hin hv) hi hd kk
theorem Go.istV (X : Stand p l e R s m args below meth c T locs cells slots) (hx : p.tables.exec = Jvm.exec) (hZ : Z.Warmed39 s.vm) (eT : T.heap = h) {a : Addr} {k : ClassId} {z : Int32} {vs : List Value} {dv : Value} (F : Arv Z h a k .int z vs dv) {j x : Int32} (hj : ¬ j < 0 ∧ j < z) (i : Nat) (hji : j.toNatClampNeg = i) (hi : i < vs.length) (hd : decode c.code pc = .ok (.iastore, 1))
    (kk : ∀ T' h', Stand p l e R s m args below meth c T' (locs ++ [⟨a, j.toNatClampNeg⟩]) cells slots → T'.heap = h' → Wr h h' a j.toNatClampNeg (.int x) → Arv Z h' a k .int z (vs.set i (.int x)) dv → Go p e below P T' (mkF m (pc + 1) Ls rest)) : Go p e below P T (mkF m pc Ls (.int x :: .int j :: .ref a :: rest)) := by
  obtain ⟨cl, A, q1, S, q3, H, G⟩ := F
  have hin := inb_of S hj
  obtain ⟨T', h', X', e', W', st⟩ := stI X hx hZ eT A (j := j) (x := x) hin (g := mkF m pc Ls (.int x :: .int j :: .ref a :: rest)) rfl rfl hd
  exact Go.by st (kk T' h' X' e' W' (Arv.set A q1 S q3 H G rfl W' i hji hi))
theorem Go.jstV (X : Stand p l e R s m args below meth c T locs cells slots) (hx : p.tables.exec = Jvm.exec) (hZ : Z.Warmed39 s.vm) (eT : T.heap = h) {a : Addr} {k : ClassId} {z : Int32} {vs : List Value} {dv : Value} (F : Arv Z h a k .long z vs dv) {j : Int32} {x : Int64} (hj : ¬ j < 0 ∧ j < z) (i : Nat) (hji : j.toNatClampNeg = i) (hi : i < vs.length) (hd : decode c.code pc = .ok (.lastore, 1))
    (kk : ∀ T' h', Stand p l e R s m args below meth c T' (locs ++ [⟨a, j.toNatClampNeg⟩]) cells slots → T'.heap = h' → Wr h h' a j.toNatClampNeg (.long x) → Arv Z h' a k .long z (vs.set i (.long x)) dv → Go p e below P T' (mkF m (pc + 1) Ls rest)) : Go p e below P T (mkF m pc Ls (.long x :: .int j :: .ref a :: rest)) := by
  obtain ⟨cl, A, q1, S, q3, H, G⟩ := F
  have hin := inb_of S hj
  obtain ⟨T', h', X', e', W', st⟩ := stJ X hx hZ eT A (j := j) (x := x) hin (g := mkF m pc Ls (.long x :: .int j :: .ref a :: rest)) rfl rfl hd
  exact Go.by st (kk T' h' X' e' W' (Arv.set A q1 S q3 H G rfl W' i hji hi))
theorem Go.cloneA (X : Stand p l e R s m args below meth c T locs cells slots) (hx : p.tables.exec = Jvm.exec) (hZ : Z.Warmed39 s.vm) {own ad : String} {index : Nat} (hown : s.vm.findClass own = some m.cls) (w1 : (Jvm.Cond.methodLink own index ⟨ad, "clone", "()Ljava/lang/Object;"⟩).before a0 Z = true) (w2 : (Jvm.Cond.sameMethod ad "java/lang/Object" "clone" "()Ljava/lang/Object;").before a0 Z = true) (w3 : (Jvm.Cond.native ⟨"java/lang/Object", "clone", "()Ljava/lang/Object;"⟩).before a0 Z = true)
    (w4 : (Jvm.Cond.instanceMethod ⟨"java/lang/Object", "clone", "()Ljava/lang/Object;"⟩).before a0 Z = true) (w5 : (Jvm.Cond.selects ad ⟨ad, "clone", "()Ljava/lang/Object;"⟩ ⟨"java/lang/Object", "clone", "()Ljava/lang/Object;"⟩).before a0 Z = true) (w6 : (Jvm.Cond.castable ad "java/lang/Cloneable").before a0 Z = true) (eT : T.heap = h) {a : Addr} {cl : Cell} {ty : FieldType} (A : Arr Z h a cl ty) (E : Exa Z h a ad) (F : FitC Z cl)
    (hsz : Ls.size = c.maxLocals) (hd : decode c.code pc = .ok (.invokevirtual index, 3)) (hf : 1 ≤ R.frames) {W cap : Nat} (hW : (rest.map fun v => v.category).sum = W) (hl : W + 14 ≤ R.locals) (hcap : cl.slots.size ≤ cap) (hc : cells + 1 ≤ R.cells) (hsl : slots + cap ≤ R.slots)
    (k : ∀ T' h' b, Stand p l e R s m args below meth c T' locs (cells + 1) (slots + cap) → T'.heap = h' → Ext h h' → b = h.size → Arr Z h' b (cloneOf cl) ty → Exa Z h' b ad → Go p e below P T' (mkF m (pc + 3) Ls (.ref b :: rest))) : Go p e below P T (mkF m pc Ls (.ref a :: rest)) := by
  obtain ⟨T', h', X', e', E', A', X2, st⟩ := RoadKit.cloneA X hx hZ hown w1 w2 w3 w4 w5 w6 eT A E F (g := mkF m pc Ls (.ref a :: rest)) rfl hsz rfl hd hf (W := W) (cap := cap) (by subst hW; show 2 * 0 + _ ≤ _; omega) hl hcap hc hsl
  exact Go.by st (k T' h' _ X' e' E' rfl A' X2)
/-! calls by the callee's contract -/
section Call
variable {own : String} {index : Nat} {y : MethodName} {bytes : ByteArray} {maxL : Nat} {ret : Option FieldType} {rm : Room} {argsL : List Value} {Q' : Option Value → Heap → List Loc → Prop} {st : List Value} {W : Nat}
theorem Go.callS (X : Stand p l e R s m args below meth c T locs cells slots) (hx : p.tables.exec = Jvm.exec) (hZ : Z.Warmed39 s.vm) (hown : s.vm.findClass own = some m.cls) (w1 : (Jvm.Cond.methodLink own index y).before a0 Z = true) (w2 : (Jvm.Cond.static y).before a0 Z = true) (w3 : (Jvm.Cond.initialized y.cls).before a0 Z = true) (w4 : (Jvm.Cond.code y bytes maxL ret).before a0 Z = true)
    (hy : y.cls ≠ "java/lang/invoke/MethodHandle" ∧ y.cls ≠ "java/lang/invoke/VarHandle") (ct : Ct l y bytes maxL ret rm Z argsL.toArray h Q') (eT : T.heap = h) (hsz : Ls.size = c.maxLocals) (hlen : ∀ sig, parseMethodDescriptor y.desc = some sig → argsL.length = sig.parameters.length) (hst : st = argsL.reverse ++ rest) (hW : (rest.map fun v => v.category).sum = W)
    (hd : decode c.code pc = .ok (.invokestatic index, 3)) (hf : rm.frames + 1 ≤ R.frames) (hl : W + (maxL + 11) + rm.locals ≤ R.locals) (hc : cells + rm.cells ≤ R.cells) (hs : slots + rm.slots ≤ R.slots)
    (k : ∀ v T' h' L, Stand p l e R s m args below meth c T' (locs ++ L) (cells + rm.cells) (slots + rm.slots) → T'.heap = h' → Q' v h' L → Go p e below P T' (mkF m (pc + 3) Ls (v.toList ++ rest))) : Go p e below P T (mkF m pc Ls st) := by
  obtain ⟨v, _, ⟨T', L, k', n'⟩, -, X', ⟨Lc, hQ, hl', hk', hn'⟩, st'⟩ := Jvm.LawKit.callS X hx (y := y) hown (mvT hZ w1) (mvT hZ w2) (mvT hZ w3) (mvT hZ w4) hy (backOf (W := W) (ct []) hZ w4 w3 hf hl) (g := mkF m pc Ls st) rfl hsz (argsL := argsL) (rest := rest) hlen hst (by subst hW; show 2 * 0 + _ ≤ _; omega) hd (fun _ _ => ⟨rfl, eT, hc, hs⟩)
  dsimp only [Pt.U, Pt.locs, Pt.cells, Pt.slots] at X' hl' hk' hn' st' hQ
  subst hl' hk' hn'
  exact Go.by st' (k v T' _ Lc X' rfl hQ)
theorem Go.callC (X : Stand p l e R s m args below meth c T locs cells slots) (hx : p.tables.exec = Jvm.exec) (hZ : Z.Warmed39 s.vm) (hown : s.vm.findClass own = some m.cls) (hy1 : y.name = "<init>") (w1 : (Jvm.Cond.methodLink own index y).before a0 Z = true) (w2 : (Jvm.Cond.instanceMethod y).before a0 Z = true) (w3 : (Jvm.Cond.initialized y.cls).before a0 Z = true) (w4 : (Jvm.Cond.code y bytes maxL none).before a0 Z = true)
    (hy : y.cls ≠ "java/lang/invoke/MethodHandle" ∧ y.cls ≠ "java/lang/invoke/VarHandle") {a : Addr} (ct : Ct l y bytes maxL none rm Z (.ref a :: argsL).toArray h Q') (eT : T.heap = h) (hsz : Ls.size = c.maxLocals) (hlen : ∀ sig, parseMethodDescriptor y.desc = some sig → argsL.length = sig.parameters.length) (hst : st = argsL.reverse ++ .ref a :: rest) (hW : (rest.map fun v => v.category).sum = W)
    (hd : decode c.code pc = .ok (.invokespecial index, 3)) (hf : rm.frames + 1 ≤ R.frames) (hl : W + (maxL + 11) + rm.locals ≤ R.locals) (hc : cells + rm.cells ≤ R.cells) (hs : slots + rm.slots ≤ R.slots)
    (k : ∀ v T' h' L, Stand p l e R s m args below meth c T' (locs ++ L) (cells + rm.cells) (slots + rm.slots) → T'.heap = h' → Q' v h' L → Go p e below P T' (mkF m (pc + 3) Ls (v.toList ++ rest))) : Go p e below P T (mkF m pc Ls st) := by
  obtain ⟨v, _, ⟨T', L, k', n'⟩, -, X', ⟨Lc, hQ, hl', hk', hn'⟩, st'⟩ := X.specialBack hx (y := y) hy1 hown (mvT hZ w1) (mvT hZ w2) (mvT hZ w4) hy (backOf (W := W) (ct []) hZ w4 w3 hf hl) (g := mkF m pc Ls st) rfl hsz (Steps.refl _) (a := a) (argsL := argsL) (rest := rest) hlen hst (by subst hW; show 2 * 0 + _ ≤ _; omega) hd (fun _ _ => ⟨rfl, eT, hc, hs⟩)
  dsimp only [Pt.U, Pt.locs, Pt.cells, Pt.slots] at X' hl' hk' hn' st' hQ
  subst hl' hk' hn'
  exact Go.by (fun _ kk => st'.trans kk) (k v T' _ Lc X' rfl hQ)
theorem Go.callV (X : Stand p l e R s m args below meth c T locs cells slots) (hx : p.tables.exec = Jvm.exec) (hZ : Z.Warmed39 s.vm) (hown : s.vm.findClass own = some m.cls) {C : String} {z : MethodName} (w1 : (Jvm.Cond.methodLink own index y).before a0 Z = true) (w2 : (Jvm.Cond.declares y).before a0 Z = true) (nf : NotFace s y) (w5 : (Jvm.Cond.selects C y z).before a0 Z = true) (w6 : (Jvm.Cond.instanceMethod z).before a0 Z = true) (w3 : (Jvm.Cond.initialized z.cls).before a0 Z = true) (w4 : (Jvm.Cond.code z bytes maxL ret).before a0 Z = true)
    (hy : y.cls ≠ "java/lang/invoke/MethodHandle" ∧ y.cls ≠ "java/lang/invoke/VarHandle") {a : Addr} (E : Exa Z h a C) (ct : Ct l z bytes maxL ret rm Z (.ref a :: argsL).toArray h Q') (eT : T.heap = h) (hsz : Ls.size = c.maxLocals) (hlen : ∀ sig, parseMethodDescriptor y.desc = some sig → argsL.length = sig.parameters.length) (hst : st = argsL.reverse ++ .ref a :: rest) (hW : (rest.map fun v => v.category).sum = W)
    (hd : decode c.code pc = .ok (.invokevirtual index, 3)) (hf : rm.frames + 1 ≤ R.frames) (hl : W + (maxL + 11) + rm.locals ≤ R.locals) (hc : cells + rm.cells ≤ R.cells) (hs : slots + rm.slots ≤ R.slots)
    (k : ∀ v T' h' L, Stand p l e R s m args below meth c T' (locs ++ L) (cells + rm.cells) (slots + rm.slots) → T'.heap = h' → Q' v h' L → Go p e below P T' (mkF m (pc + 3) Ls (v.toList ++ rest))) : Go p e below P T (mkF m pc Ls st) := by
  obtain ⟨cq, kq, qa, qb, qc⟩ := isOf hZ eT E
  obtain ⟨v, _, ⟨T', L, k', n'⟩, -, X', ⟨Lc, hQ, hl', hk', hn'⟩, st'⟩ := X.virtualBack hx (y := y) (z := z) hown (mvT hZ w1) (mvT hZ w2) nf (mvT hZ w5) (mvT hZ w6) hy (backOf (W := W) (ct []) hZ w4 w3 hf hl) qa qc (g := mkF m pc Ls st) rfl hsz (Steps.refl _) (argsL := argsL) (rest := rest) hlen hst (by subst hW; show 2 * 0 + _ ≤ _; omega) hd (fun _ _ => ⟨rfl, eT, hc, hs⟩)
  dsimp only [Pt.U, Pt.locs, Pt.cells, Pt.slots] at X' hl' hk' hn' st' hQ
  subst hl' hk' hn'
  exact Go.by (fun _ kk => st'.trans kk) (k v T' _ Lc X' rfl hQ)
theorem Go.callVU (X : Stand p l e R s m args below meth c T locs cells slots) (hx : p.tables.exec = Jvm.exec) (hZ : Z.Warmed39 s.vm) (hown : s.vm.findClass own = some m.cls) {C owner : String} {z : MethodName} (w1 : (Jvm.Cond.methodLink own index y).before a0 Z = true) (ws : (Jvm.Cond.sameMethod y.cls owner y.name y.desc).before a0 Z = true) (w2 : (Jvm.Cond.declares ⟨owner, y.name, y.desc⟩).before a0 Z = true) (ho : owner ≠ "java/lang/invoke/MethodHandle" ∧ owner ≠ "java/lang/invoke/VarHandle") (w5 : (Jvm.Cond.selects C y z).before a0 Z = true) (w6 : (Jvm.Cond.instanceMethod z).before a0 Z = true) (w3 : (Jvm.Cond.initialized z.cls).before a0 Z = true) (w4 : (Jvm.Cond.code z bytes maxL ret).before a0 Z = true)
    {a : Addr} (E : Exa Z h a C) (ct : Ct l z bytes maxL ret rm Z (.ref a :: argsL).toArray h Q') (eT : T.heap = h) (hsz : Ls.size = c.maxLocals) (hlen : ∀ sig, parseMethodDescriptor y.desc = some sig → argsL.length = sig.parameters.length) (hst : st = argsL.reverse ++ .ref a :: rest) (hW : (rest.map fun v => v.category).sum = W)
    (hd : decode c.code pc = .ok (.invokevirtual index, 3)) (hf : rm.frames + 1 ≤ R.frames) (hl : W + (maxL + 11) + rm.locals ≤ R.locals) (hc : cells + rm.cells ≤ R.cells) (hs : slots + rm.slots ≤ R.slots)
    (k : ∀ v T' h' L, Stand p l e R s m args below meth c T' (locs ++ L) (cells + rm.cells) (slots + rm.slots) → T'.heap = h' → Q' v h' L → Go p e below P T' (mkF m (pc + 3) Ls (v.toList ++ rest))) : Go p e below P T (mkF m pc Ls st) := by
  obtain ⟨cq, kq, qa, qb, qc⟩ := isOf hZ eT E
  obtain ⟨v, _, ⟨T', L, k', n'⟩, -, X', ⟨Lc, hQ, hl', hk', hn'⟩, st'⟩ := X.virtualBackUp hx (x := y) (y := z) (owner := owner) hown (mvT hZ w1) (mvT hZ ws) (mvT hZ w2) ho (mvT hZ w5) (mvT hZ w6) (backOf (W := W) (ct []) hZ w4 w3 hf hl) qa qc (g := mkF m pc Ls st) rfl hsz (Steps.refl _) (argsL := argsL) (rest := rest) hlen hst (by subst hW; show 2 * 0 + _ ≤ _; omega) hd (fun _ _ => ⟨rfl, eT, hc, hs⟩)
  dsimp only [Pt.U, Pt.locs, Pt.cells, Pt.slots] at X' hl' hk' hn' st' hQ
  subst hl' hk' hn'
  exact Go.by (fun _ kk => st'.trans kk) (k v T' _ Lc X' rfl hQ)
end Call
theorem eqI_v {args : Array Value} {first s : State} {o : Option Outcome} {idx : List Nat} {t : Term} {n : Int32} (h : (Jvm.Cond.eq t (.int n)).value args first o s idx = some true) : t.eval args first o idx s = some (.int n) := by
  simp only [Cond.value, Term.eval] at h
  cases ht : t.eval args first o idx s with
  | none => simp [ht] at h
  | some x => cases x <;> simp [ht] at h ⊢; exact h
theorem nsRoot {O K : String} {n : Nat} (w : (Jvm.Cond.noSuperclass O).before a0 Z = true) (wk : (Jvm.Cond.instantiable K n).before a0 Z = true) (hn : O ≠ K) : NS Z O K := by
  obtain ⟨c, k, h1, h2, h3, -, -⟩ := Cond.noSuperclass_spec w
  obtain ⟨t, kt, g1, -⟩ := Cond.instantiable_spec wk
  have ne := ids_ne h1 g1 hn
  refine ⟨c, t, h1, g1, fun fuel => ?_⟩
  cases fuel with
  | zero => rfl
  | succ f => simp [Vm.isSubclassAux, ne, h2, h3]
theorem nsNo {C S K : String} {n : Nat} (w : (Jvm.Cond.superclass C S).before a0 Z = true) (wk : (Jvm.Cond.instantiable K n).before a0 Z = true) (ns : NS Z C K) (hn : C ≠ K) : ∃ c t, Z.vm.findClass C = some c ∧ Z.vm.findClass K = some t ∧ Z.vm.assignable c t = false := by
  obtain ⟨c, t, h0, g0, n3⟩ := ns
  obtain ⟨p, k, kp, h1, h2, h3, h4, h5, -, h7⟩ := Cond.superclass_spec h0 w
  obtain ⟨t', k', g1, g2, g3, g4, -⟩ := Cond.instantiable_spec wk
  cases g0.symm.trans g1
  have ne := ids_ne h0 g0 hn
  have g5 : k'.isInterface = false := by cases hq : k'.isInterface <;> simp [hq] at g4 ⊢
  refine ⟨c, t, h0, g0, ?_⟩
  show Z.vm.assignableAux (255 + 1) c t = false
  simp [Vm.assignableAux, ne, h2, g2, h5, g3, g5, Vm.isSubclass, n3]
theorem lenI_v {args : Array Value} {first s : State} {o : Option Outcome} {idx : List Nat} {t : Term} {a : Addr} {cl : Cell} {n : Int32} (h : (Term.length t).eval args first o idx s = some (.int n)) (ht : t.eval args first o idx s = some (.ref a)) (ha : s.arrayAt? a = some cl) : cl.slots.size < 2 ^ 31 ∧ cl.slots.size.toInt32 = n := by
  simp [Term.eval, ht, ha] at h; exact h
theorem size_le {cl : Cell} {n : Int32} {k : Nat} (q : cl.slots.size < 2 ^ 31 ∧ cl.slots.size.toInt32 = n) (hn : n.toInt = k) : cl.slots.size = k := by
  have := len_toInt q.1; rw [q.2, hn] at this; exact (Int.ofNat.inj this).symm
theorem eqR_v {args : Array Value} {first s : State} {o : Option Outcome} {idx : List Nat} {t u : Term} {w : Addr} (hu : u.eval args first o idx s = some (.ref w)) (h : (Jvm.Cond.eq t u).value args first o s idx = some true) : t.eval args first o idx s = some (.ref w) := by
  simp only [Cond.value, hu] at h
  cases ht : t.eval args first o idx s with
  | none => simp [ht] at h
  | some x => cases x <;> simp [ht] at h ⊢; exact h
theorem Old.le {n0 : Nat} (O : Old Z n0 h) : n0 ≤ h.size := O.1 ▸ O.2.1
end K
end Jvm.OwnKit
namespace Jvm.Pilot.@@N@@
open Jvm Jvm.ClassFile Sem Op Lib Jvm.Free Jvm.Stand Jvm.LawKit Jvm.RoadKit Jvm.OwnKit Bundle Jvm.Pilot.@@N@@.Jvm.D
theorem d_p35_m1_0 : decode prog_35_method_1_code 0 = .ok (.getstatic 16, 3) := by decide +kernel
theorem d_p35_m1_3 : decode prog_35_method_1_code 3 = .ok (.invokevirtual 20, 3) := by decide +kernel
theorem d_p35_m1_6 : decode prog_35_method_1_code 6 = .ok (.checkcast 21, 3) := by decide +kernel
theorem d_p35_m1_9 : decode prog_35_method_1_code 9 = .ok (.areturn, 1) := by decide +kernel
theorem pn_RejectReason_863 : plainName "com/example/ferrule/ferrule/RejectReason" = true := by first | (simp [plainName, overriddenIn]; done) | decide +kernel
theorem pd____Lcom_example_ferrule_ferrule_RejectRe_4554 : parseMethodDescriptor "()[Lcom/example/ferrule/ferrule/RejectReason;" = some ⟨[], some (.array (.object "com/example/ferrule/ferrule/RejectReason"))⟩ := by decide +kernel
theorem d_p35_m5_0 : decode prog_35_method_5_code 0 = .ok (.invokestatic 43, 3) := by decide +kernel
theorem d_p35_m5_3 : decode prog_35_method_5_code 3 = .ok (.astore_n 1, 1) := by decide +kernel
theorem d_p35_m5_4 : decode prog_35_method_5_code 4 = .ok (.aload_n 1, 1) := by decide +kernel
theorem d_p35_m5_5 : decode prog_35_method_5_code 5 = .ok (.arraylength, 1) := by decide +kernel
theorem d_p35_m5_6 : decode prog_35_method_5_code 6 = .ok (.istore_n 2, 1) := by decide +kernel
theorem d_p35_m5_7 : decode prog_35_method_5_code 7 = .ok (.iconst 0, 1) := by decide +kernel
theorem d_p35_m5_8 : decode prog_35_method_5_code 8 = .ok (.istore_n 3, 1) := by decide +kernel
theorem d_p35_m5_9 : decode prog_35_method_5_code 9 = .ok (.iload_n 3, 1) := by decide +kernel
theorem d_p35_m5_10 : decode prog_35_method_5_code 10 = .ok (.iload_n 2, 1) := by decide +kernel
theorem d_p35_m5_11 : decode prog_35_method_5_code 11 = .ok (.if_icmp .ge 26, 3) := by decide +kernel
theorem d_p35_m5_14 : decode prog_35_method_5_code 14 = .ok (.aload_n 1, 1) := by decide +kernel
theorem d_p35_m5_15 : decode prog_35_method_5_code 15 = .ok (.iload_n 3, 1) := by decide +kernel
theorem d_p35_m5_16 : decode prog_35_method_5_code 16 = .ok (.aaload, 1) := by decide +kernel
theorem d_p35_m5_17 : decode prog_35_method_5_code 17 = .ok (.astore 4, 2) := by decide +kernel
theorem d_p35_m5_19 : decode prog_35_method_5_code 19 = .ok (.aload 4, 2) := by decide +kernel
theorem d_p35_m5_21 : decode prog_35_method_5_code 21 = .ok (.getfield 35, 3) := by decide +kernel
theorem d_p35_m5_24 : decode prog_35_method_5_code 24 = .ok (.iload_n 0, 1) := by decide +kernel
theorem d_p35_m5_25 : decode prog_35_method_5_code 25 = .ok (.if_icmp .ne 6, 3) := by decide +kernel
theorem d_p35_m5_28 : decode prog_35_method_5_code 28 = .ok (.aload 4, 2) := by decide +kernel
theorem d_p35_m5_30 : decode prog_35_method_5_code 30 = .ok (.areturn, 1) := by decide +kernel
theorem d_p35_m5_31 : decode prog_35_method_5_code 31 = .ok (.iinc 3 1, 3) := by decide +kernel
theorem d_p35_m5_34 : decode prog_35_method_5_code 34 = .ok (.goto (-25), 3) := by decide +kernel
theorem d_p35_m5_37 : decode prog_35_method_5_code 37 = .ok (.aconst_null, 1) := by decide +kernel
theorem d_p35_m5_38 : decode prog_35_method_5_code 38 = .ok (.areturn, 1) := by decide +kernel
theorem d_m2_0 : decode method_2_code 0 = .ok (.iload_n 0, 1) := by decide +kernel
theorem d_m2_1 : decode method_2_code 1 = .ok (.ifCond .ne 7, 3) := by decide +kernel
theorem d_m2_4 : decode method_2_code 4 = .ok (.getstatic 7, 3) := by decide +kernel
theorem d_m2_7 : decode method_2_code 7 = .ok (.areturn, 1) := by decide +kernel
theorem d_m2_8 : decode method_2_code 8 = .ok (.iload_n 0, 1) := by decide +kernel
theorem d_m2_9 : decode method_2_code 9 = .ok (.iconst 1, 1) := by decide +kernel
theorem d_m2_10 : decode method_2_code 10 = .ok (.if_icmp .ne 7, 3) := by decide +kernel
theorem d_m2_13 : decode method_2_code 13 = .ok (.getstatic 13, 3) := by decide +kernel
theorem d_m2_16 : decode method_2_code 16 = .ok (.areturn, 1) := by decide +kernel
theorem d_m2_17 : decode method_2_code 17 = .ok (.iload_n 0, 1) := by decide +kernel
theorem d_m2_18 : decode method_2_code 18 = .ok (.iconst 2, 1) := by decide +kernel
theorem d_m2_19 : decode method_2_code 19 = .ok (.if_icmp .ne 7, 3) := by decide +kernel
theorem d_m2_22 : decode method_2_code 22 = .ok (.getstatic 16, 3) := by decide +kernel
theorem d_m2_25 : decode method_2_code 25 = .ok (.areturn, 1) := by decide +kernel
theorem d_m2_26 : decode method_2_code 26 = .ok (.iload_n 0, 1) := by decide +kernel
theorem d_m2_27 : decode method_2_code 27 = .ok (.iconst 3, 1) := by decide +kernel
theorem d_m2_28 : decode method_2_code 28 = .ok (.if_icmp .ne 7, 3) := by decide +kernel
theorem d_m2_31 : decode method_2_code 31 = .ok (.getstatic 19, 3) := by decide +kernel
theorem d_m2_34 : decode method_2_code 34 = .ok (.areturn, 1) := by decide +kernel
theorem d_m2_35 : decode method_2_code 35 = .ok (.aconst_null, 1) := by decide +kernel
theorem d_m2_36 : decode method_2_code 36 = .ok (.areturn, 1) := by decide +kernel
theorem pn_RejectReasonForCodePinLaw_440 : plainName "com/example/ferrule/ferrule/RejectReasonForCodePinLaw" = true := by first | (simp [plainName, overriddenIn]; done) | decide +kernel
theorem pd__S_Lcom_example_ferrule_ferrule_RejectRe_4895 : parseMethodDescriptor "(S)Lcom/example/ferrule/ferrule/RejectReason;" = some ⟨[.short], some (.object "com/example/ferrule/ferrule/RejectReason")⟩ := by decide +kernel
theorem d_p35_m4_0 : decode prog_35_method_4_code 0 = .ok (.aload_n 0, 1) := by decide +kernel
theorem d_p35_m4_1 : decode prog_35_method_4_code 1 = .ok (.getfield 35, 3) := by decide +kernel
theorem d_p35_m4_4 : decode prog_35_method_4_code 4 = .ok (.ireturn, 1) := by decide +kernel
theorem pd___S_8331 : parseMethodDescriptor "()S" = some ⟨[], some .short⟩ := by decide +kernel
set_option maxRecDepth 65536 in
set_option maxHeartbeats 40000000 in
theorem ct_values (l : Launch) (Z : State) (a0 : Array Value) (hw : ∀ d ∈ tables_1, d.before a0 Z = true) (w_NO_SUCH_PROGRAM : Addr) (w_NO_SUCH_VERSION : Addr) (w_NO_SUCH_PROCEDURE : Addr) (w_INVALID_ARGUMENT : Addr) (w_V : Addr) (cl_V : Cell) (E_NO_SUCH_PROGRAM : Exa Z Z.heap w_NO_SUCH_PROGRAM "com/example/ferrule/ferrule/RejectReason") (E_NO_SUCH_VERSION : Exa Z Z.heap w_NO_SUCH_VERSION "com/example/ferrule/ferrule/RejectReason") (E_NO_SUCH_PROCEDURE : Exa Z Z.heap w_NO_SUCH_PROCEDURE "com/example/ferrule/ferrule/RejectReason") (E_INVALID_ARGUMENT : Exa Z Z.heap w_INVALID_ARGUMENT "com/example/ferrule/ferrule/RejectReason") (F_NO_SUCH_PROGRAM : Fld Z Z.heap w_NO_SUCH_PROGRAM "com/example/ferrule/ferrule/RejectReason" "code" "S" (.int (0 : Int32))) (F_NO_SUCH_VERSION : Fld Z Z.heap w_NO_SUCH_VERSION "com/example/ferrule/ferrule/RejectReason" "code" "S" (.int (1 : Int32))) (F_NO_SUCH_PROCEDURE : Fld Z Z.heap w_NO_SUCH_PROCEDURE "com/example/ferrule/ferrule/RejectReason" "code" "S" (.int (2 : Int32))) (F_INVALID_ARGUMENT : Fld Z Z.heap w_INVALID_ARGUMENT "com/example/ferrule/ferrule/RejectReason" "code" "S" (.int (3 : Int32))) (S_V : Sta Z Z.heap "com/example/ferrule/ferrule/RejectReason" "$VALUES" "[Lcom/example/ferrule/ferrule/RejectReason;" (.ref w_V)) (A_V : Arr Z Z.heap w_V cl_V (.object "com/example/ferrule/ferrule/RejectReason")) (E_V : Exa Z Z.heap w_V "[Lcom/example/ferrule/ferrule/RejectReason;") (Q_V : FitC Z cl_V) (z_V : cl_V.slots.size = 4) (t_NO_SUCH_PROGRAM : cl_V.slots[0]? = some (.ref w_NO_SUCH_PROGRAM)) (t_NO_SUCH_VERSION : cl_V.slots[1]? = some (.ref w_NO_SUCH_VERSION)) (t_NO_SUCH_PROCEDURE : cl_V.slots[2]? = some (.ref w_NO_SUCH_PROCEDURE)) (t_INVALID_ARGUMENT : cl_V.slots[3]? = some (.ref w_INVALID_ARGUMENT)) (S_NO_SUCH_PROGRAM : Sta Z Z.heap "com/example/ferrule/ferrule/RejectReason" "NO_SUCH_PROGRAM" "Lcom/example/ferrule/ferrule/RejectReason;" (.ref w_NO_SUCH_PROGRAM)) (S_NO_SUCH_VERSION : Sta Z Z.heap "com/example/ferrule/ferrule/RejectReason" "NO_SUCH_VERSION" "Lcom/example/ferrule/ferrule/RejectReason;" (.ref w_NO_SUCH_VERSION)) (S_NO_SUCH_PROCEDURE : Sta Z Z.heap "com/example/ferrule/ferrule/RejectReason" "NO_SUCH_PROCEDURE" "Lcom/example/ferrule/ferrule/RejectReason;" (.ref w_NO_SUCH_PROCEDURE)) (S_INVALID_ARGUMENT : Sta Z Z.heap "com/example/ferrule/ferrule/RejectReason" "INVALID_ARGUMENT" "Lcom/example/ferrule/ferrule/RejectReason;" (.ref w_INVALID_ARGUMENT)) (h0 : Heap) (n0 : Nat) (O : Old Z n0 h0)  :
    Ct l (⟨"com/example/ferrule/ferrule/RejectReason", "values", "()[Lcom/example/ferrule/ferrule/RejectReason;"⟩ : MethodName) prog_35_method_1_code 0 (some (.array (.object "com/example/ferrule/ferrule/RejectReason"))) ({ frames := 1, cells := 1, slots := 4, locals := 14 } : Room) Z #[] h0 (fun v h L => ∃ b, v = some (.ref b) ∧ Fr n0 L ∧ Keep h0 h [] ∧ Arr Z h b (cloneOf cl_V) (.object "com/example/ferrule/ferrule/RejectReason")) := by
  refine Ct.of (plainFor_of_name pn_RejectReason_863) ?_
  intro p e s m below meth c T0 X0 hx hby hml hown hnm hret hlk hZ e0
  have hown : s.vm.findClass "com/example/ferrule/ferrule/RejectReason" = some m.cls := hown
  have hml : c.maxLocals = 0 := hml
  have N0 := Fr.nil n0
  refine Go.cast (g' := mkF m 0 #[] []) (by first | (simp [entryFrame, mkF, argsToLocals, Value.category]; done) | rfl) ?_
  have K : Keep h0 h0 [] := Keep.refl _ _
  refine Go.getS X0 hx hZ hown (wd hw 7 rfl) Via.refl e0 (S_V.ext O.2) (hb hby d_p35_m1_0) ?_
  intro T1 X1 e1
  show Go p e below _ T1 (mkF m 3 #[] [(.ref w_V)])
  refine Go.cloneA X1 hx hZ hown (wd hw 9 rfl) (wd hw 10 rfl) (wd hw 14 rfl) (wd hw 12 rfl) (wd hw 13 rfl) (wd hw 15 rfl) e1 (A_V.ext O.2) (E_V.ext O.2) Q_V (by rw [hml]; rfl) (hb hby d_p35_m1_3) (by decide) (W := 0) (cap := 4) rfl (by decide) (Nat.le_of_eq z_V) (by decide) (by decide) ?_
  intro T2 h2 b2 X2 e2 E2 g2 A2 B2
  have lb2 := Nat.le_of_eq g2.symm
  have g_b2 : n0 ≤ b2 := Nat.le_trans (OwnKit.Old.le O) lb2
  have sz_b2 : h0.size ≤ b2 := Nat.le_trans K.1 lb2
  replace O := O.ext E2
  replace K := K.ext E2
  show Go p e below _ T2 (mkF m 6 #[] [(.ref b2)])
  refine Go.castY X2 hx hZ hown (wd hw 21 rfl) e2 (Ins.self B2) (hb hby d_p35_m1_6) ?_
  intro T3 X3 e3
  show Go p e below _ T3 (mkF m 9 #[] [(.ref b2)])
  refine Go.retA X3 hx hlk hret rfl rfl (hb hby d_p35_m1_9) (by decide) (by decide) e3 ?_
  exact ⟨_, rfl, N0, K, A2⟩
set_option maxRecDepth 65536 in
set_option maxHeartbeats 40000000 in
theorem ct_forCode (l : Launch) (Z : State) (a0 : Array Value) (hw : ∀ d ∈ tables_1, d.before a0 Z = true) (w_NO_SUCH_PROGRAM : Addr) (w_NO_SUCH_VERSION : Addr) (w_NO_SUCH_PROCEDURE : Addr) (w_INVALID_ARGUMENT : Addr) (w_V : Addr) (cl_V : Cell) (E_NO_SUCH_PROGRAM : Exa Z Z.heap w_NO_SUCH_PROGRAM "com/example/ferrule/ferrule/RejectReason") (E_NO_SUCH_VERSION : Exa Z Z.heap w_NO_SUCH_VERSION "com/example/ferrule/ferrule/RejectReason") (E_NO_SUCH_PROCEDURE : Exa Z Z.heap w_NO_SUCH_PROCEDURE "com/example/ferrule/ferrule/RejectReason") (E_INVALID_ARGUMENT : Exa Z Z.heap w_INVALID_ARGUMENT "com/example/ferrule/ferrule/RejectReason") (F_NO_SUCH_PROGRAM : Fld Z Z.heap w_NO_SUCH_PROGRAM "com/example/ferrule/ferrule/RejectReason" "code" "S" (.int (0 : Int32))) (F_NO_SUCH_VERSION : Fld Z Z.heap w_NO_SUCH_VERSION "com/example/ferrule/ferrule/RejectReason" "code" "S" (.int (1 : Int32))) (F_NO_SUCH_PROCEDURE : Fld Z Z.heap w_NO_SUCH_PROCEDURE "com/example/ferrule/ferrule/RejectReason" "code" "S" (.int (2 : Int32))) (F_INVALID_ARGUMENT : Fld Z Z.heap w_INVALID_ARGUMENT "com/example/ferrule/ferrule/RejectReason" "code" "S" (.int (3 : Int32))) (S_V : Sta Z Z.heap "com/example/ferrule/ferrule/RejectReason" "$VALUES" "[Lcom/example/ferrule/ferrule/RejectReason;" (.ref w_V)) (A_V : Arr Z Z.heap w_V cl_V (.object "com/example/ferrule/ferrule/RejectReason")) (E_V : Exa Z Z.heap w_V "[Lcom/example/ferrule/ferrule/RejectReason;") (Q_V : FitC Z cl_V) (z_V : cl_V.slots.size = 4) (t_NO_SUCH_PROGRAM : cl_V.slots[0]? = some (.ref w_NO_SUCH_PROGRAM)) (t_NO_SUCH_VERSION : cl_V.slots[1]? = some (.ref w_NO_SUCH_VERSION)) (t_NO_SUCH_PROCEDURE : cl_V.slots[2]? = some (.ref w_NO_SUCH_PROCEDURE)) (t_INVALID_ARGUMENT : cl_V.slots[3]? = some (.ref w_INVALID_ARGUMENT)) (S_NO_SUCH_PROGRAM : Sta Z Z.heap "com/example/ferrule/ferrule/RejectReason" "NO_SUCH_PROGRAM" "Lcom/example/ferrule/ferrule/RejectReason;" (.ref w_NO_SUCH_PROGRAM)) (S_NO_SUCH_VERSION : Sta Z Z.heap "com/example/ferrule/ferrule/RejectReason" "NO_SUCH_VERSION" "Lcom/example/ferrule/ferrule/RejectReason;" (.ref w_NO_SUCH_VERSION)) (S_NO_SUCH_PROCEDURE : Sta Z Z.heap "com/example/ferrule/ferrule/RejectReason" "NO_SUCH_PROCEDURE" "Lcom/example/ferrule/ferrule/RejectReason;" (.ref w_NO_SUCH_PROCEDURE)) (S_INVALID_ARGUMENT : Sta Z Z.heap "com/example/ferrule/ferrule/RejectReason" "INVALID_ARGUMENT" "Lcom/example/ferrule/ferrule/RejectReason;" (.ref w_INVALID_ARGUMENT)) (c1 : Int32) (r : Value) (h0 : Heap) (n0 : Nat) (O : Old Z n0 h0) (hr : r = if c1 = 0 then .ref w_NO_SUCH_PROGRAM else if c1 = 1 then .ref w_NO_SUCH_VERSION else if c1 = 2 then .ref w_NO_SUCH_PROCEDURE else if c1 = 3 then .ref w_INVALID_ARGUMENT else .null) :
    Ct l (⟨"com/example/ferrule/ferrule/RejectReason", "forCode", "(S)Lcom/example/ferrule/ferrule/RejectReason;"⟩ : MethodName) prog_35_method_5_code 5 (some (.object "com/example/ferrule/ferrule/RejectReason")) ({ frames := 2, cells := 1, slots := 4, locals := 25 } : Room) Z #[(.int c1)] h0 (fun v h L => v = some r ∧ Fr n0 L ∧ Keep h0 h []) := by
  refine Ct.of (plainFor_of_name pn_RejectReason_863) ?_
  intro p e s m below meth c T0 X0 hx hby hml hown hnm hret hlk hZ e0
  have hown : s.vm.findClass "com/example/ferrule/ferrule/RejectReason" = some m.cls := hown
  have hml : c.maxLocals = 5 := hml
  have N0 := Fr.nil n0
  refine Go.cast (g' := mkF m 0 #[.val (.int c1), .unset, .unset, .unset, .unset] []) (by first | (simp [entryFrame, mkF, argsToLocals, Value.category]; done) | rfl) ?_
  have K : Keep h0 h0 [] := Keep.refl _ _
  refine Go.callS X0 hx hZ (W := 0) (argsL := []) (rest := []) hown (wd hw 4 rfl) (wd hw 5 rfl) (wd hw 2 rfl) (wd hw 6 rfl) (by decide) (ct_values l Z a0 hw w_NO_SUCH_PROGRAM w_NO_SUCH_VERSION w_NO_SUCH_PROCEDURE w_INVALID_ARGUMENT w_V cl_V E_NO_SUCH_PROGRAM E_NO_SUCH_VERSION E_NO_SUCH_PROCEDURE E_INVALID_ARGUMENT F_NO_SUCH_PROGRAM F_NO_SUCH_VERSION F_NO_SUCH_PROCEDURE F_INVALID_ARGUMENT S_V A_V E_V Q_V z_V t_NO_SUCH_PROGRAM t_NO_SUCH_VERSION t_NO_SUCH_PROCEDURE t_INVALID_ARGUMENT S_NO_SUCH_PROGRAM S_NO_SUCH_VERSION S_NO_SUCH_PROCEDURE S_INVALID_ARGUMENT  h0 n0 O ) e0 (by rw [hml]; rfl) (lenOf pd____Lcom_example_ferrule_ferrule_RejectRe_4554 rfl) rfl rfl (hb hby d_p35_m5_0) (by decide) (by decide) (by decide) (by decide) ?_
  intro v1 T1 h1 L1 X1 e1 q1
  obtain ⟨o1, rfl, N1, K1, A_o1⟩ := q1
  replace N1 := Fr.app N0 N1
  replace O := O.keep K1 all0
  replace K := K.trans K1 all0
  show Go p e below _ T1 (mkF m 3 #[.val (.int c1), .unset, .unset, .unset, .unset] [(.ref o1)])
  refine Go.by (T' := T1) (g' := (mkF m 5 #[.val (.int c1), .val (.ref o1), .unset, .unset, .unset] [(.ref o1)])) (fun t k => ?_) ?_
  · show Steps p.tables e below (T1.setTop (mkF m 3 #[.val (.int c1), .unset, .unset, .unset, .unset] [(.ref o1)])) _
    refine XS.astoreN X1.here hx rfl (hb hby d_p35_m5_3) rfl rfl (l' := #[.val (.int c1), .val (.ref o1), .unset, .unset, .unset]) rfl ?_
    show Steps p.tables e below (T1.setTop (mkF m 4 #[.val (.int c1), .val (.ref o1), .unset, .unset, .unset] [])) _
    refine XS.aloadN X1.here hx rfl (hb hby d_p35_m5_4) rfl rfl ?_
    exact k
  refine Go.alen X1 hx hZ e1 A_o1 (z := (4 : Int32)) (by show cl_V.slots.size.toInt32 = _; rw [z_V]; rfl) (hb hby d_p35_m5_5) ?_
  show Go p e below _ T1 (mkF m 6 #[.val (.int c1), .val (.ref o1), .unset, .unset, .unset] [(.int (4 : Int32))])
  refine Go.by (T' := T1) (g' := (mkF m 16 #[.val (.int c1), .val (.ref o1), .val (.int (4 : Int32)), .val (.int (0 : Int32)), .unset] [(.int (0 : Int32)), (.ref o1)])) (fun t k => ?_) ?_
  · show Steps p.tables e below (T1.setTop (mkF m 6 #[.val (.int c1), .val (.ref o1), .unset, .unset, .unset] [(.int (4 : Int32))])) _
    refine XS.istoreN X1.here hx rfl (hb hby d_p35_m5_6) rfl (l' := #[.val (.int c1), .val (.ref o1), .val (.int (4 : Int32)), .unset, .unset]) rfl ?_
    show Steps p.tables e below (T1.setTop (mkF m 7 #[.val (.int c1), .val (.ref o1), .val (.int (4 : Int32)), .unset, .unset] [])) _
    refine XS.iconst X1.here hx rfl (hb hby d_p35_m5_7) ?_
    show Steps p.tables e below (T1.setTop (mkF m 8 #[.val (.int c1), .val (.ref o1), .val (.int (4 : Int32)), .unset, .unset] [(.int (0 : Int32))])) _
    refine XS.istoreN X1.here hx rfl (hb hby d_p35_m5_8) rfl (l' := #[.val (.int c1), .val (.ref o1), .val (.int (4 : Int32)), .val (.int (0 : Int32)), .unset]) rfl ?_
    show Steps p.tables e below (T1.setTop (mkF m 9 #[.val (.int c1), .val (.ref o1), .val (.int (4 : Int32)), .val (.int (0 : Int32)), .unset] [])) _
    refine XS.iloadN X1.here hx rfl (hb hby d_p35_m5_9) rfl ?_
    show Steps p.tables e below (T1.setTop (mkF m 10 #[.val (.int c1), .val (.ref o1), .val (.int (4 : Int32)), .val (.int (0 : Int32)), .unset] [(.int (0 : Int32))])) _
    refine XS.iloadN X1.here hx rfl (hb hby d_p35_m5_10) rfl ?_
    show Steps p.tables e below (T1.setTop (mkF m 11 #[.val (.int c1), .val (.ref o1), .val (.int (4 : Int32)), .val (.int (0 : Int32)), .unset] [(.int (4 : Int32)), (.int (0 : Int32))])) _
    refine XS.icmpNo X1.here hx rfl (hb hby d_p35_m5_11) rfl (tlt (by decide : (0 : Int32) < (4 : Int32))).2.1 ?_
    show Steps p.tables e below (T1.setTop (mkF m 14 #[.val (.int c1), .val (.ref o1), .val (.int (4 : Int32)), .val (.int (0 : Int32)), .unset] [])) _
    refine XS.aloadN X1.here hx rfl (hb hby d_p35_m5_14) rfl rfl ?_
    show Steps p.tables e below (T1.setTop (mkF m 15 #[.val (.int c1), .val (.ref o1), .val (.int (4 : Int32)), .val (.int (0 : Int32)), .unset] [(.ref o1)])) _
    refine XS.iloadN X1.here hx rfl (hb hby d_p35_m5_15) rfl ?_
    exact k
  refine Go.aload X1 hx hZ e1 A_o1 (j := (0 : Int32)) (v := .ref w_NO_SUCH_PROGRAM) (by show ¬ (_ ∨ cl_V.slots.size ≤ _); rw [z_V]; decide) (show cl_V.slots[((0 : Int32)).toNatClampNeg]? = _ from t_NO_SUCH_PROGRAM) (Or.inr (Or.inr (Or.inl ⟨rfl, rfl⟩))) (hb hby d_p35_m5_16) ?_
  show Go p e below _ T1 (mkF m 17 #[.val (.int c1), .val (.ref o1), .val (.int (4 : Int32)), .val (.int (0 : Int32)), .unset] [(.ref w_NO_SUCH_PROGRAM)])
  refine Go.by (T' := T1) (g' := (mkF m 21 #[.val (.int c1), .val (.ref o1), .val (.int (4 : Int32)), .val (.int (0 : Int32)), .val (.ref w_NO_SUCH_PROGRAM)] [(.ref w_NO_SUCH_PROGRAM)])) (fun t k => ?_) ?_
  · show Steps p.tables e below (T1.setTop (mkF m 17 #[.val (.int c1), .val (.ref o1), .val (.int (4 : Int32)), .val (.int (0 : Int32)), .unset] [(.ref w_NO_SUCH_PROGRAM)])) _
    refine XS.astore X1.here hx rfl (hb hby d_p35_m5_17) rfl rfl (l' := #[.val (.int c1), .val (.ref o1), .val (.int (4 : Int32)), .val (.int (0 : Int32)), .val (.ref w_NO_SUCH_PROGRAM)]) rfl ?_
    show Steps p.tables e below (T1.setTop (mkF m 19 #[.val (.int c1), .val (.ref o1), .val (.int (4 : Int32)), .val (.int (0 : Int32)), .val (.ref w_NO_SUCH_PROGRAM)] [])) _
    refine XS.aload X1.here hx rfl (hb hby d_p35_m5_19) rfl rfl ?_
    exact k
  refine Go.getF X1 hx hZ hown (wd hw 23 rfl) Via.refl e1 (F_NO_SUCH_PROGRAM.ext O.2) (hb hby d_p35_m5_21) ?_
  intro T2 X2 e2
  show Go p e below _ T2 (mkF m 24 #[.val (.int c1), .val (.ref o1), .val (.int (4 : Int32)), .val (.int (0 : Int32)), .val (.ref w_NO_SUCH_PROGRAM)] [(.int (0 : Int32))])
  refine Go.by (T' := T2) (g' := (mkF m 25 #[.val (.int c1), .val (.ref o1), .val (.int (4 : Int32)), .val (.int (0 : Int32)), .val (.ref w_NO_SUCH_PROGRAM)] [(.int c1), (.int (0 : Int32))])) (fun t k => ?_) ?_
  · show Steps p.tables e below (T2.setTop (mkF m 24 #[.val (.int c1), .val (.ref o1), .val (.int (4 : Int32)), .val (.int (0 : Int32)), .val (.ref w_NO_SUCH_PROGRAM)] [(.int (0 : Int32))])) _
    refine XS.iloadN X2.here hx rfl (hb hby d_p35_m5_24) rfl ?_
    exact k
  by_cases hy3 : (0 : Int32) = c1
  · skip
    refine Go.by (T' := T2) (g' := (mkF m 30 #[.val (.int c1), .val (.ref o1), .val (.int (4 : Int32)), .val (.int (0 : Int32)), .val (.ref w_NO_SUCH_PROGRAM)] [(.ref w_NO_SUCH_PROGRAM)])) (fun t k => ?_) ?_
    · show Steps p.tables e below (T2.setTop (mkF m 25 #[.val (.int c1), .val (.ref o1), .val (.int (4 : Int32)), .val (.int (0 : Int32)), .val (.ref w_NO_SUCH_PROGRAM)] [(.int c1), (.int (0 : Int32))])) _
      refine XS.icmpNo X2.here hx rfl (hb hby d_p35_m5_25) rfl (teq hy3).2 ?_
      show Steps p.tables e below (T2.setTop (mkF m 28 #[.val (.int c1), .val (.ref o1), .val (.int (4 : Int32)), .val (.int (0 : Int32)), .val (.ref w_NO_SUCH_PROGRAM)] [])) _
      refine XS.aload X2.here hx rfl (hb hby d_p35_m5_28) rfl rfl ?_
      exact k
    refine Go.retA X2 hx hlk hret rfl rfl (hb hby d_p35_m5_30) (by decide) (by decide) e2 ?_
    exact ⟨by rw [hr]; simp [hy3.symm], N1, K⟩
  · skip
    refine Go.by (T' := T2) (g' := (mkF m 16 #[.val (.int c1), .val (.ref o1), .val (.int (4 : Int32)), .val (.int (1 : Int32)), .val (.ref w_NO_SUCH_PROGRAM)] [(.int (1 : Int32)), (.ref o1)])) (fun t k => ?_) ?_
    · show Steps p.tables e below (T2.setTop (mkF m 25 #[.val (.int c1), .val (.ref o1), .val (.int (4 : Int32)), .val (.int (0 : Int32)), .val (.ref w_NO_SUCH_PROGRAM)] [(.int c1), (.int (0 : Int32))])) _
      refine XS.icmpYes X2.here hx rfl (pc0 := 25) (pc' := 31) rfl (hb hby d_p35_m5_25) rfl (feq hy3).2 (by decide) (by decide) ?_
      show Steps p.tables e below (T2.setTop (mkF m 31 #[.val (.int c1), .val (.ref o1), .val (.int (4 : Int32)), .val (.int (0 : Int32)), .val (.ref w_NO_SUCH_PROGRAM)] [])) _
      refine XS.iinc X2.here hx rfl (hb hby d_p35_m5_31) rfl (l' := #[.val (.int c1), .val (.ref o1), .val (.int (4 : Int32)), .val (.int (1 : Int32)), .val (.ref w_NO_SUCH_PROGRAM)]) rfl ?_
      show Steps p.tables e below (T2.setTop (mkF m 34 #[.val (.int c1), .val (.ref o1), .val (.int (4 : Int32)), .val (.int (1 : Int32)), .val (.ref w_NO_SUCH_PROGRAM)] [])) _
      refine XS.goto X2.here hx rfl (pc0 := 34) (pc' := 9) rfl (hb hby d_p35_m5_34) (by decide) (by decide) ?_
      show Steps p.tables e below (T2.setTop (mkF m 9 #[.val (.int c1), .val (.ref o1), .val (.int (4 : Int32)), .val (.int (1 : Int32)), .val (.ref w_NO_SUCH_PROGRAM)] [])) _
      refine XS.iloadN X2.here hx rfl (hb hby d_p35_m5_9) rfl ?_
      show Steps p.tables e below (T2.setTop (mkF m 10 #[.val (.int c1), .val (.ref o1), .val (.int (4 : Int32)), .val (.int (1 : Int32)), .val (.ref w_NO_SUCH_PROGRAM)] [(.int (1 : Int32))])) _
      refine XS.iloadN X2.here hx rfl (hb hby d_p35_m5_10) rfl ?_
      show Steps p.tables e below (T2.setTop (mkF m 11 #[.val (.int c1), .val (.ref o1), .val (.int (4 : Int32)), .val (.int (1 : Int32)), .val (.ref w_NO_SUCH_PROGRAM)] [(.int (4 : Int32)), (.int (1 : Int32))])) _
      refine XS.icmpNo X2.here hx rfl (hb hby d_p35_m5_11) rfl (tlt (by decide : (1 : Int32) < (4 : Int32))).2.1 ?_
      show Steps p.tables e below (T2.setTop (mkF m 14 #[.val (.int c1), .val (.ref o1), .val (.int (4 : Int32)), .val (.int (1 : Int32)), .val (.ref w_NO_SUCH_PROGRAM)] [])) _
      refine XS.aloadN X2.here hx rfl (hb hby d_p35_m5_14) rfl rfl ?_
      show Steps p.tables e below (T2.setTop (mkF m 15 #[.val (.int c1), .val (.ref o1), .val (.int (4 : Int32)), .val (.int (1 : Int32)), .val (.ref w_NO_SUCH_PROGRAM)] [(.ref o1)])) _
      refine XS.iloadN X2.here hx rfl (hb hby d_p35_m5_15) rfl ?_
      exact k
    refine Go.aload X2 hx hZ e2 A_o1 (j := (1 : Int32)) (v := .ref w_NO_SUCH_VERSION) (by show ¬ (_ ∨ cl_V.slots.size ≤ _); rw [z_V]; decide) (show cl_V.slots[((1 : Int32)).toNatClampNeg]? = _ from t_NO_SUCH_VERSION) (Or.inr (Or.inr (Or.inl ⟨rfl, rfl⟩))) (hb hby d_p35_m5_16) ?_
    show Go p e below _ T2 (mkF m 17 #[.val (.int c1), .val (.ref o1), .val (.int (4 : Int32)), .val (.int (1 : Int32)), .val (.ref w_NO_SUCH_PROGRAM)] [(.ref w_NO_SUCH_VERSION)])
    refine Go.by (T' := T2) (g' := (mkF m 21 #[.val (.int c1), .val (.ref o1), .val (.int (4 : Int32)), .val (.int (1 : Int32)), .val (.ref w_NO_SUCH_VERSION)] [(.ref w_NO_SUCH_VERSION)])) (fun t k => ?_) ?_
    · show Steps p.tables e below (T2.setTop (mkF m 17 #[.val (.int c1), .val (.ref o1), .val (.int (4 : Int32)), .val (.int (1 : Int32)), .val (.ref w_NO_SUCH_PROGRAM)] [(.ref w_NO_SUCH_VERSION)])) _
      refine XS.astore X2.here hx rfl (hb hby d_p35_m5_17) rfl rfl (l' := #[.val (.int c1), .val (.ref o1), .val (.int (4 : Int32)), .val (.int (1 : Int32)), .val (.ref w_NO_SUCH_VERSION)]) rfl ?_
      show Steps p.tables e below (T2.setTop (mkF m 19 #[.val (.int c1), .val (.ref o1), .val (.int (4 : Int32)), .val (.int (1 : Int32)), .val (.ref w_NO_SUCH_VERSION)] [])) _
      refine XS.aload X2.here hx rfl (hb hby d_p35_m5_19) rfl rfl ?_
      exact k
    refine Go.getF X2 hx hZ hown (wd hw 23 rfl) Via.refl e2 (F_NO_SUCH_VERSION.ext O.2) (hb hby d_p35_m5_21) ?_
    intro T4 X4 e4
    show Go p e below _ T4 (mkF m 24 #[.val (.int c1), .val (.ref o1), .val (.int (4 : Int32)), .val (.int (1 : Int32)), .val (.ref w_NO_SUCH_VERSION)] [(.int (1 : Int32))])
    refine Go.by (T' := T4) (g' := (mkF m 25 #[.val (.int c1), .val (.ref o1), .val (.int (4 : Int32)), .val (.int (1 : Int32)), .val (.ref w_NO_SUCH_VERSION)] [(.int c1), (.int (1 : Int32))])) (fun t k => ?_) ?_
    · show Steps p.tables e below (T4.setTop (mkF m 24 #[.val (.int c1), .val (.ref o1), .val (.int (4 : Int32)), .val (.int (1 : Int32)), .val (.ref w_NO_SUCH_VERSION)] [(.int (1 : Int32))])) _
      refine XS.iloadN X4.here hx rfl (hb hby d_p35_m5_24) rfl ?_
      exact k
    by_cases hy5 : (1 : Int32) = c1
    · skip
      refine Go.by (T' := T4) (g' := (mkF m 30 #[.val (.int c1), .val (.ref o1), .val (.int (4 : Int32)), .val (.int (1 : Int32)), .val (.ref w_NO_SUCH_VERSION)] [(.ref w_NO_SUCH_VERSION)])) (fun t k => ?_) ?_
      · show Steps p.tables e below (T4.setTop (mkF m 25 #[.val (.int c1), .val (.ref o1), .val (.int (4 : Int32)), .val (.int (1 : Int32)), .val (.ref w_NO_SUCH_VERSION)] [(.int c1), (.int (1 : Int32))])) _
        refine XS.icmpNo X4.here hx rfl (hb hby d_p35_m5_25) rfl (teq hy5).2 ?_
        show Steps p.tables e below (T4.setTop (mkF m 28 #[.val (.int c1), .val (.ref o1), .val (.int (4 : Int32)), .val (.int (1 : Int32)), .val (.ref w_NO_SUCH_VERSION)] [])) _
        refine XS.aload X4.here hx rfl (hb hby d_p35_m5_28) rfl rfl ?_
        exact k
      refine Go.retA X4 hx hlk hret rfl rfl (hb hby d_p35_m5_30) (by decide) (by decide) e4 ?_
      exact ⟨by rw [hr]; simp [(Ne.symm hy3), hy5.symm], N1, K⟩
    · skip
      refine Go.by (T' := T4) (g' := (mkF m 16 #[.val (.int c1), .val (.ref o1), .val (.int (4 : Int32)), .val (.int (2 : Int32)), .val (.ref w_NO_SUCH_VERSION)] [(.int (2 : Int32)), (.ref o1)])) (fun t k => ?_) ?_
      · show Steps p.tables e below (T4.setTop (mkF m 25 #[.val (.int c1), .val (.ref o1), .val (.int (4 : Int32)), .val (.int (1 : Int32)), .val (.ref w_NO_SUCH_VERSION)] [(.int c1), (.int (1 : Int32))])) _
        refine XS.icmpYes X4.here hx rfl (pc0 := 25) (pc' := 31) rfl (hb hby d_p35_m5_25) rfl (feq hy5).2 (by decide) (by decide) ?_
        show Steps p.tables e below (T4.setTop (mkF m 31 #[.val (.int c1), .val (.ref o1), .val (.int (4 : Int32)), .val (.int (1 : Int32)), .val (.ref w_NO_SUCH_VERSION)] [])) _
        refine XS.iinc X4.here hx rfl (hb hby d_p35_m5_31) rfl (l' := #[.val (.int c1), .val (.ref o1), .val (.int (4 : Int32)), .val (.int (2 : Int32)), .val (.ref w_NO_SUCH_VERSION)]) rfl ?_
        show Steps p.tables e below (T4.setTop (mkF m 34 #[.val (.int c1), .val (.ref o1), .val (.int (4 : Int32)), .val (.int (2 : Int32)), .val (.ref w_NO_SUCH_VERSION)] [])) _
        refine XS.goto X4.here hx rfl (pc0 := 34) (pc' := 9) rfl (hb hby d_p35_m5_34) (by decide) (by decide) ?_
        show Steps p.tables e below (T4.setTop (mkF m 9 #[.val (.int c1), .val (.ref o1), .val (.int (4 : Int32)), .val (.int (2 : Int32)), .val (.ref w_NO_SUCH_VERSION)] [])) _
        refine XS.iloadN X4.here hx rfl (hb hby d_p35_m5_9) rfl ?_
        show Steps p.tables e below (T4.setTop (mkF m 10 #[.val (.int c1), .val (.ref o1), .val (.int (4 : Int32)), .val (.int (2 : Int32)), .val (.ref w_NO_SUCH_VERSION)] [(.int (2 : Int32))])) _
        refine XS.iloadN X4.here hx rfl (hb hby d_p35_m5_10) rfl ?_
        show Steps p.tables e below (T4.setTop (mkF m 11 #[.val (.int c1), .val (.ref o1), .val (.int (4 : Int32)), .val (.int (2 : Int32)), .val (.ref w_NO_SUCH_VERSION)] [(.int (4 : Int32)), (.int (2 : Int32))])) _
        refine XS.icmpNo X4.here hx rfl (hb hby d_p35_m5_11) rfl (tlt (by decide : (2 : Int32) < (4 : Int32))).2.1 ?_
        show Steps p.tables e below (T4.setTop (mkF m 14 #[.val (.int c1), .val (.ref o1), .val (.int (4 : Int32)), .val (.int (2 : Int32)), .val (.ref w_NO_SUCH_VERSION)] [])) _
        refine XS.aloadN X4.here hx rfl (hb hby d_p35_m5_14) rfl rfl ?_
        show Steps p.tables e below (T4.setTop (mkF m 15 #[.val (.int c1), .val (.ref o1), .val (.int (4 : Int32)), .val (.int (2 : Int32)), .val (.ref w_NO_SUCH_VERSION)] [(.ref o1)])) _
        refine XS.iloadN X4.here hx rfl (hb hby d_p35_m5_15) rfl ?_
        exact k
      refine Go.aload X4 hx hZ e4 A_o1 (j := (2 : Int32)) (v := .ref w_NO_SUCH_PROCEDURE) (by show ¬ (_ ∨ cl_V.slots.size ≤ _); rw [z_V]; decide) (show cl_V.slots[((2 : Int32)).toNatClampNeg]? = _ from t_NO_SUCH_PROCEDURE) (Or.inr (Or.inr (Or.inl ⟨rfl, rfl⟩))) (hb hby d_p35_m5_16) ?_
      show Go p e below _ T4 (mkF m 17 #[.val (.int c1), .val (.ref o1), .val (.int (4 : Int32)), .val (.int (2 : Int32)), .val (.ref w_NO_SUCH_VERSION)] [(.ref w_NO_SUCH_PROCEDURE)])
      refine Go.by (T' := T4) (g' := (mkF m 21 #[.val (.int c1), .val (.ref o1), .val (.int (4 : Int32)), .val (.int (2 : Int32)), .val (.ref w_NO_SUCH_PROCEDURE)] [(.ref w_NO_SUCH_PROCEDURE)])) (fun t k => ?_) ?_
      · show Steps p.tables e below (T4.setTop (mkF m 17 #[.val (.int c1), .val (.ref o1), .val (.int (4 : Int32)), .val (.int (2 : Int32)), .val (.ref w_NO_SUCH_VERSION)] [(.ref w_NO_SUCH_PROCEDURE)])) _
        refine XS.astore X4.here hx rfl (hb hby d_p35_m5_17) rfl rfl (l' := #[.val (.int c1), .val (.ref o1), .val (.int (4 : Int32)), .val (.int (2 : Int32)), .val (.ref w_NO_SUCH_PROCEDURE)]) rfl ?_
        show Steps p.tables e below (T4.setTop (mkF m 19 #[.val (.int c1), .val (.ref o1), .val (.int (4 : Int32)), .val (.int (2 : Int32)), .val (.ref w_NO_SUCH_PROCEDURE)] [])) _
        refine XS.aload X4.here hx rfl (hb hby d_p35_m5_19) rfl rfl ?_
        exact k
      refine Go.getF X4 hx hZ hown (wd hw 23 rfl) Via.refl e4 (F_NO_SUCH_PROCEDURE.ext O.2) (hb hby d_p35_m5_21) ?_
      intro T6 X6 e6
      show Go p e below _ T6 (mkF m 24 #[.val (.int c1), .val (.ref o1), .val (.int (4 : Int32)), .val (.int (2 : Int32)), .val (.ref w_NO_SUCH_PROCEDURE)] [(.int (2 : Int32))])
      refine Go.by (T' := T6) (g' := (mkF m 25 #[.val (.int c1), .val (.ref o1), .val (.int (4 : Int32)), .val (.int (2 : Int32)), .val (.ref w_NO_SUCH_PROCEDURE)] [(.int c1), (.int (2 : Int32))])) (fun t k => ?_) ?_
      · show Steps p.tables e below (T6.setTop (mkF m 24 #[.val (.int c1), .val (.ref o1), .val (.int (4 : Int32)), .val (.int (2 : Int32)), .val (.ref w_NO_SUCH_PROCEDURE)] [(.int (2 : Int32))])) _
        refine XS.iloadN X6.here hx rfl (hb hby d_p35_m5_24) rfl ?_
        exact k
      by_cases hy7 : (2 : Int32) = c1
      · skip
        refine Go.by (T' := T6) (g' := (mkF m 30 #[.val (.int c1), .val (.ref o1), .val (.int (4 : Int32)), .val (.int (2 : Int32)), .val (.ref w_NO_SUCH_PROCEDURE)] [(.ref w_NO_SUCH_PROCEDURE)])) (fun t k => ?_) ?_
        · show Steps p.tables e below (T6.setTop (mkF m 25 #[.val (.int c1), .val (.ref o1), .val (.int (4 : Int32)), .val (.int (2 : Int32)), .val (.ref w_NO_SUCH_PROCEDURE)] [(.int c1), (.int (2 : Int32))])) _
          refine XS.icmpNo X6.here hx rfl (hb hby d_p35_m5_25) rfl (teq hy7).2 ?_
          show Steps p.tables e below (T6.setTop (mkF m 28 #[.val (.int c1), .val (.ref o1), .val (.int (4 : Int32)), .val (.int (2 : Int32)), .val (.ref w_NO_SUCH_PROCEDURE)] [])) _
          refine XS.aload X6.here hx rfl (hb hby d_p35_m5_28) rfl rfl ?_
          exact k
        refine Go.retA X6 hx hlk hret rfl rfl (hb hby d_p35_m5_30) (by decide) (by decide) e6 ?_
        exact ⟨by rw [hr]; simp [(Ne.symm hy3), (Ne.symm hy5), hy7.symm], N1, K⟩
      · skip
        refine Go.by (T' := T6) (g' := (mkF m 16 #[.val (.int c1), .val (.ref o1), .val (.int (4 : Int32)), .val (.int (3 : Int32)), .val (.ref w_NO_SUCH_PROCEDURE)] [(.int (3 : Int32)), (.ref o1)])) (fun t k => ?_) ?_
        · show Steps p.tables e below (T6.setTop (mkF m 25 #[.val (.int c1), .val (.ref o1), .val (.int (4 : Int32)), .val (.int (2 : Int32)), .val (.ref w_NO_SUCH_PROCEDURE)] [(.int c1), (.int (2 : Int32))])) _
          refine XS.icmpYes X6.here hx rfl (pc0 := 25) (pc' := 31) rfl (hb hby d_p35_m5_25) rfl (feq hy7).2 (by decide) (by decide) ?_
          show Steps p.tables e below (T6.setTop (mkF m 31 #[.val (.int c1), .val (.ref o1), .val (.int (4 : Int32)), .val (.int (2 : Int32)), .val (.ref w_NO_SUCH_PROCEDURE)] [])) _
          refine XS.iinc X6.here hx rfl (hb hby d_p35_m5_31) rfl (l' := #[.val (.int c1), .val (.ref o1), .val (.int (4 : Int32)), .val (.int (3 : Int32)), .val (.ref w_NO_SUCH_PROCEDURE)]) rfl ?_
          show Steps p.tables e below (T6.setTop (mkF m 34 #[.val (.int c1), .val (.ref o1), .val (.int (4 : Int32)), .val (.int (3 : Int32)), .val (.ref w_NO_SUCH_PROCEDURE)] [])) _
          refine XS.goto X6.here hx rfl (pc0 := 34) (pc' := 9) rfl (hb hby d_p35_m5_34) (by decide) (by decide) ?_
          show Steps p.tables e below (T6.setTop (mkF m 9 #[.val (.int c1), .val (.ref o1), .val (.int (4 : Int32)), .val (.int (3 : Int32)), .val (.ref w_NO_SUCH_PROCEDURE)] [])) _
          refine XS.iloadN X6.here hx rfl (hb hby d_p35_m5_9) rfl ?_
          show Steps p.tables e below (T6.setTop (mkF m 10 #[.val (.int c1), .val (.ref o1), .val (.int (4 : Int32)), .val (.int (3 : Int32)), .val (.ref w_NO_SUCH_PROCEDURE)] [(.int (3 : Int32))])) _
          refine XS.iloadN X6.here hx rfl (hb hby d_p35_m5_10) rfl ?_
          show Steps p.tables e below (T6.setTop (mkF m 11 #[.val (.int c1), .val (.ref o1), .val (.int (4 : Int32)), .val (.int (3 : Int32)), .val (.ref w_NO_SUCH_PROCEDURE)] [(.int (4 : Int32)), (.int (3 : Int32))])) _
          refine XS.icmpNo X6.here hx rfl (hb hby d_p35_m5_11) rfl (tlt (by decide : (3 : Int32) < (4 : Int32))).2.1 ?_
          show Steps p.tables e below (T6.setTop (mkF m 14 #[.val (.int c1), .val (.ref o1), .val (.int (4 : Int32)), .val (.int (3 : Int32)), .val (.ref w_NO_SUCH_PROCEDURE)] [])) _
          refine XS.aloadN X6.here hx rfl (hb hby d_p35_m5_14) rfl rfl ?_
          show Steps p.tables e below (T6.setTop (mkF m 15 #[.val (.int c1), .val (.ref o1), .val (.int (4 : Int32)), .val (.int (3 : Int32)), .val (.ref w_NO_SUCH_PROCEDURE)] [(.ref o1)])) _
          refine XS.iloadN X6.here hx rfl (hb hby d_p35_m5_15) rfl ?_
          exact k
        refine Go.aload X6 hx hZ e6 A_o1 (j := (3 : Int32)) (v := .ref w_INVALID_ARGUMENT) (by show ¬ (_ ∨ cl_V.slots.size ≤ _); rw [z_V]; decide) (show cl_V.slots[((3 : Int32)).toNatClampNeg]? = _ from t_INVALID_ARGUMENT) (Or.inr (Or.inr (Or.inl ⟨rfl, rfl⟩))) (hb hby d_p35_m5_16) ?_
        show Go p e below _ T6 (mkF m 17 #[.val (.int c1), .val (.ref o1), .val (.int (4 : Int32)), .val (.int (3 : Int32)), .val (.ref w_NO_SUCH_PROCEDURE)] [(.ref w_INVALID_ARGUMENT)])
        refine Go.by (T' := T6) (g' := (mkF m 21 #[.val (.int c1), .val (.ref o1), .val (.int (4 : Int32)), .val (.int (3 : Int32)), .val (.ref w_INVALID_ARGUMENT)] [(.ref w_INVALID_ARGUMENT)])) (fun t k => ?_) ?_
        · show Steps p.tables e below (T6.setTop (mkF m 17 #[.val (.int c1), .val (.ref o1), .val (.int (4 : Int32)), .val (.int (3 : Int32)), .val (.ref w_NO_SUCH_PROCEDURE)] [(.ref w_INVALID_ARGUMENT)])) _
          refine XS.astore X6.here hx rfl (hb hby d_p35_m5_17) rfl rfl (l' := #[.val (.int c1), .val (.ref o1), .val (.int (4 : Int32)), .val (.int (3 : Int32)), .val (.ref w_INVALID_ARGUMENT)]) rfl ?_
          show Steps p.tables e below (T6.setTop (mkF m 19 #[.val (.int c1), .val (.ref o1), .val (.int (4 : Int32)), .val (.int (3 : Int32)), .val (.ref w_INVALID_ARGUMENT)] [])) _
          refine XS.aload X6.here hx rfl (hb hby d_p35_m5_19) rfl rfl ?_
          exact k
        refine Go.getF X6 hx hZ hown (wd hw 23 rfl) Via.refl e6 (F_INVALID_ARGUMENT.ext O.2) (hb hby d_p35_m5_21) ?_
        intro T8 X8 e8
        show Go p e below _ T8 (mkF m 24 #[.val (.int c1), .val (.ref o1), .val (.int (4 : Int32)), .val (.int (3 : Int32)), .val (.ref w_INVALID_ARGUMENT)] [(.int (3 : Int32))])
        refine Go.by (T' := T8) (g' := (mkF m 25 #[.val (.int c1), .val (.ref o1), .val (.int (4 : Int32)), .val (.int (3 : Int32)), .val (.ref w_INVALID_ARGUMENT)] [(.int c1), (.int (3 : Int32))])) (fun t k => ?_) ?_
        · show Steps p.tables e below (T8.setTop (mkF m 24 #[.val (.int c1), .val (.ref o1), .val (.int (4 : Int32)), .val (.int (3 : Int32)), .val (.ref w_INVALID_ARGUMENT)] [(.int (3 : Int32))])) _
          refine XS.iloadN X8.here hx rfl (hb hby d_p35_m5_24) rfl ?_
          exact k
        by_cases hy9 : (3 : Int32) = c1
        · skip
          refine Go.by (T' := T8) (g' := (mkF m 30 #[.val (.int c1), .val (.ref o1), .val (.int (4 : Int32)), .val (.int (3 : Int32)), .val (.ref w_INVALID_ARGUMENT)] [(.ref w_INVALID_ARGUMENT)])) (fun t k => ?_) ?_
          · show Steps p.tables e below (T8.setTop (mkF m 25 #[.val (.int c1), .val (.ref o1), .val (.int (4 : Int32)), .val (.int (3 : Int32)), .val (.ref w_INVALID_ARGUMENT)] [(.int c1), (.int (3 : Int32))])) _
            refine XS.icmpNo X8.here hx rfl (hb hby d_p35_m5_25) rfl (teq hy9).2 ?_
            show Steps p.tables e below (T8.setTop (mkF m 28 #[.val (.int c1), .val (.ref o1), .val (.int (4 : Int32)), .val (.int (3 : Int32)), .val (.ref w_INVALID_ARGUMENT)] [])) _
            refine XS.aload X8.here hx rfl (hb hby d_p35_m5_28) rfl rfl ?_
            exact k
          refine Go.retA X8 hx hlk hret rfl rfl (hb hby d_p35_m5_30) (by decide) (by decide) e8 ?_
          exact ⟨by rw [hr]; simp [(Ne.symm hy3), (Ne.symm hy5), (Ne.symm hy7), hy9.symm], N1, K⟩
        · skip
          refine Go.by (T' := T8) (g' := (mkF m 38 #[.val (.int c1), .val (.ref o1), .val (.int (4 : Int32)), .val (.int (4 : Int32)), .val (.ref w_INVALID_ARGUMENT)] [.null])) (fun t k => ?_) ?_
          · show Steps p.tables e below (T8.setTop (mkF m 25 #[.val (.int c1), .val (.ref o1), .val (.int (4 : Int32)), .val (.int (3 : Int32)), .val (.ref w_INVALID_ARGUMENT)] [(.int c1), (.int (3 : Int32))])) _
            refine XS.icmpYes X8.here hx rfl (pc0 := 25) (pc' := 31) rfl (hb hby d_p35_m5_25) rfl (feq hy9).2 (by decide) (by decide) ?_
            show Steps p.tables e below (T8.setTop (mkF m 31 #[.val (.int c1), .val (.ref o1), .val (.int (4 : Int32)), .val (.int (3 : Int32)), .val (.ref w_INVALID_ARGUMENT)] [])) _
            refine XS.iinc X8.here hx rfl (hb hby d_p35_m5_31) rfl (l' := #[.val (.int c1), .val (.ref o1), .val (.int (4 : Int32)), .val (.int (4 : Int32)), .val (.ref w_INVALID_ARGUMENT)]) rfl ?_
            show Steps p.tables e below (T8.setTop (mkF m 34 #[.val (.int c1), .val (.ref o1), .val (.int (4 : Int32)), .val (.int (4 : Int32)), .val (.ref w_INVALID_ARGUMENT)] [])) _
            refine XS.goto X8.here hx rfl (pc0 := 34) (pc' := 9) rfl (hb hby d_p35_m5_34) (by decide) (by decide) ?_
            show Steps p.tables e below (T8.setTop (mkF m 9 #[.val (.int c1), .val (.ref o1), .val (.int (4 : Int32)), .val (.int (4 : Int32)), .val (.ref w_INVALID_ARGUMENT)] [])) _
            refine XS.iloadN X8.here hx rfl (hb hby d_p35_m5_9) rfl ?_
            show Steps p.tables e below (T8.setTop (mkF m 10 #[.val (.int c1), .val (.ref o1), .val (.int (4 : Int32)), .val (.int (4 : Int32)), .val (.ref w_INVALID_ARGUMENT)] [(.int (4 : Int32))])) _
            refine XS.iloadN X8.here hx rfl (hb hby d_p35_m5_10) rfl ?_
            show Steps p.tables e below (T8.setTop (mkF m 11 #[.val (.int c1), .val (.ref o1), .val (.int (4 : Int32)), .val (.int (4 : Int32)), .val (.ref w_INVALID_ARGUMENT)] [(.int (4 : Int32)), (.int (4 : Int32))])) _
            refine XS.icmpYes X8.here hx rfl (pc0 := 11) (pc' := 37) rfl (hb hby d_p35_m5_11) rfl (flt (by decide : ¬ (4 : Int32) < (4 : Int32))).2.1 (by decide) (by decide) ?_
            show Steps p.tables e below (T8.setTop (mkF m 37 #[.val (.int c1), .val (.ref o1), .val (.int (4 : Int32)), .val (.int (4 : Int32)), .val (.ref w_INVALID_ARGUMENT)] [])) _
            refine XS.aconstNull X8.here hx rfl (hb hby d_p35_m5_37) ?_
            exact k
          refine Go.retA X8 hx hlk hret rfl rfl (hb hby d_p35_m5_38) (by decide) (by decide) e8 ?_
          exact ⟨by rw [hr]; simp [(Ne.symm hy3), (Ne.symm hy5), (Ne.symm hy7), (Ne.symm hy9)], N1, K⟩
set_option maxRecDepth 65536 in
set_option maxHeartbeats 40000000 in
theorem ct_expected (l : Launch) (Z : State) (a0 : Array Value) (hw : ∀ d ∈ tables_1, d.before a0 Z = true) (w_NO_SUCH_PROGRAM : Addr) (w_NO_SUCH_VERSION : Addr) (w_NO_SUCH_PROCEDURE : Addr) (w_INVALID_ARGUMENT : Addr) (w_V : Addr) (cl_V : Cell) (E_NO_SUCH_PROGRAM : Exa Z Z.heap w_NO_SUCH_PROGRAM "com/example/ferrule/ferrule/RejectReason") (E_NO_SUCH_VERSION : Exa Z Z.heap w_NO_SUCH_VERSION "com/example/ferrule/ferrule/RejectReason") (E_NO_SUCH_PROCEDURE : Exa Z Z.heap w_NO_SUCH_PROCEDURE "com/example/ferrule/ferrule/RejectReason") (E_INVALID_ARGUMENT : Exa Z Z.heap w_INVALID_ARGUMENT "com/example/ferrule/ferrule/RejectReason") (F_NO_SUCH_PROGRAM : Fld Z Z.heap w_NO_SUCH_PROGRAM "com/example/ferrule/ferrule/RejectReason" "code" "S" (.int (0 : Int32))) (F_NO_SUCH_VERSION : Fld Z Z.heap w_NO_SUCH_VERSION "com/example/ferrule/ferrule/RejectReason" "code" "S" (.int (1 : Int32))) (F_NO_SUCH_PROCEDURE : Fld Z Z.heap w_NO_SUCH_PROCEDURE "com/example/ferrule/ferrule/RejectReason" "code" "S" (.int (2 : Int32))) (F_INVALID_ARGUMENT : Fld Z Z.heap w_INVALID_ARGUMENT "com/example/ferrule/ferrule/RejectReason" "code" "S" (.int (3 : Int32))) (S_V : Sta Z Z.heap "com/example/ferrule/ferrule/RejectReason" "$VALUES" "[Lcom/example/ferrule/ferrule/RejectReason;" (.ref w_V)) (A_V : Arr Z Z.heap w_V cl_V (.object "com/example/ferrule/ferrule/RejectReason")) (E_V : Exa Z Z.heap w_V "[Lcom/example/ferrule/ferrule/RejectReason;") (Q_V : FitC Z cl_V) (z_V : cl_V.slots.size = 4) (t_NO_SUCH_PROGRAM : cl_V.slots[0]? = some (.ref w_NO_SUCH_PROGRAM)) (t_NO_SUCH_VERSION : cl_V.slots[1]? = some (.ref w_NO_SUCH_VERSION)) (t_NO_SUCH_PROCEDURE : cl_V.slots[2]? = some (.ref w_NO_SUCH_PROCEDURE)) (t_INVALID_ARGUMENT : cl_V.slots[3]? = some (.ref w_INVALID_ARGUMENT)) (S_NO_SUCH_PROGRAM : Sta Z Z.heap "com/example/ferrule/ferrule/RejectReason" "NO_SUCH_PROGRAM" "Lcom/example/ferrule/ferrule/RejectReason;" (.ref w_NO_SUCH_PROGRAM)) (S_NO_SUCH_VERSION : Sta Z Z.heap "com/example/ferrule/ferrule/RejectReason" "NO_SUCH_VERSION" "Lcom/example/ferrule/ferrule/RejectReason;" (.ref w_NO_SUCH_VERSION)) (S_NO_SUCH_PROCEDURE : Sta Z Z.heap "com/example/ferrule/ferrule/RejectReason" "NO_SUCH_PROCEDURE" "Lcom/example/ferrule/ferrule/RejectReason;" (.ref w_NO_SUCH_PROCEDURE)) (S_INVALID_ARGUMENT : Sta Z Z.heap "com/example/ferrule/ferrule/RejectReason" "INVALID_ARGUMENT" "Lcom/example/ferrule/ferrule/RejectReason;" (.ref w_INVALID_ARGUMENT)) (c1 : Int32) (r : Value) (h0 : Heap) (n0 : Nat) (O : Old Z n0 h0) (hr : r = if c1 = 0 then .ref w_NO_SUCH_PROGRAM else if c1 = 1 then .ref w_NO_SUCH_VERSION else if c1 = 2 then .ref w_NO_SUCH_PROCEDURE else if c1 = 3 then .ref w_INVALID_ARGUMENT else .null) :
    Ct l (⟨"com/example/ferrule/ferrule/RejectReasonForCodePinLaw", "expected", "(S)Lcom/example/ferrule/ferrule/RejectReason;"⟩ : MethodName) method_2_code 1 (some (.object "com/example/ferrule/ferrule/RejectReason")) ({ frames := 0, cells := 0, slots := 0, locals := 0 } : Room) Z #[(.int c1)] h0 (fun v h L => v = some r ∧ Fr n0 L ∧ h0 = h) := by
  refine Ct.of (plainFor_of_name pn_RejectReasonForCodePinLaw_440) ?_
  intro p e s m below meth c T0 X0 hx hby hml hown hnm hret hlk hZ e0
  have hown : s.vm.findClass "com/example/ferrule/ferrule/RejectReasonForCodePinLaw" = some m.cls := hown
  have hml : c.maxLocals = 1 := hml
  have N0 := Fr.nil n0
  refine Go.cast (g' := mkF m 0 #[.val (.int c1)] []) (by first | (simp [entryFrame, mkF, argsToLocals, Value.category]; done) | rfl) ?_
  refine Go.by (T' := T0) (g' := (mkF m 1 #[.val (.int c1)] [(.int c1)])) (fun t k => ?_) ?_
  · show Steps p.tables e below (T0.setTop (mkF m 0 #[.val (.int c1)] [])) _
    refine XS.iloadN X0.here hx rfl (hb hby d_m2_0) rfl ?_
    exact k
  by_cases hy1 : c1 = (0 : Int32)
  · skip
    refine Go.by (T' := T0) (g' := (mkF m 4 #[.val (.int c1)] [])) (fun t k => ?_) ?_
    · show Steps p.tables e below (T0.setTop (mkF m 1 #[.val (.int c1)] [(.int c1)])) _
      refine XS.ifNo X0.here hx rfl (hb hby d_m2_1) rfl ((if0 _ _).trans (teq hy1).2) ?_
      exact k
    refine Go.getS X0 hx hZ hown (wd hw 37 rfl) Via.refl e0 (S_NO_SUCH_PROGRAM.ext O.2) (hb hby d_m2_4) ?_
    intro T2 X2 e2
    show Go p e below _ T2 (mkF m 7 #[.val (.int c1)] [(.ref w_NO_SUCH_PROGRAM)])
    refine Go.retA X2 hx hlk hret rfl rfl (hb hby d_m2_7) (by decide) (by decide) e2 ?_
    exact ⟨by rw [hr]; simp [hy1], N0, rfl⟩
  · skip
    refine Go.by (T' := T0) (g' := (mkF m 10 #[.val (.int c1)] [(.int (1 : Int32)), (.int c1)])) (fun t k => ?_) ?_
    · show Steps p.tables e below (T0.setTop (mkF m 1 #[.val (.int c1)] [(.int c1)])) _
      refine XS.ifYes X0.here hx rfl (pc0 := 1) (pc' := 8) rfl (hb hby d_m2_1) rfl ((if0 _ _).trans (feq hy1).2) (by decide) (by decide) ?_
      show Steps p.tables e below (T0.setTop (mkF m 8 #[.val (.int c1)] [])) _
      refine XS.iloadN X0.here hx rfl (hb hby d_m2_8) rfl ?_
      show Steps p.tables e below (T0.setTop (mkF m 9 #[.val (.int c1)] [(.int c1)])) _
      refine XS.iconst X0.here hx rfl (hb hby d_m2_9) ?_
      exact k
    by_cases hy3 : c1 = (1 : Int32)
    · skip
      refine Go.by (T' := T0) (g' := (mkF m 13 #[.val (.int c1)] [])) (fun t k => ?_) ?_
      · show Steps p.tables e below (T0.setTop (mkF m 10 #[.val (.int c1)] [(.int (1 : Int32)), (.int c1)])) _
        refine XS.icmpNo X0.here hx rfl (hb hby d_m2_10) rfl (teq hy3).2 ?_
        exact k
      refine Go.getS X0 hx hZ hown (wd hw 36 rfl) Via.refl e0 (S_NO_SUCH_VERSION.ext O.2) (hb hby d_m2_13) ?_
      intro T4 X4 e4
      show Go p e below _ T4 (mkF m 16 #[.val (.int c1)] [(.ref w_NO_SUCH_VERSION)])
      refine Go.retA X4 hx hlk hret rfl rfl (hb hby d_m2_16) (by decide) (by decide) e4 ?_
      exact ⟨by rw [hr]; simp [hy1, hy3], N0, rfl⟩
    · skip
      refine Go.by (T' := T0) (g' := (mkF m 19 #[.val (.int c1)] [(.int (2 : Int32)), (.int c1)])) (fun t k => ?_) ?_
      · show Steps p.tables e below (T0.setTop (mkF m 10 #[.val (.int c1)] [(.int (1 : Int32)), (.int c1)])) _
        refine XS.icmpYes X0.here hx rfl (pc0 := 10) (pc' := 17) rfl (hb hby d_m2_10) rfl (feq hy3).2 (by decide) (by decide) ?_
        show Steps p.tables e below (T0.setTop (mkF m 17 #[.val (.int c1)] [])) _
        refine XS.iloadN X0.here hx rfl (hb hby d_m2_17) rfl ?_
        show Steps p.tables e below (T0.setTop (mkF m 18 #[.val (.int c1)] [(.int c1)])) _
        refine XS.iconst X0.here hx rfl (hb hby d_m2_18) ?_
        exact k
      by_cases hy5 : c1 = (2 : Int32)
      · skip
        refine Go.by (T' := T0) (g' := (mkF m 22 #[.val (.int c1)] [])) (fun t k => ?_) ?_
        · show Steps p.tables e below (T0.setTop (mkF m 19 #[.val (.int c1)] [(.int (2 : Int32)), (.int c1)])) _
          refine XS.icmpNo X0.here hx rfl (hb hby d_m2_19) rfl (teq hy5).2 ?_
          exact k
        refine Go.getS X0 hx hZ hown (wd hw 29 rfl) Via.refl e0 (S_NO_SUCH_PROCEDURE.ext O.2) (hb hby d_m2_22) ?_
        intro T6 X6 e6
        show Go p e below _ T6 (mkF m 25 #[.val (.int c1)] [(.ref w_NO_SUCH_PROCEDURE)])
        refine Go.retA X6 hx hlk hret rfl rfl (hb hby d_m2_25) (by decide) (by decide) e6 ?_
        exact ⟨by rw [hr]; simp [hy1, hy3, hy5], N0, rfl⟩
      · skip
        refine Go.by (T' := T0) (g' := (mkF m 28 #[.val (.int c1)] [(.int (3 : Int32)), (.int c1)])) (fun t k => ?_) ?_
        · show Steps p.tables e below (T0.setTop (mkF m 19 #[.val (.int c1)] [(.int (2 : Int32)), (.int c1)])) _
          refine XS.icmpYes X0.here hx rfl (pc0 := 19) (pc' := 26) rfl (hb hby d_m2_19) rfl (feq hy5).2 (by decide) (by decide) ?_
          show Steps p.tables e below (T0.setTop (mkF m 26 #[.val (.int c1)] [])) _
          refine XS.iloadN X0.here hx rfl (hb hby d_m2_26) rfl ?_
          show Steps p.tables e below (T0.setTop (mkF m 27 #[.val (.int c1)] [(.int c1)])) _
          refine XS.iconst X0.here hx rfl (hb hby d_m2_27) ?_
          exact k
        by_cases hy7 : c1 = (3 : Int32)
        · skip
          refine Go.by (T' := T0) (g' := (mkF m 31 #[.val (.int c1)] [])) (fun t k => ?_) ?_
          · show Steps p.tables e below (T0.setTop (mkF m 28 #[.val (.int c1)] [(.int (3 : Int32)), (.int c1)])) _
            refine XS.icmpNo X0.here hx rfl (hb hby d_m2_28) rfl (teq hy7).2 ?_
            exact k
          refine Go.getS X0 hx hZ hown (wd hw 35 rfl) Via.refl e0 (S_INVALID_ARGUMENT.ext O.2) (hb hby d_m2_31) ?_
          intro T8 X8 e8
          show Go p e below _ T8 (mkF m 34 #[.val (.int c1)] [(.ref w_INVALID_ARGUMENT)])
          refine Go.retA X8 hx hlk hret rfl rfl (hb hby d_m2_34) (by decide) (by decide) e8 ?_
          exact ⟨by rw [hr]; simp [hy1, hy3, hy5, hy7], N0, rfl⟩
        · skip
          refine Go.by (T' := T0) (g' := (mkF m 36 #[.val (.int c1)] [.null])) (fun t k => ?_) ?_
          · show Steps p.tables e below (T0.setTop (mkF m 28 #[.val (.int c1)] [(.int (3 : Int32)), (.int c1)])) _
            refine XS.icmpYes X0.here hx rfl (pc0 := 28) (pc' := 35) rfl (hb hby d_m2_28) rfl (feq hy7).2 (by decide) (by decide) ?_
            show Steps p.tables e below (T0.setTop (mkF m 35 #[.val (.int c1)] [])) _
            refine XS.aconstNull X0.here hx rfl (hb hby d_m2_35) ?_
            exact k
          refine Go.retA X0 hx hlk hret rfl rfl (hb hby d_m2_36) (by decide) (by decide) e0 ?_
          exact ⟨by rw [hr]; simp [hy1, hy3, hy5, hy7], N0, rfl⟩
set_option maxRecDepth 65536 in
set_option maxHeartbeats 40000000 in
theorem ct_get_code_l_0___Int32__0 (l : Launch) (Z : State) (a0 : Array Value) (hw : ∀ d ∈ tables_1, d.before a0 Z = true) (a1 : Addr) (h0 : Heap) (n0 : Nat) (O : Old Z n0 h0) (F_a1 : Fld Z h0 a1 "com/example/ferrule/ferrule/RejectReason" "code" "S" (.int (0 : Int32))) :
    Ct l (⟨"com/example/ferrule/ferrule/RejectReason", "code", "()S"⟩ : MethodName) prog_35_method_4_code 1 (some .short) ({ frames := 0, cells := 0, slots := 0, locals := 0 } : Room) Z #[(.ref a1)] h0 (fun v h L => v = some (.int (0 : Int32)) ∧ Fr n0 L ∧ h0 = h) := by
  refine Ct.of (plainFor_of_name pn_RejectReason_863) ?_
  intro p e s m below meth c T0 X0 hx hby hml hown hnm hret hlk hZ e0
  have hown : s.vm.findClass "com/example/ferrule/ferrule/RejectReason" = some m.cls := hown
  have hml : c.maxLocals = 1 := hml
  have N0 := Fr.nil n0
  refine Go.cast (g' := mkF m 0 #[.val (.ref a1)] []) (by first | (simp [entryFrame, mkF, argsToLocals, Value.category]; done) | rfl) ?_
  refine Go.by (T' := T0) (g' := (mkF m 1 #[.val (.ref a1)] [(.ref a1)])) (fun t k => ?_) ?_
  · show Steps p.tables e below (T0.setTop (mkF m 0 #[.val (.ref a1)] [])) _
    refine XS.aloadN X0.here hx rfl (hb hby d_p35_m4_0) rfl rfl ?_
    exact k
  refine Go.getF X0 hx hZ hown (wd hw 23 rfl) Via.refl e0 F_a1 (hb hby d_p35_m4_1) ?_
  intro T1 X1 e1
  show Go p e below _ T1 (mkF m 4 #[.val (.ref a1)] [(.int (0 : Int32))])
  refine Go.retS X1 hx hlk hret (by simp) rfl (hb hby d_p35_m4_4) (by decide) (by decide) e1 ?_
  exact ⟨rfl, N0, rfl⟩
set_option maxRecDepth 65536 in
set_option maxHeartbeats 40000000 in
theorem ct_get_code_l_1___Int32__1 (l : Launch) (Z : State) (a0 : Array Value) (hw : ∀ d ∈ tables_1, d.before a0 Z = true) (a1 : Addr) (h0 : Heap) (n0 : Nat) (O : Old Z n0 h0) (F_a1 : Fld Z h0 a1 "com/example/ferrule/ferrule/RejectReason" "code" "S" (.int (1 : Int32))) :
    Ct l (⟨"com/example/ferrule/ferrule/RejectReason", "code", "()S"⟩ : MethodName) prog_35_method_4_code 1 (some .short) ({ frames := 0, cells := 0, slots := 0, locals := 0 } : Room) Z #[(.ref a1)] h0 (fun v h L => v = some (.int (1 : Int32)) ∧ Fr n0 L ∧ h0 = h) := by
  refine Ct.of (plainFor_of_name pn_RejectReason_863) ?_
  intro p e s m below meth c T0 X0 hx hby hml hown hnm hret hlk hZ e0
  have hown : s.vm.findClass "com/example/ferrule/ferrule/RejectReason" = some m.cls := hown
  have hml : c.maxLocals = 1 := hml
  have N0 := Fr.nil n0
  refine Go.cast (g' := mkF m 0 #[.val (.ref a1)] []) (by first | (simp [entryFrame, mkF, argsToLocals, Value.category]; done) | rfl) ?_
  refine Go.by (T' := T0) (g' := (mkF m 1 #[.val (.ref a1)] [(.ref a1)])) (fun t k => ?_) ?_
  · show Steps p.tables e below (T0.setTop (mkF m 0 #[.val (.ref a1)] [])) _
    refine XS.aloadN X0.here hx rfl (hb hby d_p35_m4_0) rfl rfl ?_
    exact k
  refine Go.getF X0 hx hZ hown (wd hw 23 rfl) Via.refl e0 F_a1 (hb hby d_p35_m4_1) ?_
  intro T1 X1 e1
  show Go p e below _ T1 (mkF m 4 #[.val (.ref a1)] [(.int (1 : Int32))])
  refine Go.retS X1 hx hlk hret (by simp) rfl (hb hby d_p35_m4_4) (by decide) (by decide) e1 ?_
  exact ⟨rfl, N0, rfl⟩
set_option maxRecDepth 65536 in
set_option maxHeartbeats 40000000 in
theorem ct_get_code_l_2___Int32__2 (l : Launch) (Z : State) (a0 : Array Value) (hw : ∀ d ∈ tables_1, d.before a0 Z = true) (a1 : Addr) (h0 : Heap) (n0 : Nat) (O : Old Z n0 h0) (F_a1 : Fld Z h0 a1 "com/example/ferrule/ferrule/RejectReason" "code" "S" (.int (2 : Int32))) :
    Ct l (⟨"com/example/ferrule/ferrule/RejectReason", "code", "()S"⟩ : MethodName) prog_35_method_4_code 1 (some .short) ({ frames := 0, cells := 0, slots := 0, locals := 0 } : Room) Z #[(.ref a1)] h0 (fun v h L => v = some (.int (2 : Int32)) ∧ Fr n0 L ∧ h0 = h) := by
  refine Ct.of (plainFor_of_name pn_RejectReason_863) ?_
  intro p e s m below meth c T0 X0 hx hby hml hown hnm hret hlk hZ e0
  have hown : s.vm.findClass "com/example/ferrule/ferrule/RejectReason" = some m.cls := hown
  have hml : c.maxLocals = 1 := hml
  have N0 := Fr.nil n0
  refine Go.cast (g' := mkF m 0 #[.val (.ref a1)] []) (by first | (simp [entryFrame, mkF, argsToLocals, Value.category]; done) | rfl) ?_
  refine Go.by (T' := T0) (g' := (mkF m 1 #[.val (.ref a1)] [(.ref a1)])) (fun t k => ?_) ?_
  · show Steps p.tables e below (T0.setTop (mkF m 0 #[.val (.ref a1)] [])) _
    refine XS.aloadN X0.here hx rfl (hb hby d_p35_m4_0) rfl rfl ?_
    exact k
  refine Go.getF X0 hx hZ hown (wd hw 23 rfl) Via.refl e0 F_a1 (hb hby d_p35_m4_1) ?_
  intro T1 X1 e1
  show Go p e below _ T1 (mkF m 4 #[.val (.ref a1)] [(.int (2 : Int32))])
  refine Go.retS X1 hx hlk hret (by simp) rfl (hb hby d_p35_m4_4) (by decide) (by decide) e1 ?_
  exact ⟨rfl, N0, rfl⟩
set_option maxRecDepth 65536 in
set_option maxHeartbeats 40000000 in
theorem ct_get_code_l_3___Int32__3 (l : Launch) (Z : State) (a0 : Array Value) (hw : ∀ d ∈ tables_1, d.before a0 Z = true) (a1 : Addr) (h0 : Heap) (n0 : Nat) (O : Old Z n0 h0) (F_a1 : Fld Z h0 a1 "com/example/ferrule/ferrule/RejectReason" "code" "S" (.int (3 : Int32))) :
    Ct l (⟨"com/example/ferrule/ferrule/RejectReason", "code", "()S"⟩ : MethodName) prog_35_method_4_code 1 (some .short) ({ frames := 0, cells := 0, slots := 0, locals := 0 } : Room) Z #[(.ref a1)] h0 (fun v h L => v = some (.int (3 : Int32)) ∧ Fr n0 L ∧ h0 = h) := by
  refine Ct.of (plainFor_of_name pn_RejectReason_863) ?_
  intro p e s m below meth c T0 X0 hx hby hml hown hnm hret hlk hZ e0
  have hown : s.vm.findClass "com/example/ferrule/ferrule/RejectReason" = some m.cls := hown
  have hml : c.maxLocals = 1 := hml
  have N0 := Fr.nil n0
  refine Go.cast (g' := mkF m 0 #[.val (.ref a1)] []) (by first | (simp [entryFrame, mkF, argsToLocals, Value.category]; done) | rfl) ?_
  refine Go.by (T' := T0) (g' := (mkF m 1 #[.val (.ref a1)] [(.ref a1)])) (fun t k => ?_) ?_
  · show Steps p.tables e below (T0.setTop (mkF m 0 #[.val (.ref a1)] [])) _
    refine XS.aloadN X0.here hx rfl (hb hby d_p35_m4_0) rfl rfl ?_
    exact k
  refine Go.getF X0 hx hZ hown (wd hw 23 rfl) Via.refl e0 F_a1 (hb hby d_p35_m4_1) ?_
  intro T1 X1 e1
  show Go p e below _ T1 (mkF m 4 #[.val (.ref a1)] [(.int (3 : Int32))])
  refine Go.retS X1 hx hlk hret (by simp) rfl (hb hby d_p35_m4_4) (by decide) (by decide) e1 ?_
  exact ⟨rfl, N0, rfl⟩
set_option maxRecDepth 65536 in
set_option maxHeartbeats 40000000 in
theorem ct_law (l : Launch) (Z : State) (a0 : Array Value) (hw : ∀ d ∈ tables_1, d.before a0 Z = true) (w_NO_SUCH_PROGRAM : Addr) (w_NO_SUCH_VERSION : Addr) (w_NO_SUCH_PROCEDURE : Addr) (w_INVALID_ARGUMENT : Addr) (w_V : Addr) (cl_V : Cell) (E_NO_SUCH_PROGRAM : Exa Z Z.heap w_NO_SUCH_PROGRAM "com/example/ferrule/ferrule/RejectReason") (E_NO_SUCH_VERSION : Exa Z Z.heap w_NO_SUCH_VERSION "com/example/ferrule/ferrule/RejectReason") (E_NO_SUCH_PROCEDURE : Exa Z Z.heap w_NO_SUCH_PROCEDURE "com/example/ferrule/ferrule/RejectReason") (E_INVALID_ARGUMENT : Exa Z Z.heap w_INVALID_ARGUMENT "com/example/ferrule/ferrule/RejectReason") (F_NO_SUCH_PROGRAM : Fld Z Z.heap w_NO_SUCH_PROGRAM "com/example/ferrule/ferrule/RejectReason" "code" "S" (.int (0 : Int32))) (F_NO_SUCH_VERSION : Fld Z Z.heap w_NO_SUCH_VERSION "com/example/ferrule/ferrule/RejectReason" "code" "S" (.int (1 : Int32))) (F_NO_SUCH_PROCEDURE : Fld Z Z.heap w_NO_SUCH_PROCEDURE "com/example/ferrule/ferrule/RejectReason" "code" "S" (.int (2 : Int32))) (F_INVALID_ARGUMENT : Fld Z Z.heap w_INVALID_ARGUMENT "com/example/ferrule/ferrule/RejectReason" "code" "S" (.int (3 : Int32))) (S_V : Sta Z Z.heap "com/example/ferrule/ferrule/RejectReason" "$VALUES" "[Lcom/example/ferrule/ferrule/RejectReason;" (.ref w_V)) (A_V : Arr Z Z.heap w_V cl_V (.object "com/example/ferrule/ferrule/RejectReason")) (E_V : Exa Z Z.heap w_V "[Lcom/example/ferrule/ferrule/RejectReason;") (Q_V : FitC Z cl_V) (z_V : cl_V.slots.size = 4) (t_NO_SUCH_PROGRAM : cl_V.slots[0]? = some (.ref w_NO_SUCH_PROGRAM)) (t_NO_SUCH_VERSION : cl_V.slots[1]? = some (.ref w_NO_SUCH_VERSION)) (t_NO_SUCH_PROCEDURE : cl_V.slots[2]? = some (.ref w_NO_SUCH_PROCEDURE)) (t_INVALID_ARGUMENT : cl_V.slots[3]? = some (.ref w_INVALID_ARGUMENT)) (S_NO_SUCH_PROGRAM : Sta Z Z.heap "com/example/ferrule/ferrule/RejectReason" "NO_SUCH_PROGRAM" "Lcom/example/ferrule/ferrule/RejectReason;" (.ref w_NO_SUCH_PROGRAM)) (S_NO_SUCH_VERSION : Sta Z Z.heap "com/example/ferrule/ferrule/RejectReason" "NO_SUCH_VERSION" "Lcom/example/ferrule/ferrule/RejectReason;" (.ref w_NO_SUCH_VERSION)) (S_NO_SUCH_PROCEDURE : Sta Z Z.heap "com/example/ferrule/ferrule/RejectReason" "NO_SUCH_PROCEDURE" "Lcom/example/ferrule/ferrule/RejectReason;" (.ref w_NO_SUCH_PROCEDURE)) (S_INVALID_ARGUMENT : Sta Z Z.heap "com/example/ferrule/ferrule/RejectReason" "INVALID_ARGUMENT" "Lcom/example/ferrule/ferrule/RejectReason;" (.ref w_INVALID_ARGUMENT)) (p0 : Int32) (p1 : Int32) (h0 : Heap) (n0 : Nat) (O : Old Z n0 h0)  :
    Ct l x code maxLocals ret room_1 Z #[(.int p0), (.int p1)] h0 (fun v h L => v = some (.int 1) ∧ Fr n0 L) := by
  refine Ct.of (plainFor_of_name pn_RejectReasonForCodePinLaw_440) ?_
  intro p e s m below meth c T0 X0 hx hby hml hown hnm hret hlk hZ e0
  have hown : s.vm.findClass "com/example/ferrule/ferrule/RejectReasonForCodePinLaw" = some m.cls := hown
  have hml : c.maxLocals = 5 := hml
  have N0 := Fr.nil n0
  refine Go.cast (g' := mkF m 0 #[.val (.int p0), .val (.int p1), .unset, .unset, .unset] []) (by first | (simp [entryFrame, mkF, argsToLocals, Value.category, maxLocals]; done) | rfl) ?_
  refine Go.by (T' := T0) (g' := (mkF m 3 #[.val (.int p0), .val (.int p1), .unset, .unset, .unset] [(.int (p1 &&& (1 : Int32)))])) (fun t k => ?_) ?_
  · show Steps p.tables e below (T0.setTop (mkF m 0 #[.val (.int p0), .val (.int p1), .unset, .unset, .unset] [])) _
    refine XS.iloadN X0.here hx rfl (hb hby at_0) rfl ?_
    show Steps p.tables e below (T0.setTop (mkF m 1 #[.val (.int p0), .val (.int p1), .unset, .unset, .unset] [(.int p1)])) _
    refine XS.iconst X0.here hx rfl (hb hby at_1) ?_
    show Steps p.tables e below (T0.setTop (mkF m 2 #[.val (.int p0), .val (.int p1), .unset, .unset, .unset] [(.int (1 : Int32)), (.int p1)])) _
    refine XS.iand X0.here hx rfl (hb hby at_2) rfl ?_
    exact k
  have J1 : ∀ (c0 : Int32), Go p e below (EndF s room_1.cells room_1.slots (fun v h L => v = some (.int 1) ∧ Fr n0 L)) T0 (mkF m 20 #[.val (.int p0), .val (.int p1), .val (.int c0), .unset, .unset] []) := by
    intro c0
    by_cases hy2 : c0 = (0 : Int32)
    · skip
      subst hy2
      show Go p e below _ T0 (mkF m 20 #[.val (.int p0), .val (.int p1), .val (.int (0 : Int32)), .unset, .unset] [])
      refine Go.by (T' := T0) (g' := (mkF m 21 #[.val (.int p0), .val (.int p1), .val (.int (0 : Int32)), .unset, .unset] [(.int (0 : Int32))])) (fun t k => ?_) ?_
      · show Steps p.tables e below (T0.setTop (mkF m 20 #[.val (.int p0), .val (.int p1), .val (.int (0 : Int32)), .unset, .unset] [])) _
        refine XS.iloadN X0.here hx rfl (hb hby at_20) rfl ?_
        exact k
      refine Go.callS X0 hx hZ (W := 0) (argsL := [(.int (0 : Int32))]) (rest := []) hown (wd hw 0 rfl) (wd hw 1 rfl) (wd hw 2 rfl) (wd hw 3 rfl) (by decide) (ct_forCode l Z a0 hw w_NO_SUCH_PROGRAM w_NO_SUCH_VERSION w_NO_SUCH_PROCEDURE w_INVALID_ARGUMENT w_V cl_V E_NO_SUCH_PROGRAM E_NO_SUCH_VERSION E_NO_SUCH_PROCEDURE E_INVALID_ARGUMENT F_NO_SUCH_PROGRAM F_NO_SUCH_VERSION F_NO_SUCH_PROCEDURE F_INVALID_ARGUMENT S_V A_V E_V Q_V z_V t_NO_SUCH_PROGRAM t_NO_SUCH_VERSION t_NO_SUCH_PROCEDURE t_INVALID_ARGUMENT S_NO_SUCH_PROGRAM S_NO_SUCH_VERSION S_NO_SUCH_PROCEDURE S_INVALID_ARGUMENT (0 : Int32) (.ref w_NO_SUCH_PROGRAM) h0 n0 O (by simp)) e0 (by rw [hml]; rfl) (lenOf pd__S_Lcom_example_ferrule_ferrule_RejectRe_4895 rfl) rfl rfl (hb hby at_21) (by decide) (by decide) (by decide) (by decide) ?_
      intro v3 T3 h3 L3 X3 e3 q3
      obtain ⟨rfl, N3, K3⟩ := q3
      replace N3 := Fr.app N0 N3
      replace O := O.keep K3 all0
      show Go p e below _ T3 (mkF m 24 #[.val (.int p0), .val (.int p1), .val (.int (0 : Int32)), .unset, .unset] [(.ref w_NO_SUCH_PROGRAM)])
      refine Go.by (T' := T3) (g' := (mkF m 26 #[.val (.int p0), .val (.int p1), .val (.int (0 : Int32)), .val (.ref w_NO_SUCH_PROGRAM), .unset] [(.int (0 : Int32))])) (fun t k => ?_) ?_
      · show Steps p.tables e below (T3.setTop (mkF m 24 #[.val (.int p0), .val (.int p1), .val (.int (0 : Int32)), .unset, .unset] [(.ref w_NO_SUCH_PROGRAM)])) _
        refine XS.astoreN X3.here hx rfl (hb hby at_24) rfl rfl (l' := #[.val (.int p0), .val (.int p1), .val (.int (0 : Int32)), .val (.ref w_NO_SUCH_PROGRAM), .unset]) rfl ?_
        show Steps p.tables e below (T3.setTop (mkF m 25 #[.val (.int p0), .val (.int p1), .val (.int (0 : Int32)), .val (.ref w_NO_SUCH_PROGRAM), .unset] [])) _
        refine XS.iloadN X3.here hx rfl (hb hby at_25) rfl ?_
        exact k
      refine Go.callS X3 hx hZ (W := 0) (argsL := [(.int (0 : Int32))]) (rest := []) hown (wd hw 25 rfl) (wd hw 26 rfl) (wd hw 27 rfl) (wd hw 28 rfl) (by decide) (ct_expected l Z a0 hw w_NO_SUCH_PROGRAM w_NO_SUCH_VERSION w_NO_SUCH_PROCEDURE w_INVALID_ARGUMENT w_V cl_V E_NO_SUCH_PROGRAM E_NO_SUCH_VERSION E_NO_SUCH_PROCEDURE E_INVALID_ARGUMENT F_NO_SUCH_PROGRAM F_NO_SUCH_VERSION F_NO_SUCH_PROCEDURE F_INVALID_ARGUMENT S_V A_V E_V Q_V z_V t_NO_SUCH_PROGRAM t_NO_SUCH_VERSION t_NO_SUCH_PROCEDURE t_INVALID_ARGUMENT S_NO_SUCH_PROGRAM S_NO_SUCH_VERSION S_NO_SUCH_PROCEDURE S_INVALID_ARGUMENT (0 : Int32) (.ref w_NO_SUCH_PROGRAM) h3 n0 O (by simp)) e3 (by rw [hml]; rfl) (lenOf pd__S_Lcom_example_ferrule_ferrule_RejectRe_4895 rfl) rfl rfl (hb hby at_26) (by decide) (by decide) (by decide) (by decide) ?_
      intro v4 T4 h4 L4 X4 e4 q4
      obtain ⟨rfl, N4, rfl⟩ := q4
      replace N4 := Fr.app N3 N4
      show Go p e below _ T4 (mkF m 29 #[.val (.int p0), .val (.int p1), .val (.int (0 : Int32)), .val (.ref w_NO_SUCH_PROGRAM), .unset] [(.ref w_NO_SUCH_PROGRAM)])
      refine Go.by (T' := T4) (g' := (mkF m 44 #[.val (.int p0), .val (.int p1), .val (.int (0 : Int32)), .val (.ref w_NO_SUCH_PROGRAM), .val (.ref w_NO_SUCH_PROGRAM)] [(.ref w_NO_SUCH_PROGRAM)])) (fun t k => ?_) ?_
      · show Steps p.tables e below (T4.setTop (mkF m 29 #[.val (.int p0), .val (.int p1), .val (.int (0 : Int32)), .val (.ref w_NO_SUCH_PROGRAM), .unset] [(.ref w_NO_SUCH_PROGRAM)])) _
        refine XS.astore X4.here hx rfl (hb hby at_29) rfl rfl (l' := #[.val (.int p0), .val (.int p1), .val (.int (0 : Int32)), .val (.ref w_NO_SUCH_PROGRAM), .val (.ref w_NO_SUCH_PROGRAM)]) rfl ?_
        show Steps p.tables e below (T4.setTop (mkF m 31 #[.val (.int p0), .val (.int p1), .val (.int (0 : Int32)), .val (.ref w_NO_SUCH_PROGRAM), .val (.ref w_NO_SUCH_PROGRAM)] [])) _
        refine XS.aloadN X4.here hx rfl (hb hby at_31) rfl rfl ?_
        show Steps p.tables e below (T4.setTop (mkF m 32 #[.val (.int p0), .val (.int p1), .val (.int (0 : Int32)), .val (.ref w_NO_SUCH_PROGRAM), .val (.ref w_NO_SUCH_PROGRAM)] [(.ref w_NO_SUCH_PROGRAM)])) _
        refine XS.aload X4.here hx rfl (hb hby at_32) rfl rfl ?_
        show Steps p.tables e below (T4.setTop (mkF m 34 #[.val (.int p0), .val (.int p1), .val (.int (0 : Int32)), .val (.ref w_NO_SUCH_PROGRAM), .val (.ref w_NO_SUCH_PROGRAM)] [(.ref w_NO_SUCH_PROGRAM), (.ref w_NO_SUCH_PROGRAM)])) _
        refine Jvm.RoadKit.acmp (g := (mkF m 34 #[.val (.int p0), .val (.int p1), .val (.int (0 : Int32)), .val (.ref w_NO_SUCH_PROGRAM), .val (.ref w_NO_SUCH_PROGRAM)] [(.ref w_NO_SUCH_PROGRAM), (.ref w_NO_SUCH_PROGRAM)])) X4 hx rfl rfl rfl (pc0 := 34) (pc' := 39) (same := true) rfl (hb hby at_34) rfl (decide_eq_true rfl) (by decide) (by decide) ?_
        show Steps p.tables e below (T4.setTop (mkF m 39 #[.val (.int p0), .val (.int p1), .val (.int (0 : Int32)), .val (.ref w_NO_SUCH_PROGRAM), .val (.ref w_NO_SUCH_PROGRAM)] [])) _
        refine XS.aloadN X4.here hx rfl (hb hby at_39) rfl rfl ?_
        show Steps p.tables e below (T4.setTop (mkF m 40 #[.val (.int p0), .val (.int p1), .val (.int (0 : Int32)), .val (.ref w_NO_SUCH_PROGRAM), .val (.ref w_NO_SUCH_PROGRAM)] [(.ref w_NO_SUCH_PROGRAM)])) _
        refine XS.ifnullNo X4.here hx rfl (hb hby at_40) rfl ?_
        show Steps p.tables e below (T4.setTop (mkF m 43 #[.val (.int p0), .val (.int p1), .val (.int (0 : Int32)), .val (.ref w_NO_SUCH_PROGRAM), .val (.ref w_NO_SUCH_PROGRAM)] [])) _
        refine XS.aloadN X4.here hx rfl (hb hby at_43) rfl rfl ?_
        exact k
      refine Go.callV X4 hx hZ (W := 0) (argsL := []) (rest := []) hown (wd hw 30 rfl) (wd hw 31 rfl) (notFace_of_selects (args := #[]) (mvT hZ (wd hw 33 rfl))) (wd hw 33 rfl) (wd hw 32 rfl) (wd hw 2 rfl) (wd hw 34 rfl) (by decide) (E_NO_SUCH_PROGRAM.ext O.2) (ct_get_code_l_0___Int32__0 l Z a0 hw  w_NO_SUCH_PROGRAM h3 n0 O (F_NO_SUCH_PROGRAM.ext O.2)) e4 (by rw [hml]; rfl) (lenOf pd___S_8331 rfl) rfl rfl (hb hby at_44) (by decide) (by decide) (by decide) (by decide) ?_
      intro v5 T5 h5 L5 X5 e5 q5
      obtain ⟨rfl, N5, rfl⟩ := q5
      replace N5 := Fr.app N4 N5
      show Go p e below _ T5 (mkF m 47 #[.val (.int p0), .val (.int p1), .val (.int (0 : Int32)), .val (.ref w_NO_SUCH_PROGRAM), .val (.ref w_NO_SUCH_PROGRAM)] [(.int (0 : Int32))])
      refine Go.by (T' := T5) (g' := (mkF m 54 #[.val (.int p0), .val (.int p1), .val (.int (0 : Int32)), .val (.ref w_NO_SUCH_PROGRAM), .val (.ref w_NO_SUCH_PROGRAM)] [(.int (1 : Int32))])) (fun t k => ?_) ?_
      · show Steps p.tables e below (T5.setTop (mkF m 47 #[.val (.int p0), .val (.int p1), .val (.int (0 : Int32)), .val (.ref w_NO_SUCH_PROGRAM), .val (.ref w_NO_SUCH_PROGRAM)] [(.int (0 : Int32))])) _
        refine XS.iloadN X5.here hx rfl (hb hby at_47) rfl ?_
        show Steps p.tables e below (T5.setTop (mkF m 48 #[.val (.int p0), .val (.int p1), .val (.int (0 : Int32)), .val (.ref w_NO_SUCH_PROGRAM), .val (.ref w_NO_SUCH_PROGRAM)] [(.int (0 : Int32)), (.int (0 : Int32))])) _
        refine XS.icmpYes X5.here hx rfl (pc0 := 48) (pc' := 53) rfl (hb hby at_48) rfl (teq (by decide : (0 : Int32) = (0 : Int32))).1 (by decide) (by decide) ?_
        show Steps p.tables e below (T5.setTop (mkF m 53 #[.val (.int p0), .val (.int p1), .val (.int (0 : Int32)), .val (.ref w_NO_SUCH_PROGRAM), .val (.ref w_NO_SUCH_PROGRAM)] [])) _
        refine XS.iconst X5.here hx rfl (hb hby at_53) ?_
        exact k
      refine Go.retZ X5 hx hlk hret (Or.inr rfl) (hb hby at_54) (by decide) (by decide) e5 ?_
      exact ⟨rfl, N5⟩
    · skip
      by_cases hy6 : c0 = (1 : Int32)
      · skip
        subst hy6
        show Go p e below _ T0 (mkF m 20 #[.val (.int p0), .val (.int p1), .val (.int (1 : Int32)), .unset, .unset] [])
        refine Go.by (T' := T0) (g' := (mkF m 21 #[.val (.int p0), .val (.int p1), .val (.int (1 : Int32)), .unset, .unset] [(.int (1 : Int32))])) (fun t k => ?_) ?_
        · show Steps p.tables e below (T0.setTop (mkF m 20 #[.val (.int p0), .val (.int p1), .val (.int (1 : Int32)), .unset, .unset] [])) _
          refine XS.iloadN X0.here hx rfl (hb hby at_20) rfl ?_
          exact k
        refine Go.callS X0 hx hZ (W := 0) (argsL := [(.int (1 : Int32))]) (rest := []) hown (wd hw 0 rfl) (wd hw 1 rfl) (wd hw 2 rfl) (wd hw 3 rfl) (by decide) (ct_forCode l Z a0 hw w_NO_SUCH_PROGRAM w_NO_SUCH_VERSION w_NO_SUCH_PROCEDURE w_INVALID_ARGUMENT w_V cl_V E_NO_SUCH_PROGRAM E_NO_SUCH_VERSION E_NO_SUCH_PROCEDURE E_INVALID_ARGUMENT F_NO_SUCH_PROGRAM F_NO_SUCH_VERSION F_NO_SUCH_PROCEDURE F_INVALID_ARGUMENT S_V A_V E_V Q_V z_V t_NO_SUCH_PROGRAM t_NO_SUCH_VERSION t_NO_SUCH_PROCEDURE t_INVALID_ARGUMENT S_NO_SUCH_PROGRAM S_NO_SUCH_VERSION S_NO_SUCH_PROCEDURE S_INVALID_ARGUMENT (1 : Int32) (.ref w_NO_SUCH_VERSION) h0 n0 O (by simp)) e0 (by rw [hml]; rfl) (lenOf pd__S_Lcom_example_ferrule_ferrule_RejectRe_4895 rfl) rfl rfl (hb hby at_21) (by decide) (by decide) (by decide) (by decide) ?_
        intro v7 T7 h7 L7 X7 e7 q7
        obtain ⟨rfl, N7, K7⟩ := q7
        replace N7 := Fr.app N0 N7
        replace O := O.keep K7 all0
        show Go p e below _ T7 (mkF m 24 #[.val (.int p0), .val (.int p1), .val (.int (1 : Int32)), .unset, .unset] [(.ref w_NO_SUCH_VERSION)])
        refine Go.by (T' := T7) (g' := (mkF m 26 #[.val (.int p0), .val (.int p1), .val (.int (1 : Int32)), .val (.ref w_NO_SUCH_VERSION), .unset] [(.int (1 : Int32))])) (fun t k => ?_) ?_
        · show Steps p.tables e below (T7.setTop (mkF m 24 #[.val (.int p0), .val (.int p1), .val (.int (1 : Int32)), .unset, .unset] [(.ref w_NO_SUCH_VERSION)])) _
          refine XS.astoreN X7.here hx rfl (hb hby at_24) rfl rfl (l' := #[.val (.int p0), .val (.int p1), .val (.int (1 : Int32)), .val (.ref w_NO_SUCH_VERSION), .unset]) rfl ?_
          show Steps p.tables e below (T7.setTop (mkF m 25 #[.val (.int p0), .val (.int p1), .val (.int (1 : Int32)), .val (.ref w_NO_SUCH_VERSION), .unset] [])) _
          refine XS.iloadN X7.here hx rfl (hb hby at_25) rfl ?_
          exact k
        refine Go.callS X7 hx hZ (W := 0) (argsL := [(.int (1 : Int32))]) (rest := []) hown (wd hw 25 rfl) (wd hw 26 rfl) (wd hw 27 rfl) (wd hw 28 rfl) (by decide) (ct_expected l Z a0 hw w_NO_SUCH_PROGRAM w_NO_SUCH_VERSION w_NO_SUCH_PROCEDURE w_INVALID_ARGUMENT w_V cl_V E_NO_SUCH_PROGRAM E_NO_SUCH_VERSION E_NO_SUCH_PROCEDURE E_INVALID_ARGUMENT F_NO_SUCH_PROGRAM F_NO_SUCH_VERSION F_NO_SUCH_PROCEDURE F_INVALID_ARGUMENT S_V A_V E_V Q_V z_V t_NO_SUCH_PROGRAM t_NO_SUCH_VERSION t_NO_SUCH_PROCEDURE t_INVALID_ARGUMENT S_NO_SUCH_PROGRAM S_NO_SUCH_VERSION S_NO_SUCH_PROCEDURE S_INVALID_ARGUMENT (1 : Int32) (.ref w_NO_SUCH_VERSION) h7 n0 O (by simp)) e7 (by rw [hml]; rfl) (lenOf pd__S_Lcom_example_ferrule_ferrule_RejectRe_4895 rfl) rfl rfl (hb hby at_26) (by decide) (by decide) (by decide) (by decide) ?_
        intro v8 T8 h8 L8 X8 e8 q8
        obtain ⟨rfl, N8, rfl⟩ := q8
        replace N8 := Fr.app N7 N8
        show Go p e below _ T8 (mkF m 29 #[.val (.int p0), .val (.int p1), .val (.int (1 : Int32)), .val (.ref w_NO_SUCH_VERSION), .unset] [(.ref w_NO_SUCH_VERSION)])
        refine Go.by (T' := T8) (g' := (mkF m 44 #[.val (.int p0), .val (.int p1), .val (.int (1 : Int32)), .val (.ref w_NO_SUCH_VERSION), .val (.ref w_NO_SUCH_VERSION)] [(.ref w_NO_SUCH_VERSION)])) (fun t k => ?_) ?_
        · show Steps p.tables e below (T8.setTop (mkF m 29 #[.val (.int p0), .val (.int p1), .val (.int (1 : Int32)), .val (.ref w_NO_SUCH_VERSION), .unset] [(.ref w_NO_SUCH_VERSION)])) _
          refine XS.astore X8.here hx rfl (hb hby at_29) rfl rfl (l' := #[.val (.int p0), .val (.int p1), .val (.int (1 : Int32)), .val (.ref w_NO_SUCH_VERSION), .val (.ref w_NO_SUCH_VERSION)]) rfl ?_
          show Steps p.tables e below (T8.setTop (mkF m 31 #[.val (.int p0), .val (.int p1), .val (.int (1 : Int32)), .val (.ref w_NO_SUCH_VERSION), .val (.ref w_NO_SUCH_VERSION)] [])) _
          refine XS.aloadN X8.here hx rfl (hb hby at_31) rfl rfl ?_
          show Steps p.tables e below (T8.setTop (mkF m 32 #[.val (.int p0), .val (.int p1), .val (.int (1 : Int32)), .val (.ref w_NO_SUCH_VERSION), .val (.ref w_NO_SUCH_VERSION)] [(.ref w_NO_SUCH_VERSION)])) _
          refine XS.aload X8.here hx rfl (hb hby at_32) rfl rfl ?_
          show Steps p.tables e below (T8.setTop (mkF m 34 #[.val (.int p0), .val (.int p1), .val (.int (1 : Int32)), .val (.ref w_NO_SUCH_VERSION), .val (.ref w_NO_SUCH_VERSION)] [(.ref w_NO_SUCH_VERSION), (.ref w_NO_SUCH_VERSION)])) _
          refine Jvm.RoadKit.acmp (g := (mkF m 34 #[.val (.int p0), .val (.int p1), .val (.int (1 : Int32)), .val (.ref w_NO_SUCH_VERSION), .val (.ref w_NO_SUCH_VERSION)] [(.ref w_NO_SUCH_VERSION), (.ref w_NO_SUCH_VERSION)])) X8 hx rfl rfl rfl (pc0 := 34) (pc' := 39) (same := true) rfl (hb hby at_34) rfl (decide_eq_true rfl) (by decide) (by decide) ?_
          show Steps p.tables e below (T8.setTop (mkF m 39 #[.val (.int p0), .val (.int p1), .val (.int (1 : Int32)), .val (.ref w_NO_SUCH_VERSION), .val (.ref w_NO_SUCH_VERSION)] [])) _
          refine XS.aloadN X8.here hx rfl (hb hby at_39) rfl rfl ?_
          show Steps p.tables e below (T8.setTop (mkF m 40 #[.val (.int p0), .val (.int p1), .val (.int (1 : Int32)), .val (.ref w_NO_SUCH_VERSION), .val (.ref w_NO_SUCH_VERSION)] [(.ref w_NO_SUCH_VERSION)])) _
          refine XS.ifnullNo X8.here hx rfl (hb hby at_40) rfl ?_
          show Steps p.tables e below (T8.setTop (mkF m 43 #[.val (.int p0), .val (.int p1), .val (.int (1 : Int32)), .val (.ref w_NO_SUCH_VERSION), .val (.ref w_NO_SUCH_VERSION)] [])) _
          refine XS.aloadN X8.here hx rfl (hb hby at_43) rfl rfl ?_
          exact k
        refine Go.callV X8 hx hZ (W := 0) (argsL := []) (rest := []) hown (wd hw 30 rfl) (wd hw 31 rfl) (notFace_of_selects (args := #[]) (mvT hZ (wd hw 33 rfl))) (wd hw 33 rfl) (wd hw 32 rfl) (wd hw 2 rfl) (wd hw 34 rfl) (by decide) (E_NO_SUCH_VERSION.ext O.2) (ct_get_code_l_1___Int32__1 l Z a0 hw  w_NO_SUCH_VERSION h7 n0 O (F_NO_SUCH_VERSION.ext O.2)) e8 (by rw [hml]; rfl) (lenOf pd___S_8331 rfl) rfl rfl (hb hby at_44) (by decide) (by decide) (by decide) (by decide) ?_
        intro v9 T9 h9 L9 X9 e9 q9
        obtain ⟨rfl, N9, rfl⟩ := q9
        replace N9 := Fr.app N8 N9
        show Go p e below _ T9 (mkF m 47 #[.val (.int p0), .val (.int p1), .val (.int (1 : Int32)), .val (.ref w_NO_SUCH_VERSION), .val (.ref w_NO_SUCH_VERSION)] [(.int (1 : Int32))])
        refine Go.by (T' := T9) (g' := (mkF m 54 #[.val (.int p0), .val (.int p1), .val (.int (1 : Int32)), .val (.ref w_NO_SUCH_VERSION), .val (.ref w_NO_SUCH_VERSION)] [(.int (1 : Int32))])) (fun t k => ?_) ?_
        · show Steps p.tables e below (T9.setTop (mkF m 47 #[.val (.int p0), .val (.int p1), .val (.int (1 : Int32)), .val (.ref w_NO_SUCH_VERSION), .val (.ref w_NO_SUCH_VERSION)] [(.int (1 : Int32))])) _
          refine XS.iloadN X9.here hx rfl (hb hby at_47) rfl ?_
          show Steps p.tables e below (T9.setTop (mkF m 48 #[.val (.int p0), .val (.int p1), .val (.int (1 : Int32)), .val (.ref w_NO_SUCH_VERSION), .val (.ref w_NO_SUCH_VERSION)] [(.int (1 : Int32)), (.int (1 : Int32))])) _
          refine XS.icmpYes X9.here hx rfl (pc0 := 48) (pc' := 53) rfl (hb hby at_48) rfl (teq (by decide : (1 : Int32) = (1 : Int32))).1 (by decide) (by decide) ?_
          show Steps p.tables e below (T9.setTop (mkF m 53 #[.val (.int p0), .val (.int p1), .val (.int (1 : Int32)), .val (.ref w_NO_SUCH_VERSION), .val (.ref w_NO_SUCH_VERSION)] [])) _
          refine XS.iconst X9.here hx rfl (hb hby at_53) ?_
          exact k
        refine Go.retZ X9 hx hlk hret (Or.inr rfl) (hb hby at_54) (by decide) (by decide) e9 ?_
        exact ⟨rfl, N9⟩
      · skip
        by_cases hy10 : c0 = (2 : Int32)
        · skip
          subst hy10
          show Go p e below _ T0 (mkF m 20 #[.val (.int p0), .val (.int p1), .val (.int (2 : Int32)), .unset, .unset] [])
          refine Go.by (T' := T0) (g' := (mkF m 21 #[.val (.int p0), .val (.int p1), .val (.int (2 : Int32)), .unset, .unset] [(.int (2 : Int32))])) (fun t k => ?_) ?_
          · show Steps p.tables e below (T0.setTop (mkF m 20 #[.val (.int p0), .val (.int p1), .val (.int (2 : Int32)), .unset, .unset] [])) _
            refine XS.iloadN X0.here hx rfl (hb hby at_20) rfl ?_
            exact k
          refine Go.callS X0 hx hZ (W := 0) (argsL := [(.int (2 : Int32))]) (rest := []) hown (wd hw 0 rfl) (wd hw 1 rfl) (wd hw 2 rfl) (wd hw 3 rfl) (by decide) (ct_forCode l Z a0 hw w_NO_SUCH_PROGRAM w_NO_SUCH_VERSION w_NO_SUCH_PROCEDURE w_INVALID_ARGUMENT w_V cl_V E_NO_SUCH_PROGRAM E_NO_SUCH_VERSION E_NO_SUCH_PROCEDURE E_INVALID_ARGUMENT F_NO_SUCH_PROGRAM F_NO_SUCH_VERSION F_NO_SUCH_PROCEDURE F_INVALID_ARGUMENT S_V A_V E_V Q_V z_V t_NO_SUCH_PROGRAM t_NO_SUCH_VERSION t_NO_SUCH_PROCEDURE t_INVALID_ARGUMENT S_NO_SUCH_PROGRAM S_NO_SUCH_VERSION S_NO_SUCH_PROCEDURE S_INVALID_ARGUMENT (2 : Int32) (.ref w_NO_SUCH_PROCEDURE) h0 n0 O (by simp)) e0 (by rw [hml]; rfl) (lenOf pd__S_Lcom_example_ferrule_ferrule_RejectRe_4895 rfl) rfl rfl (hb hby at_21) (by decide) (by decide) (by decide) (by decide) ?_
          intro v11 T11 h11 L11 X11 e11 q11
          obtain ⟨rfl, N11, K11⟩ := q11
          replace N11 := Fr.app N0 N11
          replace O := O.keep K11 all0
          show Go p e below _ T11 (mkF m 24 #[.val (.int p0), .val (.int p1), .val (.int (2 : Int32)), .unset, .unset] [(.ref w_NO_SUCH_PROCEDURE)])
          refine Go.by (T' := T11) (g' := (mkF m 26 #[.val (.int p0), .val (.int p1), .val (.int (2 : Int32)), .val (.ref w_NO_SUCH_PROCEDURE), .unset] [(.int (2 : Int32))])) (fun t k => ?_) ?_
          · show Steps p.tables e below (T11.setTop (mkF m 24 #[.val (.int p0), .val (.int p1), .val (.int (2 : Int32)), .unset, .unset] [(.ref w_NO_SUCH_PROCEDURE)])) _
            refine XS.astoreN X11.here hx rfl (hb hby at_24) rfl rfl (l' := #[.val (.int p0), .val (.int p1), .val (.int (2 : Int32)), .val (.ref w_NO_SUCH_PROCEDURE), .unset]) rfl ?_
            show Steps p.tables e below (T11.setTop (mkF m 25 #[.val (.int p0), .val (.int p1), .val (.int (2 : Int32)), .val (.ref w_NO_SUCH_PROCEDURE), .unset] [])) _
            refine XS.iloadN X11.here hx rfl (hb hby at_25) rfl ?_
            exact k
          refine Go.callS X11 hx hZ (W := 0) (argsL := [(.int (2 : Int32))]) (rest := []) hown (wd hw 25 rfl) (wd hw 26 rfl) (wd hw 27 rfl) (wd hw 28 rfl) (by decide) (ct_expected l Z a0 hw w_NO_SUCH_PROGRAM w_NO_SUCH_VERSION w_NO_SUCH_PROCEDURE w_INVALID_ARGUMENT w_V cl_V E_NO_SUCH_PROGRAM E_NO_SUCH_VERSION E_NO_SUCH_PROCEDURE E_INVALID_ARGUMENT F_NO_SUCH_PROGRAM F_NO_SUCH_VERSION F_NO_SUCH_PROCEDURE F_INVALID_ARGUMENT S_V A_V E_V Q_V z_V t_NO_SUCH_PROGRAM t_NO_SUCH_VERSION t_NO_SUCH_PROCEDURE t_INVALID_ARGUMENT S_NO_SUCH_PROGRAM S_NO_SUCH_VERSION S_NO_SUCH_PROCEDURE S_INVALID_ARGUMENT (2 : Int32) (.ref w_NO_SUCH_PROCEDURE) h11 n0 O (by simp)) e11 (by rw [hml]; rfl) (lenOf pd__S_Lcom_example_ferrule_ferrule_RejectRe_4895 rfl) rfl rfl (hb hby at_26) (by decide) (by decide) (by decide) (by decide) ?_
          intro v12 T12 h12 L12 X12 e12 q12
          obtain ⟨rfl, N12, rfl⟩ := q12
          replace N12 := Fr.app N11 N12
          show Go p e below _ T12 (mkF m 29 #[.val (.int p0), .val (.int p1), .val (.int (2 : Int32)), .val (.ref w_NO_SUCH_PROCEDURE), .unset] [(.ref w_NO_SUCH_PROCEDURE)])
          refine Go.by (T' := T12) (g' := (mkF m 44 #[.val (.int p0), .val (.int p1), .val (.int (2 : Int32)), .val (.ref w_NO_SUCH_PROCEDURE), .val (.ref w_NO_SUCH_PROCEDURE)] [(.ref w_NO_SUCH_PROCEDURE)])) (fun t k => ?_) ?_
          · show Steps p.tables e below (T12.setTop (mkF m 29 #[.val (.int p0), .val (.int p1), .val (.int (2 : Int32)), .val (.ref w_NO_SUCH_PROCEDURE), .unset] [(.ref w_NO_SUCH_PROCEDURE)])) _
            refine XS.astore X12.here hx rfl (hb hby at_29) rfl rfl (l' := #[.val (.int p0), .val (.int p1), .val (.int (2 : Int32)), .val (.ref w_NO_SUCH_PROCEDURE), .val (.ref w_NO_SUCH_PROCEDURE)]) rfl ?_
            show Steps p.tables e below (T12.setTop (mkF m 31 #[.val (.int p0), .val (.int p1), .val (.int (2 : Int32)), .val (.ref w_NO_SUCH_PROCEDURE), .val (.ref w_NO_SUCH_PROCEDURE)] [])) _
            refine XS.aloadN X12.here hx rfl (hb hby at_31) rfl rfl ?_
            show Steps p.tables e below (T12.setTop (mkF m 32 #[.val (.int p0), .val (.int p1), .val (.int (2 : Int32)), .val (.ref w_NO_SUCH_PROCEDURE), .val (.ref w_NO_SUCH_PROCEDURE)] [(.ref w_NO_SUCH_PROCEDURE)])) _
            refine XS.aload X12.here hx rfl (hb hby at_32) rfl rfl ?_
            show Steps p.tables e below (T12.setTop (mkF m 34 #[.val (.int p0), .val (.int p1), .val (.int (2 : Int32)), .val (.ref w_NO_SUCH_PROCEDURE), .val (.ref w_NO_SUCH_PROCEDURE)] [(.ref w_NO_SUCH_PROCEDURE), (.ref w_NO_SUCH_PROCEDURE)])) _
            refine Jvm.RoadKit.acmp (g := (mkF m 34 #[.val (.int p0), .val (.int p1), .val (.int (2 : Int32)), .val (.ref w_NO_SUCH_PROCEDURE), .val (.ref w_NO_SUCH_PROCEDURE)] [(.ref w_NO_SUCH_PROCEDURE), (.ref w_NO_SUCH_PROCEDURE)])) X12 hx rfl rfl rfl (pc0 := 34) (pc' := 39) (same := true) rfl (hb hby at_34) rfl (decide_eq_true rfl) (by decide) (by decide) ?_
            show Steps p.tables e below (T12.setTop (mkF m 39 #[.val (.int p0), .val (.int p1), .val (.int (2 : Int32)), .val (.ref w_NO_SUCH_PROCEDURE), .val (.ref w_NO_SUCH_PROCEDURE)] [])) _
            refine XS.aloadN X12.here hx rfl (hb hby at_39) rfl rfl ?_
            show Steps p.tables e below (T12.setTop (mkF m 40 #[.val (.int p0), .val (.int p1), .val (.int (2 : Int32)), .val (.ref w_NO_SUCH_PROCEDURE), .val (.ref w_NO_SUCH_PROCEDURE)] [(.ref w_NO_SUCH_PROCEDURE)])) _
            refine XS.ifnullNo X12.here hx rfl (hb hby at_40) rfl ?_
            show Steps p.tables e below (T12.setTop (mkF m 43 #[.val (.int p0), .val (.int p1), .val (.int (2 : Int32)), .val (.ref w_NO_SUCH_PROCEDURE), .val (.ref w_NO_SUCH_PROCEDURE)] [])) _
            refine XS.aloadN X12.here hx rfl (hb hby at_43) rfl rfl ?_
            exact k
          refine Go.callV X12 hx hZ (W := 0) (argsL := []) (rest := []) hown (wd hw 30 rfl) (wd hw 31 rfl) (notFace_of_selects (args := #[]) (mvT hZ (wd hw 33 rfl))) (wd hw 33 rfl) (wd hw 32 rfl) (wd hw 2 rfl) (wd hw 34 rfl) (by decide) (E_NO_SUCH_PROCEDURE.ext O.2) (ct_get_code_l_2___Int32__2 l Z a0 hw  w_NO_SUCH_PROCEDURE h11 n0 O (F_NO_SUCH_PROCEDURE.ext O.2)) e12 (by rw [hml]; rfl) (lenOf pd___S_8331 rfl) rfl rfl (hb hby at_44) (by decide) (by decide) (by decide) (by decide) ?_
          intro v13 T13 h13 L13 X13 e13 q13
          obtain ⟨rfl, N13, rfl⟩ := q13
          replace N13 := Fr.app N12 N13
          show Go p e below _ T13 (mkF m 47 #[.val (.int p0), .val (.int p1), .val (.int (2 : Int32)), .val (.ref w_NO_SUCH_PROCEDURE), .val (.ref w_NO_SUCH_PROCEDURE)] [(.int (2 : Int32))])
          refine Go.by (T' := T13) (g' := (mkF m 54 #[.val (.int p0), .val (.int p1), .val (.int (2 : Int32)), .val (.ref w_NO_SUCH_PROCEDURE), .val (.ref w_NO_SUCH_PROCEDURE)] [(.int (1 : Int32))])) (fun t k => ?_) ?_
          · show Steps p.tables e below (T13.setTop (mkF m 47 #[.val (.int p0), .val (.int p1), .val (.int (2 : Int32)), .val (.ref w_NO_SUCH_PROCEDURE), .val (.ref w_NO_SUCH_PROCEDURE)] [(.int (2 : Int32))])) _
            refine XS.iloadN X13.here hx rfl (hb hby at_47) rfl ?_
            show Steps p.tables e below (T13.setTop (mkF m 48 #[.val (.int p0), .val (.int p1), .val (.int (2 : Int32)), .val (.ref w_NO_SUCH_PROCEDURE), .val (.ref w_NO_SUCH_PROCEDURE)] [(.int (2 : Int32)), (.int (2 : Int32))])) _
            refine XS.icmpYes X13.here hx rfl (pc0 := 48) (pc' := 53) rfl (hb hby at_48) rfl (teq (by decide : (2 : Int32) = (2 : Int32))).1 (by decide) (by decide) ?_
            show Steps p.tables e below (T13.setTop (mkF m 53 #[.val (.int p0), .val (.int p1), .val (.int (2 : Int32)), .val (.ref w_NO_SUCH_PROCEDURE), .val (.ref w_NO_SUCH_PROCEDURE)] [])) _
            refine XS.iconst X13.here hx rfl (hb hby at_53) ?_
            exact k
          refine Go.retZ X13 hx hlk hret (Or.inr rfl) (hb hby at_54) (by decide) (by decide) e13 ?_
          exact ⟨rfl, N13⟩
        · skip
          by_cases hy14 : c0 = (3 : Int32)
          · skip
            subst hy14
            show Go p e below _ T0 (mkF m 20 #[.val (.int p0), .val (.int p1), .val (.int (3 : Int32)), .unset, .unset] [])
            refine Go.by (T' := T0) (g' := (mkF m 21 #[.val (.int p0), .val (.int p1), .val (.int (3 : Int32)), .unset, .unset] [(.int (3 : Int32))])) (fun t k => ?_) ?_
            · show Steps p.tables e below (T0.setTop (mkF m 20 #[.val (.int p0), .val (.int p1), .val (.int (3 : Int32)), .unset, .unset] [])) _
              refine XS.iloadN X0.here hx rfl (hb hby at_20) rfl ?_
              exact k
            refine Go.callS X0 hx hZ (W := 0) (argsL := [(.int (3 : Int32))]) (rest := []) hown (wd hw 0 rfl) (wd hw 1 rfl) (wd hw 2 rfl) (wd hw 3 rfl) (by decide) (ct_forCode l Z a0 hw w_NO_SUCH_PROGRAM w_NO_SUCH_VERSION w_NO_SUCH_PROCEDURE w_INVALID_ARGUMENT w_V cl_V E_NO_SUCH_PROGRAM E_NO_SUCH_VERSION E_NO_SUCH_PROCEDURE E_INVALID_ARGUMENT F_NO_SUCH_PROGRAM F_NO_SUCH_VERSION F_NO_SUCH_PROCEDURE F_INVALID_ARGUMENT S_V A_V E_V Q_V z_V t_NO_SUCH_PROGRAM t_NO_SUCH_VERSION t_NO_SUCH_PROCEDURE t_INVALID_ARGUMENT S_NO_SUCH_PROGRAM S_NO_SUCH_VERSION S_NO_SUCH_PROCEDURE S_INVALID_ARGUMENT (3 : Int32) (.ref w_INVALID_ARGUMENT) h0 n0 O (by simp)) e0 (by rw [hml]; rfl) (lenOf pd__S_Lcom_example_ferrule_ferrule_RejectRe_4895 rfl) rfl rfl (hb hby at_21) (by decide) (by decide) (by decide) (by decide) ?_
            intro v15 T15 h15 L15 X15 e15 q15
            obtain ⟨rfl, N15, K15⟩ := q15
            replace N15 := Fr.app N0 N15
            replace O := O.keep K15 all0
            show Go p e below _ T15 (mkF m 24 #[.val (.int p0), .val (.int p1), .val (.int (3 : Int32)), .unset, .unset] [(.ref w_INVALID_ARGUMENT)])
            refine Go.by (T' := T15) (g' := (mkF m 26 #[.val (.int p0), .val (.int p1), .val (.int (3 : Int32)), .val (.ref w_INVALID_ARGUMENT), .unset] [(.int (3 : Int32))])) (fun t k => ?_) ?_
            · show Steps p.tables e below (T15.setTop (mkF m 24 #[.val (.int p0), .val (.int p1), .val (.int (3 : Int32)), .unset, .unset] [(.ref w_INVALID_ARGUMENT)])) _
              refine XS.astoreN X15.here hx rfl (hb hby at_24) rfl rfl (l' := #[.val (.int p0), .val (.int p1), .val (.int (3 : Int32)), .val (.ref w_INVALID_ARGUMENT), .unset]) rfl ?_
              show Steps p.tables e below (T15.setTop (mkF m 25 #[.val (.int p0), .val (.int p1), .val (.int (3 : Int32)), .val (.ref w_INVALID_ARGUMENT), .unset] [])) _
              refine XS.iloadN X15.here hx rfl (hb hby at_25) rfl ?_
              exact k
            refine Go.callS X15 hx hZ (W := 0) (argsL := [(.int (3 : Int32))]) (rest := []) hown (wd hw 25 rfl) (wd hw 26 rfl) (wd hw 27 rfl) (wd hw 28 rfl) (by decide) (ct_expected l Z a0 hw w_NO_SUCH_PROGRAM w_NO_SUCH_VERSION w_NO_SUCH_PROCEDURE w_INVALID_ARGUMENT w_V cl_V E_NO_SUCH_PROGRAM E_NO_SUCH_VERSION E_NO_SUCH_PROCEDURE E_INVALID_ARGUMENT F_NO_SUCH_PROGRAM F_NO_SUCH_VERSION F_NO_SUCH_PROCEDURE F_INVALID_ARGUMENT S_V A_V E_V Q_V z_V t_NO_SUCH_PROGRAM t_NO_SUCH_VERSION t_NO_SUCH_PROCEDURE t_INVALID_ARGUMENT S_NO_SUCH_PROGRAM S_NO_SUCH_VERSION S_NO_SUCH_PROCEDURE S_INVALID_ARGUMENT (3 : Int32) (.ref w_INVALID_ARGUMENT) h15 n0 O (by simp)) e15 (by rw [hml]; rfl) (lenOf pd__S_Lcom_example_ferrule_ferrule_RejectRe_4895 rfl) rfl rfl (hb hby at_26) (by decide) (by decide) (by decide) (by decide) ?_
            intro v16 T16 h16 L16 X16 e16 q16
            obtain ⟨rfl, N16, rfl⟩ := q16
            replace N16 := Fr.app N15 N16
            show Go p e below _ T16 (mkF m 29 #[.val (.int p0), .val (.int p1), .val (.int (3 : Int32)), .val (.ref w_INVALID_ARGUMENT), .unset] [(.ref w_INVALID_ARGUMENT)])
            refine Go.by (T' := T16) (g' := (mkF m 44 #[.val (.int p0), .val (.int p1), .val (.int (3 : Int32)), .val (.ref w_INVALID_ARGUMENT), .val (.ref w_INVALID_ARGUMENT)] [(.ref w_INVALID_ARGUMENT)])) (fun t k => ?_) ?_
            · show Steps p.tables e below (T16.setTop (mkF m 29 #[.val (.int p0), .val (.int p1), .val (.int (3 : Int32)), .val (.ref w_INVALID_ARGUMENT), .unset] [(.ref w_INVALID_ARGUMENT)])) _
              refine XS.astore X16.here hx rfl (hb hby at_29) rfl rfl (l' := #[.val (.int p0), .val (.int p1), .val (.int (3 : Int32)), .val (.ref w_INVALID_ARGUMENT), .val (.ref w_INVALID_ARGUMENT)]) rfl ?_
              show Steps p.tables e below (T16.setTop (mkF m 31 #[.val (.int p0), .val (.int p1), .val (.int (3 : Int32)), .val (.ref w_INVALID_ARGUMENT), .val (.ref w_INVALID_ARGUMENT)] [])) _
              refine XS.aloadN X16.here hx rfl (hb hby at_31) rfl rfl ?_
              show Steps p.tables e below (T16.setTop (mkF m 32 #[.val (.int p0), .val (.int p1), .val (.int (3 : Int32)), .val (.ref w_INVALID_ARGUMENT), .val (.ref w_INVALID_ARGUMENT)] [(.ref w_INVALID_ARGUMENT)])) _
              refine XS.aload X16.here hx rfl (hb hby at_32) rfl rfl ?_
              show Steps p.tables e below (T16.setTop (mkF m 34 #[.val (.int p0), .val (.int p1), .val (.int (3 : Int32)), .val (.ref w_INVALID_ARGUMENT), .val (.ref w_INVALID_ARGUMENT)] [(.ref w_INVALID_ARGUMENT), (.ref w_INVALID_ARGUMENT)])) _
              refine Jvm.RoadKit.acmp (g := (mkF m 34 #[.val (.int p0), .val (.int p1), .val (.int (3 : Int32)), .val (.ref w_INVALID_ARGUMENT), .val (.ref w_INVALID_ARGUMENT)] [(.ref w_INVALID_ARGUMENT), (.ref w_INVALID_ARGUMENT)])) X16 hx rfl rfl rfl (pc0 := 34) (pc' := 39) (same := true) rfl (hb hby at_34) rfl (decide_eq_true rfl) (by decide) (by decide) ?_
              show Steps p.tables e below (T16.setTop (mkF m 39 #[.val (.int p0), .val (.int p1), .val (.int (3 : Int32)), .val (.ref w_INVALID_ARGUMENT), .val (.ref w_INVALID_ARGUMENT)] [])) _
              refine XS.aloadN X16.here hx rfl (hb hby at_39) rfl rfl ?_
              show Steps p.tables e below (T16.setTop (mkF m 40 #[.val (.int p0), .val (.int p1), .val (.int (3 : Int32)), .val (.ref w_INVALID_ARGUMENT), .val (.ref w_INVALID_ARGUMENT)] [(.ref w_INVALID_ARGUMENT)])) _
              refine XS.ifnullNo X16.here hx rfl (hb hby at_40) rfl ?_
              show Steps p.tables e below (T16.setTop (mkF m 43 #[.val (.int p0), .val (.int p1), .val (.int (3 : Int32)), .val (.ref w_INVALID_ARGUMENT), .val (.ref w_INVALID_ARGUMENT)] [])) _
              refine XS.aloadN X16.here hx rfl (hb hby at_43) rfl rfl ?_
              exact k
            refine Go.callV X16 hx hZ (W := 0) (argsL := []) (rest := []) hown (wd hw 30 rfl) (wd hw 31 rfl) (notFace_of_selects (args := #[]) (mvT hZ (wd hw 33 rfl))) (wd hw 33 rfl) (wd hw 32 rfl) (wd hw 2 rfl) (wd hw 34 rfl) (by decide) (E_INVALID_ARGUMENT.ext O.2) (ct_get_code_l_3___Int32__3 l Z a0 hw  w_INVALID_ARGUMENT h15 n0 O (F_INVALID_ARGUMENT.ext O.2)) e16 (by rw [hml]; rfl) (lenOf pd___S_8331 rfl) rfl rfl (hb hby at_44) (by decide) (by decide) (by decide) (by decide) ?_
            intro v17 T17 h17 L17 X17 e17 q17
            obtain ⟨rfl, N17, rfl⟩ := q17
            replace N17 := Fr.app N16 N17
            show Go p e below _ T17 (mkF m 47 #[.val (.int p0), .val (.int p1), .val (.int (3 : Int32)), .val (.ref w_INVALID_ARGUMENT), .val (.ref w_INVALID_ARGUMENT)] [(.int (3 : Int32))])
            refine Go.by (T' := T17) (g' := (mkF m 54 #[.val (.int p0), .val (.int p1), .val (.int (3 : Int32)), .val (.ref w_INVALID_ARGUMENT), .val (.ref w_INVALID_ARGUMENT)] [(.int (1 : Int32))])) (fun t k => ?_) ?_
            · show Steps p.tables e below (T17.setTop (mkF m 47 #[.val (.int p0), .val (.int p1), .val (.int (3 : Int32)), .val (.ref w_INVALID_ARGUMENT), .val (.ref w_INVALID_ARGUMENT)] [(.int (3 : Int32))])) _
              refine XS.iloadN X17.here hx rfl (hb hby at_47) rfl ?_
              show Steps p.tables e below (T17.setTop (mkF m 48 #[.val (.int p0), .val (.int p1), .val (.int (3 : Int32)), .val (.ref w_INVALID_ARGUMENT), .val (.ref w_INVALID_ARGUMENT)] [(.int (3 : Int32)), (.int (3 : Int32))])) _
              refine XS.icmpYes X17.here hx rfl (pc0 := 48) (pc' := 53) rfl (hb hby at_48) rfl (teq (by decide : (3 : Int32) = (3 : Int32))).1 (by decide) (by decide) ?_
              show Steps p.tables e below (T17.setTop (mkF m 53 #[.val (.int p0), .val (.int p1), .val (.int (3 : Int32)), .val (.ref w_INVALID_ARGUMENT), .val (.ref w_INVALID_ARGUMENT)] [])) _
              refine XS.iconst X17.here hx rfl (hb hby at_53) ?_
              exact k
            refine Go.retZ X17 hx hlk hret (Or.inr rfl) (hb hby at_54) (by decide) (by decide) e17 ?_
            exact ⟨rfl, N17⟩
          · skip
            refine Go.by (T' := T0) (g' := (mkF m 21 #[.val (.int p0), .val (.int p1), .val (.int c0), .unset, .unset] [(.int c0)])) (fun t k => ?_) ?_
            · show Steps p.tables e below (T0.setTop (mkF m 20 #[.val (.int p0), .val (.int p1), .val (.int c0), .unset, .unset] [])) _
              refine XS.iloadN X0.here hx rfl (hb hby at_20) rfl ?_
              exact k
            refine Go.callS X0 hx hZ (W := 0) (argsL := [(.int c0)]) (rest := []) hown (wd hw 0 rfl) (wd hw 1 rfl) (wd hw 2 rfl) (wd hw 3 rfl) (by decide) (ct_forCode l Z a0 hw w_NO_SUCH_PROGRAM w_NO_SUCH_VERSION w_NO_SUCH_PROCEDURE w_INVALID_ARGUMENT w_V cl_V E_NO_SUCH_PROGRAM E_NO_SUCH_VERSION E_NO_SUCH_PROCEDURE E_INVALID_ARGUMENT F_NO_SUCH_PROGRAM F_NO_SUCH_VERSION F_NO_SUCH_PROCEDURE F_INVALID_ARGUMENT S_V A_V E_V Q_V z_V t_NO_SUCH_PROGRAM t_NO_SUCH_VERSION t_NO_SUCH_PROCEDURE t_INVALID_ARGUMENT S_NO_SUCH_PROGRAM S_NO_SUCH_VERSION S_NO_SUCH_PROCEDURE S_INVALID_ARGUMENT c0 .null h0 n0 O (by simp [hy2, hy6, hy10, hy14])) e0 (by rw [hml]; rfl) (lenOf pd__S_Lcom_example_ferrule_ferrule_RejectRe_4895 rfl) rfl rfl (hb hby at_21) (by decide) (by decide) (by decide) (by decide) ?_
            intro v18 T18 h18 L18 X18 e18 q18
            obtain ⟨rfl, N18, K18⟩ := q18
            replace N18 := Fr.app N0 N18
            replace O := O.keep K18 all0
            show Go p e below _ T18 (mkF m 24 #[.val (.int p0), .val (.int p1), .val (.int c0), .unset, .unset] [.null])
            refine Go.by (T' := T18) (g' := (mkF m 26 #[.val (.int p0), .val (.int p1), .val (.int c0), .val .null, .unset] [(.int c0)])) (fun t k => ?_) ?_
            · show Steps p.tables e below (T18.setTop (mkF m 24 #[.val (.int p0), .val (.int p1), .val (.int c0), .unset, .unset] [.null])) _
              refine XS.astoreN X18.here hx rfl (hb hby at_24) rfl rfl (l' := #[.val (.int p0), .val (.int p1), .val (.int c0), .val .null, .unset]) rfl ?_
              show Steps p.tables e below (T18.setTop (mkF m 25 #[.val (.int p0), .val (.int p1), .val (.int c0), .val .null, .unset] [])) _
              refine XS.iloadN X18.here hx rfl (hb hby at_25) rfl ?_
              exact k
            refine Go.callS X18 hx hZ (W := 0) (argsL := [(.int c0)]) (rest := []) hown (wd hw 25 rfl) (wd hw 26 rfl) (wd hw 27 rfl) (wd hw 28 rfl) (by decide) (ct_expected l Z a0 hw w_NO_SUCH_PROGRAM w_NO_SUCH_VERSION w_NO_SUCH_PROCEDURE w_INVALID_ARGUMENT w_V cl_V E_NO_SUCH_PROGRAM E_NO_SUCH_VERSION E_NO_SUCH_PROCEDURE E_INVALID_ARGUMENT F_NO_SUCH_PROGRAM F_NO_SUCH_VERSION F_NO_SUCH_PROCEDURE F_INVALID_ARGUMENT S_V A_V E_V Q_V z_V t_NO_SUCH_PROGRAM t_NO_SUCH_VERSION t_NO_SUCH_PROCEDURE t_INVALID_ARGUMENT S_NO_SUCH_PROGRAM S_NO_SUCH_VERSION S_NO_SUCH_PROCEDURE S_INVALID_ARGUMENT c0 .null h18 n0 O (by simp [hy2, hy6, hy10, hy14])) e18 (by rw [hml]; rfl) (lenOf pd__S_Lcom_example_ferrule_ferrule_RejectRe_4895 rfl) rfl rfl (hb hby at_26) (by decide) (by decide) (by decide) (by decide) ?_
            intro v19 T19 h19 L19 X19 e19 q19
            obtain ⟨rfl, N19, rfl⟩ := q19
            replace N19 := Fr.app N18 N19
            show Go p e below _ T19 (mkF m 29 #[.val (.int p0), .val (.int p1), .val (.int c0), .val .null, .unset] [.null])
            refine Go.by (T' := T19) (g' := (mkF m 54 #[.val (.int p0), .val (.int p1), .val (.int c0), .val .null, .val .null] [(.int (1 : Int32))])) (fun t k => ?_) ?_
            · show Steps p.tables e below (T19.setTop (mkF m 29 #[.val (.int p0), .val (.int p1), .val (.int c0), .val .null, .unset] [.null])) _
              refine XS.astore X19.here hx rfl (hb hby at_29) rfl rfl (l' := #[.val (.int p0), .val (.int p1), .val (.int c0), .val .null, .val .null]) rfl ?_
              show Steps p.tables e below (T19.setTop (mkF m 31 #[.val (.int p0), .val (.int p1), .val (.int c0), .val .null, .val .null] [])) _
              refine XS.aloadN X19.here hx rfl (hb hby at_31) rfl rfl ?_
              show Steps p.tables e below (T19.setTop (mkF m 32 #[.val (.int p0), .val (.int p1), .val (.int c0), .val .null, .val .null] [.null])) _
              refine XS.aload X19.here hx rfl (hb hby at_32) rfl rfl ?_
              show Steps p.tables e below (T19.setTop (mkF m 34 #[.val (.int p0), .val (.int p1), .val (.int c0), .val .null, .val .null] [.null, .null])) _
              refine Jvm.RoadKit.acmp (g := (mkF m 34 #[.val (.int p0), .val (.int p1), .val (.int c0), .val .null, .val .null] [.null, .null])) X19 hx rfl rfl rfl (pc0 := 34) (pc' := 39) (same := true) rfl (hb hby at_34) rfl (decide_eq_true rfl) (by decide) (by decide) ?_
              show Steps p.tables e below (T19.setTop (mkF m 39 #[.val (.int p0), .val (.int p1), .val (.int c0), .val .null, .val .null] [])) _
              refine XS.aloadN X19.here hx rfl (hb hby at_39) rfl rfl ?_
              show Steps p.tables e below (T19.setTop (mkF m 40 #[.val (.int p0), .val (.int p1), .val (.int c0), .val .null, .val .null] [.null])) _
              refine XS.ifnullYes X19.here hx rfl (pc0 := 40) (pc' := 53) rfl (hb hby at_40) rfl (by decide) (by decide) ?_
              show Steps p.tables e below (T19.setTop (mkF m 53 #[.val (.int p0), .val (.int p1), .val (.int c0), .val .null, .val .null] [])) _
              refine XS.iconst X19.here hx rfl (hb hby at_53) ?_
              exact k
            refine Go.retZ X19 hx hlk hret (Or.inr rfl) (hb hby at_54) (by decide) (by decide) e19 ?_
            exact ⟨rfl, N19⟩
  by_cases hy1 : (p1 &&& (1 : Int32)) = (0 : Int32)
  · skip
    refine Go.by (T' := T0) (g' := (mkF m 20 #[.val (.int p0), .val (.int p1), .val (.int (p0.toInt16.toInt32)), .unset, .unset] [])) (fun t k => ?_) ?_
    · show Steps p.tables e below (T0.setTop (mkF m 3 #[.val (.int p0), .val (.int p1), .unset, .unset, .unset] [(.int (p1 &&& (1 : Int32)))])) _
      refine XS.ifYes X0.here hx rfl (pc0 := 3) (pc' := 17) rfl (hb hby at_3) rfl ((if0 _ _).trans (teq hy1).1) (by decide) (by decide) ?_
      show Steps p.tables e below (T0.setTop (mkF m 17 #[.val (.int p0), .val (.int p1), .unset, .unset, .unset] [])) _
      refine XS.iloadN X0.here hx rfl (hb hby at_17) rfl ?_
      show Steps p.tables e below (T0.setTop (mkF m 18 #[.val (.int p0), .val (.int p1), .unset, .unset, .unset] [(.int p0)])) _
      refine XS.i2s X0.here hx rfl (hb hby at_18) rfl ?_
      show Steps p.tables e below (T0.setTop (mkF m 19 #[.val (.int p0), .val (.int p1), .unset, .unset, .unset] [(.int (p0.toInt16.toInt32))])) _
      refine XS.istoreN X0.here hx rfl (hb hby at_19) rfl (l' := #[.val (.int p0), .val (.int p1), .val (.int (p0.toInt16.toInt32)), .unset, .unset]) rfl ?_
      exact k
    exact J1 (p0.toInt16.toInt32)
  · skip
    refine Go.by (T' := T0) (g' := (mkF m 20 #[.val (.int p0), .val (.int p1), .val (.int (((p0 &&& (7 : Int32)) - (2 : Int32)).toInt16.toInt32)), .unset, .unset] [])) (fun t k => ?_) ?_
    · show Steps p.tables e below (T0.setTop (mkF m 3 #[.val (.int p0), .val (.int p1), .unset, .unset, .unset] [(.int (p1 &&& (1 : Int32)))])) _
      refine XS.ifNo X0.here hx rfl (hb hby at_3) rfl ((if0 _ _).trans (feq hy1).1) ?_
      show Steps p.tables e below (T0.setTop (mkF m 6 #[.val (.int p0), .val (.int p1), .unset, .unset, .unset] [])) _
      refine XS.iloadN X0.here hx rfl (hb hby at_6) rfl ?_
      show Steps p.tables e below (T0.setTop (mkF m 7 #[.val (.int p0), .val (.int p1), .unset, .unset, .unset] [(.int p0)])) _
      refine XS.bipush X0.here hx rfl (hb hby at_7) ?_
      show Steps p.tables e below (T0.setTop (mkF m 9 #[.val (.int p0), .val (.int p1), .unset, .unset, .unset] [(.int (7 : Int32)), (.int p0)])) _
      refine XS.iand X0.here hx rfl (hb hby at_9) rfl ?_
      show Steps p.tables e below (T0.setTop (mkF m 10 #[.val (.int p0), .val (.int p1), .unset, .unset, .unset] [(.int (p0 &&& (7 : Int32)))])) _
      refine XS.iconst X0.here hx rfl (hb hby at_10) ?_
      show Steps p.tables e below (T0.setTop (mkF m 11 #[.val (.int p0), .val (.int p1), .unset, .unset, .unset] [(.int (2 : Int32)), (.int (p0 &&& (7 : Int32)))])) _
      refine XS.isub X0.here hx rfl (hb hby at_11) rfl ?_
      show Steps p.tables e below (T0.setTop (mkF m 12 #[.val (.int p0), .val (.int p1), .unset, .unset, .unset] [(.int ((p0 &&& (7 : Int32)) - (2 : Int32)))])) _
      refine XS.i2s X0.here hx rfl (hb hby at_12) rfl ?_
      show Steps p.tables e below (T0.setTop (mkF m 13 #[.val (.int p0), .val (.int p1), .unset, .unset, .unset] [(.int (((p0 &&& (7 : Int32)) - (2 : Int32)).toInt16.toInt32))])) _
      refine XS.istoreN X0.here hx rfl (hb hby at_13) rfl (l' := #[.val (.int p0), .val (.int p1), .val (.int (((p0 &&& (7 : Int32)) - (2 : Int32)).toInt16.toInt32)), .unset, .unset]) rfl ?_
      show Steps p.tables e below (T0.setTop (mkF m 14 #[.val (.int p0), .val (.int p1), .val (.int (((p0 &&& (7 : Int32)) - (2 : Int32)).toInt16.toInt32)), .unset, .unset] [])) _
      refine XS.goto X0.here hx rfl (pc0 := 14) (pc' := 20) rfl (hb hby at_14) (by decide) (by decide) ?_
      exact k
    exact J1 (((p0 &&& (7 : Int32)) - (2 : Int32)).toInt16.toInt32)
set_option maxRecDepth 65536 in
set_option maxHeartbeats 40000000 in
theorem comes_1 {Post : Tables → Env → Array Value → State → Outcome → State → Prop} (hpost : ∀ tb e args s v u, (limb_1_1.after args s (.returned v) u = true ∧ limb_1_2.after args s (.returned v) u = true ∧ True) → FrameEnd s (.returned v) u (Jvm.fieldLocs frame_1_writes args s ++ Jvm.arrayLocs frame_1_arrays args s ++ Jvm.staticLocs frame_1_statics s) 16 128 → Post tb e args s (.returned v) u) :
    ArmFor flags0 classFile x code maxLocals ret World_1 tables_1 room_1 Calls_1 rest_1 Pre_1 Post := by
  intro l hfl _ _ p e ha hc hk s m args below hf hA hF happ hP
  obtain ⟨hcalls, hrest, hpre⟩ := hP
  obtain ⟨-, -, -, hnamed, -, -, -, hat⟩ := (Spec.applies_iff hf).mp happ
  obtain ⟨hg, hn⟩ := and_e (Cond.before_iff.mp (show (Jvm.Cond.and given_1 narrow_1).before args s = true from hpre))
  obtain ⟨hcnt, hg⟩ := and_e hg
  obtain ⟨ha0, hg⟩ := and_e hg
  have ha1 := hg
  obtain ⟨u0, u1, rfl⟩ : ∃ u0 u1 : Value, args = #[u0, u1] := by
    have hs : args.size = 2 := by simpa [Cond.value] using hcnt
    obtain ⟨L⟩ := args
    match L, hs with
    | [u0, u1], _ => exact ⟨u0, u1, rfl⟩
  have hw := fun d (hd : d ∈ tables_1) => atoms_spec (ws := Jvm.Cond.code x code maxLocals ret :: tables_1) hat d (List.mem_cons_of_mem _ hd)
  have hfit : Fit s := fun {y c} hc i hi => by
    obtain ⟨ha, rfl⟩ := Array.getElem?_eq_some_iff.mp hc
    have q := List.all_eq_true.mp ((Array.all_eq_true_iff_forall_mem.mp hF) _ (Array.getElem_mem ha)) i (List.mem_range.mpr hi)
    simpa [Array.getElem?_eq_getElem hi] using q
  obtain ⟨i0, ei0⟩ := is_v ha0
  obtain rfl : u0 = (.int i0) := Option.some.inj ei0
  obtain ⟨i1, ei1⟩ := is_v ha1
  obtain rfl : u1 = (.int i1) := Option.some.inj ei1
  obtain ⟨n1, hn⟩ := and_e hn
  obtain ⟨n2, hn⟩ := and_e hn
  obtain ⟨n3, hn⟩ := and_e hn
  obtain ⟨n4, hn⟩ := and_e hn
  obtain ⟨n5, hn⟩ := and_e hn
  obtain ⟨n6, hn⟩ := and_e hn
  obtain ⟨n7, hn⟩ := and_e hn
  obtain ⟨n8, hn⟩ := and_e hn
  obtain ⟨n9, hn⟩ := and_e hn
  obtain ⟨n10, hn⟩ := and_e hn
  obtain ⟨n11, hn⟩ := and_e hn
  obtain ⟨n12, hn⟩ := and_e hn
  obtain ⟨n13, hn⟩ := and_e hn
  obtain ⟨n14, hn⟩ := and_e hn
  have k_arr := n1
  obtain ⟨w_V, ev_V⟩ := arr_v k_arr
  have S_V := Sta.start ev_V (Or.inl (wd hw 20 rfl))
  obtain ⟨cl_V, A_V⟩ := Arr.start ev_V k_arr
  have E_V := Exa.start ev_V n2
  have Q_V := FitC.start hfit A_V
  have z_V := size_le (k := 4) (lenI_v (eqI_v n3) ev_V (A_V.fin (Vm.Alike.refl _))) rfl
  obtain ⟨w_NO_SUCH_PROGRAM, ev_NO_SUCH_PROGRAM⟩ := exa_v n4
  have E_NO_SUCH_PROGRAM := Exa.start ev_NO_SUCH_PROGRAM n4
  have F_NO_SUCH_PROGRAM := Fld.start ((fld_at ev_NO_SUCH_PROGRAM).symm.trans (eqI_v n12))
  have t_NO_SUCH_PROGRAM : cl_V.slots[0]? = some (.ref w_NO_SUCH_PROGRAM) := (elem_in (eqR_v ev_NO_SUCH_PROGRAM n5) ev_V (Term.int_eval _) A_V.1).2
  have S_NO_SUCH_PROGRAM := Sta.start ev_NO_SUCH_PROGRAM (Or.inr ⟨(wd hw 2 rfl), (wd hw 16 rfl)⟩)
  obtain ⟨w_NO_SUCH_VERSION, ev_NO_SUCH_VERSION⟩ := exa_v n6
  have E_NO_SUCH_VERSION := Exa.start ev_NO_SUCH_VERSION n6
  have F_NO_SUCH_VERSION := Fld.start ((fld_at ev_NO_SUCH_VERSION).symm.trans (eqI_v n13))
  have t_NO_SUCH_VERSION : cl_V.slots[1]? = some (.ref w_NO_SUCH_VERSION) := (elem_in (eqR_v ev_NO_SUCH_VERSION n7) ev_V (Term.int_eval _) A_V.1).2
  have S_NO_SUCH_VERSION := Sta.start ev_NO_SUCH_VERSION (Or.inr ⟨(wd hw 2 rfl), (wd hw 17 rfl)⟩)
  obtain ⟨w_NO_SUCH_PROCEDURE, ev_NO_SUCH_PROCEDURE⟩ := exa_v n8
  have E_NO_SUCH_PROCEDURE := Exa.start ev_NO_SUCH_PROCEDURE n8
  have F_NO_SUCH_PROCEDURE := Fld.start ((fld_at ev_NO_SUCH_PROCEDURE).symm.trans (eqI_v n14))
  have t_NO_SUCH_PROCEDURE : cl_V.slots[2]? = some (.ref w_NO_SUCH_PROCEDURE) := (elem_in (eqR_v ev_NO_SUCH_PROCEDURE n9) ev_V (Term.int_eval _) A_V.1).2
  have S_NO_SUCH_PROCEDURE := Sta.start ev_NO_SUCH_PROCEDURE (Or.inr ⟨(wd hw 2 rfl), (wd hw 18 rfl)⟩)
  obtain ⟨w_INVALID_ARGUMENT, ev_INVALID_ARGUMENT⟩ := exa_v n10
  have E_INVALID_ARGUMENT := Exa.start ev_INVALID_ARGUMENT n10
  have F_INVALID_ARGUMENT := Fld.start ((fld_at ev_INVALID_ARGUMENT).symm.trans (eqI_v hn))
  have t_INVALID_ARGUMENT : cl_V.slots[3]? = some (.ref w_INVALID_ARGUMENT) := (elem_in (eqR_v ev_INVALID_ARGUMENT n11) ev_V (Term.int_eval _) A_V.1).2
  have S_INVALID_ARGUMENT := Sta.start ev_INVALID_ARGUMENT (Or.inr ⟨(wd hw 2 rfl), (wd hw 19 rfl)⟩)
  obtain ⟨n, o, h1, h2, h3, _, L, rfl, ⟨rfl, N⟩, hq⟩ := ct_law l s _ hw w_NO_SUCH_PROGRAM w_NO_SUCH_VERSION w_NO_SUCH_PROCEDURE w_INVALID_ARGUMENT w_V cl_V E_NO_SUCH_PROGRAM E_NO_SUCH_VERSION E_NO_SUCH_PROCEDURE E_INVALID_ARGUMENT F_NO_SUCH_PROGRAM F_NO_SUCH_VERSION F_NO_SUCH_PROCEDURE F_INVALID_ARGUMENT S_V A_V E_V Q_V z_V t_NO_SUCH_PROGRAM t_NO_SUCH_VERSION t_NO_SUCH_PROCEDURE t_INVALID_ARGUMENT S_NO_SUCH_PROGRAM S_NO_SUCH_VERSION S_NO_SUCH_PROCEDURE S_INVALID_ARGUMENT i0 i1 s.heap s.heap.size (Old.start s)  tables_1 p e ha hc hk s m _ below hf ((Spec.applies_iff_loose hf).mp happ).1 ⟨rfl, State.Warmed39.refl s, rfl⟩ trivial
  refine ⟨n, _, h1, h2, h3, hpost _ _ _ _ _ _ ⟨Cond.after_iff.mpr rfl, Cond.after_iff.mpr (eq_i res_at (Term.int_eval (1)) rfl), trivial⟩ ⟨hq.1, hq.2.1, (hq.2.2.sift fun y hy => Or.inr (N y hy)).mono (by decide) (by decide)⟩⟩
theorem main_1_1 : Claimed_1_1 := comes_1 fun _ _ _ _ _ _ h hF => ⟨h.1, hF⟩
theorem main_1_2 : Claimed_1_2 := comes_1 fun _ _ _ _ _ _ h hF => ⟨h.2.1, hF⟩
end Jvm.Pilot.@@N@@
namespace Jvm.Pilot.@@N@@
open Jvm Jvm.ClassFile Sem Op Lib Jvm.Free Jvm.Stand Jvm.Pilot.@@N@@.Jvm.D
/-! MADE BY PROGRAM (witnessworld.py) out of the Statement's table words and the real class files: 13 classes; the members and pool entries that the words name. The judged class is class 1, her method 2. -/
namespace start1
open Jvm.ClassFile
def u (s : String) : CpInfo := .utf8 (stringToUtf16 s)
/-- a pool by its gaps: so many unusable entries, then the entry; so many at the end -/
def gap : Nat → List CpInfo → List CpInfo
  | 0, r => r
  | n + 1, r => .unusable :: gap n r
def poolList (es : List (Nat × CpInfo)) (last : Nat) : List CpInfo := es.foldr (fun e r => gap e.1 (e.2 :: r)) (gap last [])
def pool (es : List (Nat × CpInfo)) (last : Nat) : Array CpInfo := ⟨poolList es last⟩
def fileOf (pool : Array CpInfo) (this : Nat) (attrs : Array Attribute := #[]) (ms : Array MethodInfo := #[]) (fl : Nat := 33) (sup : Nat := 0) (ifs : Array Nat := #[]) (fds : Array FieldInfo := #[]) : ClassFile where
  minorVersion := 0
  majorVersion := 65
  constantPool := pool
  accessFlags := fl
  thisClass := this
  superClass := sup
  interfaces := ifs
  fields := fds
  methods := ms
  attributes := attrs
def plain (name : String) (sup : Option ClassId) : Class where
  name := name
  kind := .ordinary
  loader := none
  accessFlags := 33
  super := sup
  interfaces := #[]
  cf := none
  fields := #[]
  methods := #[]
  instanceTypes := #[]
  staticTypes := #[]
  resolved := #[]
  callSites := []
  init := .initialized
  statics := none
  mirror := none

def pool0 : Array CpInfo := pool [(5, u "<init>"), (0, u "()V"), (1, .class_ 10), (1, u "java/lang/Object"), (85, u "clone"), (0, u "()Ljava/lang/Object;")] 26

def k0m0 : Method := { name := "<init>", desc := "()V", sig := { parameters := [], returnType := none }, accessFlags := 1, code := none }
def k0m1 : Method := { name := "clone", desc := "()Ljava/lang/Object;", sig := { parameters := [], returnType := some (.object "java/lang/Object") }, accessFlags := 260, code := none }
/-- java/lang/Object -/
def k0 : Class := { plain "java/lang/Object" none with
  accessFlags := 33
  interfaces := #[]
  cf := some (fileOf pool0 8 #[] #[{ accessFlags := 1, nameIndex := 5, descriptorIndex := 6, attributes := #[] }, { accessFlags := 260, nameIndex := 96, descriptorIndex := 97, attributes := #[] }] 33 0 #[] #[])
  fields := #[]
  methods := #[k0m0, k0m1]
  instanceTypes := #[]
  staticTypes := #[]
  resolved := Array.replicate 124 none
  statics := none }

def pool1 : Array CpInfo := pool [(2, .class_ 4), (1, u "java/lang/Object"), (0, u "<init>"), (0, u "()V"), (0, .fieldref 8 9), (0, .class_ 10), (0, .nameAndType 11 12), (0, u "com/example/ferrule/ferrule/RejectReason"), (0, u "NO_SUCH_PROGRAM"), (0, u "Lcom/example/ferrule/ferrule/RejectReason;"), (0, .fieldref 8 14), (0, .nameAndType 15 12), (0, u "NO_SUCH_VERSION"), (0, .fieldref 8 17), (0, .nameAndType 18 12), (0, u "NO_SUCH_PROCEDURE"), (0, .fieldref 8 20), (0, .nameAndType 21 12), (0, u "INVALID_ARGUMENT"), (0, .methodref 8 23), (0, .nameAndType 24 25), (0, u "forCode"), (0, u "(S)Lcom/example/ferrule/ferrule/RejectReason;"), (0, .methodref 27 28), (0, .class_ 29), (0, .nameAndType 30 25), (0, u "com/example/ferrule/ferrule/RejectReasonForCodePinLaw"), (0, u "expected"), (0, .methodref 8 32), (0, .nameAndType 33 34), (0, u "code"), (0, u "()S"), (3, u "law"), (0, u "(II)Z")] 2

def k1m0 : Method := { name := "<init>", desc := "()V", sig := { parameters := [], returnType := none }, accessFlags := 2, code := none }
def k1c1 : Code := { maxStack := 2, maxLocals := 1, code := method_2_code, exceptionTable := #[], attributes := #[] }
def k1m1 : Method := { name := "expected", desc := "(S)Lcom/example/ferrule/ferrule/RejectReason;", sig := { parameters := [.short], returnType := some (.object "com/example/ferrule/ferrule/RejectReason") }, accessFlags := 10, code := some k1c1 }
def k1c2 : Code := { maxStack := 2, maxLocals := 5, code := code, exceptionTable := #[], attributes := #[] }
def k1m2 : Method := { name := "law", desc := "(II)Z", sig := { parameters := [.int, .int], returnType := some .boolean }, accessFlags := 9, code := some k1c2 }
/-- com/example/ferrule/ferrule/RejectReasonForCodePinLaw -/
def k1 : Class := { plain "com/example/ferrule/ferrule/RejectReasonForCodePinLaw" (some 0) with
  accessFlags := 49
  interfaces := #[]
  cf := some (fileOf pool1 27 #[] #[{ accessFlags := 2, nameIndex := 5, descriptorIndex := 6, attributes := #[] }, { accessFlags := 10, nameIndex := 30, descriptorIndex := 25, attributes := #[] }, { accessFlags := 9, nameIndex := 38, descriptorIndex := 39, attributes := #[] }] 49 2 #[] #[])
  fields := #[]
  methods := #[k1m0, k1m1, k1m2]
  instanceTypes := #[]
  staticTypes := #[]
  resolved := Array.replicate 42 none
  statics := none }

def pool2 : Array CpInfo := pool [(1, .class_ 2), (0, u "java/lang/constant/Constable"), (0, .class_ 4), (0, u "java/lang/Object")] 6

/-- java/lang/constant/Constable -/
def k2 : Class := { plain "java/lang/constant/Constable" (some 0) with
  accessFlags := 1537
  interfaces := #[]
  cf := some (fileOf pool2 1 #[] #[] 1537 3 #[] #[])
  fields := #[]
  methods := #[]
  instanceTypes := #[]
  staticTypes := #[]
  resolved := Array.replicate 11 none
  statics := none }

def pool3 : Array CpInfo := pool [(1, .class_ 2), (0, u "java/lang/Comparable"), (0, .class_ 4), (0, u "java/lang/Object")] 7

/-- java/lang/Comparable -/
def k3 : Class := { plain "java/lang/Comparable" (some 0) with
  accessFlags := 1537
  interfaces := #[]
  cf := some (fileOf pool3 1 #[] #[] 1537 3 #[] #[])
  fields := #[]
  methods := #[]
  instanceTypes := #[]
  staticTypes := #[]
  resolved := Array.replicate 12 none
  statics := none }

def pool4 : Array CpInfo := pool [(1, .class_ 2), (0, u "java/io/Serializable"), (0, .class_ 4), (0, u "java/lang/Object")] 2

/-- java/io/Serializable -/
def k4 : Class := { plain "java/io/Serializable" (some 0) with
  accessFlags := 1537
  interfaces := #[]
  cf := some (fileOf pool4 1 #[] #[] 1537 3 #[] #[])
  fields := #[]
  methods := #[]
  instanceTypes := #[]
  staticTypes := #[]
  resolved := Array.replicate 7 none
  statics := none }

def pool5 : Array CpInfo := pool [(2, .class_ 4), (1, u "java/lang/Enum"), (0, u "name"), (0, u "Ljava/lang/String;"), (2, u "ordinal"), (0, u "I"), (1, .class_ 14), (1, u "java/lang/Object"), (4, u "hash"), (86, .class_ 108), (1, u "java/lang/Enum$EnumDesc"), (2, .class_ 112), (0, u "java/lang/constant/Constable"), (0, .class_ 114), (0, u "java/lang/Comparable"), (0, .class_ 116), (0, u "java/io/Serializable")] 87

/-- java/lang/Enum -/
def k5 : Class := { plain "java/lang/Enum" (some 0) with
  accessFlags := 1057
  interfaces := #[2, 3, 4]
  cf := some (fileOf pool5 2 #[.nestMembers #[106]] #[] 1057 12 #[111, 113, 115] #[{ accessFlags := 18, nameIndex := 5, descriptorIndex := 6, attributes := #[] }, { accessFlags := 18, nameIndex := 9, descriptorIndex := 10, attributes := #[] }, { accessFlags := 2, nameIndex := 19, descriptorIndex := 10, attributes := #[] }])
  fields := #[{ name := "name", type := (.object "java/lang/String"), accessFlags := 18, slot := 0, constantValue := 0 }, { name := "ordinal", type := .int, accessFlags := 18, slot := 1, constantValue := 0 }, { name := "hash", type := .int, accessFlags := 2, slot := 2, constantValue := 0 }]
  methods := #[]
  instanceTypes := #[(.object "java/lang/String"), .int, .int]
  staticTypes := #[]
  resolved := Array.replicate 204 none
  statics := none }

def pool6 : Array CpInfo := pool [(1, .class_ 2), (0, u "com/example/ferrule/ferrule/RejectReason"), (2, u "NO_SUCH_PROGRAM"), (0, u "Lcom/example/ferrule/ferrule/RejectReason;"), (2, u "NO_SUCH_VERSION"), (2, u "NO_SUCH_PROCEDURE"), (2, u "INVALID_ARGUMENT"), (0, .fieldref 1 17), (0, .nameAndType 18 19), (0, u "$VALUES"), (0, u "[Lcom/example/ferrule/ferrule/RejectReason;"), (0, .methodref 21 22), (0, .class_ 19), (0, .nameAndType 23 24), (0, u "clone"), (0, u "()Ljava/lang/Object;"), (1, .class_ 28), (1, u "java/lang/Enum"), (6, .fieldref 1 36), (0, .nameAndType 37 38), (0, u "code"), (0, u "S"), (2, u "description"), (0, u "Ljava/lang/String;"), (0, .methodref 1 44), (0, .nameAndType 45 46), (0, u "values"), (0, u "()[Lcom/example/ferrule/ferrule/RejectReason;"), (24, u "()S"), (0, u "forCode"), (0, u "(S)Lcom/example/ferrule/ferrule/RejectReason;")] 8

def k6c0 : Code := { maxStack := 1, maxLocals := 0, code := prog_35_method_1_code, exceptionTable := #[], attributes := #[] }
def k6m0 : Method := { name := "values", desc := "()[Lcom/example/ferrule/ferrule/RejectReason;", sig := { parameters := [], returnType := some (.array (.object "com/example/ferrule/ferrule/RejectReason")) }, accessFlags := 9, code := some k6c0 }
def k6c1 : Code := { maxStack := 1, maxLocals := 1, code := prog_35_method_4_code, exceptionTable := #[], attributes := #[] }
def k6m1 : Method := { name := "code", desc := "()S", sig := { parameters := [], returnType := some .short }, accessFlags := 1, code := some k6c1 }
def k6c2 : Code := { maxStack := 2, maxLocals := 5, code := prog_35_method_5_code, exceptionTable := #[], attributes := #[] }
def k6m2 : Method := { name := "forCode", desc := "(S)Lcom/example/ferrule/ferrule/RejectReason;", sig := { parameters := [.short], returnType := some (.object "com/example/ferrule/ferrule/RejectReason") }, accessFlags := 8, code := some k6c2 }
/-- com/example/ferrule/ferrule/RejectReason -/
def k6 : Class := { plain "com/example/ferrule/ferrule/RejectReason" (some 5) with
  accessFlags := 16433
  interfaces := #[]
  cf := some (fileOf pool6 1 #[] #[{ accessFlags := 9, nameIndex := 45, descriptorIndex := 46, attributes := #[] }, { accessFlags := 1, nameIndex := 37, descriptorIndex := 71, attributes := #[] }, { accessFlags := 8, nameIndex := 72, descriptorIndex := 73, attributes := #[] }] 16433 26 #[] #[{ accessFlags := 16409, nameIndex := 5, descriptorIndex := 6, attributes := #[] }, { accessFlags := 16409, nameIndex := 9, descriptorIndex := 6, attributes := #[] }, { accessFlags := 16409, nameIndex := 12, descriptorIndex := 6, attributes := #[] }, { accessFlags := 16409, nameIndex := 15, descriptorIndex := 6, attributes := #[] }, { accessFlags := 18, nameIndex := 37, descriptorIndex := 38, attributes := #[] }, { accessFlags := 18, nameIndex := 41, descriptorIndex := 42, attributes := #[] }, { accessFlags := 4122, nameIndex := 18, descriptorIndex := 19, attributes := #[] }])
  fields := #[{ name := "NO_SUCH_PROGRAM", type := (.object "com/example/ferrule/ferrule/RejectReason"), accessFlags := 16409, slot := 0, constantValue := 0 }, { name := "NO_SUCH_VERSION", type := (.object "com/example/ferrule/ferrule/RejectReason"), accessFlags := 16409, slot := 1, constantValue := 0 }, { name := "NO_SUCH_PROCEDURE", type := (.object "com/example/ferrule/ferrule/RejectReason"), accessFlags := 16409, slot := 2, constantValue := 0 }, { name := "INVALID_ARGUMENT", type := (.object "com/example/ferrule/ferrule/RejectReason"), accessFlags := 16409, slot := 3, constantValue := 0 }, { name := "code", type := .short, accessFlags := 18, slot := 3, constantValue := 0 }, { name := "description", type := (.object "java/lang/String"), accessFlags := 18, slot := 4, constantValue := 0 }, { name := "$VALUES", type := (.array (.object "com/example/ferrule/ferrule/RejectReason")), accessFlags := 4122, slot := 4, constantValue := 0 }]
  methods := #[k6m0, k6m1, k6m2]
  instanceTypes := #[(.object "java/lang/String"), .int, .int, .short, (.object "java/lang/String")]
  staticTypes := #[(.object "com/example/ferrule/ferrule/RejectReason"), (.object "com/example/ferrule/ferrule/RejectReason"), (.object "com/example/ferrule/ferrule/RejectReason"), (.object "com/example/ferrule/ferrule/RejectReason"), (.array (.object "com/example/ferrule/ferrule/RejectReason"))]
  resolved := Array.replicate 82 none
  statics := some 0 }

def pool7 : Array CpInfo := pool [(1, .class_ 2), (0, u "java/lang/Cloneable"), (0, .class_ 4), (0, u "java/lang/Object")] 2

/-- java/lang/Cloneable -/
def k7 : Class := { plain "java/lang/Cloneable" (some 0) with
  accessFlags := 1537
  interfaces := #[]
  cf := some (fileOf pool7 1 #[] #[] 1537 3 #[] #[])
  fields := #[]
  methods := #[]
  instanceTypes := #[]
  staticTypes := #[]
  resolved := Array.replicate 7 none
  statics := none }

/-- the primitive byte -/
def k8 : Class := { plain "byte" none with kind := .primitive 'B', accessFlags := 0x411 }
/-- [B -/
def k9 : Class := { plain "[B" (some 0) with kind := .array 8 .byte, interfaces := #[7, 4], accessFlags := 1041 }

/-- the primitive int -/
def k10 : Class := { plain "int" none with kind := .primitive 'I', accessFlags := 0x411 }
/-- [I -/
def k11 : Class := { plain "[I" (some 0) with kind := .array 10 .int, interfaces := #[7, 4], accessFlags := 1041 }

/-- [Lcom/example/ferrule/ferrule/RejectReason; -/
def k12 : Class := { plain "[Lcom/example/ferrule/ferrule/RejectReason;" (some 0) with kind := .array 6 (.object "com/example/ferrule/ferrule/RejectReason"), interfaces := #[7, 4], accessFlags := 1041 }

def heap : Heap := #[{ cls := 6, slots := #[.ref 2, .ref 3, .ref 4, .ref 5, .ref 1], vm := .statics 6 },
  { cls := 12, slots := #[.ref 2, .ref 3, .ref 4, .ref 5], vm := .none },
  { cls := 6, slots := #[.null, .int 0, .int 0, .int 0, .null], vm := .none },
  { cls := 6, slots := #[.null, .int 1, .int 0, .int 1, .null], vm := .none },
  { cls := 6, slots := #[.null, .int 2, .int 0, .int 2, .null], vm := .none },
  { cls := 6, slots := #[.null, .int 3, .int 0, .int 3, .null], vm := .none }]
def classes : Array Class := #[k0, k1, k2, k3, k4, k5, k6, k7, k8, k9, k10, k11, k12]
def interned : List (Array UInt16 × Addr) := []
def slotsUsed : Nat := 29
def theMethod : MethodId := ⟨1, 2⟩
def args0 : Array Value := #[.int 5, .int 4]
def aboutOver (below : List Frame) : State where
  vm := { classes := classes, interned := interned.toArray }
  heap := heap
  slotsUsed := slotsUsed
  threads := #[{ frames := .invoking theMethod args0 :: below }]
def below0 : List Frame := [.native { method := ⟨0, 0⟩, args := #[] }]
def about1 : State := aboutOver below0
def p0 : Program := .bare "" "" ""
def e0 : Env := launch0.env 0 0 0
theorem w_frames : about1.frames = Frame.invoking theMethod args0 :: below0 := rfl
set_option maxRecDepth 65536 in
theorem w_args : argsFit about1.vm theMethod args0 = true := by decide +kernel
set_option maxRecDepth 65536 in
theorem w_heap : heapFits about1 = true := by decide +kernel
set_option maxRecDepth 65536 in
theorem w_runnable : about1.curStatus? = some .runnable := by decide +kernel
set_option maxRecDepth 65536 in
theorem w_alone : about1.alone = true := by decide +kernel
set_option maxRecDepth 65536 in
theorem w_named : about1.methodNamed? x = some theMethod := by decide +kernel
set_option maxRecDepth 65536 in
theorem w_hears : about1.hears theMethod below0 = true := by decide +kernel
set_option maxRecDepth 65536 in
theorem w_ripe : about1.ripe theMethod args0 below0 = true := by decide +kernel
theorem w_running : about1.status = .running := rfl
set_option maxRecDepth 65536 in
theorem w_room : about1.hasRoom e0.platform room_1 = true :=
  launch0.hasRoom_least _ room_1 (by decide +kernel) (by decide +kernel) (by decide +kernel) (by decide +kernel) (by decide +kernel) (by decide +kernel)
theorem allAtoms_all (ts : List Jvm.Cond) (a : Array Jvm.Value) (st : Jvm.State) : (allAtoms ts).before a st = ts.all (fun c => c.before a st) := by
  induction ts with
  | nil => rfl
  | cons c t ih =>
    show (Jvm.Cond.and c (allAtoms t)).before a st = _
    rw [Jvm.Cond.before_and, ih, List.all_cons]
def words1 : List Jvm.Cond := Jvm.Cond.code x code maxLocals ret :: tables_1
/-- a 'code' word, met by the world's own term for the bytes: nothing is compared byte by byte -/
theorem code_word {y : MethodName} {bytes : ByteArray} {mx : Nat} {rt : Option FieldType} {a : Array Value} {s : State} {m : MethodId} {meth : Method} {c : Code} (h1 : s.methodNamed? y = some m) (h2 : s.vm.method? m = some meth) (h3 : meth.code = some c) (h4 : c.code = bytes)
    (h5 : (c.maxLocals == mx && c.exceptionTable.isEmpty && decide (c.maxStack ≤ mostOperands) && decide (meth.sig.returnType = rt) && !meth.locks && decide (parseMethodDescriptor y.desc = some meth.sig)) = true) : (Jvm.Cond.code y bytes mx rt).before a s = true := by
  simp only [Bool.and_eq_true, beq_iff_eq, Bool.not_eq_true', decide_eq_true_eq] at h5
  obtain ⟨⟨⟨⟨⟨g1, g2⟩, g3⟩, g4⟩, g5⟩, g6⟩ := h5
  simp [Cond.before, Cond.holds, Cond.value, h1, h2, h3, h4, g1, g2, g3, g4, g5, g6]
def isCode : Jvm.Cond → Bool
  | .code _ _ _ _ => true
  | _ => false
theorem all_split {L : List Jvm.Cond} {P : Jvm.Cond → Bool} (h1 : L.all (fun c => isCode c || P c) = true) (h2 : ∀ c ∈ L.filter isCode, P c = true) : L.all P = true := by
  refine List.all_eq_true.mpr fun c hc => ?_
  have h := List.all_eq_true.mp h1 c hc
  rcases Bool.eq_false_or_eq_true (isCode c) with hi | hi
  · exact h2 c (List.mem_filter.mpr ⟨hc, hi⟩)
  · simpa [hi] using h
set_option maxRecDepth 65536 in
theorem w_c0 : (Jvm.Cond.code x code maxLocals ret).before args0 about1 = true := code_word (m := ⟨1, 2⟩) (meth := k1m2) (c := k1c2) (by decide +kernel) rfl rfl rfl (by decide +kernel)
set_option maxRecDepth 65536 in
theorem w_c1 : (Jvm.Cond.code ({ cls := "com/example/ferrule/ferrule/RejectReason", name := "forCode", desc := "(S)Lcom/example/ferrule/ferrule/RejectReason;" } : Jvm.MethodName) prog_35_method_5_code (5 : Nat) (Option.some (Jvm.ClassFile.FieldType.object "com/example/ferrule/ferrule/RejectReason"))).before args0 about1 = true := code_word (m := ⟨6, 2⟩) (meth := k6m2) (c := k6c2) (by decide +kernel) rfl rfl rfl (by decide +kernel)
set_option maxRecDepth 65536 in
theorem w_c2 : (Jvm.Cond.code ({ cls := "com/example/ferrule/ferrule/RejectReason", name := "values", desc := "()[Lcom/example/ferrule/ferrule/RejectReason;" } : Jvm.MethodName) prog_35_method_1_code (0 : Nat) (Option.some (Jvm.ClassFile.FieldType.array (Jvm.ClassFile.FieldType.object "com/example/ferrule/ferrule/RejectReason")))).before args0 about1 = true := code_word (m := ⟨6, 0⟩) (meth := k6m0) (c := k6c0) (by decide +kernel) rfl rfl rfl (by decide +kernel)
set_option maxRecDepth 65536 in
theorem w_c3 : (Jvm.Cond.code ({ cls := "com/example/ferrule/ferrule/RejectReasonForCodePinLaw", name := "expected", desc := "(S)Lcom/example/ferrule/ferrule/RejectReason;" } : Jvm.MethodName) method_2_code (1 : Nat) (Option.some (Jvm.ClassFile.FieldType.object "com/example/ferrule/ferrule/RejectReason"))).before args0 about1 = true := code_word (m := ⟨1, 1⟩) (meth := k1m1) (c := k1c1) (by decide +kernel) rfl rfl rfl (by decide +kernel)
set_option maxRecDepth 65536 in
theorem w_c4 : (Jvm.Cond.code ({ cls := "com/example/ferrule/ferrule/RejectReason", name := "code", desc := "()S" } : Jvm.MethodName) prog_35_method_4_code (1 : Nat) (Option.some Jvm.ClassFile.FieldType.short)).before args0 about1 = true := code_word (m := ⟨6, 1⟩) (meth := k6m1) (c := k6c1) (by decide +kernel) rfl rfl rfl (by decide +kernel)
def codes1 : List Jvm.Cond := [Jvm.Cond.code x code maxLocals ret, Jvm.Cond.code ({ cls := "com/example/ferrule/ferrule/RejectReason", name := "forCode", desc := "(S)Lcom/example/ferrule/ferrule/RejectReason;" } : Jvm.MethodName) prog_35_method_5_code (5 : Nat) (Option.some (Jvm.ClassFile.FieldType.object "com/example/ferrule/ferrule/RejectReason")), Jvm.Cond.code ({ cls := "com/example/ferrule/ferrule/RejectReason", name := "values", desc := "()[Lcom/example/ferrule/ferrule/RejectReason;" } : Jvm.MethodName) prog_35_method_1_code (0 : Nat) (Option.some (Jvm.ClassFile.FieldType.array (Jvm.ClassFile.FieldType.object "com/example/ferrule/ferrule/RejectReason"))), Jvm.Cond.code ({ cls := "com/example/ferrule/ferrule/RejectReasonForCodePinLaw", name := "expected", desc := "(S)Lcom/example/ferrule/ferrule/RejectReason;" } : Jvm.MethodName) method_2_code (1 : Nat) (Option.some (Jvm.ClassFile.FieldType.object "com/example/ferrule/ferrule/RejectReason")), Jvm.Cond.code ({ cls := "com/example/ferrule/ferrule/RejectReason", name := "code", desc := "()S" } : Jvm.MethodName) prog_35_method_4_code (1 : Nat) (Option.some Jvm.ClassFile.FieldType.short)]
set_option maxRecDepth 65536 in
theorem codes_eq : words1.filter isCode = codes1 := rfl
theorem w_codes : ∀ c ∈ words1.filter isCode, c.before args0 about1 = true := by
  rw [codes_eq]
  intro c hc
  simp only [codes1, List.mem_cons, List.not_mem_nil, or_false] at hc
  rcases hc with rfl | rfl | rfl | rfl | rfl
  · exact w_c0
  · exact w_c1
  · exact w_c2
  · exact w_c3
  · exact w_c4
set_option maxRecDepth 65536 in
theorem w_t1 : (words1.take 24).all (fun c => isCode c || c.before args0 about1) = true := by decide +kernel
set_option maxRecDepth 65536 in
theorem w_t2 : (words1.drop 24).all (fun c => isCode c || c.before args0 about1) = true := by decide +kernel
theorem w_tables : (allAtoms (Jvm.Cond.code x code maxLocals ret :: tables_1)).before args0 about1 = true := by
  rw [allAtoms_all]
  show words1.all (fun c => c.before args0 about1) = true
  refine all_split ?_ w_codes
  rw [← List.take_append_drop 24 words1, List.all_append, w_t1, w_t2]
  rfl
set_option maxRecDepth 65536 in
theorem w_case : (Jvm.Cond.and given_1 narrow_1).before args0 about1 = true := by decide +kernel
theorem w_applies : (headSpec (Jvm.Cond.code x code maxLocals ret :: tables_1) room_1).applies x e0.platform about1 = true :=
  (Spec.applies_iff w_frames).mpr ⟨w_running, w_runnable, w_alone, w_named, w_hears, w_ripe, w_room, w_tables⟩
theorem atStart : AtStart classFile x code maxLocals ret World_1 tables_1 room_1 Calls_1 rest_1 Pre_1 launch0 p0 e0 about1 theMethod args0 below0 :=
  ⟨lists_1, trivial, launch0.admits_env _ _ _, launch0.least_env, fairChoices_fair.cas, fairChoices_fair.clock, w_frames, w_args, w_heap, w_applies, trivial, trivial, w_case⟩
end start1
theorem witness_1 : WitnessClaimed_1 := ⟨start1.p0, start1.e0, start1.about1, start1.theMethod, start1.args0, start1.below0, start1.atStart⟩
end Jvm.Pilot.@@N@@
