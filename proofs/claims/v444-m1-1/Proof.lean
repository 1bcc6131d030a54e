import JvmDerived
import JvmDerived.Pilot.@@N@@Statement
import JvmDerived.Pilot.@@N@@Code
set_option linter.unusedVariables false
set_option linter.unusedSimpArgs false
namespace Jvm.OwnKit
open Jvm Sem ClassFile Op Lib Jvm.Stand Jvm.Free Jvm.LawKit Jvm.RoadKit
section K
variable {p : Program} {l : Launch} {e : Env} {R : Room} {s : State} {m : MethodId} {args : Array Value} {below : List Frame} {meth : Method} {c : Code} {T T' : State} {locs : List Loc} {cells slots : Nat} {Z : State} {a0 : Array Value} {h h0 : Heap} {ce sl : Nat} {Q : Option Value → Heap → List Loc → Prop} {P : Option Value → State → List Loc → Prop} {pc : Nat} {Ls : Array Slot} {rest : List Value}
/-- from this state and frame the body runs to its end, and Q holds there -/
def Go (p : Program) (e : Env) (below : List Frame) (P : Option Value → State → List Loc → Prop) (T : State) (g : JFrame) : Prop :=
  ∃ u v L, Steps p.tables e below (T.setTop g) u ∧ u.status = .running ∧ Ended u below (.returned v) ∧ P v u L
/-- the end of a body that interns nothing -/
def EndF (s : State) (ce sl : Nat) (Q : Option Value → Heap → List Loc → Prop) (v : Option Value) (u : State) (L : List Loc) : Prop := Q v u.heap L ∧ FrameEnd s (.returned v) u L ce sl
theorem Go.by {g g' : JFrame} (st : ∀ t, Steps p.tables e below (T'.setTop g') t → Steps p.tables e below (T.setTop g) t) (k : Go p e below P T' g') : Go p e below P T g := by
  obtain ⟨u, v, L, h1, r⟩ := k; exact ⟨u, v, L, st u h1, r⟩
theorem Go.cast {g g' : JFrame} (q : g = g') (k : Go p e below P T g') : Go p e below P T g := q ▸ k
/-- a body's contract at given arguments and a given heap -/
def Ct (l : Launch) (y : MethodName) (bytes : ByteArray) (maxL : Nat) (ret : Option FieldType) (rm : Room) (Z : State) (as' : Array Value) (h0 : Heap) (Q : Option Value → Heap → List Loc → Prop) : Prop :=
  ∀ ws : List Jvm.Cond, MetFree l y (head1 (Jvm.Cond.code y bytes maxL ret :: ws) rm) (fun a U => a = as' ∧ Z.Warmed39 U.vm ∧ U.heap = h0) (fun _ _ _ _ _ => True) (fun _ U o U' => ∃ v L, o = .returned v ∧ Q v U'.heap L ∧ FrameEnd U o U' L rm.cells rm.slots)
theorem Ct.of {y : MethodName} {bytes : ByteArray} {maxL : Nat} {ret : Option FieldType} {rm : Room} {as' : Array Value} (hpl : plainFor y = true)
    (body : ∀ (p : Program) (e : Env) (s : State) (m : MethodId) (below : List Frame) (meth : Method) (c : Code) (T : State), Stand p l e rm s m as' below meth c T [] 0 0 → p.tables.exec = Jvm.exec → c.code = bytes → c.maxLocals = maxL → s.vm.findClass y.cls = some m.cls → meth.name = y.name → meth.sig.returnType = ret → meth.locks = false → Z.Warmed39 s.vm → T.heap = h0 →
      Go p e below (EndF s rm.cells rm.slots Q) T (entryFrame m as' maxL)) : Ct l y bytes maxL ret rm Z as' h0 Q := by
  intro ws
  refine MetFree.of_bodySF hpl hisR ?_
  intro p e s m args below meth c s₁ Bd hml0 hP hK
  obtain ⟨rfl, hZ, hh⟩ := hP
  obtain ⟨u, v, L, h1, h2, h3, r⟩ := body p e s m below meth c s₁ (Stand.of_body Bd) Bd.exec Bd.bytes hml0 (findClass_of_methodNamed Bd.named) (name_of_methodNamed Bd.named Bd.method).1 Bd.returns (BodyLoose.notSynchronized Bd) hZ (by rw [← hh, Bd.state]; rfl)
  exact ⟨u, _, h1, h2, h3, v, L, rfl, r.1, r.2⟩
theorem Ct.mono {y : MethodName} {bytes : ByteArray} {maxL : Nat} {ret : Option FieldType} {rm : Room} {as' : Array Value} {Q' : Option Value → Heap → List Loc → Prop} (k : Ct l y bytes maxL ret rm Z as' h0 Q) (q : ∀ v h L, Q v h L → Q' v h L) : Ct l y bytes maxL ret rm Z as' h0 Q' := by
  intro ws p e ha hc hk s m args below hf happ hP hK
  obtain ⟨n, o, h1, h2, h3, v, L, h4, h5, h6⟩ := k ws p e ha hc hk s m args below hf happ hP hK
  exact ⟨n, o, h1, h2, h3, v, L, h4, q _ _ _ h5, h6⟩
theorem wd {ws : List Jvm.Cond} (hw : ∀ d ∈ ws, d.before a0 Z = true) {d : Jvm.Cond} (i : Nat) (q : ws[i]? = some d) : d.before a0 Z = true := hw _ (List.mem_of_getElem? q)
theorem Go.fin (X : Stand p l e R s m args below meth c T locs cells slots) (hlk : meth.locks = false) {v : Option Value} (hv : meth.sig.returnType = none → v = none) {g : JFrame}
    (st : ∀ fs, (∀ (f : JFrame) (acts : List Action), f.method = m → f.locked = none → f.entered = [] → (doReturn e (T.setTop f) acts v).1 = T.setFrames fs) → Steps p.tables e below (T.setTop g) (T.setFrames fs)) (hc : cells ≤ ce) (hs : slots ≤ sl) (eT : T.heap = h) (q : Q v h locs) : Go p e below (EndF s ce sl Q) T g := by
  obtain ⟨fs, hr, hrun, hended, hW, hsame⟩ := X.leave (v := v) hv hlk
  subst eT
  exact ⟨_, _, _, st fs hr, hrun, hended, q, ⟨_, rfl⟩, hW, hsame.mono hc hs⟩
theorem Go.retI (X : Stand p l e R s m args below meth c T locs cells slots) (hx : p.tables.exec = Jvm.exec) (hlk : meth.locks = false) (hret : meth.sig.returnType = some .int) {z : Int32} (hd : decode c.code pc = .ok (.ireturn, 1)) (hc : cells ≤ ce) (hs : slots ≤ sl) (eT : T.heap = h) (q : Q (some (.int z)) h locs) : Go p e below (EndF s ce sl Q) T (mkF m pc Ls (.int z :: rest)) :=
  Go.fin X hlk (fun h => by rw [hret] at h; cases h) (fun fs hl => retOut X hx hret rfl (Or.inl ⟨rfl, Or.inl rfl, z, rfl⟩) hd hl) hc hs eT q
theorem Go.retZ (X : Stand p l e R s m args below meth c T locs cells slots) (hx : p.tables.exec = Jvm.exec) (hlk : meth.locks = false) (hret : meth.sig.returnType = some .boolean) {z : Int32} (hz : z = 0 ∨ z = 1) (hd : decode c.code pc = .ok (.ireturn, 1)) (hc : cells ≤ ce) (hs : slots ≤ sl) (eT : T.heap = h) (q : Q (some (.int z)) h locs) : Go p e below (EndF s ce sl Q) T (mkF m pc Ls (.int z :: rest)) :=
  Go.fin X hlk (fun h => by rw [hret] at h; cases h) (fun fs hl => retOut X hx hret (by rcases hz with rfl | rfl <;> rfl) (Or.inl ⟨rfl, Or.inr (Or.inl rfl), z, rfl⟩) hd hl) hc hs eT q
theorem Go.retS (X : Stand p l e R s m args below meth c T locs cells slots) (hx : p.tables.exec = Jvm.exec) (hlk : meth.locks = false) {t : FieldType} (hret : meth.sig.returnType = some t) (ht : t = .byte ∨ t = .char ∨ t = .short) {z : Int32} (hz : narrow t (.int z) = .int z) (hd : decode c.code pc = .ok (.ireturn, 1)) (hc : cells ≤ ce) (hs : slots ≤ sl) (eT : T.heap = h) (q : Q (some (.int z)) h locs) : Go p e below (EndF s ce sl Q) T (mkF m pc Ls (.int z :: rest)) :=
  Go.fin X hlk (fun h => by rw [hret] at h; cases h) (fun fs hl => retOut X hx hret hz (Or.inl ⟨rfl, Or.inr (Or.inr ht), z, rfl⟩) hd hl) hc hs eT q
theorem Go.retJ (X : Stand p l e R s m args below meth c T locs cells slots) (hx : p.tables.exec = Jvm.exec) (hlk : meth.locks = false) (hret : meth.sig.returnType = some .long) {z : Int64} (hd : decode c.code pc = .ok (.lreturn, 1)) (hc : cells ≤ ce) (hs : slots ≤ sl) (eT : T.heap = h) (q : Q (some (.long z)) h locs) : Go p e below (EndF s ce sl Q) T (mkF m pc Ls (.long z :: rest)) :=
  Go.fin X hlk (fun h => by rw [hret] at h; cases h) (fun fs hl => retOut X hx hret rfl (Or.inr (Or.inl ⟨rfl, rfl, z, rfl⟩)) hd hl) hc hs eT q
theorem Go.retA (X : Stand p l e R s m args below meth c T locs cells slots) (hx : p.tables.exec = Jvm.exec) (hlk : meth.locks = false) {t : FieldType} (hret : meth.sig.returnType = some t) (ht : t.isReference = true) {v : Value} (hv : v.isRef = true) (hd : decode c.code pc = .ok (.areturn, 1)) (hc : cells ≤ ce) (hs : slots ≤ sl) (eT : T.heap = h) (q : Q (some v) h locs) : Go p e below (EndF s ce sl Q) T (mkF m pc Ls (v :: rest)) :=
  Go.fin X hlk (fun h => by rw [hret] at h; cases h) (fun fs hl => retOut X hx hret (by cases t <;> simp_all [FieldType.isReference, narrow]) (Or.inr (Or.inr (Or.inr (Or.inr ⟨rfl, ht, hv⟩)))) hd hl) hc hs eT q
theorem Go.retV (X : Stand p l e R s m args below meth c T locs cells slots) (hx : p.tables.exec = Jvm.exec) (hlk : meth.locks = false) (hret : meth.sig.returnType = none) (hd : decode c.code pc = .ok (.return_, 1)) (hc : cells ≤ ce) (hs : slots ≤ sl) (eT : T.heap = h) (q : Q none h locs) : Go p e below (EndF s ce sl Q) T (mkF m pc Ls []) :=
  Go.fin X hlk (fun _ => rfl) (fun fs hl => X.returnOut hx hret hd hl) hc hs eT q
/-! one law a step that reads the tables or the heap -/
theorem Go.getF (X : Stand p l e R s m args below meth c T locs cells slots) (hx : p.tables.exec = Jvm.exec) (hZ : Z.Warmed39 s.vm) {own R0 O n d : String} {index : Nat} (hown : s.vm.findClass own = some m.cls) (w : (Jvm.Cond.fieldLink own index R0 n d).before a0 Z = true) (via : Via Z R0 O n d) (eT : T.heap = h) {a : Addr} {v : Value} (F : Fld Z h a O n d v)
    (hd : decode c.code pc = .ok (.getfield index, 3)) (k : ∀ T', Stand p l e R s m args below meth c T' locs cells slots → T'.heap = h → Go p e below P T' (mkF m (pc + 3) Ls (v :: rest))) : Go p e below P T (mkF m pc Ls (.ref a :: rest)) := by
  obtain ⟨T', X', e', st⟩ := RoadKit.getF X hx hZ hown (host := "") (Or.inl w) via eT F (g := mkF m pc Ls (.ref a :: rest)) rfl rfl hd
  exact Go.by st (k T' X' e')
theorem Go.getFN (X : Stand p l e R s m args below meth c T locs cells slots) (hx : p.tables.exec = Jvm.exec) (hZ : Z.Warmed39 s.vm) {own R0 O n d host : String} {index : Nat} (hown : s.vm.findClass own = some m.cls) (w : (Jvm.Cond.fieldLinkNest own index R0 n d host).before a0 Z = true) (via : Via Z R0 O n d) (eT : T.heap = h) {a : Addr} {v : Value} (F : Fld Z h a O n d v)
    (hd : decode c.code pc = .ok (.getfield index, 3)) (k : ∀ T', Stand p l e R s m args below meth c T' locs cells slots → T'.heap = h → Go p e below P T' (mkF m (pc + 3) Ls (v :: rest))) : Go p e below P T (mkF m pc Ls (.ref a :: rest)) := by
  obtain ⟨T', X', e', st⟩ := RoadKit.getF X hx hZ hown (host := host) (Or.inr w) via eT F (g := mkF m pc Ls (.ref a :: rest)) rfl rfl hd
  exact Go.by st (k T' X' e')
theorem Go.putF (X : Stand p l e R s m args below meth c T locs cells slots) (hx : p.tables.exec = Jvm.exec) (hZ : Z.Warmed39 s.vm) {own R0 O n d C : String} {index kk : Nat} {ty : FieldType} (hown : s.vm.findClass own = some m.cls) (w : (Jvm.Cond.fieldLink own index R0 n d).before a0 Z = true) (via : Via Z R0 O n d) (eT : T.heap = h) {a : Addr} {v old : Value} (F : Fld Z h a O n d old) (E : Exa Z h a C)
    (L : (Jvm.Cond.lays C O n d).before a0 Z = true ∨ ((Jvm.Cond.laysFinal C O n d).before a0 Z = true ∧ own = O ∧ meth.name = "<init>")) (wi : (Jvm.Cond.instantiable C kk).before a0 Z = true) (hty : parseFieldDescriptor d = some ty) (hn : narrow ty v = v) (hf : fits ty v = true) (hd : decode c.code pc = .ok (.putfield index, 3))
    (k : ∀ T' h', Stand p l e R s m args below meth c T' (locs ++ [⟨a, RoadKit.slotOf Z O n d⟩]) cells slots → T'.heap = h' → Wr h h' a (RoadKit.slotOf Z O n d) v → Go p e below P T' (mkF m (pc + 3) Ls rest)) : Go p e below P T (mkF m pc Ls (v :: .ref a :: rest)) := by
  obtain ⟨T', h', X', e', W', st⟩ := RoadKit.putF X hx hZ hown (host := "") (Or.inl w) via eT F E L wi hty hn hf (g := mkF m pc Ls (v :: .ref a :: rest)) rfl rfl hd
  exact Go.by st (k T' h' X' e' W')
theorem Go.getS (X : Stand p l e R s m args below meth c T locs cells slots) (hx : p.tables.exec = Jvm.exec) (hZ : Z.Warmed39 s.vm) {own R0 O n d : String} {index : Nat} (hown : s.vm.findClass own = some m.cls) (w : (Jvm.Cond.fieldLink own index R0 n d).before a0 Z = true) (via : Via Z R0 O n d) (eT : T.heap = h) {v : Value} (F : Sta Z h O n d v) {st : List Value}
    (hd : decode c.code pc = .ok (.getstatic index, 3)) (k : ∀ T', Stand p l e R s m args below meth c T' locs cells slots → T'.heap = h → Go p e below P T' (mkF m (pc + 3) Ls (v :: st))) : Go p e below P T (mkF m pc Ls st) := by
  obtain ⟨T', X', e', st'⟩ := RoadKit.getS X hx hZ hown (host := "") w via eT F (g := mkF m pc Ls st) rfl hd
  exact Go.by st' (k T' X' e')
theorem Go.getSN (X : Stand p l e R s m args below meth c T locs cells slots) (hx : p.tables.exec = Jvm.exec) (hZ : Z.Warmed39 s.vm) {own R0 O n d host : String} {index : Nat} (hown : s.vm.findClass own = some m.cls) (w : (Jvm.Cond.fieldLinkNest own index R0 n d host).before a0 Z = true) (via : Via Z R0 O n d) (eT : T.heap = h) {v : Value} (F : Sta Z h O n d v) {st : List Value}
    (hd : decode c.code pc = .ok (.getstatic index, 3)) (k : ∀ T', Stand p l e R s m args below meth c T' locs cells slots → T'.heap = h → Go p e below P T' (mkF m (pc + 3) Ls (v :: st))) : Go p e below P T (mkF m pc Ls st) := by
  obtain ⟨T', X', e', st'⟩ := getS2 X hx hZ hown (Or.inr w) via eT F (g := mkF m pc Ls st) rfl hd
  exact Go.by st' (k T' X' e')
theorem Go.newO (X : Stand p l e R s m args below meth c T locs cells slots) (hx : p.tables.exec = Jvm.exec) (hZ : Z.Warmed39 s.vm) {own C : String} {index n : Nat} (hown : s.vm.findClass own = some m.cls) (w : (Jvm.Cond.classLink own index C).before a0 Z = true) (wi : (Jvm.Cond.instantiable C n).before a0 Z = true) (wz : (Jvm.Cond.initialized C).before a0 Z = true) (eT : T.heap = h) {st : List Value}
    (hd : decode c.code pc = .ok (.new index, 3)) (hc : cells + 1 ≤ R.cells) (hl : slots + n ≤ R.slots)
    (k : ∀ T' h' b, Stand p l e R s m args below meth c T' locs (cells + 1) (slots + n) → T'.heap = h' → Ext h h' → b = h.size → Exa Z h' b C → (∀ {O nm d : String} {ty : FieldType}, Laid Z a0 C O nm d → parseFieldDescriptor d = some ty → Fld Z h' b O nm d (defaultValue ty)) → Go p e below P T' (mkF m (pc + 3) Ls (.ref b :: st))) : Go p e below P T (mkF m pc Ls st) := by
  obtain ⟨T', h', X', e', E', A', D', -, st'⟩ := RoadKit.newO X hx hZ hown w wi wz eT (g := mkF m pc Ls st) rfl hd hc hl
  exact Go.by st' (k T' h' _ X' e' E' rfl A' D')
theorem Go.newP (X : Stand p l e R s m args below meth c T locs cells slots) (hx : p.tables.exec = Jvm.exec) (hZ : Z.Warmed39 s.vm) {aty : ArrayType} (w : (Jvm.Cond.arrayClass (newarray.typeOf aty)).before a0 Z = true) (eT : T.heap = h) {n : Int32} (hd : decode c.code pc = .ok (.newarray aty, 2)) (hn : ¬ n < 0) {cap : Nat} (hcap : n.toNatClampNeg ≤ cap) (hb : cap * 8 ≤ 536870912) (hc : cells + 1 ≤ R.cells) (hl : slots + cap ≤ R.slots)
    (k : ∀ T' h' b kA, Stand p l e R s m args below meth c T' locs (cells + 1) (slots + cap) → T'.heap = h' → Ext h h' → b = h.size → Arv Z h' b kA (newarray.typeOf aty) n [] (defaultValue (newarray.typeOf aty)) → Go p e below P T' (mkF m (pc + 2) Ls (.ref b :: rest))) : Go p e below P T (mkF m pc Ls (.int n :: rest)) := by
  obtain ⟨T', h', kA, X', e', E', A', st'⟩ := RoadKit.newP X hx hZ w eT (g := mkF m pc Ls (.int n :: rest)) rfl hd rfl hn hcap hb hc hl
  exact Go.by st' (k T' h' _ kA X' e' E' rfl (Arv.new A' hn))
theorem Go.initO (X : Stand p l e R s m args below meth c T locs cells slots) (hx : p.tables.exec = Jvm.exec) (hZ : Z.Warmed39 s.vm) {own : String} {idx : Nat} (hown : s.vm.findClass own = some m.cls) (w1 : (Jvm.Cond.methodLink own idx Lib.objectInit).before a0 Z = true) (w2 : (Jvm.Cond.instanceMethod Lib.objectInit).before a0 Z = true) (w3 : (Jvm.Cond.code Lib.objectInit ⟨#[0xb1]⟩ 1 none).before a0 Z = true) (eT : T.heap = h)
    {a : Addr} (hsz : Ls.size = c.maxLocals) (hd : decode c.code pc = .ok (.invokespecial idx, 3)) (hf : 1 ≤ R.frames) {W : Nat} (hW : (rest.map fun v => v.category).sum = W) (hl : W + 12 ≤ R.locals)
    (k : ∀ T', Stand p l e R s m args below meth c T' locs cells slots → T'.heap = h → Go p e below P T' (mkF m (pc + 3) Ls rest)) : Go p e below P T (mkF m pc Ls (.ref a :: rest)) := by
  obtain ⟨T', X', e', st⟩ := RoadKit.initO X hx hZ hown w1 w2 w3 eT (g := mkF m pc Ls (.ref a :: rest)) rfl hsz rfl hd hf (W := W) (by subst hW; show 2 * 0 + _ ≤ _; omega) hl
  exact Go.by st (k T' X' e')
theorem Go.castY (X : Stand p l e R s m args below meth c T locs cells slots) (hx : p.tables.exec = Jvm.exec) (hZ : Z.Warmed39 s.vm) {own K : String} {index : Nat} (hown : s.vm.findClass own = some m.cls) (w : (Jvm.Cond.classLink own index K).before a0 Z = true) (eT : T.heap = h) {a : Addr} (F : Ins Z h a K true) (hd : decode c.code pc = .ok (.checkcast index, 3))
    (k : ∀ T', Stand p l e R s m args below meth c T' locs cells slots → T'.heap = h → Go p e below P T' (mkF m (pc + 3) Ls (.ref a :: rest))) : Go p e below P T (mkF m pc Ls (.ref a :: rest)) := by
  obtain ⟨T', X', e', st⟩ := RoadKit.castY X hx hZ hown w eT F (g := mkF m pc Ls (.ref a :: rest)) rfl rfl hd
  exact Go.by st (k T' X' e')
theorem Go.instY (X : Stand p l e R s m args below meth c T locs cells slots) (hx : p.tables.exec = Jvm.exec) (hZ : Z.Warmed39 s.vm) {own K : String} {index : Nat} (hown : s.vm.findClass own = some m.cls) (w : (Jvm.Cond.classLink own index K).before a0 Z = true) (eT : T.heap = h) {a : Addr} (F : Ins Z h a K true) (hd : decode c.code pc = .ok (.instanceof index, 3))
    (k : ∀ T', Stand p l e R s m args below meth c T' locs cells slots → T'.heap = h → Go p e below P T' (mkF m (pc + 3) Ls (.int 1 :: rest))) : Go p e below P T (mkF m pc Ls (.ref a :: rest)) := by
  obtain ⟨T', X', e', st⟩ := RoadKit.instY X hx hZ hown w eT F (g := mkF m pc Ls (.ref a :: rest)) rfl rfl hd
  exact Go.by st (k T' X' e')
theorem Go.instN (X : Stand p l e R s m args below meth c T locs cells slots) (hx : p.tables.exec = Jvm.exec) (hZ : Z.Warmed39 s.vm) {own K C : String} {index : Nat} (hown : s.vm.findClass own = some m.cls) (w : (Jvm.Cond.classLink own index K).before a0 Z = true) (eT : T.heap = h) {a : Addr} (E : Exa Z h a C) (F : ∃ c t, Z.vm.findClass C = some c ∧ Z.vm.findClass K = some t ∧ Z.vm.assignable c t = false) (hd : decode c.code pc = .ok (.instanceof index, 3))
    (k : ∀ T', Stand p l e R s m args below meth c T' locs cells slots → T'.heap = h → Go p e below P T' (mkF m (pc + 3) Ls (.int 0 :: rest))) : Go p e below P T (mkF m pc Ls (.ref a :: rest)) := by
  obtain ⟨T', X', e', st⟩ := RoadKit.instNo X hx hZ hown w eT E F (g := mkF m pc Ls (.ref a :: rest)) rfl rfl hd
  exact Go.by st (k T' X' e')
theorem Go.aload (X : Stand p l e R s m args below meth c T locs cells slots) (hx : p.tables.exec = Jvm.exec) (hZ : Z.Warmed39 s.vm) (eT : T.heap = h) {a : Addr} {cl : Cell} {ty : FieldType} (A : Arr Z h a cl ty) {j : Int32} {v : Value} (hin : ¬ (j < 0 ∨ cl.slots.size ≤ j.toNatClampNeg)) (hat : cl.slots[j.toNatClampNeg]? = some v) {i : Instr}
    (hi : (i = .iaload ∧ ty = .int) ∨ (i = .laload ∧ ty = .long) ∨ (i = .aaload ∧ ty.isReference = true) ∨ (i = .caload ∧ ty = .char) ∨ (i = .saload ∧ ty = .short) ∨ (i = .baload ∧ ty = .byte)) (hd : decode c.code pc = .ok (i, 1)) (k : Go p e below P T (mkF m (pc + 1) Ls (v :: rest))) : Go p e below P T (mkF m pc Ls (.int j :: .ref a :: rest)) := by
  refine Go.by (fun t kk => ?_) k
  have hc : T.heap[a]? = some cl := by rw [eT]; exact A.1
  have ha := State.isArrayOf_alike hZ.alike A.2.1
  rcases hi with ⟨rfl, rfl⟩ | ⟨rfl, rfl⟩ | ⟨rfl, hr⟩ | ⟨rfl, rfl⟩ | ⟨rfl, rfl⟩ | ⟨rfl, rfl⟩
  · exact X.iaload hx hc ha A.2.2 hin hat (g := mkF m pc Ls (.int j :: .ref a :: rest)) rfl rfl hd _ kk
  · exact X.laload hx hc ha A.2.2 hin hat (g := mkF m pc Ls (.int j :: .ref a :: rest)) rfl rfl hd _ kk
  · exact X.aaload hx hc ha hr A.2.2 hin hat (g := mkF m pc Ls (.int j :: .ref a :: rest)) rfl rfl hd _ kk
  · exact X.caload hx hc ha A.2.2 hin hat (g := mkF m pc Ls (.int j :: .ref a :: rest)) rfl rfl hd _ kk
  · exact X.saload hx hc ha A.2.2 hin hat (g := mkF m pc Ls (.int j :: .ref a :: rest)) rfl rfl hd _ kk
  · exact X.baloadBytes hx hc ha A.2.2 hin hat (g := mkF m pc Ls (.int j :: .ref a :: rest)) rfl rfl hd _ kk
theorem Go.alen (X : Stand p l e R s m args below meth c T locs cells slots) (hx : p.tables.exec = Jvm.exec) (hZ : Z.Warmed39 s.vm) (eT : T.heap = h) {a : Addr} {cl : Cell} {ty : FieldType} (A : Arr Z h a cl ty) {z : Int32} (hz : cl.slots.size.toInt32 = z) (hd : decode c.code pc = .ok (.arraylength, 1)) (k : Go p e below P T (mkF m (pc + 1) Ls (.int z :: rest))) : Go p e below P T (mkF m pc Ls (.ref a :: rest)) := by
  refine Go.by (fun t kk => ?_) k
  subst hz
  exact X.arraylength hx (by rw [eT]; exact A.1) (State.isArrayOf_alike hZ.alike A.2.1) (g := mkF m pc Ls (.ref a :: rest)) rfl rfl hd _ kk
theorem Go.alenV (X : Stand p l e R s m args below meth c T locs cells slots) (hx : p.tables.exec = Jvm.exec) (hZ : Z.Warmed39 s.vm) (eT : T.heap = h) {a : Addr} {k : ClassId} {ty : FieldType} {z : Int32} {vs : List Value} {dv : Value} (F : Arv Z h a k ty z vs dv) (hd : decode c.code pc = .ok (.arraylength, 1)) (kk : Go p e below P T (mkF m (pc + 1) Ls (.int z :: rest))) : Go p e below P T (mkF m pc Ls (.ref a :: rest)) := by
  obtain ⟨cl, A, -, S, q, -, -⟩ := F; exact Go.alen X hx hZ eT A (len_of S q) hd kk
theorem Go.aloadV (X : Stand p l e R s m args below meth c T locs cells slots) (hx : p.tables.exec = Jvm.exec) (hZ : Z.Warmed39 s.vm) (eT : T.heap = h) {a : Addr} {k : ClassId} {ty : FieldType} {z : Int32} {vs : List Value} {dv : Value} (F : Arv Z h a k ty z vs dv) {j : Int32} {v : Value} (hj : ¬ j < 0 ∧ j < z) (hv : vs.getD j.toNatClampNeg dv = v) {i : Instr}
    (hi : (i = .iaload ∧ ty = .int) ∨ (i = .laload ∧ ty = .long) ∨ (i = .aaload ∧ ty.isReference = true) ∨ (i = .caload ∧ ty = .char) ∨ (i = .saload ∧ ty = .short) ∨ (i = .baload ∧ ty = .byte)) (hd : decode c.code pc = .ok (i, 1)) (kk : Go p e below P T (mkF m (pc + 1) Ls (v :: rest))) : Go p e below P T (mkF m pc Ls (.int j :: .ref a :: rest)) := by
  obtain ⟨cl, A, -, S, q, H, -⟩ := F
  have hin := inb_of S hj
  exact Go.aload X hx hZ eT A hin (H.at hin hv) hi hd kk
theorem Go.istV (X : Stand p l e R s m args below meth c T locs cells slots) (hx : p.tables.exec = Jvm.exec) (hZ : Z.Warmed39 s.vm) (eT : T.heap = h) {a : Addr} {k : ClassId} {z : Int32} {vs : List Value} {dv : Value} (F : Arv Z h a k .int z vs dv) {j x : Int32} (hj : ¬ j < 0 ∧ j < z) (i : Nat) (hji : j.toNatClampNeg = i) (hi : i < vs.length) (hd : decode c.code pc = .ok (.iastore, 1))
    (kk : ∀ T' h', Stand p l e R s m args below meth c T' (locs ++ [⟨a, j.toNatClampNeg⟩]) cells slots → T'.heap = h' → Wr h h' a j.toNatClampNeg (.int x) → Arv Z h' a k .int z (vs.set i (.int x)) dv → Go p e below P T' (mkF m (pc + 1) Ls rest)) : Go p e below P T (mkF m pc Ls (.int x :: .int j :: .ref a :: rest)) := by
  obtain ⟨cl, A, q1, S, q3, H, G⟩ := F
  have hin := inb_of S hj
  obtain ⟨T', h', X', e', W', st⟩ := stI X hx hZ eT A (j := j) (x := x) hin (g := mkF m pc Ls (.int x :: .int j :: .ref a :: rest)) rfl rfl hd
  exact Go.by st (kk T' h' X' e' W' (Arv.set A q1 S q3 H G rfl W' i hji hi))
theorem Go.jstV (X : Stand p l e R s m args below meth c T locs cells slots) (hx : p.tables.exec = Jvm.exec) (hZ : Z.Warmed39 s.vm) (eT : T.heap = h) {a : Addr} {k : ClassId} {z : Int32} {vs : List Value} {dv : Value} (F : Arv Z h a k .long z vs dv) {j : Int32} {x : Int64} (hj : ¬ j < 0 ∧ j < z) (i : Nat) (hji : j.toNatClampNeg = i) (hi : i < vs.length) (hd : decode c.code pc = .ok (.lastore, 1))
    (kk : ∀ T' h', Stand p l e R s m args below meth c T' (locs ++ [⟨a, j.toNatClampNeg⟩]) cells slots → T'.heap = h' → Wr h h' a j.toNatClampNeg (.long x) → Arv Z h' a k .long z (vs.set i (.long x)) dv → Go p e below P T' (mkF m (pc + 1) Ls rest)) : Go p e below P T (mkF m pc Ls (.long x :: .int j :: .ref a :: rest)) := by
  obtain ⟨cl, A, q1, S, q3, H, G⟩ := F
  have hin := inb_of S hj
  obtain ⟨T', h', X', e', W', st⟩ := stJ X hx hZ eT A (j := j) (x := x) hin (g := mkF m pc Ls (.long x :: .int j :: .ref a :: rest)) rfl rfl hd
  exact Go.by st (kk T' h' X' e' W' (Arv.set A q1 S q3 H G rfl W' i hji hi))
theorem Go.cloneA (X : Stand p l e R s m args below meth c T locs cells slots) (hx : p.tables.exec = Jvm.exec) (hZ : Z.Warmed39 s.vm) {own ad : String} {index : Nat} (hown : s.vm.findClass own = some m.cls) (w1 : (Jvm.Cond.methodLink own index ⟨ad, "clone", "()Ljava/lang/Object;"⟩).before a0 Z = true) (w2 : (Jvm.Cond.sameMethod ad "java/lang/Object" "clone" "()Ljava/lang/Object;").before a0 Z = true) (w3 : (Jvm.Cond.native ⟨"java/lang/Object", "clone", "()Ljava/lang/Object;"⟩).before a0 Z = true)
    (w4 : (Jvm.Cond.instanceMethod ⟨"java/lang/Object", "clone", "()Ljava/lang/Object;"⟩).before a0 Z = true) (w5 : (Jvm.Cond.selects ad ⟨ad, "clone", "()Ljava/lang/Object;"⟩ ⟨"java/lang/Object", "clone", "()Ljava/lang/Object;"⟩).before a0 Z = true) (w6 : (Jvm.Cond.castable ad "java/lang/Cloneable").before a0 Z = true) (eT : T.heap = h) {a : Addr} {cl : Cell} {ty : FieldType} (A : Arr Z h a cl ty) (E : Exa Z h a ad) (F : FitC Z cl)
    (hsz : Ls.size = c.maxLocals) (hd : decode c.code pc = .ok (.invokevirtual index, 3)) (hf : 1 ≤ R.frames) {W cap : Nat} (hW : (rest.map fun v => v.category).sum = W) (hl : W + 14 ≤ R.locals) (hcap : cl.slots.size ≤ cap) (hc : cells + 1 ≤ R.cells) (hsl : slots + cap ≤ R.slots)
    (k : ∀ T' h' b, Stand p l e R s m args below meth c T' locs (cells + 1) (slots + cap) → T'.heap = h' → Ext h h' → b = h.size → Arr Z h' b (cloneOf cl) ty → Exa Z h' b ad → Go p e below P T' (mkF m (pc + 3) Ls (.ref b :: rest))) : Go p e below P T (mkF m pc Ls (.ref a :: rest)) := by
  obtain ⟨T', h', X', e', E', A', X2, st⟩ := RoadKit.cloneA X hx hZ hown w1 w2 w3 w4 w5 w6 eT A E F (g := mkF m pc Ls (.ref a :: rest)) rfl hsz rfl hd hf (W := W) (cap := cap) (by subst hW; show 2 * 0 + _ ≤ _; omega) hl hcap hc hsl
  exact Go.by st (k T' h' _ X' e' E' rfl A' X2)
/-! calls by the callee's contract -/
section Call
variable {own : String} {index : Nat} {y : MethodName} {bytes : ByteArray} {maxL : Nat} {ret : Option FieldType} {rm : Room} {argsL : List Value} {Q' : Option Value → Heap → List Loc → Prop} {st : List Value} {W : Nat}
theorem Go.callS (X : Stand p l e R s m args below meth c T locs cells slots) (hx : p.tables.exec = Jvm.exec) (hZ : Z.Warmed39 s.vm) (hown : s.vm.findClass own = some m.cls) (w1 : (Jvm.Cond.methodLink own index y).before a0 Z = true) (w2 : (Jvm.Cond.static y).before a0 Z = true) (w3 : (Jvm.Cond.initialized y.cls).before a0 Z = true) (w4 : (Jvm.Cond.code y bytes maxL ret).before a0 Z = true)
    (hy : y.cls ≠ "java/lang/invoke/MethodHandle" ∧ y.cls ≠ "java/lang/invoke/VarHandle") (ct : Ct l y bytes maxL ret rm Z argsL.toArray h Q') (eT : T.heap = h) (hsz : Ls.size = c.maxLocals) (hlen : ∀ sig, parseMethodDescriptor y.desc = some sig → argsL.length = sig.parameters.length) (hst : st = argsL.reverse ++ rest) (hW : (rest.map fun v => v.category).sum = W)
    (hd : decode c.code pc = .ok (.invokestatic index, 3)) (hf : rm.frames + 1 ≤ R.frames) (hl : W + (maxL + 11) + rm.locals ≤ R.locals) (hc : cells + rm.cells ≤ R.cells) (hs : slots + rm.slots ≤ R.slots)
    (k : ∀ v T' h' L, Stand p l e R s m args below meth c T' (locs ++ L) (cells + rm.cells) (slots + rm.slots) → T'.heap = h' → Q' v h' L → Go p e below P T' (mkF m (pc + 3) Ls (v.toList ++ rest))) : Go p e below P T (mkF m pc Ls st) := by
  obtain ⟨v, _, ⟨T', L, k', n'⟩, -, X', ⟨Lc, hQ, hl', hk', hn'⟩, st'⟩ := Jvm.LawKit.callS X hx (y := y) hown (mvT hZ w1) (mvT hZ w2) (mvT hZ w3) (mvT hZ w4) hy (backOf (W := W) (ct []) hZ w4 w3 hf hl) (g := mkF m pc Ls st) rfl hsz (argsL := argsL) (rest := rest) hlen hst (by subst hW; show 2 * 0 + _ ≤ _; omega) hd (fun _ _ => ⟨rfl, eT, hc, hs⟩)
  dsimp only [Pt.U, Pt.locs, Pt.cells, Pt.slots] at X' hl' hk' hn' st' hQ
  subst hl' hk' hn'
  exact Go.by st' (k v T' _ Lc X' rfl hQ)
theorem Go.callC (X : Stand p l e R s m args below meth c T locs cells slots) (hx : p.tables.exec = Jvm.exec) (hZ : Z.Warmed39 s.vm) (hown : s.vm.findClass own = some m.cls) (hy1 : y.name = "<init>") (w1 : (Jvm.Cond.methodLink own index y).before a0 Z = true) (w2 : (Jvm.Cond.instanceMethod y).before a0 Z = true) (w3 : (Jvm.Cond.initialized y.cls).before a0 Z = true) (w4 : (Jvm.Cond.code y bytes maxL none).before a0 Z = true)
    (hy : y.cls ≠ "java/lang/invoke/MethodHandle" ∧ y.cls ≠ "java/lang/invoke/VarHandle") {a : Addr} (ct : Ct l y bytes maxL none rm Z (.ref a :: argsL).toArray h Q') (eT : T.heap = h) (hsz : Ls.size = c.maxLocals) (hlen : ∀ sig, parseMethodDescriptor y.desc = some sig → argsL.length = sig.parameters.length) (hst : st = argsL.reverse ++ .ref a :: rest) (hW : (rest.map fun v => v.category).sum = W)
    (hd : decode c.code pc = .ok (.invokespecial index, 3)) (hf : rm.frames + 1 ≤ R.frames) (hl : W + (maxL + 11) + rm.locals ≤ R.locals) (hc : cells + rm.cells ≤ R.cells) (hs : slots + rm.slots ≤ R.slots)
    (k : ∀ v T' h' L, Stand p l e R s m args below meth c T' (locs ++ L) (cells + rm.cells) (slots + rm.slots) → T'.heap = h' → Q' v h' L → Go p e below P T' (mkF m (pc + 3) Ls (v.toList ++ rest))) : Go p e below P T (mkF m pc Ls st) := by
  obtain ⟨v, _, ⟨T', L, k', n'⟩, -, X', ⟨Lc, hQ, hl', hk', hn'⟩, st'⟩ := X.specialBack hx (y := y) hy1 hown (mvT hZ w1) (mvT hZ w2) (mvT hZ w4) hy (backOf (W := W) (ct []) hZ w4 w3 hf hl) (g := mkF m pc Ls st) rfl hsz (Steps.refl _) (a := a) (argsL := argsL) (rest := rest) hlen hst (by subst hW; show 2 * 0 + _ ≤ _; omega) hd (fun _ _ => ⟨rfl, eT, hc, hs⟩)
  dsimp only [Pt.U, Pt.locs, Pt.cells, Pt.slots] at X' hl' hk' hn' st' hQ
  subst hl' hk' hn'
  exact Go.by (fun _ kk => st'.trans kk) (k v T' _ Lc X' rfl hQ)
theorem Go.callV (X : Stand p l e R s m args below meth c T locs cells slots) (hx : p.tables.exec = Jvm.exec) (hZ : Z.Warmed39 s.vm) (hown : s.vm.findClass own = some m.cls) {C : String} {z : MethodName} (w1 : (Jvm.Cond.methodLink own index y).before a0 Z = true) (w2 : (Jvm.Cond.declares y).before a0 Z = true) (nf : NotFace s y) (w5 : (Jvm.Cond.selects C y z).before a0 Z = true) (w6 : (Jvm.Cond.instanceMethod z).before a0 Z = true) (w3 : (Jvm.Cond.initialized z.cls).before a0 Z = true) (w4 : (Jvm.Cond.code z bytes maxL ret).before a0 Z = true)
    (hy : y.cls ≠ "java/lang/invoke/MethodHandle" ∧ y.cls ≠ "java/lang/invoke/VarHandle") {a : Addr} (E : Exa Z h a C) (ct : Ct l z bytes maxL ret rm Z (.ref a :: argsL).toArray h Q') (eT : T.heap = h) (hsz : Ls.size = c.maxLocals) (hlen : ∀ sig, parseMethodDescriptor y.desc = some sig → argsL.length = sig.parameters.length) (hst : st = argsL.reverse ++ .ref a :: rest) (hW : (rest.map fun v => v.category).sum = W)
    (hd : decode c.code pc = .ok (.invokevirtual index, 3)) (hf : rm.frames + 1 ≤ R.frames) (hl : W + (maxL + 11) + rm.locals ≤ R.locals) (hc : cells + rm.cells ≤ R.cells) (hs : slots + rm.slots ≤ R.slots)
    (k : ∀ v T' h' L, Stand p l e R s m args below meth c T' (locs ++ L) (cells + rm.cells) (slots + rm.slots) → T'.heap = h' → Q' v h' L → Go p e below P T' (mkF m (pc + 3) Ls (v.toList ++ rest))) : Go p e below P T (mkF m pc Ls st) := by
  obtain ⟨cq, kq, qa, qb, qc⟩ := isOf hZ eT E
  obtain ⟨v, _, ⟨T', L, k', n'⟩, -, X', ⟨Lc, hQ, hl', hk', hn'⟩, st'⟩ := X.virtualBack hx (y := y) (z := z) hown (mvT hZ w1) (mvT hZ w2) nf (mvT hZ w5) (mvT hZ w6) hy (backOf (W := W) (ct []) hZ w4 w3 hf hl) qa qc (g := mkF m pc Ls st) rfl hsz (Steps.refl _) (argsL := argsL) (rest := rest) hlen hst (by subst hW; show 2 * 0 + _ ≤ _; omega) hd (fun _ _ => ⟨rfl, eT, hc, hs⟩)
  dsimp only [Pt.U, Pt.locs, Pt.cells, Pt.slots] at X' hl' hk' hn' st' hQ
  subst hl' hk' hn'
  exact Go.by (fun _ kk => st'.trans kk) (k v T' _ Lc X' rfl hQ)
theorem Go.callVU (X : Stand p l e R s m args below meth c T locs cells slots) (hx : p.tables.exec = Jvm.exec) (hZ : Z.Warmed39 s.vm) (hown : s.vm.findClass own = some m.cls) {C owner : String} {z : MethodName} (w1 : (Jvm.Cond.methodLink own index y).before a0 Z = true) (ws : (Jvm.Cond.sameMethod y.cls owner y.name y.desc).before a0 Z = true) (w2 : (Jvm.Cond.declares ⟨owner, y.name, y.desc⟩).before a0 Z = true) (ho : owner ≠ "java/lang/invoke/MethodHandle" ∧ owner ≠ "java/lang/invoke/VarHandle") (w5 : (Jvm.Cond.selects C y z).before a0 Z = true) (w6 : (Jvm.Cond.instanceMethod z).before a0 Z = true) (w3 : (Jvm.Cond.initialized z.cls).before a0 Z = true) (w4 : (Jvm.Cond.code z bytes maxL ret).before a0 Z = true)
    {a : Addr} (E : Exa Z h a C) (ct : Ct l z bytes maxL ret rm Z (.ref a :: argsL).toArray h Q') (eT : T.heap = h) (hsz : Ls.size = c.maxLocals) (hlen : ∀ sig, parseMethodDescriptor y.desc = some sig → argsL.length = sig.parameters.length) (hst : st = argsL.reverse ++ .ref a :: rest) (hW : (rest.map fun v => v.category).sum = W)
    (hd : decode c.code pc = .ok (.invokevirtual index, 3)) (hf : rm.frames + 1 ≤ R.frames) (hl : W + (maxL + 11) + rm.locals ≤ R.locals) (hc : cells + rm.cells ≤ R.cells) (hs : slots + rm.slots ≤ R.slots)
    (k : ∀ v T' h' L, Stand p l e R s m args below meth c T' (locs ++ L) (cells + rm.cells) (slots + rm.slots) → T'.heap = h' → Q' v h' L → Go p e below P T' (mkF m (pc + 3) Ls (v.toList ++ rest))) : Go p e below P T (mkF m pc Ls st) := by
  obtain ⟨cq, kq, qa, qb, qc⟩ := isOf hZ eT E
  obtain ⟨v, _, ⟨T', L, k', n'⟩, -, X', ⟨Lc, hQ, hl', hk', hn'⟩, st'⟩ := X.virtualBackUp hx (x := y) (y := z) (owner := owner) hown (mvT hZ w1) (mvT hZ ws) (mvT hZ w2) ho (mvT hZ w5) (mvT hZ w6) (backOf (W := W) (ct []) hZ w4 w3 hf hl) qa qc (g := mkF m pc Ls st) rfl hsz (Steps.refl _) (argsL := argsL) (rest := rest) hlen hst (by subst hW; show 2 * 0 + _ ≤ _; omega) hd (fun _ _ => ⟨rfl, eT, hc, hs⟩)
  dsimp only [Pt.U, Pt.locs, Pt.cells, Pt.slots] at X' hl' hk' hn' st' hQ
  subst hl' hk' hn'
  exact Go.by (fun _ kk => st'.trans kk) (k v T' _ Lc X' rfl hQ)
end Call
theorem eqI_v {args : Array Value} {first s : State} {o : Option Outcome} {idx : List Nat} {t : Term} {n : Int32} (h : (Jvm.Cond.eq t (.int n)).value args first o s idx = some true) : t.eval args first o idx s = some (.int n) := by
  simp only [Cond.value, Term.eval] at h
  cases ht : t.eval args first o idx s with
  | none => simp [ht] at h
  | some x => cases x <;> simp [ht] at h ⊢; exact h
theorem nsRoot {O K : String} {n : Nat} (w : (Jvm.Cond.noSuperclass O).before a0 Z = true) (wk : (Jvm.Cond.instantiable K n).before a0 Z = true) (hn : O ≠ K) : NS Z O K := by
  obtain ⟨c, k, h1, h2, h3, -, -⟩ := Cond.noSuperclass_spec w
  obtain ⟨t, kt, g1, -⟩ := Cond.instantiable_spec wk
  have ne := ids_ne h1 g1 hn
  refine ⟨c, t, h1, g1, fun fuel => ?_⟩
  cases fuel with
  | zero => rfl
  | succ f => simp [Vm.isSubclassAux, ne, h2, h3]
theorem nsNo {C S K : String} {n : Nat} (w : (Jvm.Cond.superclass C S).before a0 Z = true) (wk : (Jvm.Cond.instantiable K n).before a0 Z = true) (ns : NS Z C K) (hn : C ≠ K) : ∃ c t, Z.vm.findClass C = some c ∧ Z.vm.findClass K = some t ∧ Z.vm.assignable c t = false := by
  obtain ⟨c, t, h0, g0, n3⟩ := ns
  obtain ⟨p, k, kp, h1, h2, h3, h4, h5, -, h7⟩ := Cond.superclass_spec h0 w
  obtain ⟨t', k', g1, g2, g3, g4, -⟩ := Cond.instantiable_spec wk
  cases g0.symm.trans g1
  have ne := ids_ne h0 g0 hn
  have g5 : k'.isInterface = false := by cases hq : k'.isInterface <;> simp [hq] at g4 ⊢
  refine ⟨c, t, h0, g0, ?_⟩
  show Z.vm.assignableAux (255 + 1) c t = false
  simp [Vm.assignableAux, ne, h2, g2, h5, g3, g5, Vm.isSubclass, n3]
theorem lenI_v {args : Array Value} {first s : State} {o : Option Outcome} {idx : List Nat} {t : Term} {a : Addr} {cl : Cell} {n : Int32} (h : (Term.length t).eval args first o idx s = some (.int n)) (ht : t.eval args first o idx s = some (.ref a)) (ha : s.arrayAt? a = some cl) : cl.slots.size < 2 ^ 31 ∧ cl.slots.size.toInt32 = n := by
  simp [Term.eval, ht, ha] at h; exact h
theorem size_le {cl : Cell} {n : Int32} {k : Nat} (q : cl.slots.size < 2 ^ 31 ∧ cl.slots.size.toInt32 = n) (hn : n.toInt = k) : cl.slots.size = k := by
  have := len_toInt q.1; rw [q.2, hn] at this; exact (Int.ofNat.inj this).symm
theorem eqR_v {args : Array Value} {first s : State} {o : Option Outcome} {idx : List Nat} {t u : Term} {w : Addr} (hu : u.eval args first o idx s = some (.ref w)) (h : (Jvm.Cond.eq t u).value args first o s idx = some true) : t.eval args first o idx s = some (.ref w) := by
  simp only [Cond.value, hu] at h
  cases ht : t.eval args first o idx s with
  | none => simp [ht] at h
  | some x => cases x <;> simp [ht] at h ⊢; exact h
theorem Old.le {n0 : Nat} (O : Old Z n0 h) : n0 ≤ h.size := O.1 ▸ O.2.1
end K
end Jvm.OwnKit
namespace Jvm.Pilot.@@N@@
open Jvm Jvm.ClassFile Sem Op Lib Jvm.Free Jvm.Stand Jvm.LawKit Jvm.RoadKit Jvm.OwnKit Bundle Jvm.Pilot.@@N@@.Jvm.D
theorem pad_rep3 (d : Value) : ∀ i, (List.replicate 3 d).getD i d = (List.replicate 16 d).getD i d := fun i => by
  have h3 := pad_rep [] d 3 i
  have h16 := pad_rep [] d 16 i
  simp only [List.nil_append] at h3 h16
  rw [h3, h16]
theorem own_min (x : Int64) : ¬ x < (-9223372036854775808 : Int64) := by
  rw [Int64.lt_iff_toInt_lt]; have := x.le_toInt; have e : (-9223372036854775808 : Int64).toInt = -9223372036854775808 := rfl; omega
theorem own_wm {p : Int32} {w : Int64} (h : w = (1 : Int64) + ((p &&& (255 : Int32)).toInt64)) : 1 ≤ w.toInt ∧ w.toInt ≤ 256 := by
  subst h
  have q1 := c_and p (255 : Int32) (by decide)
  have e : (255 : Int32).toInt = 255 := rfl
  have q2 := c_ladd (1 : Int64) ((p &&& (255 : Int32)).toInt64)
  rw [c_i2l] at q2
  have e1 : (1 : Int64).toInt = 1 := rfl
  have r := rng64 ((1 : Int64) + ((p &&& (255 : Int32)).toInt64))
  omega
theorem own_hz1 {w : Int64} (h : 1 ≤ w.toInt ∧ w.toInt ≤ 256) : ¬ (9223372036854 : Int64) < w := by
  rw [Int64.lt_iff_toInt_lt]; have e : (9223372036854 : Int64).toInt = 9223372036854 := rfl; omega
theorem own_hz2 {w : Int64} (h : 1 ≤ w.toInt ∧ w.toInt ≤ 256) : ¬ w < (-(9223372036854 : Int64)) := by
  rw [Int64.lt_iff_toInt_lt]; have e : (-(9223372036854 : Int64)).toInt = -9223372036854 := rfl; omega
theorem own_wr {w n : Int64} (h : 1 ≤ w.toInt ∧ w.toInt ≤ 256) (hn : n = w * (1000000 : Int64)) : 1000000 ≤ n.toInt ∧ n.toInt ≤ 256000000 := by
  subst hn
  have q := c_lmul w (1000000 : Int64)
  have e : (1000000 : Int64).toInt = 1000000 := rfl
  rw [e] at q
  have r := rng64 (w * (1000000 : Int64))
  obtain ⟨b, hb⟩ := Int.dvd_of_emod_eq_zero q
  by_cases h1 : 1 ≤ b
  · omega
  · by_cases h2 : b ≤ -1
    · omega
    · have : b = 0 := by omega
      subst this; omega
theorem own_ha {p a : Int64} (h : a = p >>> ((2 : Int32) &&& 0x3f).toInt64) : -2305843009213693952 ≤ a.toInt ∧ a.toInt < 2305843009213693952 := by
  subst h
  have q := c_lshr p (2 : Int32) 2 (by decide)
  have r := rng64 p
  omega
theorem own_d0 : 0 ≤ (0 : Int64).toInt ∧ (0 : Int64).toInt < 1073741824 := by decide
theorem own_d1 (x : Int64) : 0 ≤ (x &&& (1073741823 : Int64)).toInt ∧ (x &&& (1073741823 : Int64)).toInt < 1073741824 := by
  have q := c_maskL x (1073741823 : Int64) 30 (by decide) (by decide)
  have r := rng64 x
  omega
section Nums
variable {a b d n : Int64}
theorem own_bi (hb : b = a + d) (ha : -2305843009213693952 ≤ a.toInt ∧ a.toInt < 2305843009213693952) (hd : 0 ≤ d.toInt ∧ d.toInt < 1073741824) : b.toInt = a.toInt + d.toInt := by
  subst hb; have q := c_ladd a d; have r := rng64 (a + d); omega
theorem own_ge (hb : b = a + d) (ha : -2305843009213693952 ≤ a.toInt ∧ a.toInt < 2305843009213693952) (hd : 0 ≤ d.toInt ∧ d.toInt < 1073741824) : ¬ b < a := by
  rw [Int64.lt_iff_toInt_lt]; have := own_bi hb ha hd; omega
theorem own_k1 (hb : b = a + d) (ha : -2305843009213693952 ≤ a.toInt ∧ a.toInt < 2305843009213693952) (hd : 0 ≤ d.toInt ∧ d.toInt < 1073741824) (h : d < n) : (b - a) < n := by
  rw [Int64.lt_iff_toInt_lt] at *; have := own_bi hb ha hd; have q := c_lsub b a; have r := rng64 (b - a); omega
theorem own_k2 (hb : b = a + d) (ha : -2305843009213693952 ≤ a.toInt ∧ a.toInt < 2305843009213693952) (hd : 0 ≤ d.toInt ∧ d.toInt < 1073741824) (h : ¬ d < n) : ¬ (b - a) < n := by
  rw [Int64.lt_iff_toInt_lt] at *; have := own_bi hb ha hd; have q := c_lsub b a; have r := rng64 (b - a); omega
theorem own_ti (hb : b = a + d) (ha : -2305843009213693952 ≤ a.toInt ∧ a.toInt < 2305843009213693952) (hd : 0 ≤ d.toInt ∧ d.toInt < 1073741824) (hn : 1000000 ≤ n.toInt ∧ n.toInt ≤ 256000000) : ((b + n) - (1 : Int64)).toInt = a.toInt + d.toInt + n.toInt - 1 := by
  have := own_bi hb ha hd; have q := c_ladd b n; have r := rng64 (b + n); have q2 := c_lsub (b + n) (1 : Int64); have r2 := rng64 ((b + n) - (1 : Int64)); have e : (1 : Int64).toInt = 1 := rfl; omega
theorem own_t3 (hb : b = a + d) (ha : -2305843009213693952 ≤ a.toInt ∧ a.toInt < 2305843009213693952) (hd : 0 ≤ d.toInt ∧ d.toInt < 1073741824) (hn : 1000000 ≤ n.toInt ∧ n.toInt ≤ 256000000) : ¬ ((b + n) - (1 : Int64)) < b := by
  rw [Int64.lt_iff_toInt_lt]; have := own_bi hb ha hd; have := own_ti hb ha hd hn; omega
theorem own_s1 (hb : b = a + d) (ha : -2305843009213693952 ≤ a.toInt ∧ a.toInt < 2305843009213693952) (hd : 0 ≤ d.toInt ∧ d.toInt < 1073741824) (hn : 1000000 ≤ n.toInt ∧ n.toInt ≤ 256000000) : (((b + n) - (1 : Int64)) - b) < n := by
  rw [Int64.lt_iff_toInt_lt]; have := own_bi hb ha hd; have := own_ti hb ha hd hn; have q := c_lsub ((b + n) - (1 : Int64)) b; have r := rng64 (((b + n) - (1 : Int64)) - b); omega
theorem own_s2 (hb : b = a + d) (ha : -2305843009213693952 ≤ a.toInt ∧ a.toInt < 2305843009213693952) (hd : 0 ≤ d.toInt ∧ d.toInt < 1073741824) (hn : 1000000 ≤ n.toInt ∧ n.toInt ≤ 256000000) (hz : d = (0 : Int64)) : (((b + n) - (1 : Int64)) - a) < n := by
  have e : d.toInt = 0 := by rw [hz]; rfl
  rw [Int64.lt_iff_toInt_lt]; have := own_bi hb ha hd; have := own_ti hb ha hd hn; have q := c_lsub ((b + n) - (1 : Int64)) a; have r := rng64 (((b + n) - (1 : Int64)) - a); omega
theorem own_s3 (hb : b = a + d) (ha : -2305843009213693952 ≤ a.toInt ∧ a.toInt < 2305843009213693952) (hd : 0 ≤ d.toInt ∧ d.toInt < 1073741824) (hn : 1000000 ≤ n.toInt ∧ n.toInt ≤ 256000000) (hz : ¬ d = (0 : Int64)) : ¬ (((b + n) - (1 : Int64)) - a) < n := by
  have e : d.toInt ≠ 0 := fun q => hz (Int64.toInt_inj.mp (q.trans rfl))
  rw [Int64.lt_iff_toInt_lt]; have := own_bi hb ha hd; have := own_ti hb ha hd hn; have q := c_lsub ((b + n) - (1 : Int64)) a; have r := rng64 (((b + n) - (1 : Int64)) - a); omega
theorem own_lt0 (hz : d = (0 : Int64)) (hn : 1000000 ≤ n.toInt ∧ n.toInt ≤ 256000000) : d < n := by
  rw [Int64.lt_iff_toInt_lt, hz]; have e : (0 : Int64).toInt = 0 := rfl; omega
theorem own_ab (hb : b = a + d) (hz : d = (0 : Int64)) : a = b := by
  subst hb hz; apply Int64.toInt_inj.mp; have q := c_ladd a (0 : Int64); have e : (0 : Int64).toInt = 0 := rfl; have r := rng64 a; have r2 := rng64 (a + (0 : Int64)); omega
end Nums
theorem d_p24_m1_0 : decode prog_24_method_1_code 0 = .ok (.aload_n 0, 1) := by decide +kernel
theorem d_p24_m1_1 : decode prog_24_method_1_code 1 = .ok (.invokespecial 1, 3) := by decide +kernel
theorem d_p24_m1_4 : decode prog_24_method_1_code 4 = .ok (.aload_n 0, 1) := by decide +kernel
theorem d_p24_m1_5 : decode prog_24_method_1_code 5 = .ok (.lload_n 1, 1) := by decide +kernel
theorem d_p24_m1_6 : decode prog_24_method_1_code 6 = .ok (.putfield 7, 3) := by decide +kernel
theorem d_p24_m1_9 : decode prog_24_method_1_code 9 = .ok (.aload_n 0, 1) := by decide +kernel
theorem d_p24_m1_10 : decode prog_24_method_1_code 10 = .ok (.lload_n 3, 1) := by decide +kernel
theorem d_p24_m1_11 : decode prog_24_method_1_code 11 = .ok (.putfield 13, 3) := by decide +kernel
theorem d_p24_m1_14 : decode prog_24_method_1_code 14 = .ok (.return_, 1) := by decide +kernel
theorem pn_OrderRate_589 : plainName "com/example/breakwater/breakwater/OrderRate" = true := by first | (simp [plainName, overriddenIn]; done) | decide +kernel
theorem d_j2799_m7_0 : decode jdk_2799_method_7_code 0 = .ok (.aload_n 0, 1) := by decide +kernel
theorem d_j2799_m7_1 : decode jdk_2799_method_7_code 1 = .ok (.getfield 44, 3) := by decide +kernel
theorem d_j2799_m7_4 : decode jdk_2799_method_7_code 4 = .ok (.dup2, 1) := by decide +kernel
theorem d_j2799_m7_5 : decode jdk_2799_method_7_code 5 = .ok (.lstore_n 3, 1) := by decide +kernel
theorem d_j2799_m7_6 : decode jdk_2799_method_7_code 6 = .ok (.lconst 1, 1) := by decide +kernel
theorem d_j2799_m7_7 : decode jdk_2799_method_7_code 7 = .ok (.lcmp, 1) := by decide +kernel
theorem d_j2799_m7_8 : decode jdk_2799_method_7_code 8 = .ok (.ifCond .ne 5, 3) := by decide +kernel
theorem d_j2799_m7_13 : decode jdk_2799_method_7_code 13 = .ok (.lload_n 1, 1) := by decide +kernel
theorem d_j2799_m7_14 : decode jdk_2799_method_7_code 14 = .ok (.aload_n 0, 1) := by decide +kernel
theorem d_j2799_m7_15 : decode jdk_2799_method_7_code 15 = .ok (.getfield 52, 3) := by decide +kernel
theorem d_j2799_m7_18 : decode jdk_2799_method_7_code 18 = .ok (.dup2, 1) := by decide +kernel
theorem d_j2799_m7_19 : decode jdk_2799_method_7_code 19 = .ok (.lstore 5, 2) := by decide +kernel
theorem d_j2799_m7_21 : decode jdk_2799_method_7_code 21 = .ok (.lcmp, 1) := by decide +kernel
theorem d_j2799_m7_22 : decode jdk_2799_method_7_code 22 = .ok (.ifCond .le 7, 3) := by decide +kernel
theorem d_j2799_m7_29 : decode jdk_2799_method_7_code 29 = .ok (.lload_n 1, 1) := by decide +kernel
theorem d_j2799_m7_30 : decode jdk_2799_method_7_code 30 = .ok (.lload 5, 2) := by decide +kernel
theorem d_j2799_m7_32 : decode jdk_2799_method_7_code 32 = .ok (.lneg, 1) := by decide +kernel
theorem d_j2799_m7_33 : decode jdk_2799_method_7_code 33 = .ok (.lcmp, 1) := by decide +kernel
theorem d_j2799_m7_34 : decode jdk_2799_method_7_code 34 = .ok (.ifCond .ge 7, 3) := by decide +kernel
theorem d_j2799_m7_41 : decode jdk_2799_method_7_code 41 = .ok (.lload_n 1, 1) := by decide +kernel
theorem d_j2799_m7_42 : decode jdk_2799_method_7_code 42 = .ok (.lload_n 3, 1) := by decide +kernel
theorem d_j2799_m7_43 : decode jdk_2799_method_7_code 43 = .ok (.lmul, 1) := by decide +kernel
theorem d_j2799_m7_44 : decode jdk_2799_method_7_code 44 = .ok (.lreturn, 1) := by decide +kernel
theorem pn_TimeUnit_679 : plainName "java/util/concurrent/TimeUnit" = true := by first | (simp [plainName, overriddenIn]; done) | decide +kernel
theorem d_p24_m4_0 : decode prog_24_method_4_code 0 = .ok (.getstatic 16, 3) := by decide +kernel
theorem d_p24_m4_3 : decode prog_24_method_4_code 3 = .ok (.aload_n 0, 1) := by decide +kernel
theorem d_p24_m4_4 : decode prog_24_method_4_code 4 = .ok (.getfield 13, 3) := by decide +kernel
theorem pd__J_J_8725 : parseMethodDescriptor "(J)J" = some ⟨[.long], some .long⟩ := by decide +kernel
theorem d_p24_m4_7 : decode prog_24_method_4_code 7 = .ok (.invokevirtual 22, 3) := by decide +kernel
theorem d_p24_m4_10 : decode prog_24_method_4_code 10 = .ok (.lreturn, 1) := by decide +kernel
theorem d_p25_m1_0 : decode prog_25_method_1_code 0 = .ok (.aload_n 0, 1) := by decide +kernel
theorem d_p25_m1_1 : decode prog_25_method_1_code 1 = .ok (.invokespecial 1, 3) := by decide +kernel
theorem d_p25_m1_4 : decode prog_25_method_1_code 4 = .ok (.aload_n 0, 1) := by decide +kernel
theorem d_p25_m1_5 : decode prog_25_method_1_code 5 = .ok (.bipush 16, 2) := by decide +kernel
theorem d_p25_m1_7 : decode prog_25_method_1_code 7 = .ok (.newarray .long, 2) := by decide +kernel
theorem d_p25_m1_9 : decode prog_25_method_1_code 9 = .ok (.putfield 9, 3) := by decide +kernel
theorem d_p25_m1_12 : decode prog_25_method_1_code 12 = .ok (.aload_n 0, 1) := by decide +kernel
theorem d_p25_m1_13 : decode prog_25_method_1_code 13 = .ok (.ldc2_w 15, 3) := by decide +kernel
theorem d_p25_m1_16 : decode prog_25_method_1_code 16 = .ok (.putfield 17, 3) := by decide +kernel
theorem d_p25_m1_19 : decode prog_25_method_1_code 19 = .ok (.aload_n 0, 1) := by decide +kernel
theorem d_p25_m1_20 : decode prog_25_method_1_code 20 = .ok (.aload_n 1, 1) := by decide +kernel
theorem d_p25_m1_21 : decode prog_25_method_1_code 21 = .ok (.putfield 21, 3) := by decide +kernel
theorem d_p25_m1_24 : decode prog_25_method_1_code 24 = .ok (.aload_n 0, 1) := by decide +kernel
theorem d_p25_m1_25 : decode prog_25_method_1_code 25 = .ok (.aload_n 1, 1) := by decide +kernel
theorem pd___J_8322 : parseMethodDescriptor "()J" = some ⟨[], some .long⟩ := by decide +kernel
theorem d_p25_m1_26 : decode prog_25_method_1_code 26 = .ok (.invokevirtual 25, 3) := by decide +kernel
theorem d_p25_m1_29 : decode prog_25_method_1_code 29 = .ok (.putfield 31, 3) := by decide +kernel
theorem d_p25_m1_32 : decode prog_25_method_1_code 32 = .ok (.return_, 1) := by decide +kernel
theorem pn_OrderRateWindow_528 : plainName "com/example/breakwater/breakwater/OrderRateWindow" = true := by first | (simp [plainName, overriddenIn]; done) | decide +kernel
theorem pd__JJ_V_1185 : parseMethodDescriptor "(JJ)V" = some ⟨[.long, .long], none⟩ := by decide +kernel
theorem pd__Lcom_example_breakwater_breakwater_Orde_4493 : parseMethodDescriptor "(Lcom/example/breakwater/breakwater/OrderRate;)V" = some ⟨[(.object "com/example/breakwater/breakwater/OrderRate")], none⟩ := by decide +kernel
theorem d_p25_m3_0 : decode prog_25_method_3_code 0 = .ok (.lload_n 1, 1) := by decide +kernel
theorem d_p25_m3_1 : decode prog_25_method_3_code 1 = .ok (.aload_n 0, 1) := by decide +kernel
theorem d_p25_m3_2 : decode prog_25_method_3_code 2 = .ok (.getfield 17, 3) := by decide +kernel
theorem d_p25_m3_5 : decode prog_25_method_3_code 5 = .ok (.lcmp, 1) := by decide +kernel
theorem d_p25_m3_6 : decode prog_25_method_3_code 6 = .ok (.ifCond .ge 5, 3) := by decide +kernel
theorem d_p25_m3_11 : decode prog_25_method_3_code 11 = .ok (.aload_n 0, 1) := by decide +kernel
theorem d_p25_m3_12 : decode prog_25_method_3_code 12 = .ok (.lload_n 1, 1) := by decide +kernel
theorem d_p25_m3_13 : decode prog_25_method_3_code 13 = .ok (.putfield 17, 3) := by decide +kernel
theorem d_p25_m3_16 : decode prog_25_method_3_code 16 = .ok (.aload_n 0, 1) := by decide +kernel
theorem d_p25_m3_17 : decode prog_25_method_3_code 17 = .ok (.getfield 33, 3) := by decide +kernel
theorem d_p25_m3_20 : decode prog_25_method_3_code 20 = .ok (.ifCond .le 54, 3) := by decide +kernel
theorem d_p25_m3_74 : decode prog_25_method_3_code 74 = .ok (.iconst 1, 1) := by decide +kernel
theorem d_p25_m3_75 : decode prog_25_method_3_code 75 = .ok (.ireturn, 1) := by decide +kernel
theorem pd__J_Z_8741 : parseMethodDescriptor "(J)Z" = some ⟨[.long], some .boolean⟩ := by decide +kernel
theorem d_p25_m5_0 : decode prog_25_method_5_code 0 = .ok (.aload_n 0, 1) := by decide +kernel
theorem d_p25_m5_1 : decode prog_25_method_5_code 1 = .ok (.getfield 33, 3) := by decide +kernel
theorem d_p25_m5_4 : decode prog_25_method_5_code 4 = .ok (.aload_n 0, 1) := by decide +kernel
theorem d_p25_m5_5 : decode prog_25_method_5_code 5 = .ok (.getfield 9, 3) := by decide +kernel
theorem d_p25_m5_8 : decode prog_25_method_5_code 8 = .ok (.arraylength, 1) := by decide +kernel
theorem d_p25_m5_9 : decode prog_25_method_5_code 9 = .ok (.if_icmp .ne 7, 3) := by decide +kernel
theorem d_p25_m5_16 : decode prog_25_method_5_code 16 = .ok (.aload_n 0, 1) := by decide +kernel
theorem d_p25_m5_17 : decode prog_25_method_5_code 17 = .ok (.getfield 9, 3) := by decide +kernel
theorem d_p25_m5_20 : decode prog_25_method_5_code 20 = .ok (.aload_n 0, 1) := by decide +kernel
theorem d_p25_m5_21 : decode prog_25_method_5_code 21 = .ok (.getfield 37, 3) := by decide +kernel
theorem d_p25_m5_24 : decode prog_25_method_5_code 24 = .ok (.aload_n 0, 1) := by decide +kernel
theorem d_p25_m5_25 : decode prog_25_method_5_code 25 = .ok (.getfield 33, 3) := by decide +kernel
theorem d_p25_m5_28 : decode prog_25_method_5_code 28 = .ok (.iadd, 1) := by decide +kernel
theorem d_p25_m5_29 : decode prog_25_method_5_code 29 = .ok (.aload_n 0, 1) := by decide +kernel
theorem d_p25_m5_30 : decode prog_25_method_5_code 30 = .ok (.getfield 9, 3) := by decide +kernel
theorem d_p25_m5_33 : decode prog_25_method_5_code 33 = .ok (.arraylength, 1) := by decide +kernel
theorem d_p25_m5_34 : decode prog_25_method_5_code 34 = .ok (.irem, 1) := by decide +kernel
theorem d_p25_m5_35 : decode prog_25_method_5_code 35 = .ok (.aload_n 0, 1) := by decide +kernel
theorem d_p25_m5_36 : decode prog_25_method_5_code 36 = .ok (.getfield 17, 3) := by decide +kernel
theorem d_p25_m5_39 : decode prog_25_method_5_code 39 = .ok (.lastore, 1) := by decide +kernel
theorem d_p25_m5_40 : decode prog_25_method_5_code 40 = .ok (.aload_n 0, 1) := by decide +kernel
theorem d_p25_m5_41 : decode prog_25_method_5_code 41 = .ok (.dup, 1) := by decide +kernel
theorem d_p25_m5_42 : decode prog_25_method_5_code 42 = .ok (.getfield 33, 3) := by decide +kernel
theorem d_p25_m5_45 : decode prog_25_method_5_code 45 = .ok (.iconst 1, 1) := by decide +kernel
theorem d_p25_m5_46 : decode prog_25_method_5_code 46 = .ok (.iadd, 1) := by decide +kernel
theorem d_p25_m5_47 : decode prog_25_method_5_code 47 = .ok (.putfield 33, 3) := by decide +kernel
theorem d_p25_m5_50 : decode prog_25_method_5_code 50 = .ok (.return_, 1) := by decide +kernel
theorem pd___V_8334 : parseMethodDescriptor "()V" = some ⟨[], none⟩ := by decide +kernel
theorem d_p25_m3_23 : decode prog_25_method_3_code 23 = .ok (.aload_n 0, 1) := by decide +kernel
theorem d_p25_m3_24 : decode prog_25_method_3_code 24 = .ok (.getfield 17, 3) := by decide +kernel
theorem d_p25_m3_27 : decode prog_25_method_3_code 27 = .ok (.aload_n 0, 1) := by decide +kernel
theorem d_p25_m3_28 : decode prog_25_method_3_code 28 = .ok (.getfield 9, 3) := by decide +kernel
theorem d_p25_m3_31 : decode prog_25_method_3_code 31 = .ok (.aload_n 0, 1) := by decide +kernel
theorem d_p25_m3_32 : decode prog_25_method_3_code 32 = .ok (.getfield 37, 3) := by decide +kernel
theorem d_p25_m3_35 : decode prog_25_method_3_code 35 = .ok (.laload, 1) := by decide +kernel
theorem d_p25_m3_36 : decode prog_25_method_3_code 36 = .ok (.lsub, 1) := by decide +kernel
theorem d_p25_m3_37 : decode prog_25_method_3_code 37 = .ok (.aload_n 0, 1) := by decide +kernel
theorem d_p25_m3_38 : decode prog_25_method_3_code 38 = .ok (.getfield 31, 3) := by decide +kernel
theorem d_p25_m3_41 : decode prog_25_method_3_code 41 = .ok (.lcmp, 1) := by decide +kernel
theorem d_p25_m3_42 : decode prog_25_method_3_code 42 = .ok (.ifCond .lt 32, 3) := by decide +kernel
theorem d_p25_m6_0 : decode prog_25_method_6_code 0 = .ok (.aload_n 0, 1) := by decide +kernel
theorem d_p25_m6_1 : decode prog_25_method_6_code 1 = .ok (.getfield 33, 3) := by decide +kernel
theorem d_p25_m6_4 : decode prog_25_method_6_code 4 = .ok (.iconst 1, 1) := by decide +kernel
theorem d_p25_m6_5 : decode prog_25_method_6_code 5 = .ok (.isub, 1) := by decide +kernel
theorem d_p25_m6_6 : decode prog_25_method_6_code 6 = .ok (.istore_n 3, 1) := by decide +kernel
theorem d_p25_m6_7 : decode prog_25_method_6_code 7 = .ok (.iload_n 3, 1) := by decide +kernel
theorem d_p25_m6_8 : decode prog_25_method_6_code 8 = .ok (.ifCond .lt 100, 3) := by decide +kernel
theorem d_p25_m6_11 : decode prog_25_method_6_code 11 = .ok (.aload_n 0, 1) := by decide +kernel
theorem d_p25_m6_12 : decode prog_25_method_6_code 12 = .ok (.getfield 9, 3) := by decide +kernel
theorem d_p25_m6_15 : decode prog_25_method_6_code 15 = .ok (.aload_n 0, 1) := by decide +kernel
theorem d_p25_m6_16 : decode prog_25_method_6_code 16 = .ok (.getfield 37, 3) := by decide +kernel
theorem d_p25_m6_19 : decode prog_25_method_6_code 19 = .ok (.iload_n 3, 1) := by decide +kernel
theorem d_p25_m6_20 : decode prog_25_method_6_code 20 = .ok (.iadd, 1) := by decide +kernel
theorem d_p25_m6_21 : decode prog_25_method_6_code 21 = .ok (.aload_n 0, 1) := by decide +kernel
theorem d_p25_m6_22 : decode prog_25_method_6_code 22 = .ok (.getfield 9, 3) := by decide +kernel
theorem d_p25_m6_25 : decode prog_25_method_6_code 25 = .ok (.arraylength, 1) := by decide +kernel
theorem d_p25_m6_26 : decode prog_25_method_6_code 26 = .ok (.irem, 1) := by decide +kernel
theorem d_p25_m6_27 : decode prog_25_method_6_code 27 = .ok (.laload, 1) := by decide +kernel
theorem d_p25_m6_28 : decode prog_25_method_6_code 28 = .ok (.lload_n 1, 1) := by decide +kernel
theorem d_p25_m6_29 : decode prog_25_method_6_code 29 = .ok (.lcmp, 1) := by decide +kernel
theorem d_p25_m6_30 : decode prog_25_method_6_code 30 = .ok (.ifCond .ne 72, 3) := by decide +kernel
theorem d_p25_m6_33 : decode prog_25_method_6_code 33 = .ok (.iload_n 3, 1) := by decide +kernel
theorem d_p25_m6_34 : decode prog_25_method_6_code 34 = .ok (.istore 4, 2) := by decide +kernel
theorem d_p25_m6_36 : decode prog_25_method_6_code 36 = .ok (.iload 4, 2) := by decide +kernel
theorem d_p25_m6_38 : decode prog_25_method_6_code 38 = .ok (.aload_n 0, 1) := by decide +kernel
theorem d_p25_m6_39 : decode prog_25_method_6_code 39 = .ok (.getfield 33, 3) := by decide +kernel
theorem d_p25_m6_42 : decode prog_25_method_6_code 42 = .ok (.iconst 1, 1) := by decide +kernel
theorem d_p25_m6_43 : decode prog_25_method_6_code 43 = .ok (.isub, 1) := by decide +kernel
theorem d_p25_m6_44 : decode prog_25_method_6_code 44 = .ok (.if_icmp .ge 47, 3) := by decide +kernel
theorem d_p25_m6_91 : decode prog_25_method_6_code 91 = .ok (.aload_n 0, 1) := by decide +kernel
theorem d_p25_m6_92 : decode prog_25_method_6_code 92 = .ok (.dup, 1) := by decide +kernel
theorem d_p25_m6_93 : decode prog_25_method_6_code 93 = .ok (.getfield 33, 3) := by decide +kernel
theorem d_p25_m6_96 : decode prog_25_method_6_code 96 = .ok (.iconst 1, 1) := by decide +kernel
theorem d_p25_m6_97 : decode prog_25_method_6_code 97 = .ok (.isub, 1) := by decide +kernel
theorem d_p25_m6_98 : decode prog_25_method_6_code 98 = .ok (.putfield 33, 3) := by decide +kernel
theorem d_p25_m6_101 : decode prog_25_method_6_code 101 = .ok (.return_, 1) := by decide +kernel
theorem pd__J_V_8737 : parseMethodDescriptor "(J)V" = some ⟨[.long], none⟩ := by decide +kernel
theorem d_p25_m4_0 : decode prog_25_method_4_code 0 = .ok (.aload_n 0, 1) := by decide +kernel
theorem d_p25_m4_1 : decode prog_25_method_4_code 1 = .ok (.getfield 33, 3) := by decide +kernel
theorem d_p25_m4_4 : decode prog_25_method_4_code 4 = .ok (.ireturn, 1) := by decide +kernel
theorem pd___I_8321 : parseMethodDescriptor "()I" = some ⟨[], some .int⟩ := by decide +kernel
theorem d_p25_m6_102 : decode prog_25_method_6_code 102 = .ok (.iinc 3 (-1), 3) := by decide +kernel
theorem d_p25_m6_105 : decode prog_25_method_6_code 105 = .ok (.goto (-98), 3) := by decide +kernel
theorem d_p25_m6_108 : decode prog_25_method_6_code 108 = .ok (.return_, 1) := by decide +kernel
theorem d_p25_m3_45 : decode prog_25_method_3_code 45 = .ok (.aload_n 0, 1) := by decide +kernel
theorem d_p25_m3_46 : decode prog_25_method_3_code 46 = .ok (.aload_n 0, 1) := by decide +kernel
theorem d_p25_m3_47 : decode prog_25_method_3_code 47 = .ok (.getfield 37, 3) := by decide +kernel
theorem d_p25_m3_50 : decode prog_25_method_3_code 50 = .ok (.iconst 1, 1) := by decide +kernel
theorem d_p25_m3_51 : decode prog_25_method_3_code 51 = .ok (.iadd, 1) := by decide +kernel
theorem d_p25_m3_52 : decode prog_25_method_3_code 52 = .ok (.aload_n 0, 1) := by decide +kernel
theorem d_p25_m3_53 : decode prog_25_method_3_code 53 = .ok (.getfield 9, 3) := by decide +kernel
theorem d_p25_m3_56 : decode prog_25_method_3_code 56 = .ok (.arraylength, 1) := by decide +kernel
theorem d_p25_m3_57 : decode prog_25_method_3_code 57 = .ok (.irem, 1) := by decide +kernel
theorem d_p25_m3_58 : decode prog_25_method_3_code 58 = .ok (.putfield 37, 3) := by decide +kernel
theorem d_p25_m3_61 : decode prog_25_method_3_code 61 = .ok (.aload_n 0, 1) := by decide +kernel
theorem d_p25_m3_62 : decode prog_25_method_3_code 62 = .ok (.dup, 1) := by decide +kernel
theorem d_p25_m3_63 : decode prog_25_method_3_code 63 = .ok (.getfield 33, 3) := by decide +kernel
theorem d_p25_m3_66 : decode prog_25_method_3_code 66 = .ok (.iconst 1, 1) := by decide +kernel
theorem d_p25_m3_67 : decode prog_25_method_3_code 67 = .ok (.isub, 1) := by decide +kernel
theorem d_p25_m3_68 : decode prog_25_method_3_code 68 = .ok (.putfield 33, 3) := by decide +kernel
theorem d_p25_m3_71 : decode prog_25_method_3_code 71 = .ok (.goto (-55), 3) := by decide +kernel
theorem d_p25_m6_47 : decode prog_25_method_6_code 47 = .ok (.aload_n 0, 1) := by decide +kernel
theorem d_p25_m6_48 : decode prog_25_method_6_code 48 = .ok (.getfield 9, 3) := by decide +kernel
theorem d_p25_m6_51 : decode prog_25_method_6_code 51 = .ok (.aload_n 0, 1) := by decide +kernel
theorem d_p25_m6_52 : decode prog_25_method_6_code 52 = .ok (.getfield 37, 3) := by decide +kernel
theorem d_p25_m6_55 : decode prog_25_method_6_code 55 = .ok (.iload 4, 2) := by decide +kernel
theorem d_p25_m6_57 : decode prog_25_method_6_code 57 = .ok (.iadd, 1) := by decide +kernel
theorem d_p25_m6_58 : decode prog_25_method_6_code 58 = .ok (.aload_n 0, 1) := by decide +kernel
theorem d_p25_m6_59 : decode prog_25_method_6_code 59 = .ok (.getfield 9, 3) := by decide +kernel
theorem d_p25_m6_62 : decode prog_25_method_6_code 62 = .ok (.arraylength, 1) := by decide +kernel
theorem d_p25_m6_63 : decode prog_25_method_6_code 63 = .ok (.irem, 1) := by decide +kernel
theorem d_p25_m6_64 : decode prog_25_method_6_code 64 = .ok (.aload_n 0, 1) := by decide +kernel
theorem d_p25_m6_65 : decode prog_25_method_6_code 65 = .ok (.getfield 9, 3) := by decide +kernel
theorem d_p25_m6_68 : decode prog_25_method_6_code 68 = .ok (.aload_n 0, 1) := by decide +kernel
theorem d_p25_m6_69 : decode prog_25_method_6_code 69 = .ok (.getfield 37, 3) := by decide +kernel
theorem d_p25_m6_72 : decode prog_25_method_6_code 72 = .ok (.iload 4, 2) := by decide +kernel
theorem d_p25_m6_74 : decode prog_25_method_6_code 74 = .ok (.iadd, 1) := by decide +kernel
theorem d_p25_m6_75 : decode prog_25_method_6_code 75 = .ok (.iconst 1, 1) := by decide +kernel
theorem d_p25_m6_76 : decode prog_25_method_6_code 76 = .ok (.iadd, 1) := by decide +kernel
theorem d_p25_m6_77 : decode prog_25_method_6_code 77 = .ok (.aload_n 0, 1) := by decide +kernel
theorem d_p25_m6_78 : decode prog_25_method_6_code 78 = .ok (.getfield 9, 3) := by decide +kernel
theorem d_p25_m6_81 : decode prog_25_method_6_code 81 = .ok (.arraylength, 1) := by decide +kernel
theorem d_p25_m6_82 : decode prog_25_method_6_code 82 = .ok (.irem, 1) := by decide +kernel
theorem d_p25_m6_83 : decode prog_25_method_6_code 83 = .ok (.laload, 1) := by decide +kernel
theorem d_p25_m6_84 : decode prog_25_method_6_code 84 = .ok (.lastore, 1) := by decide +kernel
theorem d_p25_m6_85 : decode prog_25_method_6_code 85 = .ok (.iinc 4 1, 3) := by decide +kernel
theorem d_p25_m6_88 : decode prog_25_method_6_code 88 = .ok (.goto (-52), 3) := by decide +kernel
theorem pn_OrderRateWindowRemovePinLaw_400 : plainName "com/example/breakwater/breakwater/OrderRateWindowRemovePinLaw" = true := by first | (simp [plainName, overriddenIn]; done) | decide +kernel
set_option maxRecDepth 65536 in
set_option maxHeartbeats 40000000 in
theorem ct_rinit (l : Launch) (Z : State) (a0 : Array Value) (hw : ∀ d ∈ tables_1, d.before a0 Z = true) (w_MS : Addr) (S_MS : Sta Z Z.heap "java/util/concurrent/TimeUnit" "MILLISECONDS" "Ljava/util/concurrent/TimeUnit;" (.ref w_MS)) (E_MS : Exa Z Z.heap w_MS "java/util/concurrent/TimeUnit") (F_MS1 : Fld Z Z.heap w_MS "java/util/concurrent/TimeUnit" "scale" "J" (.long 1000000)) (F_MS2 : Fld Z Z.heap w_MS "java/util/concurrent/TimeUnit" "maxNanos" "J" (.long 9223372036854)) (a1 : Addr) (x1 : Int64) (x2 : Int64) (h0 : Heap) (n0 : Nat) (O : Old Z n0 h0) (E_a1 : Exa Z h0 a1 "com/example/breakwater/breakwater/OrderRate") (F_a1_maxOrders : Fld Z h0 a1 "com/example/breakwater/breakwater/OrderRate" "maxOrders" "J" (.long (0 : Int64))) (F_a1_windowMillis : Fld Z h0 a1 "com/example/breakwater/breakwater/OrderRate" "windowMillis" "J" (.long (0 : Int64))) (g_a1 : n0 ≤ a1) :
    Ct l (⟨"com/example/breakwater/breakwater/OrderRate", "<init>", "(JJ)V"⟩ : MethodName) prog_24_method_1_code 5 none ({ frames := 1, cells := 0, slots := 0, locals := 12 } : Room) Z #[(.ref a1), (.long x1), (.long x2)] h0 (fun v h L => v = none ∧ Fr n0 L ∧ Keep h0 h [a1] ∧ Fld Z h a1 "com/example/breakwater/breakwater/OrderRate" "maxOrders" "J" (.long x1) ∧ Fld Z h a1 "com/example/breakwater/breakwater/OrderRate" "windowMillis" "J" (.long x2)) := by
  refine Ct.of (plainFor_of_name pn_OrderRate_589) ?_
  intro p e s m below meth c T0 X0 hx hby hml hown hnm hret hlk hZ e0
  have hown : s.vm.findClass "com/example/breakwater/breakwater/OrderRate" = some m.cls := hown
  have hml : c.maxLocals = 5 := hml
  have N0 := Fr.nil n0
  refine Go.cast (g' := mkF m 0 #[.val (.ref a1), .val (.long x1), .second, .val (.long x2), .second] []) (by first | (simp [entryFrame, mkF, argsToLocals, Value.category]; done) | rfl) ?_
  have K : Keep h0 h0 [a1] := Keep.refl _ _
  refine Go.by (T' := T0) (g' := (mkF m 1 #[.val (.ref a1), .val (.long x1), .second, .val (.long x2), .second] [(.ref a1)])) (fun t k => ?_) ?_
  · show Steps p.tables e below (T0.setTop (mkF m 0 #[.val (.ref a1), .val (.long x1), .second, .val (.long x2), .second] [])) _
    refine XS.aloadN X0.here hx rfl (hb hby d_p24_m1_0) rfl rfl ?_
    exact k
  refine Go.initO X0 hx hZ hown (wd hw 13 rfl) (wd hw 14 rfl) (wd hw 15 rfl) e0 (by rw [hml]; rfl) (hb hby d_p24_m1_1) (by decide) (W := 0) rfl (by decide) ?_
  intro T1 X1 e1
  show Go p e below _ T1 (mkF m 4 #[.val (.ref a1), .val (.long x1), .second, .val (.long x2), .second] [])
  refine Go.by (T' := T1) (g' := (mkF m 6 #[.val (.ref a1), .val (.long x1), .second, .val (.long x2), .second] [(.long x1), (.ref a1)])) (fun t k => ?_) ?_
  · show Steps p.tables e below (T1.setTop (mkF m 4 #[.val (.ref a1), .val (.long x1), .second, .val (.long x2), .second] [])) _
    refine XS.aloadN X1.here hx rfl (hb hby d_p24_m1_4) rfl rfl ?_
    show Steps p.tables e below (T1.setTop (mkF m 5 #[.val (.ref a1), .val (.long x1), .second, .val (.long x2), .second] [(.ref a1)])) _
    refine XS.lloadN X1.here hx rfl (hb hby d_p24_m1_5) rfl ?_
    exact k
  refine Go.putF X1 hx hZ hown (wd hw 16 rfl) Via.refl e1 F_a1_maxOrders E_a1 (Or.inr ⟨(wd hw 17 rfl), rfl, hnm⟩) (wd hw 7 rfl) (ty := .long) (by decide) rfl rfl (hb hby d_p24_m1_6) ?_
  intro T2 h2 X2 e2 W2
  replace E_a1 := E_a1.wr W2
  replace F_a1_maxOrders := F_a1_maxOrders.same W2
  replace F_a1_windowMillis := F_a1_windowMillis.other W2 (Or.inr (slot_ne (a0 := a0) (Or.inr (wd hw 19 rfl)) (Or.inr (wd hw 17 rfl)) (by decide) (t := .long) (t' := .long) (by decide) (by decide)))
  replace O := O.wr W2 g_a1
  have N2 := Fr.snoc X2 N0 g_a1
  replace K := K.wr W2 (Or.inl (List.mem_of_getElem? (i := 0) rfl))
  show Go p e below _ T2 (mkF m 9 #[.val (.ref a1), .val (.long x1), .second, .val (.long x2), .second] [])
  refine Go.by (T' := T2) (g' := (mkF m 11 #[.val (.ref a1), .val (.long x1), .second, .val (.long x2), .second] [(.long x2), (.ref a1)])) (fun t k => ?_) ?_
  · show Steps p.tables e below (T2.setTop (mkF m 9 #[.val (.ref a1), .val (.long x1), .second, .val (.long x2), .second] [])) _
    refine XS.aloadN X2.here hx rfl (hb hby d_p24_m1_9) rfl rfl ?_
    show Steps p.tables e below (T2.setTop (mkF m 10 #[.val (.ref a1), .val (.long x1), .second, .val (.long x2), .second] [(.ref a1)])) _
    refine XS.lloadN X2.here hx rfl (hb hby d_p24_m1_10) rfl ?_
    exact k
  refine Go.putF X2 hx hZ hown (wd hw 18 rfl) Via.refl e2 F_a1_windowMillis E_a1 (Or.inr ⟨(wd hw 19 rfl), rfl, hnm⟩) (wd hw 7 rfl) (ty := .long) (by decide) rfl rfl (hb hby d_p24_m1_11) ?_
  intro T3 h3 X3 e3 W3
  replace E_a1 := E_a1.wr W3
  replace F_a1_maxOrders := F_a1_maxOrders.other W3 (Or.inr (slot_ne (a0 := a0) (Or.inr (wd hw 17 rfl)) (Or.inr (wd hw 19 rfl)) (by decide) (t := .long) (t' := .long) (by decide) (by decide)))
  replace F_a1_windowMillis := F_a1_windowMillis.same W3
  replace O := O.wr W3 g_a1
  have N3 := Fr.snoc X3 N2 g_a1
  replace K := K.wr W3 (Or.inl (List.mem_of_getElem? (i := 0) rfl))
  show Go p e below _ T3 (mkF m 14 #[.val (.ref a1), .val (.long x1), .second, .val (.long x2), .second] [])
  refine Go.retV X3 hx hlk hret (hb hby d_p24_m1_14) (by decide) (by decide) e3 ?_
  exact ⟨rfl, N3, K, F_a1_maxOrders, F_a1_windowMillis⟩
set_option maxRecDepth 65536 in
set_option maxHeartbeats 40000000 in
theorem ct_toNanos (l : Launch) (Z : State) (a0 : Array Value) (hw : ∀ d ∈ tables_1, d.before a0 Z = true) (w_MS : Addr) (S_MS : Sta Z Z.heap "java/util/concurrent/TimeUnit" "MILLISECONDS" "Ljava/util/concurrent/TimeUnit;" (.ref w_MS)) (E_MS : Exa Z Z.heap w_MS "java/util/concurrent/TimeUnit") (F_MS1 : Fld Z Z.heap w_MS "java/util/concurrent/TimeUnit" "scale" "J" (.long 1000000)) (F_MS2 : Fld Z Z.heap w_MS "java/util/concurrent/TimeUnit" "maxNanos" "J" (.long 9223372036854)) (z1 : Int64) (h0 : Heap) (n0 : Nat) (O : Old Z n0 h0) (hz1 : ¬ (9223372036854 : Int64) < z1) (hz2 : ¬ z1 < (-(9223372036854 : Int64))) :
    Ct l (⟨"java/util/concurrent/TimeUnit", "toNanos", "(J)J"⟩ : MethodName) jdk_2799_method_7_code 7 (some .long) ({ frames := 0, cells := 0, slots := 0, locals := 0 } : Room) Z #[(.ref w_MS), (.long z1)] h0 (fun v h L => v = some (.long (z1 * (1000000 : Int64))) ∧ Fr n0 L ∧ h0 = h) := by
  refine Ct.of (plainFor_of_name pn_TimeUnit_679) ?_
  intro p e s m below meth c T0 X0 hx hby hml hown hnm hret hlk hZ e0
  have hown : s.vm.findClass "java/util/concurrent/TimeUnit" = some m.cls := hown
  have hml : c.maxLocals = 7 := hml
  have N0 := Fr.nil n0
  refine Go.cast (g' := mkF m 0 #[.val (.ref w_MS), .val (.long z1), .second, .unset, .unset, .unset, .unset] []) (by first | (simp [entryFrame, mkF, argsToLocals, Value.category]; done) | rfl) ?_
  refine Go.by (T' := T0) (g' := (mkF m 1 #[.val (.ref w_MS), .val (.long z1), .second, .unset, .unset, .unset, .unset] [(.ref w_MS)])) (fun t k => ?_) ?_
  · show Steps p.tables e below (T0.setTop (mkF m 0 #[.val (.ref w_MS), .val (.long z1), .second, .unset, .unset, .unset, .unset] [])) _
    refine XS.aloadN X0.here hx rfl (hb hby d_j2799_m7_0) rfl rfl ?_
    exact k
  refine Go.getF X0 hx hZ hown (wd hw 44 rfl) Via.refl e0 (F_MS1.ext O.2) (hb hby d_j2799_m7_1) ?_
  intro T1 X1 e1
  show Go p e below _ T1 (mkF m 4 #[.val (.ref w_MS), .val (.long z1), .second, .unset, .unset, .unset, .unset] [(.long (1000000 : Int64))])
  refine Go.by (T' := T1) (g' := (mkF m 15 #[.val (.ref w_MS), .val (.long z1), .second, .val (.long (1000000 : Int64)), .second, .unset, .unset] [(.ref w_MS), (.long z1)])) (fun t k => ?_) ?_
  · show Steps p.tables e below (T1.setTop (mkF m 4 #[.val (.ref w_MS), .val (.long z1), .second, .unset, .unset, .unset, .unset] [(.long (1000000 : Int64))])) _
    jvm_step X1.here [X1.here.top, hx, (hb hby d_j2799_m7_4), Value.category]
    show Steps p.tables e below (T1.setTop (mkF m 5 #[.val (.ref w_MS), .val (.long z1), .second, .unset, .unset, .unset, .unset] [(.long (1000000 : Int64)), (.long (1000000 : Int64))])) _
    refine XS.lstoreN X1.here hx rfl (hb hby d_j2799_m7_5) rfl (l' := #[.val (.ref w_MS), .val (.long z1), .second, .val (.long (1000000 : Int64)), .second, .unset, .unset]) rfl ?_
    show Steps p.tables e below (T1.setTop (mkF m 6 #[.val (.ref w_MS), .val (.long z1), .second, .val (.long (1000000 : Int64)), .second, .unset, .unset] [(.long (1000000 : Int64))])) _
    refine XS.lconst X1.here hx rfl (hb hby d_j2799_m7_6) ?_
    show Steps p.tables e below (T1.setTop (mkF m 7 #[.val (.ref w_MS), .val (.long z1), .second, .val (.long (1000000 : Int64)), .second, .unset, .unset] [(.long (1 : Int64)), (.long (1000000 : Int64))])) _
    refine XS.lcmp X1.here hx rfl (hb hby d_j2799_m7_7) rfl ?_
    show Steps p.tables e below (T1.setTop (mkF m 8 #[.val (.ref w_MS), .val (.long z1), .second, .val (.long (1000000 : Int64)), .second, .unset, .unset] [(.int (lcmpW (1000000 : Int64) (1 : Int64)))])) _
    refine XS.ifYes X1.here hx rfl (pc0 := 8) (pc' := 13) rfl (hb hby d_j2799_m7_8) rfl ((if0 _ _).trans (feq (fun q => (by decide : ¬ (1000000 : Int64) = (1 : Int64)) ((lw_eq _ _).mp q))).2) (by decide) (by decide) ?_
    show Steps p.tables e below (T1.setTop (mkF m 13 #[.val (.ref w_MS), .val (.long z1), .second, .val (.long (1000000 : Int64)), .second, .unset, .unset] [])) _
    refine XS.lloadN X1.here hx rfl (hb hby d_j2799_m7_13) rfl ?_
    show Steps p.tables e below (T1.setTop (mkF m 14 #[.val (.ref w_MS), .val (.long z1), .second, .val (.long (1000000 : Int64)), .second, .unset, .unset] [(.long z1)])) _
    refine XS.aloadN X1.here hx rfl (hb hby d_j2799_m7_14) rfl rfl ?_
    exact k
  refine Go.getF X1 hx hZ hown (wd hw 46 rfl) Via.refl e1 (F_MS2.ext O.2) (hb hby d_j2799_m7_15) ?_
  intro T2 X2 e2
  show Go p e below _ T2 (mkF m 18 #[.val (.ref w_MS), .val (.long z1), .second, .val (.long (1000000 : Int64)), .second, .unset, .unset] [(.long (9223372036854 : Int64)), (.long z1)])
  refine Go.by (T' := T2) (g' := (mkF m 44 #[.val (.ref w_MS), .val (.long z1), .second, .val (.long (1000000 : Int64)), .second, .val (.long (9223372036854 : Int64)), .second] [(.long (z1 * (1000000 : Int64)))])) (fun t k => ?_) ?_
  · show Steps p.tables e below (T2.setTop (mkF m 18 #[.val (.ref w_MS), .val (.long z1), .second, .val (.long (1000000 : Int64)), .second, .unset, .unset] [(.long (9223372036854 : Int64)), (.long z1)])) _
    jvm_step X2.here [X2.here.top, hx, (hb hby d_j2799_m7_18), Value.category]
    show Steps p.tables e below (T2.setTop (mkF m 19 #[.val (.ref w_MS), .val (.long z1), .second, .val (.long (1000000 : Int64)), .second, .unset, .unset] [(.long (9223372036854 : Int64)), (.long (9223372036854 : Int64)), (.long z1)])) _
    refine XS.lstore X2.here hx rfl (hb hby d_j2799_m7_19) rfl (l' := #[.val (.ref w_MS), .val (.long z1), .second, .val (.long (1000000 : Int64)), .second, .val (.long (9223372036854 : Int64)), .second]) rfl ?_
    show Steps p.tables e below (T2.setTop (mkF m 21 #[.val (.ref w_MS), .val (.long z1), .second, .val (.long (1000000 : Int64)), .second, .val (.long (9223372036854 : Int64)), .second] [(.long (9223372036854 : Int64)), (.long z1)])) _
    refine XS.lcmp X2.here hx rfl (hb hby d_j2799_m7_21) rfl ?_
    show Steps p.tables e below (T2.setTop (mkF m 22 #[.val (.ref w_MS), .val (.long z1), .second, .val (.long (1000000 : Int64)), .second, .val (.long (9223372036854 : Int64)), .second] [(.int (lcmpW z1 (9223372036854 : Int64)))])) _
    refine XS.ifYes X2.here hx rfl (pc0 := 22) (pc' := 29) rfl (hb hby d_j2799_m7_22) rfl ((if0 _ _).trans (flt (fun q => hz1 ((lw_gt _ _).mp q))).2.2.2) (by decide) (by decide) ?_
    show Steps p.tables e below (T2.setTop (mkF m 29 #[.val (.ref w_MS), .val (.long z1), .second, .val (.long (1000000 : Int64)), .second, .val (.long (9223372036854 : Int64)), .second] [])) _
    refine XS.lloadN X2.here hx rfl (hb hby d_j2799_m7_29) rfl ?_
    show Steps p.tables e below (T2.setTop (mkF m 30 #[.val (.ref w_MS), .val (.long z1), .second, .val (.long (1000000 : Int64)), .second, .val (.long (9223372036854 : Int64)), .second] [(.long z1)])) _
    refine XS.lload X2.here hx rfl (hb hby d_j2799_m7_30) rfl ?_
    show Steps p.tables e below (T2.setTop (mkF m 32 #[.val (.ref w_MS), .val (.long z1), .second, .val (.long (1000000 : Int64)), .second, .val (.long (9223372036854 : Int64)), .second] [(.long (9223372036854 : Int64)), (.long z1)])) _
    refine XS.lneg X2.here hx rfl (hb hby d_j2799_m7_32) rfl ?_
    show Steps p.tables e below (T2.setTop (mkF m 33 #[.val (.ref w_MS), .val (.long z1), .second, .val (.long (1000000 : Int64)), .second, .val (.long (9223372036854 : Int64)), .second] [(.long (-(9223372036854 : Int64))), (.long z1)])) _
    refine XS.lcmp X2.here hx rfl (hb hby d_j2799_m7_33) rfl ?_
    show Steps p.tables e below (T2.setTop (mkF m 34 #[.val (.ref w_MS), .val (.long z1), .second, .val (.long (1000000 : Int64)), .second, .val (.long (9223372036854 : Int64)), .second] [(.int (lcmpW z1 (-(9223372036854 : Int64))))])) _
    refine XS.ifYes X2.here hx rfl (pc0 := 34) (pc' := 41) rfl (hb hby d_j2799_m7_34) rfl ((if0 _ _).trans (flt (fun q => hz2 ((lw_lt _ _).mp q))).2.1) (by decide) (by decide) ?_
    show Steps p.tables e below (T2.setTop (mkF m 41 #[.val (.ref w_MS), .val (.long z1), .second, .val (.long (1000000 : Int64)), .second, .val (.long (9223372036854 : Int64)), .second] [])) _
    refine XS.lloadN X2.here hx rfl (hb hby d_j2799_m7_41) rfl ?_
    show Steps p.tables e below (T2.setTop (mkF m 42 #[.val (.ref w_MS), .val (.long z1), .second, .val (.long (1000000 : Int64)), .second, .val (.long (9223372036854 : Int64)), .second] [(.long z1)])) _
    refine XS.lloadN X2.here hx rfl (hb hby d_j2799_m7_42) rfl ?_
    show Steps p.tables e below (T2.setTop (mkF m 43 #[.val (.ref w_MS), .val (.long z1), .second, .val (.long (1000000 : Int64)), .second, .val (.long (9223372036854 : Int64)), .second] [(.long (1000000 : Int64)), (.long z1)])) _
    refine XS.lmul X2.here hx rfl (hb hby d_j2799_m7_43) rfl ?_
    exact k
  refine Go.retJ X2 hx hlk hret (hb hby d_j2799_m7_44) (by decide) (by decide) e2 ?_
  exact ⟨rfl, N0, rfl⟩
set_option maxRecDepth 65536 in
set_option maxHeartbeats 40000000 in
theorem ct_wn (l : Launch) (Z : State) (a0 : Array Value) (hw : ∀ d ∈ tables_1, d.before a0 Z = true) (w_MS : Addr) (S_MS : Sta Z Z.heap "java/util/concurrent/TimeUnit" "MILLISECONDS" "Ljava/util/concurrent/TimeUnit;" (.ref w_MS)) (E_MS : Exa Z Z.heap w_MS "java/util/concurrent/TimeUnit") (F_MS1 : Fld Z Z.heap w_MS "java/util/concurrent/TimeUnit" "scale" "J" (.long 1000000)) (F_MS2 : Fld Z Z.heap w_MS "java/util/concurrent/TimeUnit" "maxNanos" "J" (.long 9223372036854)) (a1 : Addr) (z1 : Int64) (h0 : Heap) (n0 : Nat) (O : Old Z n0 h0) (F_a1 : Fld Z h0 a1 "com/example/breakwater/breakwater/OrderRate" "windowMillis" "J" (.long z1)) (hz1 : ¬ (9223372036854 : Int64) < z1) (hz2 : ¬ z1 < (-(9223372036854 : Int64))) :
    Ct l (⟨"com/example/breakwater/breakwater/OrderRate", "windowNanos", "()J"⟩ : MethodName) prog_24_method_4_code 1 (some .long) ({ frames := 1, cells := 0, slots := 0, locals := 18 } : Room) Z #[(.ref a1)] h0 (fun v h L => v = some (.long (z1 * (1000000 : Int64))) ∧ Fr n0 L ∧ h0 = h) := by
  refine Ct.of (plainFor_of_name pn_OrderRate_589) ?_
  intro p e s m below meth c T0 X0 hx hby hml hown hnm hret hlk hZ e0
  have hown : s.vm.findClass "com/example/breakwater/breakwater/OrderRate" = some m.cls := hown
  have hml : c.maxLocals = 1 := hml
  have N0 := Fr.nil n0
  refine Go.cast (g' := mkF m 0 #[.val (.ref a1)] []) (by first | (simp [entryFrame, mkF, argsToLocals, Value.category]; done) | rfl) ?_
  refine Go.getS X0 hx hZ hown (wd hw 37 rfl) Via.refl e0 (S_MS.ext O.2) (hb hby d_p24_m4_0) ?_
  intro T1 X1 e1
  show Go p e below _ T1 (mkF m 3 #[.val (.ref a1)] [(.ref w_MS)])
  refine Go.by (T' := T1) (g' := (mkF m 4 #[.val (.ref a1)] [(.ref a1), (.ref w_MS)])) (fun t k => ?_) ?_
  · show Steps p.tables e below (T1.setTop (mkF m 3 #[.val (.ref a1)] [(.ref w_MS)])) _
    refine XS.aloadN X1.here hx rfl (hb hby d_p24_m4_3) rfl rfl ?_
    exact k
  refine Go.getF X1 hx hZ hown (wd hw 18 rfl) Via.refl e1 F_a1 (hb hby d_p24_m4_4) ?_
  intro T2 X2 e2
  show Go p e below _ T2 (mkF m 7 #[.val (.ref a1)] [(.long z1), (.ref w_MS)])
  refine Go.callV X2 hx hZ (W := 0) (argsL := [(.long z1)]) (rest := []) hown (wd hw 39 rfl) (wd hw 40 rfl) (notFace_of_selects (args := #[]) (mvT hZ (wd hw 42 rfl))) (wd hw 42 rfl) (wd hw 41 rfl) (wd hw 38 rfl) (wd hw 43 rfl) (by decide) (E_MS.ext O.2) (ct_toNanos l Z a0 hw w_MS S_MS E_MS F_MS1 F_MS2 z1 h0 n0 O hz1 hz2) e2 (by rw [hml]; rfl) (lenOf pd__J_J_8725 rfl) rfl rfl (hb hby d_p24_m4_7) (by decide) (by decide) (by decide) (by decide) ?_
  intro v3 T3 h3 L3 X3 e3 q3
  obtain ⟨rfl, N3, rfl⟩ := q3
  replace N3 := Fr.app N0 N3
  show Go p e below _ T3 (mkF m 10 #[.val (.ref a1)] [(.long (z1 * (1000000 : Int64)))])
  refine Go.retJ X3 hx hlk hret (hb hby d_p24_m4_10) (by decide) (by decide) e3 ?_
  exact ⟨rfl, N3, rfl⟩
set_option maxRecDepth 65536 in
set_option maxHeartbeats 40000000 in
theorem ct_winit (l : Launch) (Z : State) (a0 : Array Value) (hw : ∀ d ∈ tables_1, d.before a0 Z = true) (w_MS : Addr) (S_MS : Sta Z Z.heap "java/util/concurrent/TimeUnit" "MILLISECONDS" "Ljava/util/concurrent/TimeUnit;" (.ref w_MS)) (E_MS : Exa Z Z.heap w_MS "java/util/concurrent/TimeUnit") (F_MS1 : Fld Z Z.heap w_MS "java/util/concurrent/TimeUnit" "scale" "J" (.long 1000000)) (F_MS2 : Fld Z Z.heap w_MS "java/util/concurrent/TimeUnit" "maxNanos" "J" (.long 9223372036854)) (a1 : Addr) (a2 : Addr) (z1 : Int64) (h0 : Heap) (n0 : Nat) (O : Old Z n0 h0) (E_a1 : Exa Z h0 a1 "com/example/breakwater/breakwater/OrderRateWindow") (F_a1_rate : Fld Z h0 a1 "com/example/breakwater/breakwater/OrderRateWindow" "rate" "Lcom/example/breakwater/breakwater/OrderRate;" .null) (F_a1_windowNanos : Fld Z h0 a1 "com/example/breakwater/breakwater/OrderRateWindow" "windowNanos" "J" (.long (0 : Int64))) (F_a1_times : Fld Z h0 a1 "com/example/breakwater/breakwater/OrderRateWindow" "times" "[J" .null) (F_a1_head : Fld Z h0 a1 "com/example/breakwater/breakwater/OrderRateWindow" "head" "I" (.int (0 : Int32))) (F_a1_count : Fld Z h0 a1 "com/example/breakwater/breakwater/OrderRateWindow" "count" "I" (.int (0 : Int32))) (F_a1_now : Fld Z h0 a1 "com/example/breakwater/breakwater/OrderRateWindow" "now" "J" (.long (0 : Int64))) (g_a1 : n0 ≤ a1) (E_a2 : Exa Z h0 a2 "com/example/breakwater/breakwater/OrderRate") (F_a2 : Fld Z h0 a2 "com/example/breakwater/breakwater/OrderRate" "windowMillis" "J" (.long z1)) (ne_a1_a2 : a1 ≠ a2) (hz1 : ¬ (9223372036854 : Int64) < z1) (hz2 : ¬ z1 < (-(9223372036854 : Int64))) :
    Ct l (⟨"com/example/breakwater/breakwater/OrderRateWindow", "<init>", "(Lcom/example/breakwater/breakwater/OrderRate;)V"⟩ : MethodName) prog_25_method_1_code 2 none ({ frames := 2, cells := 1, slots := 16, locals := 31 } : Room) Z #[(.ref a1), (.ref a2)] h0 (fun v h L => ∃ ar kA, v = none ∧ Fr n0 L ∧ Keep h0 h [a1] ∧ h0.size ≤ ar ∧ Fld Z h a1 "com/example/breakwater/breakwater/OrderRateWindow" "windowNanos" "J" (.long (z1 * (1000000 : Int64))) ∧ Fld Z h a1 "com/example/breakwater/breakwater/OrderRateWindow" "times" "[J" (.ref ar) ∧ Fld Z h a1 "com/example/breakwater/breakwater/OrderRateWindow" "head" "I" (.int (0 : Int32)) ∧ Fld Z h a1 "com/example/breakwater/breakwater/OrderRateWindow" "count" "I" (.int (0 : Int32)) ∧ Fld Z h a1 "com/example/breakwater/breakwater/OrderRateWindow" "now" "J" (.long (-9223372036854775808 : Int64)) ∧ Arv Z h ar kA .long (16 : Int32) [(.long (0 : Int64)), (.long (0 : Int64)), (.long (0 : Int64)), (.long (0 : Int64)), (.long (0 : Int64)), (.long (0 : Int64)), (.long (0 : Int64)), (.long (0 : Int64)), (.long (0 : Int64)), (.long (0 : Int64)), (.long (0 : Int64)), (.long (0 : Int64)), (.long (0 : Int64)), (.long (0 : Int64)), (.long (0 : Int64)), (.long (0 : Int64))] (.long (0 : Int64))) := by
  refine Ct.of (plainFor_of_name pn_OrderRateWindow_528) ?_
  intro p e s m below meth c T0 X0 hx hby hml hown hnm hret hlk hZ e0
  have hown : s.vm.findClass "com/example/breakwater/breakwater/OrderRateWindow" = some m.cls := hown
  have hml : c.maxLocals = 2 := hml
  have N0 := Fr.nil n0
  refine Go.cast (g' := mkF m 0 #[.val (.ref a1), .val (.ref a2)] []) (by first | (simp [entryFrame, mkF, argsToLocals, Value.category]; done) | rfl) ?_
  have K : Keep h0 h0 [a1] := Keep.refl _ _
  refine Go.by (T' := T0) (g' := (mkF m 1 #[.val (.ref a1), .val (.ref a2)] [(.ref a1)])) (fun t k => ?_) ?_
  · show Steps p.tables e below (T0.setTop (mkF m 0 #[.val (.ref a1), .val (.ref a2)] [])) _
    refine XS.aloadN X0.here hx rfl (hb hby d_p25_m1_0) rfl rfl ?_
    exact k
  refine Go.initO X0 hx hZ hown (wd hw 23 rfl) (wd hw 14 rfl) (wd hw 15 rfl) e0 (by rw [hml]; rfl) (hb hby d_p25_m1_1) (by decide) (W := 0) rfl (by decide) ?_
  intro T1 X1 e1
  show Go p e below _ T1 (mkF m 4 #[.val (.ref a1), .val (.ref a2)] [])
  refine Go.by (T' := T1) (g' := (mkF m 7 #[.val (.ref a1), .val (.ref a2)] [(.int (16 : Int32)), (.ref a1)])) (fun t k => ?_) ?_
  · show Steps p.tables e below (T1.setTop (mkF m 4 #[.val (.ref a1), .val (.ref a2)] [])) _
    refine XS.aloadN X1.here hx rfl (hb hby d_p25_m1_4) rfl rfl ?_
    show Steps p.tables e below (T1.setTop (mkF m 5 #[.val (.ref a1), .val (.ref a2)] [(.ref a1)])) _
    refine XS.bipush X1.here hx rfl (hb hby d_p25_m1_5) ?_
    exact k
  refine Go.newP X1 hx hZ (wd hw 24 rfl) e1 (hb hby d_p25_m1_7) (by decide) (cap := 16) (by decide) (by decide) (by decide) (by decide) ?_
  intro T2 h2 b2 k2 X2 e2 E2 g2 V_b2
  have lb2 := Nat.le_of_eq g2.symm
  have ne_a1_b2 : a1 ≠ b2 := Nat.ne_of_lt (Nat.lt_of_lt_of_le E_a1.lt lb2)
  have ne_a2_b2 : a2 ≠ b2 := Nat.ne_of_lt (Nat.lt_of_lt_of_le E_a2.lt lb2)
  have g_b2 : n0 ≤ b2 := Nat.le_trans (OwnKit.Old.le O) lb2
  have sz_b2 : h0.size ≤ b2 := Nat.le_trans K.1 lb2
  replace E_a1 := E_a1.ext E2
  replace F_a1_rate := F_a1_rate.ext E2
  replace F_a1_windowNanos := F_a1_windowNanos.ext E2
  replace F_a1_times := F_a1_times.ext E2
  replace F_a1_head := F_a1_head.ext E2
  replace F_a1_count := F_a1_count.ext E2
  replace F_a1_now := F_a1_now.ext E2
  replace E_a2 := E_a2.ext E2
  replace F_a2 := F_a2.ext E2
  replace O := O.ext E2
  replace K := K.ext E2
  replace V_b2 := V_b2.pad (pad_rep [] (.long (0 : Int64)) 16)
  replace V_b2 : Arv Z h2 b2 k2 .long (16 : Int32) [(.long (0 : Int64)), (.long (0 : Int64)), (.long (0 : Int64)), (.long (0 : Int64)), (.long (0 : Int64)), (.long (0 : Int64)), (.long (0 : Int64)), (.long (0 : Int64)), (.long (0 : Int64)), (.long (0 : Int64)), (.long (0 : Int64)), (.long (0 : Int64)), (.long (0 : Int64)), (.long (0 : Int64)), (.long (0 : Int64)), (.long (0 : Int64))] (.long (0 : Int64)) := V_b2
  show Go p e below _ T2 (mkF m 9 #[.val (.ref a1), .val (.ref a2)] [(.ref b2), (.ref a1)])
  refine Go.putF X2 hx hZ hown (wd hw 25 rfl) Via.refl e2 F_a1_times E_a1 (Or.inl (wd hw 26 rfl)) (wd hw 4 rfl) (ty := (.array .long)) (by decide) rfl rfl (hb hby d_p25_m1_9) ?_
  intro T3 h3 X3 e3 W3
  replace E_a1 := E_a1.wr W3
  replace F_a1_rate := F_a1_rate.other W3 (Or.inr (slot_ne (a0 := a0) (Or.inr (wd hw 31 rfl)) (Or.inl (wd hw 26 rfl)) (by decide) (t := (.object "com/example/breakwater/breakwater/OrderRate")) (t' := (.array .long)) (by decide) (by decide)))
  replace F_a1_windowNanos := F_a1_windowNanos.other W3 (Or.inr (slot_ne (a0 := a0) (Or.inr (wd hw 49 rfl)) (Or.inl (wd hw 26 rfl)) (by decide) (t := .long) (t' := (.array .long)) (by decide) (by decide)))
  replace F_a1_times := F_a1_times.same W3
  replace F_a1_head := F_a1_head.other W3 (Or.inr (slot_ne (a0 := a0) (Or.inl (wd hw 63 rfl)) (Or.inl (wd hw 26 rfl)) (by decide) (t := .int) (t' := (.array .long)) (by decide) (by decide)))
  replace F_a1_count := F_a1_count.other W3 (Or.inr (slot_ne (a0 := a0) (Or.inl (wd hw 56 rfl)) (Or.inl (wd hw 26 rfl)) (by decide) (t := .int) (t' := (.array .long)) (by decide) (by decide)))
  replace F_a1_now := F_a1_now.other W3 (Or.inr (slot_ne (a0 := a0) (Or.inl (wd hw 29 rfl)) (Or.inl (wd hw 26 rfl)) (by decide) (t := .long) (t' := (.array .long)) (by decide) (by decide)))
  replace E_a2 := E_a2.wr W3
  replace F_a2 := F_a2.other W3 (Or.inl (Ne.symm ne_a1_a2))
  replace V_b2 := V_b2.other W3 (Ne.symm ne_a1_b2)
  replace O := O.wr W3 g_a1
  have N3 := Fr.snoc X3 N0 g_a1
  replace K := K.wr W3 (Or.inl (List.mem_of_getElem? (i := 0) rfl))
  show Go p e below _ T3 (mkF m 12 #[.val (.ref a1), .val (.ref a2)] [])
  refine Go.by (T' := T3) (g' := (mkF m 16 #[.val (.ref a1), .val (.ref a2)] [(.long (-9223372036854775808 : Int64)), (.ref a1)])) (fun t k => ?_) ?_
  · show Steps p.tables e below (T3.setTop (mkF m 12 #[.val (.ref a1), .val (.ref a2)] [])) _
    refine XS.aloadN X3.here hx rfl (hb hby d_p25_m1_12) rfl rfl ?_
    show Steps p.tables e below (T3.setTop (mkF m 13 #[.val (.ref a1), .val (.ref a2)] [(.ref a1)])) _
    refine X3.ldc2Long hx hown (mvT hZ (wd hw 27 rfl)) (g := (mkF m 13 #[.val (.ref a1), .val (.ref a2)] [(.ref a1)])) rfl (hb hby d_p25_m1_13) _ ?_
    exact k
  refine Go.putF X3 hx hZ hown (wd hw 28 rfl) Via.refl e3 F_a1_now E_a1 (Or.inl (wd hw 29 rfl)) (wd hw 4 rfl) (ty := .long) (by decide) rfl rfl (hb hby d_p25_m1_16) ?_
  intro T4 h4 X4 e4 W4
  replace E_a1 := E_a1.wr W4
  replace F_a1_rate := F_a1_rate.other W4 (Or.inr (slot_ne (a0 := a0) (Or.inr (wd hw 31 rfl)) (Or.inl (wd hw 29 rfl)) (by decide) (t := (.object "com/example/breakwater/breakwater/OrderRate")) (t' := .long) (by decide) (by decide)))
  replace F_a1_windowNanos := F_a1_windowNanos.other W4 (Or.inr (slot_ne (a0 := a0) (Or.inr (wd hw 49 rfl)) (Or.inl (wd hw 29 rfl)) (by decide) (t := .long) (t' := .long) (by decide) (by decide)))
  replace F_a1_times := F_a1_times.other W4 (Or.inr (slot_ne (a0 := a0) (Or.inl (wd hw 26 rfl)) (Or.inl (wd hw 29 rfl)) (by decide) (t := (.array .long)) (t' := .long) (by decide) (by decide)))
  replace F_a1_head := F_a1_head.other W4 (Or.inr (slot_ne (a0 := a0) (Or.inl (wd hw 63 rfl)) (Or.inl (wd hw 29 rfl)) (by decide) (t := .int) (t' := .long) (by decide) (by decide)))
  replace F_a1_count := F_a1_count.other W4 (Or.inr (slot_ne (a0 := a0) (Or.inl (wd hw 56 rfl)) (Or.inl (wd hw 29 rfl)) (by decide) (t := .int) (t' := .long) (by decide) (by decide)))
  replace F_a1_now := F_a1_now.same W4
  replace E_a2 := E_a2.wr W4
  replace F_a2 := F_a2.other W4 (Or.inl (Ne.symm ne_a1_a2))
  replace V_b2 := V_b2.other W4 (Ne.symm ne_a1_b2)
  replace O := O.wr W4 g_a1
  have N4 := Fr.snoc X4 N3 g_a1
  replace K := K.wr W4 (Or.inl (List.mem_of_getElem? (i := 0) rfl))
  show Go p e below _ T4 (mkF m 19 #[.val (.ref a1), .val (.ref a2)] [])
  refine Go.by (T' := T4) (g' := (mkF m 21 #[.val (.ref a1), .val (.ref a2)] [(.ref a2), (.ref a1)])) (fun t k => ?_) ?_
  · show Steps p.tables e below (T4.setTop (mkF m 19 #[.val (.ref a1), .val (.ref a2)] [])) _
    refine XS.aloadN X4.here hx rfl (hb hby d_p25_m1_19) rfl rfl ?_
    show Steps p.tables e below (T4.setTop (mkF m 20 #[.val (.ref a1), .val (.ref a2)] [(.ref a1)])) _
    refine XS.aloadN X4.here hx rfl (hb hby d_p25_m1_20) rfl rfl ?_
    exact k
  refine Go.putF X4 hx hZ hown (wd hw 30 rfl) Via.refl e4 F_a1_rate E_a1 (Or.inr ⟨(wd hw 31 rfl), rfl, hnm⟩) (wd hw 4 rfl) (ty := (.object "com/example/breakwater/breakwater/OrderRate")) (by decide) rfl rfl (hb hby d_p25_m1_21) ?_
  intro T5 h5 X5 e5 W5
  replace E_a1 := E_a1.wr W5
  replace F_a1_rate := F_a1_rate.same W5
  replace F_a1_windowNanos := F_a1_windowNanos.other W5 (Or.inr (slot_ne (a0 := a0) (Or.inr (wd hw 49 rfl)) (Or.inr (wd hw 31 rfl)) (by decide) (t := .long) (t' := (.object "com/example/breakwater/breakwater/OrderRate")) (by decide) (by decide)))
  replace F_a1_times := F_a1_times.other W5 (Or.inr (slot_ne (a0 := a0) (Or.inl (wd hw 26 rfl)) (Or.inr (wd hw 31 rfl)) (by decide) (t := (.array .long)) (t' := (.object "com/example/breakwater/breakwater/OrderRate")) (by decide) (by decide)))
  replace F_a1_head := F_a1_head.other W5 (Or.inr (slot_ne (a0 := a0) (Or.inl (wd hw 63 rfl)) (Or.inr (wd hw 31 rfl)) (by decide) (t := .int) (t' := (.object "com/example/breakwater/breakwater/OrderRate")) (by decide) (by decide)))
  replace F_a1_count := F_a1_count.other W5 (Or.inr (slot_ne (a0 := a0) (Or.inl (wd hw 56 rfl)) (Or.inr (wd hw 31 rfl)) (by decide) (t := .int) (t' := (.object "com/example/breakwater/breakwater/OrderRate")) (by decide) (by decide)))
  replace F_a1_now := F_a1_now.other W5 (Or.inr (slot_ne (a0 := a0) (Or.inl (wd hw 29 rfl)) (Or.inr (wd hw 31 rfl)) (by decide) (t := .long) (t' := (.object "com/example/breakwater/breakwater/OrderRate")) (by decide) (by decide)))
  replace E_a2 := E_a2.wr W5
  replace F_a2 := F_a2.other W5 (Or.inl (Ne.symm ne_a1_a2))
  replace V_b2 := V_b2.other W5 (Ne.symm ne_a1_b2)
  replace O := O.wr W5 g_a1
  have N5 := Fr.snoc X5 N4 g_a1
  replace K := K.wr W5 (Or.inl (List.mem_of_getElem? (i := 0) rfl))
  show Go p e below _ T5 (mkF m 24 #[.val (.ref a1), .val (.ref a2)] [])
  refine Go.by (T' := T5) (g' := (mkF m 26 #[.val (.ref a1), .val (.ref a2)] [(.ref a2), (.ref a1)])) (fun t k => ?_) ?_
  · show Steps p.tables e below (T5.setTop (mkF m 24 #[.val (.ref a1), .val (.ref a2)] [])) _
    refine XS.aloadN X5.here hx rfl (hb hby d_p25_m1_24) rfl rfl ?_
    show Steps p.tables e below (T5.setTop (mkF m 25 #[.val (.ref a1), .val (.ref a2)] [(.ref a1)])) _
    refine XS.aloadN X5.here hx rfl (hb hby d_p25_m1_25) rfl rfl ?_
    exact k
  refine Go.callV X5 hx hZ (W := 1) (argsL := []) (rest := [(.ref a1)]) hown (wd hw 32 rfl) (wd hw 33 rfl) (notFace_of_selects (args := #[]) (mvT hZ (wd hw 35 rfl))) (wd hw 35 rfl) (wd hw 34 rfl) (wd hw 8 rfl) (wd hw 36 rfl) (by decide) E_a2 (ct_wn l Z a0 hw w_MS S_MS E_MS F_MS1 F_MS2 a2 z1 h5 n0 O F_a2 hz1 hz2) e5 (by rw [hml]; rfl) (lenOf pd___J_8322 rfl) rfl rfl (hb hby d_p25_m1_26) (by decide) (by decide) (by decide) (by decide) ?_
  intro v6 T6 h6 L6 X6 e6 q6
  obtain ⟨rfl, N6, rfl⟩ := q6
  replace N6 := Fr.app N5 N6
  show Go p e below _ T6 (mkF m 29 #[.val (.ref a1), .val (.ref a2)] [(.long (z1 * (1000000 : Int64))), (.ref a1)])
  refine Go.putF X6 hx hZ hown (wd hw 48 rfl) Via.refl e6 F_a1_windowNanos E_a1 (Or.inr ⟨(wd hw 49 rfl), rfl, hnm⟩) (wd hw 4 rfl) (ty := .long) (by decide) rfl rfl (hb hby d_p25_m1_29) ?_
  intro T7 h7 X7 e7 W7
  replace E_a1 := E_a1.wr W7
  replace F_a1_rate := F_a1_rate.other W7 (Or.inr (slot_ne (a0 := a0) (Or.inr (wd hw 31 rfl)) (Or.inr (wd hw 49 rfl)) (by decide) (t := (.object "com/example/breakwater/breakwater/OrderRate")) (t' := .long) (by decide) (by decide)))
  replace F_a1_windowNanos := F_a1_windowNanos.same W7
  replace F_a1_times := F_a1_times.other W7 (Or.inr (slot_ne (a0 := a0) (Or.inl (wd hw 26 rfl)) (Or.inr (wd hw 49 rfl)) (by decide) (t := (.array .long)) (t' := .long) (by decide) (by decide)))
  replace F_a1_head := F_a1_head.other W7 (Or.inr (slot_ne (a0 := a0) (Or.inl (wd hw 63 rfl)) (Or.inr (wd hw 49 rfl)) (by decide) (t := .int) (t' := .long) (by decide) (by decide)))
  replace F_a1_count := F_a1_count.other W7 (Or.inr (slot_ne (a0 := a0) (Or.inl (wd hw 56 rfl)) (Or.inr (wd hw 49 rfl)) (by decide) (t := .int) (t' := .long) (by decide) (by decide)))
  replace F_a1_now := F_a1_now.other W7 (Or.inr (slot_ne (a0 := a0) (Or.inl (wd hw 29 rfl)) (Or.inr (wd hw 49 rfl)) (by decide) (t := .long) (t' := .long) (by decide) (by decide)))
  replace E_a2 := E_a2.wr W7
  replace F_a2 := F_a2.other W7 (Or.inl (Ne.symm ne_a1_a2))
  replace V_b2 := V_b2.other W7 (Ne.symm ne_a1_b2)
  replace O := O.wr W7 g_a1
  have N7 := Fr.snoc X7 N6 g_a1
  replace K := K.wr W7 (Or.inl (List.mem_of_getElem? (i := 0) rfl))
  show Go p e below _ T7 (mkF m 32 #[.val (.ref a1), .val (.ref a2)] [])
  refine Go.retV X7 hx hlk hret (hb hby d_p25_m1_32) (by decide) (by decide) e7 ?_
  exact ⟨b2, k2, rfl, N7, K, sz_b2, F_a1_windowNanos, F_a1_times, F_a1_head, F_a1_count, F_a1_now, V_b2⟩
set_option maxRecDepth 65536 in
set_option maxHeartbeats 40000000 in
theorem ct_move_0_0_0 (l : Launch) (Z : State) (a0 : Array Value) (hw : ∀ d ∈ tables_1, d.before a0 Z = true) (w_MS : Addr) (S_MS : Sta Z Z.heap "java/util/concurrent/TimeUnit" "MILLISECONDS" "Ljava/util/concurrent/TimeUnit;" (.ref w_MS)) (E_MS : Exa Z Z.heap w_MS "java/util/concurrent/TimeUnit") (F_MS1 : Fld Z Z.heap w_MS "java/util/concurrent/TimeUnit" "scale" "J" (.long 1000000)) (F_MS2 : Fld Z Z.heap w_MS "java/util/concurrent/TimeUnit" "maxNanos" "J" (.long 9223372036854)) (a1 : Addr) (ar : Addr) (kA : ClassId) (wn : Int64) (nw : Int64) (x0 : Int64) (x1 : Int64) (x2 : Int64) (tm : Int64) (h0 : Heap) (n0 : Nat) (O : Old Z n0 h0) (E_a1 : Exa Z h0 a1 "com/example/breakwater/breakwater/OrderRateWindow") (F_a1_windowNanos : Fld Z h0 a1 "com/example/breakwater/breakwater/OrderRateWindow" "windowNanos" "J" (.long wn)) (F_a1_times : Fld Z h0 a1 "com/example/breakwater/breakwater/OrderRateWindow" "times" "[J" (.ref ar)) (F_a1_head : Fld Z h0 a1 "com/example/breakwater/breakwater/OrderRateWindow" "head" "I" (.int (0 : Int32))) (F_a1_count : Fld Z h0 a1 "com/example/breakwater/breakwater/OrderRateWindow" "count" "I" (.int (0 : Int32))) (F_a1_now : Fld Z h0 a1 "com/example/breakwater/breakwater/OrderRateWindow" "now" "J" (.long nw)) (V_ar : Arv Z h0 ar kA .long (16 : Int32) [(.long x0), (.long x1), (.long x2)] (.long (0 : Int64))) (g_a1 : n0 ≤ a1) (g_ar : n0 ≤ ar) (ne_a1_ar : a1 ≠ ar) (ht : ¬ tm < nw) :
    Ct l (⟨"com/example/breakwater/breakwater/OrderRateWindow", "moveTo", "(J)Z"⟩ : MethodName) prog_25_method_3_code 3 (some .boolean) ({ frames := 0, cells := 0, slots := 0, locals := 0 } : Room) Z #[(.ref a1), (.long tm)] h0 (fun v h L => v = some (.int 1) ∧ Fr n0 L ∧ Keep h0 h [a1, ar] ∧ Fld Z h a1 "com/example/breakwater/breakwater/OrderRateWindow" "windowNanos" "J" (.long wn) ∧ Fld Z h a1 "com/example/breakwater/breakwater/OrderRateWindow" "times" "[J" (.ref ar) ∧ Fld Z h a1 "com/example/breakwater/breakwater/OrderRateWindow" "head" "I" (.int (0 : Int32)) ∧ Fld Z h a1 "com/example/breakwater/breakwater/OrderRateWindow" "count" "I" (.int (0 : Int32)) ∧ Fld Z h a1 "com/example/breakwater/breakwater/OrderRateWindow" "now" "J" (.long tm) ∧ Arv Z h ar kA .long (16 : Int32) [(.long x0), (.long x1), (.long x2)] (.long (0 : Int64))) := by
  refine Ct.of (plainFor_of_name pn_OrderRateWindow_528) ?_
  intro p e s m below meth c T0 X0 hx hby hml hown hnm hret hlk hZ e0
  have hown : s.vm.findClass "com/example/breakwater/breakwater/OrderRateWindow" = some m.cls := hown
  have hml : c.maxLocals = 3 := hml
  have N0 := Fr.nil n0
  refine Go.cast (g' := mkF m 0 #[.val (.ref a1), .val (.long tm), .second] []) (by first | (simp [entryFrame, mkF, argsToLocals, Value.category]; done) | rfl) ?_
  have K : Keep h0 h0 [a1, ar] := Keep.refl _ _
  refine Go.by (T' := T0) (g' := (mkF m 2 #[.val (.ref a1), .val (.long tm), .second] [(.ref a1), (.long tm)])) (fun t k => ?_) ?_
  · show Steps p.tables e below (T0.setTop (mkF m 0 #[.val (.ref a1), .val (.long tm), .second] [])) _
    refine XS.lloadN X0.here hx rfl (hb hby d_p25_m3_0) rfl ?_
    show Steps p.tables e below (T0.setTop (mkF m 1 #[.val (.ref a1), .val (.long tm), .second] [(.long tm)])) _
    refine XS.aloadN X0.here hx rfl (hb hby d_p25_m3_1) rfl rfl ?_
    exact k
  refine Go.getF X0 hx hZ hown (wd hw 28 rfl) Via.refl e0 F_a1_now (hb hby d_p25_m3_2) ?_
  intro T1 X1 e1
  show Go p e below _ T1 (mkF m 5 #[.val (.ref a1), .val (.long tm), .second] [(.long nw), (.long tm)])
  refine Go.by (T' := T1) (g' := (mkF m 13 #[.val (.ref a1), .val (.long tm), .second] [(.long tm), (.ref a1)])) (fun t k => ?_) ?_
  · show Steps p.tables e below (T1.setTop (mkF m 5 #[.val (.ref a1), .val (.long tm), .second] [(.long nw), (.long tm)])) _
    refine XS.lcmp X1.here hx rfl (hb hby d_p25_m3_5) rfl ?_
    show Steps p.tables e below (T1.setTop (mkF m 6 #[.val (.ref a1), .val (.long tm), .second] [(.int (lcmpW tm nw))])) _
    refine XS.ifYes X1.here hx rfl (pc0 := 6) (pc' := 11) rfl (hb hby d_p25_m3_6) rfl ((if0 _ _).trans (flt (fun q => ht ((lw_lt _ _).mp q))).2.1) (by decide) (by decide) ?_
    show Steps p.tables e below (T1.setTop (mkF m 11 #[.val (.ref a1), .val (.long tm), .second] [])) _
    refine XS.aloadN X1.here hx rfl (hb hby d_p25_m3_11) rfl rfl ?_
    show Steps p.tables e below (T1.setTop (mkF m 12 #[.val (.ref a1), .val (.long tm), .second] [(.ref a1)])) _
    refine XS.lloadN X1.here hx rfl (hb hby d_p25_m3_12) rfl ?_
    exact k
  refine Go.putF X1 hx hZ hown (wd hw 28 rfl) Via.refl e1 F_a1_now E_a1 (Or.inl (wd hw 29 rfl)) (wd hw 4 rfl) (ty := .long) (by decide) rfl rfl (hb hby d_p25_m3_13) ?_
  intro T2 h2 X2 e2 W2
  replace E_a1 := E_a1.wr W2
  replace F_a1_windowNanos := F_a1_windowNanos.other W2 (Or.inr (slot_ne (a0 := a0) (Or.inr (wd hw 49 rfl)) (Or.inl (wd hw 29 rfl)) (by decide) (t := .long) (t' := .long) (by decide) (by decide)))
  replace F_a1_times := F_a1_times.other W2 (Or.inr (slot_ne (a0 := a0) (Or.inl (wd hw 26 rfl)) (Or.inl (wd hw 29 rfl)) (by decide) (t := (.array .long)) (t' := .long) (by decide) (by decide)))
  replace F_a1_head := F_a1_head.other W2 (Or.inr (slot_ne (a0 := a0) (Or.inl (wd hw 63 rfl)) (Or.inl (wd hw 29 rfl)) (by decide) (t := .int) (t' := .long) (by decide) (by decide)))
  replace F_a1_count := F_a1_count.other W2 (Or.inr (slot_ne (a0 := a0) (Or.inl (wd hw 56 rfl)) (Or.inl (wd hw 29 rfl)) (by decide) (t := .int) (t' := .long) (by decide) (by decide)))
  replace F_a1_now := F_a1_now.same W2
  replace V_ar := V_ar.other W2 (Ne.symm ne_a1_ar)
  replace O := O.wr W2 g_a1
  have N2 := Fr.snoc X2 N0 g_a1
  replace K := K.wr W2 (Or.inl (List.mem_of_getElem? (i := 0) rfl))
  show Go p e below _ T2 (mkF m 16 #[.val (.ref a1), .val (.long tm), .second] [])
  refine Go.by (T' := T2) (g' := (mkF m 17 #[.val (.ref a1), .val (.long tm), .second] [(.ref a1)])) (fun t k => ?_) ?_
  · show Steps p.tables e below (T2.setTop (mkF m 16 #[.val (.ref a1), .val (.long tm), .second] [])) _
    refine XS.aloadN X2.here hx rfl (hb hby d_p25_m3_16) rfl rfl ?_
    exact k
  refine Go.getF X2 hx hZ hown (wd hw 55 rfl) Via.refl e2 F_a1_count (hb hby d_p25_m3_17) ?_
  intro T3 X3 e3
  show Go p e below _ T3 (mkF m 20 #[.val (.ref a1), .val (.long tm), .second] [(.int (0 : Int32))])
  refine Go.by (T' := T3) (g' := (mkF m 75 #[.val (.ref a1), .val (.long tm), .second] [(.int (1 : Int32))])) (fun t k => ?_) ?_
  · show Steps p.tables e below (T3.setTop (mkF m 20 #[.val (.ref a1), .val (.long tm), .second] [(.int (0 : Int32))])) _
    refine XS.ifYes X3.here hx rfl (pc0 := 20) (pc' := 74) rfl (hb hby d_p25_m3_20) rfl ((if0 _ _).trans (flt (by decide : ¬ (0 : Int32) < (0 : Int32))).2.2.2) (by decide) (by decide) ?_
    show Steps p.tables e below (T3.setTop (mkF m 74 #[.val (.ref a1), .val (.long tm), .second] [])) _
    refine XS.iconst X3.here hx rfl (hb hby d_p25_m3_74) ?_
    exact k
  refine Go.retZ X3 hx hlk hret (Or.inr rfl) (hb hby d_p25_m3_75) (by decide) (by decide) e3 ?_
  exact ⟨rfl, N2, K, F_a1_windowNanos, F_a1_times, F_a1_head, F_a1_count, F_a1_now, V_ar⟩
set_option maxRecDepth 65536 in
set_option maxHeartbeats 40000000 in
theorem ct_add_0_0 (l : Launch) (Z : State) (a0 : Array Value) (hw : ∀ d ∈ tables_1, d.before a0 Z = true) (w_MS : Addr) (S_MS : Sta Z Z.heap "java/util/concurrent/TimeUnit" "MILLISECONDS" "Ljava/util/concurrent/TimeUnit;" (.ref w_MS)) (E_MS : Exa Z Z.heap w_MS "java/util/concurrent/TimeUnit") (F_MS1 : Fld Z Z.heap w_MS "java/util/concurrent/TimeUnit" "scale" "J" (.long 1000000)) (F_MS2 : Fld Z Z.heap w_MS "java/util/concurrent/TimeUnit" "maxNanos" "J" (.long 9223372036854)) (a1 : Addr) (ar : Addr) (kA : ClassId) (wn : Int64) (nw : Int64) (x0 : Int64) (x1 : Int64) (x2 : Int64) (h0 : Heap) (n0 : Nat) (O : Old Z n0 h0) (E_a1 : Exa Z h0 a1 "com/example/breakwater/breakwater/OrderRateWindow") (F_a1_windowNanos : Fld Z h0 a1 "com/example/breakwater/breakwater/OrderRateWindow" "windowNanos" "J" (.long wn)) (F_a1_times : Fld Z h0 a1 "com/example/breakwater/breakwater/OrderRateWindow" "times" "[J" (.ref ar)) (F_a1_head : Fld Z h0 a1 "com/example/breakwater/breakwater/OrderRateWindow" "head" "I" (.int (0 : Int32))) (F_a1_count : Fld Z h0 a1 "com/example/breakwater/breakwater/OrderRateWindow" "count" "I" (.int (0 : Int32))) (F_a1_now : Fld Z h0 a1 "com/example/breakwater/breakwater/OrderRateWindow" "now" "J" (.long nw)) (V_ar : Arv Z h0 ar kA .long (16 : Int32) [(.long x0), (.long x1), (.long x2)] (.long (0 : Int64))) (g_a1 : n0 ≤ a1) (g_ar : n0 ≤ ar) (ne_a1_ar : a1 ≠ ar) :
    Ct l (⟨"com/example/breakwater/breakwater/OrderRateWindow", "add", "()V"⟩ : MethodName) prog_25_method_5_code 1 none ({ frames := 0, cells := 0, slots := 0, locals := 0 } : Room) Z #[(.ref a1)] h0 (fun v h L => v = none ∧ Fr n0 L ∧ Keep h0 h [a1, ar] ∧ Fld Z h a1 "com/example/breakwater/breakwater/OrderRateWindow" "windowNanos" "J" (.long wn) ∧ Fld Z h a1 "com/example/breakwater/breakwater/OrderRateWindow" "times" "[J" (.ref ar) ∧ Fld Z h a1 "com/example/breakwater/breakwater/OrderRateWindow" "head" "I" (.int (0 : Int32)) ∧ Fld Z h a1 "com/example/breakwater/breakwater/OrderRateWindow" "count" "I" (.int (1 : Int32)) ∧ Fld Z h a1 "com/example/breakwater/breakwater/OrderRateWindow" "now" "J" (.long nw) ∧ Arv Z h ar kA .long (16 : Int32) [(.long nw), (.long x1), (.long x2)] (.long (0 : Int64))) := by
  refine Ct.of (plainFor_of_name pn_OrderRateWindow_528) ?_
  intro p e s m below meth c T0 X0 hx hby hml hown hnm hret hlk hZ e0
  have hown : s.vm.findClass "com/example/breakwater/breakwater/OrderRateWindow" = some m.cls := hown
  have hml : c.maxLocals = 1 := hml
  have N0 := Fr.nil n0
  refine Go.cast (g' := mkF m 0 #[.val (.ref a1)] []) (by first | (simp [entryFrame, mkF, argsToLocals, Value.category]; done) | rfl) ?_
  have K : Keep h0 h0 [a1, ar] := Keep.refl _ _
  refine Go.by (T' := T0) (g' := (mkF m 1 #[.val (.ref a1)] [(.ref a1)])) (fun t k => ?_) ?_
  · show Steps p.tables e below (T0.setTop (mkF m 0 #[.val (.ref a1)] [])) _
    refine XS.aloadN X0.here hx rfl (hb hby d_p25_m5_0) rfl rfl ?_
    exact k
  refine Go.getF X0 hx hZ hown (wd hw 55 rfl) Via.refl e0 F_a1_count (hb hby d_p25_m5_1) ?_
  intro T1 X1 e1
  show Go p e below _ T1 (mkF m 4 #[.val (.ref a1)] [(.int (0 : Int32))])
  refine Go.by (T' := T1) (g' := (mkF m 5 #[.val (.ref a1)] [(.ref a1), (.int (0 : Int32))])) (fun t k => ?_) ?_
  · show Steps p.tables e below (T1.setTop (mkF m 4 #[.val (.ref a1)] [(.int (0 : Int32))])) _
    refine XS.aloadN X1.here hx rfl (hb hby d_p25_m5_4) rfl rfl ?_
    exact k
  refine Go.getF X1 hx hZ hown (wd hw 25 rfl) Via.refl e1 F_a1_times (hb hby d_p25_m5_5) ?_
  intro T2 X2 e2
  show Go p e below _ T2 (mkF m 8 #[.val (.ref a1)] [(.ref ar), (.int (0 : Int32))])
  refine Go.alenV X2 hx hZ e2 V_ar (hb hby d_p25_m5_8) ?_
  show Go p e below _ T2 (mkF m 9 #[.val (.ref a1)] [(.int (16 : Int32)), (.int (0 : Int32))])
  refine Go.by (T' := T2) (g' := (mkF m 17 #[.val (.ref a1)] [(.ref a1)])) (fun t k => ?_) ?_
  · show Steps p.tables e below (T2.setTop (mkF m 9 #[.val (.ref a1)] [(.int (16 : Int32)), (.int (0 : Int32))])) _
    refine XS.icmpYes X2.here hx rfl (pc0 := 9) (pc' := 16) rfl (hb hby d_p25_m5_9) rfl (feq (by decide : ¬ (0 : Int32) = (16 : Int32))).2 (by decide) (by decide) ?_
    show Steps p.tables e below (T2.setTop (mkF m 16 #[.val (.ref a1)] [])) _
    refine XS.aloadN X2.here hx rfl (hb hby d_p25_m5_16) rfl rfl ?_
    exact k
  refine Go.getF X2 hx hZ hown (wd hw 25 rfl) Via.refl e2 F_a1_times (hb hby d_p25_m5_17) ?_
  intro T3 X3 e3
  show Go p e below _ T3 (mkF m 20 #[.val (.ref a1)] [(.ref ar)])
  refine Go.by (T' := T3) (g' := (mkF m 21 #[.val (.ref a1)] [(.ref a1), (.ref ar)])) (fun t k => ?_) ?_
  · show Steps p.tables e below (T3.setTop (mkF m 20 #[.val (.ref a1)] [(.ref ar)])) _
    refine XS.aloadN X3.here hx rfl (hb hby d_p25_m5_20) rfl rfl ?_
    exact k
  refine Go.getF X3 hx hZ hown (wd hw 62 rfl) Via.refl e3 F_a1_head (hb hby d_p25_m5_21) ?_
  intro T4 X4 e4
  show Go p e below _ T4 (mkF m 24 #[.val (.ref a1)] [(.int (0 : Int32)), (.ref ar)])
  refine Go.by (T' := T4) (g' := (mkF m 25 #[.val (.ref a1)] [(.ref a1), (.int (0 : Int32)), (.ref ar)])) (fun t k => ?_) ?_
  · show Steps p.tables e below (T4.setTop (mkF m 24 #[.val (.ref a1)] [(.int (0 : Int32)), (.ref ar)])) _
    refine XS.aloadN X4.here hx rfl (hb hby d_p25_m5_24) rfl rfl ?_
    exact k
  refine Go.getF X4 hx hZ hown (wd hw 55 rfl) Via.refl e4 F_a1_count (hb hby d_p25_m5_25) ?_
  intro T5 X5 e5
  show Go p e below _ T5 (mkF m 28 #[.val (.ref a1)] [(.int (0 : Int32)), (.int (0 : Int32)), (.ref ar)])
  refine Go.by (T' := T5) (g' := (mkF m 30 #[.val (.ref a1)] [(.ref a1), (.int (0 : Int32)), (.ref ar)])) (fun t k => ?_) ?_
  · show Steps p.tables e below (T5.setTop (mkF m 28 #[.val (.ref a1)] [(.int (0 : Int32)), (.int (0 : Int32)), (.ref ar)])) _
    refine XS.iadd X5.here hx rfl (hb hby d_p25_m5_28) rfl ?_
    show Steps p.tables e below (T5.setTop (mkF m 29 #[.val (.ref a1)] [(.int (0 : Int32)), (.ref ar)])) _
    refine XS.aloadN X5.here hx rfl (hb hby d_p25_m5_29) rfl rfl ?_
    exact k
  refine Go.getF X5 hx hZ hown (wd hw 25 rfl) Via.refl e5 F_a1_times (hb hby d_p25_m5_30) ?_
  intro T6 X6 e6
  show Go p e below _ T6 (mkF m 33 #[.val (.ref a1)] [(.ref ar), (.int (0 : Int32)), (.ref ar)])
  refine Go.alenV X6 hx hZ e6 V_ar (hb hby d_p25_m5_33) ?_
  show Go p e below _ T6 (mkF m 34 #[.val (.ref a1)] [(.int (16 : Int32)), (.int (0 : Int32)), (.ref ar)])
  refine Go.by (T' := T6) (g' := (mkF m 36 #[.val (.ref a1)] [(.ref a1), (.int (0 : Int32)), (.ref ar)])) (fun t k => ?_) ?_
  · show Steps p.tables e below (T6.setTop (mkF m 34 #[.val (.ref a1)] [(.int (16 : Int32)), (.int (0 : Int32)), (.ref ar)])) _
    refine iremM X6 hx rfl (hb hby d_p25_m5_34) rfl (by decide) ?_
    show Steps p.tables e below (T6.setTop (mkF m 35 #[.val (.ref a1)] [(.int (0 : Int32)), (.ref ar)])) _
    refine XS.aloadN X6.here hx rfl (hb hby d_p25_m5_35) rfl rfl ?_
    exact k
  refine Go.getF X6 hx hZ hown (wd hw 28 rfl) Via.refl e6 F_a1_now (hb hby d_p25_m5_36) ?_
  intro T7 X7 e7
  show Go p e below _ T7 (mkF m 39 #[.val (.ref a1)] [(.long nw), (.int (0 : Int32)), (.ref ar)])
  refine Go.jstV X7 hx hZ e7 V_ar (j := (0 : Int32)) (x := nw) ⟨by decide, by decide⟩ 0 rfl (Nat.le_of_ble_eq_true rfl) (hb hby d_p25_m5_39) ?_
  intro T8 h8 X8 e8 W8 Vn8
  replace E_a1 := E_a1.wr W8
  replace F_a1_windowNanos := F_a1_windowNanos.other W8 (Or.inl ne_a1_ar)
  replace F_a1_times := F_a1_times.other W8 (Or.inl ne_a1_ar)
  replace F_a1_head := F_a1_head.other W8 (Or.inl ne_a1_ar)
  replace F_a1_count := F_a1_count.other W8 (Or.inl ne_a1_ar)
  replace F_a1_now := F_a1_now.other W8 (Or.inl ne_a1_ar)
  replace O := O.wr W8 g_ar
  have N8 := Fr.snoc X8 N0 g_ar
  replace K := K.wr W8 (Or.inl (List.mem_of_getElem? (i := 1) rfl))
  replace V_ar : Arv Z h8 ar kA .long (16 : Int32) [(.long nw), (.long x1), (.long x2)] (.long (0 : Int64)) := Vn8
  clear Vn8
  show Go p e below _ T8 (mkF m 40 #[.val (.ref a1)] [])
  refine Go.by (T' := T8) (g' := (mkF m 42 #[.val (.ref a1)] [(.ref a1), (.ref a1)])) (fun t k => ?_) ?_
  · show Steps p.tables e below (T8.setTop (mkF m 40 #[.val (.ref a1)] [])) _
    refine XS.aloadN X8.here hx rfl (hb hby d_p25_m5_40) rfl rfl ?_
    show Steps p.tables e below (T8.setTop (mkF m 41 #[.val (.ref a1)] [(.ref a1)])) _
    refine XS.dup X8.here hx rfl (hb hby d_p25_m5_41) rfl rfl ?_
    exact k
  refine Go.getF X8 hx hZ hown (wd hw 55 rfl) Via.refl e8 F_a1_count (hb hby d_p25_m5_42) ?_
  intro T9 X9 e9
  show Go p e below _ T9 (mkF m 45 #[.val (.ref a1)] [(.int (0 : Int32)), (.ref a1)])
  refine Go.by (T' := T9) (g' := (mkF m 47 #[.val (.ref a1)] [(.int (1 : Int32)), (.ref a1)])) (fun t k => ?_) ?_
  · show Steps p.tables e below (T9.setTop (mkF m 45 #[.val (.ref a1)] [(.int (0 : Int32)), (.ref a1)])) _
    refine XS.iconst X9.here hx rfl (hb hby d_p25_m5_45) ?_
    show Steps p.tables e below (T9.setTop (mkF m 46 #[.val (.ref a1)] [(.int (1 : Int32)), (.int (0 : Int32)), (.ref a1)])) _
    refine XS.iadd X9.here hx rfl (hb hby d_p25_m5_46) rfl ?_
    exact k
  refine Go.putF X9 hx hZ hown (wd hw 55 rfl) Via.refl e9 F_a1_count E_a1 (Or.inl (wd hw 56 rfl)) (wd hw 4 rfl) (ty := .int) (by decide) rfl rfl (hb hby d_p25_m5_47) ?_
  intro T10 h10 X10 e10 W10
  replace E_a1 := E_a1.wr W10
  replace F_a1_windowNanos := F_a1_windowNanos.other W10 (Or.inr (slot_ne (a0 := a0) (Or.inr (wd hw 49 rfl)) (Or.inl (wd hw 56 rfl)) (by decide) (t := .long) (t' := .int) (by decide) (by decide)))
  replace F_a1_times := F_a1_times.other W10 (Or.inr (slot_ne (a0 := a0) (Or.inl (wd hw 26 rfl)) (Or.inl (wd hw 56 rfl)) (by decide) (t := (.array .long)) (t' := .int) (by decide) (by decide)))
  replace F_a1_head := F_a1_head.other W10 (Or.inr (slot_ne (a0 := a0) (Or.inl (wd hw 63 rfl)) (Or.inl (wd hw 56 rfl)) (by decide) (t := .int) (t' := .int) (by decide) (by decide)))
  replace F_a1_count := F_a1_count.same W10
  replace F_a1_now := F_a1_now.other W10 (Or.inr (slot_ne (a0 := a0) (Or.inl (wd hw 29 rfl)) (Or.inl (wd hw 56 rfl)) (by decide) (t := .long) (t' := .int) (by decide) (by decide)))
  replace V_ar := V_ar.other W10 (Ne.symm ne_a1_ar)
  replace O := O.wr W10 g_a1
  have N10 := Fr.snoc X10 N8 g_a1
  replace K := K.wr W10 (Or.inl (List.mem_of_getElem? (i := 0) rfl))
  show Go p e below _ T10 (mkF m 50 #[.val (.ref a1)] [])
  refine Go.retV X10 hx hlk hret (hb hby d_p25_m5_50) (by decide) (by decide) e10 ?_
  exact ⟨rfl, N10, K, F_a1_windowNanos, F_a1_times, F_a1_head, F_a1_count, F_a1_now, V_ar⟩
set_option maxRecDepth 65536 in
set_option maxHeartbeats 40000000 in
theorem ct_move_0_1_0 (l : Launch) (Z : State) (a0 : Array Value) (hw : ∀ d ∈ tables_1, d.before a0 Z = true) (w_MS : Addr) (S_MS : Sta Z Z.heap "java/util/concurrent/TimeUnit" "MILLISECONDS" "Ljava/util/concurrent/TimeUnit;" (.ref w_MS)) (E_MS : Exa Z Z.heap w_MS "java/util/concurrent/TimeUnit") (F_MS1 : Fld Z Z.heap w_MS "java/util/concurrent/TimeUnit" "scale" "J" (.long 1000000)) (F_MS2 : Fld Z Z.heap w_MS "java/util/concurrent/TimeUnit" "maxNanos" "J" (.long 9223372036854)) (a1 : Addr) (ar : Addr) (kA : ClassId) (wn : Int64) (nw : Int64) (x0 : Int64) (x1 : Int64) (x2 : Int64) (tm : Int64) (h0 : Heap) (n0 : Nat) (O : Old Z n0 h0) (E_a1 : Exa Z h0 a1 "com/example/breakwater/breakwater/OrderRateWindow") (F_a1_windowNanos : Fld Z h0 a1 "com/example/breakwater/breakwater/OrderRateWindow" "windowNanos" "J" (.long wn)) (F_a1_times : Fld Z h0 a1 "com/example/breakwater/breakwater/OrderRateWindow" "times" "[J" (.ref ar)) (F_a1_head : Fld Z h0 a1 "com/example/breakwater/breakwater/OrderRateWindow" "head" "I" (.int (0 : Int32))) (F_a1_count : Fld Z h0 a1 "com/example/breakwater/breakwater/OrderRateWindow" "count" "I" (.int (1 : Int32))) (F_a1_now : Fld Z h0 a1 "com/example/breakwater/breakwater/OrderRateWindow" "now" "J" (.long nw)) (V_ar : Arv Z h0 ar kA .long (16 : Int32) [(.long x0), (.long x1), (.long x2)] (.long (0 : Int64))) (g_a1 : n0 ≤ a1) (g_ar : n0 ≤ ar) (ne_a1_ar : a1 ≠ ar) (ht : ¬ tm < nw) (hq0 : (tm - x0) < wn) :
    Ct l (⟨"com/example/breakwater/breakwater/OrderRateWindow", "moveTo", "(J)Z"⟩ : MethodName) prog_25_method_3_code 3 (some .boolean) ({ frames := 0, cells := 0, slots := 0, locals := 0 } : Room) Z #[(.ref a1), (.long tm)] h0 (fun v h L => v = some (.int 1) ∧ Fr n0 L ∧ Keep h0 h [a1, ar] ∧ Fld Z h a1 "com/example/breakwater/breakwater/OrderRateWindow" "windowNanos" "J" (.long wn) ∧ Fld Z h a1 "com/example/breakwater/breakwater/OrderRateWindow" "times" "[J" (.ref ar) ∧ Fld Z h a1 "com/example/breakwater/breakwater/OrderRateWindow" "head" "I" (.int (0 : Int32)) ∧ Fld Z h a1 "com/example/breakwater/breakwater/OrderRateWindow" "count" "I" (.int (1 : Int32)) ∧ Fld Z h a1 "com/example/breakwater/breakwater/OrderRateWindow" "now" "J" (.long tm) ∧ Arv Z h ar kA .long (16 : Int32) [(.long x0), (.long x1), (.long x2)] (.long (0 : Int64))) := by
  refine Ct.of (plainFor_of_name pn_OrderRateWindow_528) ?_
  intro p e s m below meth c T0 X0 hx hby hml hown hnm hret hlk hZ e0
  have hown : s.vm.findClass "com/example/breakwater/breakwater/OrderRateWindow" = some m.cls := hown
  have hml : c.maxLocals = 3 := hml
  have N0 := Fr.nil n0
  refine Go.cast (g' := mkF m 0 #[.val (.ref a1), .val (.long tm), .second] []) (by first | (simp [entryFrame, mkF, argsToLocals, Value.category]; done) | rfl) ?_
  have K : Keep h0 h0 [a1, ar] := Keep.refl _ _
  refine Go.by (T' := T0) (g' := (mkF m 2 #[.val (.ref a1), .val (.long tm), .second] [(.ref a1), (.long tm)])) (fun t k => ?_) ?_
  · show Steps p.tables e below (T0.setTop (mkF m 0 #[.val (.ref a1), .val (.long tm), .second] [])) _
    refine XS.lloadN X0.here hx rfl (hb hby d_p25_m3_0) rfl ?_
    show Steps p.tables e below (T0.setTop (mkF m 1 #[.val (.ref a1), .val (.long tm), .second] [(.long tm)])) _
    refine XS.aloadN X0.here hx rfl (hb hby d_p25_m3_1) rfl rfl ?_
    exact k
  refine Go.getF X0 hx hZ hown (wd hw 28 rfl) Via.refl e0 F_a1_now (hb hby d_p25_m3_2) ?_
  intro T1 X1 e1
  show Go p e below _ T1 (mkF m 5 #[.val (.ref a1), .val (.long tm), .second] [(.long nw), (.long tm)])
  refine Go.by (T' := T1) (g' := (mkF m 13 #[.val (.ref a1), .val (.long tm), .second] [(.long tm), (.ref a1)])) (fun t k => ?_) ?_
  · show Steps p.tables e below (T1.setTop (mkF m 5 #[.val (.ref a1), .val (.long tm), .second] [(.long nw), (.long tm)])) _
    refine XS.lcmp X1.here hx rfl (hb hby d_p25_m3_5) rfl ?_
    show Steps p.tables e below (T1.setTop (mkF m 6 #[.val (.ref a1), .val (.long tm), .second] [(.int (lcmpW tm nw))])) _
    refine XS.ifYes X1.here hx rfl (pc0 := 6) (pc' := 11) rfl (hb hby d_p25_m3_6) rfl ((if0 _ _).trans (flt (fun q => ht ((lw_lt _ _).mp q))).2.1) (by decide) (by decide) ?_
    show Steps p.tables e below (T1.setTop (mkF m 11 #[.val (.ref a1), .val (.long tm), .second] [])) _
    refine XS.aloadN X1.here hx rfl (hb hby d_p25_m3_11) rfl rfl ?_
    show Steps p.tables e below (T1.setTop (mkF m 12 #[.val (.ref a1), .val (.long tm), .second] [(.ref a1)])) _
    refine XS.lloadN X1.here hx rfl (hb hby d_p25_m3_12) rfl ?_
    exact k
  refine Go.putF X1 hx hZ hown (wd hw 28 rfl) Via.refl e1 F_a1_now E_a1 (Or.inl (wd hw 29 rfl)) (wd hw 4 rfl) (ty := .long) (by decide) rfl rfl (hb hby d_p25_m3_13) ?_
  intro T2 h2 X2 e2 W2
  replace E_a1 := E_a1.wr W2
  replace F_a1_windowNanos := F_a1_windowNanos.other W2 (Or.inr (slot_ne (a0 := a0) (Or.inr (wd hw 49 rfl)) (Or.inl (wd hw 29 rfl)) (by decide) (t := .long) (t' := .long) (by decide) (by decide)))
  replace F_a1_times := F_a1_times.other W2 (Or.inr (slot_ne (a0 := a0) (Or.inl (wd hw 26 rfl)) (Or.inl (wd hw 29 rfl)) (by decide) (t := (.array .long)) (t' := .long) (by decide) (by decide)))
  replace F_a1_head := F_a1_head.other W2 (Or.inr (slot_ne (a0 := a0) (Or.inl (wd hw 63 rfl)) (Or.inl (wd hw 29 rfl)) (by decide) (t := .int) (t' := .long) (by decide) (by decide)))
  replace F_a1_count := F_a1_count.other W2 (Or.inr (slot_ne (a0 := a0) (Or.inl (wd hw 56 rfl)) (Or.inl (wd hw 29 rfl)) (by decide) (t := .int) (t' := .long) (by decide) (by decide)))
  replace F_a1_now := F_a1_now.same W2
  replace V_ar := V_ar.other W2 (Ne.symm ne_a1_ar)
  replace O := O.wr W2 g_a1
  have N2 := Fr.snoc X2 N0 g_a1
  replace K := K.wr W2 (Or.inl (List.mem_of_getElem? (i := 0) rfl))
  show Go p e below _ T2 (mkF m 16 #[.val (.ref a1), .val (.long tm), .second] [])
  refine Go.by (T' := T2) (g' := (mkF m 17 #[.val (.ref a1), .val (.long tm), .second] [(.ref a1)])) (fun t k => ?_) ?_
  · show Steps p.tables e below (T2.setTop (mkF m 16 #[.val (.ref a1), .val (.long tm), .second] [])) _
    refine XS.aloadN X2.here hx rfl (hb hby d_p25_m3_16) rfl rfl ?_
    exact k
  refine Go.getF X2 hx hZ hown (wd hw 55 rfl) Via.refl e2 F_a1_count (hb hby d_p25_m3_17) ?_
  intro T3 X3 e3
  show Go p e below _ T3 (mkF m 20 #[.val (.ref a1), .val (.long tm), .second] [(.int (1 : Int32))])
  refine Go.by (T' := T3) (g' := (mkF m 24 #[.val (.ref a1), .val (.long tm), .second] [(.ref a1)])) (fun t k => ?_) ?_
  · show Steps p.tables e below (T3.setTop (mkF m 20 #[.val (.ref a1), .val (.long tm), .second] [(.int (1 : Int32))])) _
    refine XS.ifNo X3.here hx rfl (hb hby d_p25_m3_20) rfl ((if0 _ _).trans (tlt (by decide : (0 : Int32) < (1 : Int32))).2.2.2) ?_
    show Steps p.tables e below (T3.setTop (mkF m 23 #[.val (.ref a1), .val (.long tm), .second] [])) _
    refine XS.aloadN X3.here hx rfl (hb hby d_p25_m3_23) rfl rfl ?_
    exact k
  refine Go.getF X3 hx hZ hown (wd hw 28 rfl) Via.refl e3 F_a1_now (hb hby d_p25_m3_24) ?_
  intro T4 X4 e4
  show Go p e below _ T4 (mkF m 27 #[.val (.ref a1), .val (.long tm), .second] [(.long tm)])
  refine Go.by (T' := T4) (g' := (mkF m 28 #[.val (.ref a1), .val (.long tm), .second] [(.ref a1), (.long tm)])) (fun t k => ?_) ?_
  · show Steps p.tables e below (T4.setTop (mkF m 27 #[.val (.ref a1), .val (.long tm), .second] [(.long tm)])) _
    refine XS.aloadN X4.here hx rfl (hb hby d_p25_m3_27) rfl rfl ?_
    exact k
  refine Go.getF X4 hx hZ hown (wd hw 25 rfl) Via.refl e4 F_a1_times (hb hby d_p25_m3_28) ?_
  intro T5 X5 e5
  show Go p e below _ T5 (mkF m 31 #[.val (.ref a1), .val (.long tm), .second] [(.ref ar), (.long tm)])
  refine Go.by (T' := T5) (g' := (mkF m 32 #[.val (.ref a1), .val (.long tm), .second] [(.ref a1), (.ref ar), (.long tm)])) (fun t k => ?_) ?_
  · show Steps p.tables e below (T5.setTop (mkF m 31 #[.val (.ref a1), .val (.long tm), .second] [(.ref ar), (.long tm)])) _
    refine XS.aloadN X5.here hx rfl (hb hby d_p25_m3_31) rfl rfl ?_
    exact k
  refine Go.getF X5 hx hZ hown (wd hw 62 rfl) Via.refl e5 F_a1_head (hb hby d_p25_m3_32) ?_
  intro T6 X6 e6
  show Go p e below _ T6 (mkF m 35 #[.val (.ref a1), .val (.long tm), .second] [(.int (0 : Int32)), (.ref ar), (.long tm)])
  refine Go.aloadV X6 hx hZ e6 V_ar (j := (0 : Int32)) (v := (.long x0)) ⟨by decide, by decide⟩ rfl (Or.inr (Or.inl ⟨rfl, rfl⟩)) (hb hby d_p25_m3_35) ?_
  show Go p e below _ T6 (mkF m 36 #[.val (.ref a1), .val (.long tm), .second] [(.long x0), (.long tm)])
  refine Go.by (T' := T6) (g' := (mkF m 38 #[.val (.ref a1), .val (.long tm), .second] [(.ref a1), (.long (tm - x0))])) (fun t k => ?_) ?_
  · show Steps p.tables e below (T6.setTop (mkF m 36 #[.val (.ref a1), .val (.long tm), .second] [(.long x0), (.long tm)])) _
    refine XS.lsub X6.here hx rfl (hb hby d_p25_m3_36) rfl ?_
    show Steps p.tables e below (T6.setTop (mkF m 37 #[.val (.ref a1), .val (.long tm), .second] [(.long (tm - x0))])) _
    refine XS.aloadN X6.here hx rfl (hb hby d_p25_m3_37) rfl rfl ?_
    exact k
  refine Go.getF X6 hx hZ hown (wd hw 48 rfl) Via.refl e6 F_a1_windowNanos (hb hby d_p25_m3_38) ?_
  intro T7 X7 e7
  show Go p e below _ T7 (mkF m 41 #[.val (.ref a1), .val (.long tm), .second] [(.long wn), (.long (tm - x0))])
  refine Go.by (T' := T7) (g' := (mkF m 75 #[.val (.ref a1), .val (.long tm), .second] [(.int (1 : Int32))])) (fun t k => ?_) ?_
  · show Steps p.tables e below (T7.setTop (mkF m 41 #[.val (.ref a1), .val (.long tm), .second] [(.long wn), (.long (tm - x0))])) _
    refine XS.lcmp X7.here hx rfl (hb hby d_p25_m3_41) rfl ?_
    show Steps p.tables e below (T7.setTop (mkF m 42 #[.val (.ref a1), .val (.long tm), .second] [(.int (lcmpW (tm - x0) wn))])) _
    refine XS.ifYes X7.here hx rfl (pc0 := 42) (pc' := 74) rfl (hb hby d_p25_m3_42) rfl ((if0 _ _).trans (tlt ((lw_lt _ _).mpr hq0)).1) (by decide) (by decide) ?_
    show Steps p.tables e below (T7.setTop (mkF m 74 #[.val (.ref a1), .val (.long tm), .second] [])) _
    refine XS.iconst X7.here hx rfl (hb hby d_p25_m3_74) ?_
    exact k
  refine Go.retZ X7 hx hlk hret (Or.inr rfl) (hb hby d_p25_m3_75) (by decide) (by decide) e7 ?_
  exact ⟨rfl, N2, K, F_a1_windowNanos, F_a1_times, F_a1_head, F_a1_count, F_a1_now, V_ar⟩
set_option maxRecDepth 65536 in
set_option maxHeartbeats 40000000 in
theorem ct_add_0_1 (l : Launch) (Z : State) (a0 : Array Value) (hw : ∀ d ∈ tables_1, d.before a0 Z = true) (w_MS : Addr) (S_MS : Sta Z Z.heap "java/util/concurrent/TimeUnit" "MILLISECONDS" "Ljava/util/concurrent/TimeUnit;" (.ref w_MS)) (E_MS : Exa Z Z.heap w_MS "java/util/concurrent/TimeUnit") (F_MS1 : Fld Z Z.heap w_MS "java/util/concurrent/TimeUnit" "scale" "J" (.long 1000000)) (F_MS2 : Fld Z Z.heap w_MS "java/util/concurrent/TimeUnit" "maxNanos" "J" (.long 9223372036854)) (a1 : Addr) (ar : Addr) (kA : ClassId) (wn : Int64) (nw : Int64) (x0 : Int64) (x1 : Int64) (x2 : Int64) (h0 : Heap) (n0 : Nat) (O : Old Z n0 h0) (E_a1 : Exa Z h0 a1 "com/example/breakwater/breakwater/OrderRateWindow") (F_a1_windowNanos : Fld Z h0 a1 "com/example/breakwater/breakwater/OrderRateWindow" "windowNanos" "J" (.long wn)) (F_a1_times : Fld Z h0 a1 "com/example/breakwater/breakwater/OrderRateWindow" "times" "[J" (.ref ar)) (F_a1_head : Fld Z h0 a1 "com/example/breakwater/breakwater/OrderRateWindow" "head" "I" (.int (0 : Int32))) (F_a1_count : Fld Z h0 a1 "com/example/breakwater/breakwater/OrderRateWindow" "count" "I" (.int (1 : Int32))) (F_a1_now : Fld Z h0 a1 "com/example/breakwater/breakwater/OrderRateWindow" "now" "J" (.long nw)) (V_ar : Arv Z h0 ar kA .long (16 : Int32) [(.long x0), (.long x1), (.long x2)] (.long (0 : Int64))) (g_a1 : n0 ≤ a1) (g_ar : n0 ≤ ar) (ne_a1_ar : a1 ≠ ar) :
    Ct l (⟨"com/example/breakwater/breakwater/OrderRateWindow", "add", "()V"⟩ : MethodName) prog_25_method_5_code 1 none ({ frames := 0, cells := 0, slots := 0, locals := 0 } : Room) Z #[(.ref a1)] h0 (fun v h L => v = none ∧ Fr n0 L ∧ Keep h0 h [a1, ar] ∧ Fld Z h a1 "com/example/breakwater/breakwater/OrderRateWindow" "windowNanos" "J" (.long wn) ∧ Fld Z h a1 "com/example/breakwater/breakwater/OrderRateWindow" "times" "[J" (.ref ar) ∧ Fld Z h a1 "com/example/breakwater/breakwater/OrderRateWindow" "head" "I" (.int (0 : Int32)) ∧ Fld Z h a1 "com/example/breakwater/breakwater/OrderRateWindow" "count" "I" (.int (2 : Int32)) ∧ Fld Z h a1 "com/example/breakwater/breakwater/OrderRateWindow" "now" "J" (.long nw) ∧ Arv Z h ar kA .long (16 : Int32) [(.long x0), (.long nw), (.long x2)] (.long (0 : Int64))) := by
  refine Ct.of (plainFor_of_name pn_OrderRateWindow_528) ?_
  intro p e s m below meth c T0 X0 hx hby hml hown hnm hret hlk hZ e0
  have hown : s.vm.findClass "com/example/breakwater/breakwater/OrderRateWindow" = some m.cls := hown
  have hml : c.maxLocals = 1 := hml
  have N0 := Fr.nil n0
  refine Go.cast (g' := mkF m 0 #[.val (.ref a1)] []) (by first | (simp [entryFrame, mkF, argsToLocals, Value.category]; done) | rfl) ?_
  have K : Keep h0 h0 [a1, ar] := Keep.refl _ _
  refine Go.by (T' := T0) (g' := (mkF m 1 #[.val (.ref a1)] [(.ref a1)])) (fun t k => ?_) ?_
  · show Steps p.tables e below (T0.setTop (mkF m 0 #[.val (.ref a1)] [])) _
    refine XS.aloadN X0.here hx rfl (hb hby d_p25_m5_0) rfl rfl ?_
    exact k
  refine Go.getF X0 hx hZ hown (wd hw 55 rfl) Via.refl e0 F_a1_count (hb hby d_p25_m5_1) ?_
  intro T1 X1 e1
  show Go p e below _ T1 (mkF m 4 #[.val (.ref a1)] [(.int (1 : Int32))])
  refine Go.by (T' := T1) (g' := (mkF m 5 #[.val (.ref a1)] [(.ref a1), (.int (1 : Int32))])) (fun t k => ?_) ?_
  · show Steps p.tables e below (T1.setTop (mkF m 4 #[.val (.ref a1)] [(.int (1 : Int32))])) _
    refine XS.aloadN X1.here hx rfl (hb hby d_p25_m5_4) rfl rfl ?_
    exact k
  refine Go.getF X1 hx hZ hown (wd hw 25 rfl) Via.refl e1 F_a1_times (hb hby d_p25_m5_5) ?_
  intro T2 X2 e2
  show Go p e below _ T2 (mkF m 8 #[.val (.ref a1)] [(.ref ar), (.int (1 : Int32))])
  refine Go.alenV X2 hx hZ e2 V_ar (hb hby d_p25_m5_8) ?_
  show Go p e below _ T2 (mkF m 9 #[.val (.ref a1)] [(.int (16 : Int32)), (.int (1 : Int32))])
  refine Go.by (T' := T2) (g' := (mkF m 17 #[.val (.ref a1)] [(.ref a1)])) (fun t k => ?_) ?_
  · show Steps p.tables e below (T2.setTop (mkF m 9 #[.val (.ref a1)] [(.int (16 : Int32)), (.int (1 : Int32))])) _
    refine XS.icmpYes X2.here hx rfl (pc0 := 9) (pc' := 16) rfl (hb hby d_p25_m5_9) rfl (feq (by decide : ¬ (1 : Int32) = (16 : Int32))).2 (by decide) (by decide) ?_
    show Steps p.tables e below (T2.setTop (mkF m 16 #[.val (.ref a1)] [])) _
    refine XS.aloadN X2.here hx rfl (hb hby d_p25_m5_16) rfl rfl ?_
    exact k
  refine Go.getF X2 hx hZ hown (wd hw 25 rfl) Via.refl e2 F_a1_times (hb hby d_p25_m5_17) ?_
  intro T3 X3 e3
  show Go p e below _ T3 (mkF m 20 #[.val (.ref a1)] [(.ref ar)])
  refine Go.by (T' := T3) (g' := (mkF m 21 #[.val (.ref a1)] [(.ref a1), (.ref ar)])) (fun t k => ?_) ?_
  · show Steps p.tables e below (T3.setTop (mkF m 20 #[.val (.ref a1)] [(.ref ar)])) _
    refine XS.aloadN X3.here hx rfl (hb hby d_p25_m5_20) rfl rfl ?_
    exact k
  refine Go.getF X3 hx hZ hown (wd hw 62 rfl) Via.refl e3 F_a1_head (hb hby d_p25_m5_21) ?_
  intro T4 X4 e4
  show Go p e below _ T4 (mkF m 24 #[.val (.ref a1)] [(.int (0 : Int32)), (.ref ar)])
  refine Go.by (T' := T4) (g' := (mkF m 25 #[.val (.ref a1)] [(.ref a1), (.int (0 : Int32)), (.ref ar)])) (fun t k => ?_) ?_
  · show Steps p.tables e below (T4.setTop (mkF m 24 #[.val (.ref a1)] [(.int (0 : Int32)), (.ref ar)])) _
    refine XS.aloadN X4.here hx rfl (hb hby d_p25_m5_24) rfl rfl ?_
    exact k
  refine Go.getF X4 hx hZ hown (wd hw 55 rfl) Via.refl e4 F_a1_count (hb hby d_p25_m5_25) ?_
  intro T5 X5 e5
  show Go p e below _ T5 (mkF m 28 #[.val (.ref a1)] [(.int (1 : Int32)), (.int (0 : Int32)), (.ref ar)])
  refine Go.by (T' := T5) (g' := (mkF m 30 #[.val (.ref a1)] [(.ref a1), (.int (1 : Int32)), (.ref ar)])) (fun t k => ?_) ?_
  · show Steps p.tables e below (T5.setTop (mkF m 28 #[.val (.ref a1)] [(.int (1 : Int32)), (.int (0 : Int32)), (.ref ar)])) _
    refine XS.iadd X5.here hx rfl (hb hby d_p25_m5_28) rfl ?_
    show Steps p.tables e below (T5.setTop (mkF m 29 #[.val (.ref a1)] [(.int (1 : Int32)), (.ref ar)])) _
    refine XS.aloadN X5.here hx rfl (hb hby d_p25_m5_29) rfl rfl ?_
    exact k
  refine Go.getF X5 hx hZ hown (wd hw 25 rfl) Via.refl e5 F_a1_times (hb hby d_p25_m5_30) ?_
  intro T6 X6 e6
  show Go p e below _ T6 (mkF m 33 #[.val (.ref a1)] [(.ref ar), (.int (1 : Int32)), (.ref ar)])
  refine Go.alenV X6 hx hZ e6 V_ar (hb hby d_p25_m5_33) ?_
  show Go p e below _ T6 (mkF m 34 #[.val (.ref a1)] [(.int (16 : Int32)), (.int (1 : Int32)), (.ref ar)])
  refine Go.by (T' := T6) (g' := (mkF m 36 #[.val (.ref a1)] [(.ref a1), (.int (1 : Int32)), (.ref ar)])) (fun t k => ?_) ?_
  · show Steps p.tables e below (T6.setTop (mkF m 34 #[.val (.ref a1)] [(.int (16 : Int32)), (.int (1 : Int32)), (.ref ar)])) _
    refine iremM X6 hx rfl (hb hby d_p25_m5_34) rfl (by decide) ?_
    show Steps p.tables e below (T6.setTop (mkF m 35 #[.val (.ref a1)] [(.int (1 : Int32)), (.ref ar)])) _
    refine XS.aloadN X6.here hx rfl (hb hby d_p25_m5_35) rfl rfl ?_
    exact k
  refine Go.getF X6 hx hZ hown (wd hw 28 rfl) Via.refl e6 F_a1_now (hb hby d_p25_m5_36) ?_
  intro T7 X7 e7
  show Go p e below _ T7 (mkF m 39 #[.val (.ref a1)] [(.long nw), (.int (1 : Int32)), (.ref ar)])
  refine Go.jstV X7 hx hZ e7 V_ar (j := (1 : Int32)) (x := nw) ⟨by decide, by decide⟩ 1 rfl (Nat.le_of_ble_eq_true rfl) (hb hby d_p25_m5_39) ?_
  intro T8 h8 X8 e8 W8 Vn8
  replace E_a1 := E_a1.wr W8
  replace F_a1_windowNanos := F_a1_windowNanos.other W8 (Or.inl ne_a1_ar)
  replace F_a1_times := F_a1_times.other W8 (Or.inl ne_a1_ar)
  replace F_a1_head := F_a1_head.other W8 (Or.inl ne_a1_ar)
  replace F_a1_count := F_a1_count.other W8 (Or.inl ne_a1_ar)
  replace F_a1_now := F_a1_now.other W8 (Or.inl ne_a1_ar)
  replace O := O.wr W8 g_ar
  have N8 := Fr.snoc X8 N0 g_ar
  replace K := K.wr W8 (Or.inl (List.mem_of_getElem? (i := 1) rfl))
  replace V_ar : Arv Z h8 ar kA .long (16 : Int32) [(.long x0), (.long nw), (.long x2)] (.long (0 : Int64)) := Vn8
  clear Vn8
  show Go p e below _ T8 (mkF m 40 #[.val (.ref a1)] [])
  refine Go.by (T' := T8) (g' := (mkF m 42 #[.val (.ref a1)] [(.ref a1), (.ref a1)])) (fun t k => ?_) ?_
  · show Steps p.tables e below (T8.setTop (mkF m 40 #[.val (.ref a1)] [])) _
    refine XS.aloadN X8.here hx rfl (hb hby d_p25_m5_40) rfl rfl ?_
    show Steps p.tables e below (T8.setTop (mkF m 41 #[.val (.ref a1)] [(.ref a1)])) _
    refine XS.dup X8.here hx rfl (hb hby d_p25_m5_41) rfl rfl ?_
    exact k
  refine Go.getF X8 hx hZ hown (wd hw 55 rfl) Via.refl e8 F_a1_count (hb hby d_p25_m5_42) ?_
  intro T9 X9 e9
  show Go p e below _ T9 (mkF m 45 #[.val (.ref a1)] [(.int (1 : Int32)), (.ref a1)])
  refine Go.by (T' := T9) (g' := (mkF m 47 #[.val (.ref a1)] [(.int (2 : Int32)), (.ref a1)])) (fun t k => ?_) ?_
  · show Steps p.tables e below (T9.setTop (mkF m 45 #[.val (.ref a1)] [(.int (1 : Int32)), (.ref a1)])) _
    refine XS.iconst X9.here hx rfl (hb hby d_p25_m5_45) ?_
    show Steps p.tables e below (T9.setTop (mkF m 46 #[.val (.ref a1)] [(.int (1 : Int32)), (.int (1 : Int32)), (.ref a1)])) _
    refine XS.iadd X9.here hx rfl (hb hby d_p25_m5_46) rfl ?_
    exact k
  refine Go.putF X9 hx hZ hown (wd hw 55 rfl) Via.refl e9 F_a1_count E_a1 (Or.inl (wd hw 56 rfl)) (wd hw 4 rfl) (ty := .int) (by decide) rfl rfl (hb hby d_p25_m5_47) ?_
  intro T10 h10 X10 e10 W10
  replace E_a1 := E_a1.wr W10
  replace F_a1_windowNanos := F_a1_windowNanos.other W10 (Or.inr (slot_ne (a0 := a0) (Or.inr (wd hw 49 rfl)) (Or.inl (wd hw 56 rfl)) (by decide) (t := .long) (t' := .int) (by decide) (by decide)))
  replace F_a1_times := F_a1_times.other W10 (Or.inr (slot_ne (a0 := a0) (Or.inl (wd hw 26 rfl)) (Or.inl (wd hw 56 rfl)) (by decide) (t := (.array .long)) (t' := .int) (by decide) (by decide)))
  replace F_a1_head := F_a1_head.other W10 (Or.inr (slot_ne (a0 := a0) (Or.inl (wd hw 63 rfl)) (Or.inl (wd hw 56 rfl)) (by decide) (t := .int) (t' := .int) (by decide) (by decide)))
  replace F_a1_count := F_a1_count.same W10
  replace F_a1_now := F_a1_now.other W10 (Or.inr (slot_ne (a0 := a0) (Or.inl (wd hw 29 rfl)) (Or.inl (wd hw 56 rfl)) (by decide) (t := .long) (t' := .int) (by decide) (by decide)))
  replace V_ar := V_ar.other W10 (Ne.symm ne_a1_ar)
  replace O := O.wr W10 g_a1
  have N10 := Fr.snoc X10 N8 g_a1
  replace K := K.wr W10 (Or.inl (List.mem_of_getElem? (i := 0) rfl))
  show Go p e below _ T10 (mkF m 50 #[.val (.ref a1)] [])
  refine Go.retV X10 hx hlk hret (hb hby d_p25_m5_50) (by decide) (by decide) e10 ?_
  exact ⟨rfl, N10, K, F_a1_windowNanos, F_a1_times, F_a1_head, F_a1_count, F_a1_now, V_ar⟩
set_option maxRecDepth 65536 in
set_option maxHeartbeats 40000000 in
theorem ct_remove_0_2_1 (l : Launch) (Z : State) (a0 : Array Value) (hw : ∀ d ∈ tables_1, d.before a0 Z = true) (w_MS : Addr) (S_MS : Sta Z Z.heap "java/util/concurrent/TimeUnit" "MILLISECONDS" "Ljava/util/concurrent/TimeUnit;" (.ref w_MS)) (E_MS : Exa Z Z.heap w_MS "java/util/concurrent/TimeUnit") (F_MS1 : Fld Z Z.heap w_MS "java/util/concurrent/TimeUnit" "scale" "J" (.long 1000000)) (F_MS2 : Fld Z Z.heap w_MS "java/util/concurrent/TimeUnit" "maxNanos" "J" (.long 9223372036854)) (a1 : Addr) (ar : Addr) (kA : ClassId) (wn : Int64) (nw : Int64) (x0 : Int64) (x1 : Int64) (x2 : Int64) (tm : Int64) (h0 : Heap) (n0 : Nat) (O : Old Z n0 h0) (E_a1 : Exa Z h0 a1 "com/example/breakwater/breakwater/OrderRateWindow") (F_a1_windowNanos : Fld Z h0 a1 "com/example/breakwater/breakwater/OrderRateWindow" "windowNanos" "J" (.long wn)) (F_a1_times : Fld Z h0 a1 "com/example/breakwater/breakwater/OrderRateWindow" "times" "[J" (.ref ar)) (F_a1_head : Fld Z h0 a1 "com/example/breakwater/breakwater/OrderRateWindow" "head" "I" (.int (0 : Int32))) (F_a1_count : Fld Z h0 a1 "com/example/breakwater/breakwater/OrderRateWindow" "count" "I" (.int (2 : Int32))) (F_a1_now : Fld Z h0 a1 "com/example/breakwater/breakwater/OrderRateWindow" "now" "J" (.long nw)) (V_ar : Arv Z h0 ar kA .long (16 : Int32) [(.long x0), (.long x1), (.long x2)] (.long (0 : Int64))) (g_a1 : n0 ≤ a1) (g_ar : n0 ≤ ar) (ne_a1_ar : a1 ≠ ar) (hr1 : x1 = tm) :
    Ct l (⟨"com/example/breakwater/breakwater/OrderRateWindow", "remove", "(J)V"⟩ : MethodName) prog_25_method_6_code 5 none ({ frames := 0, cells := 0, slots := 0, locals := 0 } : Room) Z #[(.ref a1), (.long tm)] h0 (fun v h L => v = none ∧ Fr n0 L ∧ Keep h0 h [a1, ar] ∧ Fld Z h a1 "com/example/breakwater/breakwater/OrderRateWindow" "windowNanos" "J" (.long wn) ∧ Fld Z h a1 "com/example/breakwater/breakwater/OrderRateWindow" "times" "[J" (.ref ar) ∧ Fld Z h a1 "com/example/breakwater/breakwater/OrderRateWindow" "head" "I" (.int (0 : Int32)) ∧ Fld Z h a1 "com/example/breakwater/breakwater/OrderRateWindow" "count" "I" (.int (1 : Int32)) ∧ Fld Z h a1 "com/example/breakwater/breakwater/OrderRateWindow" "now" "J" (.long nw) ∧ Arv Z h ar kA .long (16 : Int32) [(.long x0), (.long x1), (.long x2)] (.long (0 : Int64))) := by
  refine Ct.of (plainFor_of_name pn_OrderRateWindow_528) ?_
  intro p e s m below meth c T0 X0 hx hby hml hown hnm hret hlk hZ e0
  have hown : s.vm.findClass "com/example/breakwater/breakwater/OrderRateWindow" = some m.cls := hown
  have hml : c.maxLocals = 5 := hml
  have N0 := Fr.nil n0
  refine Go.cast (g' := mkF m 0 #[.val (.ref a1), .val (.long tm), .second, .unset, .unset] []) (by first | (simp [entryFrame, mkF, argsToLocals, Value.category]; done) | rfl) ?_
  have K : Keep h0 h0 [a1, ar] := Keep.refl _ _
  refine Go.by (T' := T0) (g' := (mkF m 1 #[.val (.ref a1), .val (.long tm), .second, .unset, .unset] [(.ref a1)])) (fun t k => ?_) ?_
  · show Steps p.tables e below (T0.setTop (mkF m 0 #[.val (.ref a1), .val (.long tm), .second, .unset, .unset] [])) _
    refine XS.aloadN X0.here hx rfl (hb hby d_p25_m6_0) rfl rfl ?_
    exact k
  refine Go.getF X0 hx hZ hown (wd hw 55 rfl) Via.refl e0 F_a1_count (hb hby d_p25_m6_1) ?_
  intro T1 X1 e1
  show Go p e below _ T1 (mkF m 4 #[.val (.ref a1), .val (.long tm), .second, .unset, .unset] [(.int (2 : Int32))])
  refine Go.by (T' := T1) (g' := (mkF m 12 #[.val (.ref a1), .val (.long tm), .second, .val (.int (1 : Int32)), .unset] [(.ref a1)])) (fun t k => ?_) ?_
  · show Steps p.tables e below (T1.setTop (mkF m 4 #[.val (.ref a1), .val (.long tm), .second, .unset, .unset] [(.int (2 : Int32))])) _
    refine XS.iconst X1.here hx rfl (hb hby d_p25_m6_4) ?_
    show Steps p.tables e below (T1.setTop (mkF m 5 #[.val (.ref a1), .val (.long tm), .second, .unset, .unset] [(.int (1 : Int32)), (.int (2 : Int32))])) _
    refine XS.isub X1.here hx rfl (hb hby d_p25_m6_5) rfl ?_
    show Steps p.tables e below (T1.setTop (mkF m 6 #[.val (.ref a1), .val (.long tm), .second, .unset, .unset] [(.int (1 : Int32))])) _
    refine XS.istoreN X1.here hx rfl (hb hby d_p25_m6_6) rfl (l' := #[.val (.ref a1), .val (.long tm), .second, .val (.int (1 : Int32)), .unset]) rfl ?_
    show Steps p.tables e below (T1.setTop (mkF m 7 #[.val (.ref a1), .val (.long tm), .second, .val (.int (1 : Int32)), .unset] [])) _
    refine XS.iloadN X1.here hx rfl (hb hby d_p25_m6_7) rfl ?_
    show Steps p.tables e below (T1.setTop (mkF m 8 #[.val (.ref a1), .val (.long tm), .second, .val (.int (1 : Int32)), .unset] [(.int (1 : Int32))])) _
    refine XS.ifNo X1.here hx rfl (hb hby d_p25_m6_8) rfl ((if0 _ _).trans (flt (by decide : ¬ (1 : Int32) < (0 : Int32))).1) ?_
    show Steps p.tables e below (T1.setTop (mkF m 11 #[.val (.ref a1), .val (.long tm), .second, .val (.int (1 : Int32)), .unset] [])) _
    refine XS.aloadN X1.here hx rfl (hb hby d_p25_m6_11) rfl rfl ?_
    exact k
  refine Go.getF X1 hx hZ hown (wd hw 25 rfl) Via.refl e1 F_a1_times (hb hby d_p25_m6_12) ?_
  intro T2 X2 e2
  show Go p e below _ T2 (mkF m 15 #[.val (.ref a1), .val (.long tm), .second, .val (.int (1 : Int32)), .unset] [(.ref ar)])
  refine Go.by (T' := T2) (g' := (mkF m 16 #[.val (.ref a1), .val (.long tm), .second, .val (.int (1 : Int32)), .unset] [(.ref a1), (.ref ar)])) (fun t k => ?_) ?_
  · show Steps p.tables e below (T2.setTop (mkF m 15 #[.val (.ref a1), .val (.long tm), .second, .val (.int (1 : Int32)), .unset] [(.ref ar)])) _
    refine XS.aloadN X2.here hx rfl (hb hby d_p25_m6_15) rfl rfl ?_
    exact k
  refine Go.getF X2 hx hZ hown (wd hw 62 rfl) Via.refl e2 F_a1_head (hb hby d_p25_m6_16) ?_
  intro T3 X3 e3
  show Go p e below _ T3 (mkF m 19 #[.val (.ref a1), .val (.long tm), .second, .val (.int (1 : Int32)), .unset] [(.int (0 : Int32)), (.ref ar)])
  refine Go.by (T' := T3) (g' := (mkF m 22 #[.val (.ref a1), .val (.long tm), .second, .val (.int (1 : Int32)), .unset] [(.ref a1), (.int (1 : Int32)), (.ref ar)])) (fun t k => ?_) ?_
  · show Steps p.tables e below (T3.setTop (mkF m 19 #[.val (.ref a1), .val (.long tm), .second, .val (.int (1 : Int32)), .unset] [(.int (0 : Int32)), (.ref ar)])) _
    refine XS.iloadN X3.here hx rfl (hb hby d_p25_m6_19) rfl ?_
    show Steps p.tables e below (T3.setTop (mkF m 20 #[.val (.ref a1), .val (.long tm), .second, .val (.int (1 : Int32)), .unset] [(.int (1 : Int32)), (.int (0 : Int32)), (.ref ar)])) _
    refine XS.iadd X3.here hx rfl (hb hby d_p25_m6_20) rfl ?_
    show Steps p.tables e below (T3.setTop (mkF m 21 #[.val (.ref a1), .val (.long tm), .second, .val (.int (1 : Int32)), .unset] [(.int (1 : Int32)), (.ref ar)])) _
    refine XS.aloadN X3.here hx rfl (hb hby d_p25_m6_21) rfl rfl ?_
    exact k
  refine Go.getF X3 hx hZ hown (wd hw 25 rfl) Via.refl e3 F_a1_times (hb hby d_p25_m6_22) ?_
  intro T4 X4 e4
  show Go p e below _ T4 (mkF m 25 #[.val (.ref a1), .val (.long tm), .second, .val (.int (1 : Int32)), .unset] [(.ref ar), (.int (1 : Int32)), (.ref ar)])
  refine Go.alenV X4 hx hZ e4 V_ar (hb hby d_p25_m6_25) ?_
  show Go p e below _ T4 (mkF m 26 #[.val (.ref a1), .val (.long tm), .second, .val (.int (1 : Int32)), .unset] [(.int (16 : Int32)), (.int (1 : Int32)), (.ref ar)])
  refine Go.by (T' := T4) (g' := (mkF m 27 #[.val (.ref a1), .val (.long tm), .second, .val (.int (1 : Int32)), .unset] [(.int (1 : Int32)), (.ref ar)])) (fun t k => ?_) ?_
  · show Steps p.tables e below (T4.setTop (mkF m 26 #[.val (.ref a1), .val (.long tm), .second, .val (.int (1 : Int32)), .unset] [(.int (16 : Int32)), (.int (1 : Int32)), (.ref ar)])) _
    refine iremM X4 hx rfl (hb hby d_p25_m6_26) rfl (by decide) ?_
    exact k
  refine Go.aloadV X4 hx hZ e4 V_ar (j := (1 : Int32)) (v := (.long x1)) ⟨by decide, by decide⟩ rfl (Or.inr (Or.inl ⟨rfl, rfl⟩)) (hb hby d_p25_m6_27) ?_
  show Go p e below _ T4 (mkF m 28 #[.val (.ref a1), .val (.long tm), .second, .val (.int (1 : Int32)), .unset] [(.long x1)])
  refine Go.by (T' := T4) (g' := (mkF m 39 #[.val (.ref a1), .val (.long tm), .second, .val (.int (1 : Int32)), .val (.int (1 : Int32))] [(.ref a1), (.int (1 : Int32))])) (fun t k => ?_) ?_
  · show Steps p.tables e below (T4.setTop (mkF m 28 #[.val (.ref a1), .val (.long tm), .second, .val (.int (1 : Int32)), .unset] [(.long x1)])) _
    refine XS.lloadN X4.here hx rfl (hb hby d_p25_m6_28) rfl ?_
    show Steps p.tables e below (T4.setTop (mkF m 29 #[.val (.ref a1), .val (.long tm), .second, .val (.int (1 : Int32)), .unset] [(.long tm), (.long x1)])) _
    refine XS.lcmp X4.here hx rfl (hb hby d_p25_m6_29) rfl ?_
    show Steps p.tables e below (T4.setTop (mkF m 30 #[.val (.ref a1), .val (.long tm), .second, .val (.int (1 : Int32)), .unset] [(.int (lcmpW x1 tm))])) _
    refine XS.ifNo X4.here hx rfl (hb hby d_p25_m6_30) rfl ((if0 _ _).trans (teq ((lw_eq _ _).mpr hr1)).2) ?_
    show Steps p.tables e below (T4.setTop (mkF m 33 #[.val (.ref a1), .val (.long tm), .second, .val (.int (1 : Int32)), .unset] [])) _
    refine XS.iloadN X4.here hx rfl (hb hby d_p25_m6_33) rfl ?_
    show Steps p.tables e below (T4.setTop (mkF m 34 #[.val (.ref a1), .val (.long tm), .second, .val (.int (1 : Int32)), .unset] [(.int (1 : Int32))])) _
    refine XS.istore X4.here hx rfl (hb hby d_p25_m6_34) rfl (l' := #[.val (.ref a1), .val (.long tm), .second, .val (.int (1 : Int32)), .val (.int (1 : Int32))]) rfl ?_
    show Steps p.tables e below (T4.setTop (mkF m 36 #[.val (.ref a1), .val (.long tm), .second, .val (.int (1 : Int32)), .val (.int (1 : Int32))] [])) _
    refine XS.iload X4.here hx rfl (hb hby d_p25_m6_36) rfl ?_
    show Steps p.tables e below (T4.setTop (mkF m 38 #[.val (.ref a1), .val (.long tm), .second, .val (.int (1 : Int32)), .val (.int (1 : Int32))] [(.int (1 : Int32))])) _
    refine XS.aloadN X4.here hx rfl (hb hby d_p25_m6_38) rfl rfl ?_
    exact k
  refine Go.getF X4 hx hZ hown (wd hw 55 rfl) Via.refl e4 F_a1_count (hb hby d_p25_m6_39) ?_
  intro T5 X5 e5
  show Go p e below _ T5 (mkF m 42 #[.val (.ref a1), .val (.long tm), .second, .val (.int (1 : Int32)), .val (.int (1 : Int32))] [(.int (2 : Int32)), (.int (1 : Int32))])
  refine Go.by (T' := T5) (g' := (mkF m 93 #[.val (.ref a1), .val (.long tm), .second, .val (.int (1 : Int32)), .val (.int (1 : Int32))] [(.ref a1), (.ref a1)])) (fun t k => ?_) ?_
  · show Steps p.tables e below (T5.setTop (mkF m 42 #[.val (.ref a1), .val (.long tm), .second, .val (.int (1 : Int32)), .val (.int (1 : Int32))] [(.int (2 : Int32)), (.int (1 : Int32))])) _
    refine XS.iconst X5.here hx rfl (hb hby d_p25_m6_42) ?_
    show Steps p.tables e below (T5.setTop (mkF m 43 #[.val (.ref a1), .val (.long tm), .second, .val (.int (1 : Int32)), .val (.int (1 : Int32))] [(.int (1 : Int32)), (.int (2 : Int32)), (.int (1 : Int32))])) _
    refine XS.isub X5.here hx rfl (hb hby d_p25_m6_43) rfl ?_
    show Steps p.tables e below (T5.setTop (mkF m 44 #[.val (.ref a1), .val (.long tm), .second, .val (.int (1 : Int32)), .val (.int (1 : Int32))] [(.int (1 : Int32)), (.int (1 : Int32))])) _
    refine XS.icmpYes X5.here hx rfl (pc0 := 44) (pc' := 91) rfl (hb hby d_p25_m6_44) rfl (flt (by decide : ¬ (1 : Int32) < (1 : Int32))).2.1 (by decide) (by decide) ?_
    show Steps p.tables e below (T5.setTop (mkF m 91 #[.val (.ref a1), .val (.long tm), .second, .val (.int (1 : Int32)), .val (.int (1 : Int32))] [])) _
    refine XS.aloadN X5.here hx rfl (hb hby d_p25_m6_91) rfl rfl ?_
    show Steps p.tables e below (T5.setTop (mkF m 92 #[.val (.ref a1), .val (.long tm), .second, .val (.int (1 : Int32)), .val (.int (1 : Int32))] [(.ref a1)])) _
    refine XS.dup X5.here hx rfl (hb hby d_p25_m6_92) rfl rfl ?_
    exact k
  refine Go.getF X5 hx hZ hown (wd hw 55 rfl) Via.refl e5 F_a1_count (hb hby d_p25_m6_93) ?_
  intro T6 X6 e6
  show Go p e below _ T6 (mkF m 96 #[.val (.ref a1), .val (.long tm), .second, .val (.int (1 : Int32)), .val (.int (1 : Int32))] [(.int (2 : Int32)), (.ref a1)])
  refine Go.by (T' := T6) (g' := (mkF m 98 #[.val (.ref a1), .val (.long tm), .second, .val (.int (1 : Int32)), .val (.int (1 : Int32))] [(.int (1 : Int32)), (.ref a1)])) (fun t k => ?_) ?_
  · show Steps p.tables e below (T6.setTop (mkF m 96 #[.val (.ref a1), .val (.long tm), .second, .val (.int (1 : Int32)), .val (.int (1 : Int32))] [(.int (2 : Int32)), (.ref a1)])) _
    refine XS.iconst X6.here hx rfl (hb hby d_p25_m6_96) ?_
    show Steps p.tables e below (T6.setTop (mkF m 97 #[.val (.ref a1), .val (.long tm), .second, .val (.int (1 : Int32)), .val (.int (1 : Int32))] [(.int (1 : Int32)), (.int (2 : Int32)), (.ref a1)])) _
    refine XS.isub X6.here hx rfl (hb hby d_p25_m6_97) rfl ?_
    exact k
  refine Go.putF X6 hx hZ hown (wd hw 55 rfl) Via.refl e6 F_a1_count E_a1 (Or.inl (wd hw 56 rfl)) (wd hw 4 rfl) (ty := .int) (by decide) rfl rfl (hb hby d_p25_m6_98) ?_
  intro T7 h7 X7 e7 W7
  replace E_a1 := E_a1.wr W7
  replace F_a1_windowNanos := F_a1_windowNanos.other W7 (Or.inr (slot_ne (a0 := a0) (Or.inr (wd hw 49 rfl)) (Or.inl (wd hw 56 rfl)) (by decide) (t := .long) (t' := .int) (by decide) (by decide)))
  replace F_a1_times := F_a1_times.other W7 (Or.inr (slot_ne (a0 := a0) (Or.inl (wd hw 26 rfl)) (Or.inl (wd hw 56 rfl)) (by decide) (t := (.array .long)) (t' := .int) (by decide) (by decide)))
  replace F_a1_head := F_a1_head.other W7 (Or.inr (slot_ne (a0 := a0) (Or.inl (wd hw 63 rfl)) (Or.inl (wd hw 56 rfl)) (by decide) (t := .int) (t' := .int) (by decide) (by decide)))
  replace F_a1_count := F_a1_count.same W7
  replace F_a1_now := F_a1_now.other W7 (Or.inr (slot_ne (a0 := a0) (Or.inl (wd hw 29 rfl)) (Or.inl (wd hw 56 rfl)) (by decide) (t := .long) (t' := .int) (by decide) (by decide)))
  replace V_ar := V_ar.other W7 (Ne.symm ne_a1_ar)
  replace O := O.wr W7 g_a1
  have N7 := Fr.snoc X7 N0 g_a1
  replace K := K.wr W7 (Or.inl (List.mem_of_getElem? (i := 0) rfl))
  show Go p e below _ T7 (mkF m 101 #[.val (.ref a1), .val (.long tm), .second, .val (.int (1 : Int32)), .val (.int (1 : Int32))] [])
  refine Go.retV X7 hx hlk hret (hb hby d_p25_m6_101) (by decide) (by decide) e7 ?_
  exact ⟨rfl, N7, K, F_a1_windowNanos, F_a1_times, F_a1_head, F_a1_count, F_a1_now, V_ar⟩
set_option maxRecDepth 65536 in
set_option maxHeartbeats 40000000 in
theorem ct_remove_0_2_n (l : Launch) (Z : State) (a0 : Array Value) (hw : ∀ d ∈ tables_1, d.before a0 Z = true) (w_MS : Addr) (S_MS : Sta Z Z.heap "java/util/concurrent/TimeUnit" "MILLISECONDS" "Ljava/util/concurrent/TimeUnit;" (.ref w_MS)) (E_MS : Exa Z Z.heap w_MS "java/util/concurrent/TimeUnit") (F_MS1 : Fld Z Z.heap w_MS "java/util/concurrent/TimeUnit" "scale" "J" (.long 1000000)) (F_MS2 : Fld Z Z.heap w_MS "java/util/concurrent/TimeUnit" "maxNanos" "J" (.long 9223372036854)) (a1 : Addr) (ar : Addr) (kA : ClassId) (wn : Int64) (nw : Int64) (x0 : Int64) (x1 : Int64) (x2 : Int64) (tm : Int64) (h0 : Heap) (n0 : Nat) (O : Old Z n0 h0) (E_a1 : Exa Z h0 a1 "com/example/breakwater/breakwater/OrderRateWindow") (F_a1_windowNanos : Fld Z h0 a1 "com/example/breakwater/breakwater/OrderRateWindow" "windowNanos" "J" (.long wn)) (F_a1_times : Fld Z h0 a1 "com/example/breakwater/breakwater/OrderRateWindow" "times" "[J" (.ref ar)) (F_a1_head : Fld Z h0 a1 "com/example/breakwater/breakwater/OrderRateWindow" "head" "I" (.int (0 : Int32))) (F_a1_count : Fld Z h0 a1 "com/example/breakwater/breakwater/OrderRateWindow" "count" "I" (.int (2 : Int32))) (F_a1_now : Fld Z h0 a1 "com/example/breakwater/breakwater/OrderRateWindow" "now" "J" (.long nw)) (V_ar : Arv Z h0 ar kA .long (16 : Int32) [(.long x0), (.long x1), (.long x2)] (.long (0 : Int64))) (g_a1 : n0 ≤ a1) (g_ar : n0 ≤ ar) (ne_a1_ar : a1 ≠ ar) (hr1 : ¬ x1 = tm) (hr0 : ¬ x0 = tm) :
    Ct l (⟨"com/example/breakwater/breakwater/OrderRateWindow", "remove", "(J)V"⟩ : MethodName) prog_25_method_6_code 5 none ({ frames := 0, cells := 0, slots := 0, locals := 0 } : Room) Z #[(.ref a1), (.long tm)] h0 (fun v h L => v = none ∧ Fr n0 L ∧ Keep h0 h [a1, ar] ∧ Fld Z h a1 "com/example/breakwater/breakwater/OrderRateWindow" "windowNanos" "J" (.long wn) ∧ Fld Z h a1 "com/example/breakwater/breakwater/OrderRateWindow" "times" "[J" (.ref ar) ∧ Fld Z h a1 "com/example/breakwater/breakwater/OrderRateWindow" "head" "I" (.int (0 : Int32)) ∧ Fld Z h a1 "com/example/breakwater/breakwater/OrderRateWindow" "count" "I" (.int (2 : Int32)) ∧ Fld Z h a1 "com/example/breakwater/breakwater/OrderRateWindow" "now" "J" (.long nw) ∧ Arv Z h ar kA .long (16 : Int32) [(.long x0), (.long x1), (.long x2)] (.long (0 : Int64))) := by
  refine Ct.of (plainFor_of_name pn_OrderRateWindow_528) ?_
  intro p e s m below meth c T0 X0 hx hby hml hown hnm hret hlk hZ e0
  have hown : s.vm.findClass "com/example/breakwater/breakwater/OrderRateWindow" = some m.cls := hown
  have hml : c.maxLocals = 5 := hml
  have N0 := Fr.nil n0
  refine Go.cast (g' := mkF m 0 #[.val (.ref a1), .val (.long tm), .second, .unset, .unset] []) (by first | (simp [entryFrame, mkF, argsToLocals, Value.category]; done) | rfl) ?_
  have K : Keep h0 h0 [a1, ar] := Keep.refl _ _
  refine Go.by (T' := T0) (g' := (mkF m 1 #[.val (.ref a1), .val (.long tm), .second, .unset, .unset] [(.ref a1)])) (fun t k => ?_) ?_
  · show Steps p.tables e below (T0.setTop (mkF m 0 #[.val (.ref a1), .val (.long tm), .second, .unset, .unset] [])) _
    refine XS.aloadN X0.here hx rfl (hb hby d_p25_m6_0) rfl rfl ?_
    exact k
  refine Go.getF X0 hx hZ hown (wd hw 55 rfl) Via.refl e0 F_a1_count (hb hby d_p25_m6_1) ?_
  intro T1 X1 e1
  show Go p e below _ T1 (mkF m 4 #[.val (.ref a1), .val (.long tm), .second, .unset, .unset] [(.int (2 : Int32))])
  refine Go.by (T' := T1) (g' := (mkF m 12 #[.val (.ref a1), .val (.long tm), .second, .val (.int (1 : Int32)), .unset] [(.ref a1)])) (fun t k => ?_) ?_
  · show Steps p.tables e below (T1.setTop (mkF m 4 #[.val (.ref a1), .val (.long tm), .second, .unset, .unset] [(.int (2 : Int32))])) _
    refine XS.iconst X1.here hx rfl (hb hby d_p25_m6_4) ?_
    show Steps p.tables e below (T1.setTop (mkF m 5 #[.val (.ref a1), .val (.long tm), .second, .unset, .unset] [(.int (1 : Int32)), (.int (2 : Int32))])) _
    refine XS.isub X1.here hx rfl (hb hby d_p25_m6_5) rfl ?_
    show Steps p.tables e below (T1.setTop (mkF m 6 #[.val (.ref a1), .val (.long tm), .second, .unset, .unset] [(.int (1 : Int32))])) _
    refine XS.istoreN X1.here hx rfl (hb hby d_p25_m6_6) rfl (l' := #[.val (.ref a1), .val (.long tm), .second, .val (.int (1 : Int32)), .unset]) rfl ?_
    show Steps p.tables e below (T1.setTop (mkF m 7 #[.val (.ref a1), .val (.long tm), .second, .val (.int (1 : Int32)), .unset] [])) _
    refine XS.iloadN X1.here hx rfl (hb hby d_p25_m6_7) rfl ?_
    show Steps p.tables e below (T1.setTop (mkF m 8 #[.val (.ref a1), .val (.long tm), .second, .val (.int (1 : Int32)), .unset] [(.int (1 : Int32))])) _
    refine XS.ifNo X1.here hx rfl (hb hby d_p25_m6_8) rfl ((if0 _ _).trans (flt (by decide : ¬ (1 : Int32) < (0 : Int32))).1) ?_
    show Steps p.tables e below (T1.setTop (mkF m 11 #[.val (.ref a1), .val (.long tm), .second, .val (.int (1 : Int32)), .unset] [])) _
    refine XS.aloadN X1.here hx rfl (hb hby d_p25_m6_11) rfl rfl ?_
    exact k
  refine Go.getF X1 hx hZ hown (wd hw 25 rfl) Via.refl e1 F_a1_times (hb hby d_p25_m6_12) ?_
  intro T2 X2 e2
  show Go p e below _ T2 (mkF m 15 #[.val (.ref a1), .val (.long tm), .second, .val (.int (1 : Int32)), .unset] [(.ref ar)])
  refine Go.by (T' := T2) (g' := (mkF m 16 #[.val (.ref a1), .val (.long tm), .second, .val (.int (1 : Int32)), .unset] [(.ref a1), (.ref ar)])) (fun t k => ?_) ?_
  · show Steps p.tables e below (T2.setTop (mkF m 15 #[.val (.ref a1), .val (.long tm), .second, .val (.int (1 : Int32)), .unset] [(.ref ar)])) _
    refine XS.aloadN X2.here hx rfl (hb hby d_p25_m6_15) rfl rfl ?_
    exact k
  refine Go.getF X2 hx hZ hown (wd hw 62 rfl) Via.refl e2 F_a1_head (hb hby d_p25_m6_16) ?_
  intro T3 X3 e3
  show Go p e below _ T3 (mkF m 19 #[.val (.ref a1), .val (.long tm), .second, .val (.int (1 : Int32)), .unset] [(.int (0 : Int32)), (.ref ar)])
  refine Go.by (T' := T3) (g' := (mkF m 22 #[.val (.ref a1), .val (.long tm), .second, .val (.int (1 : Int32)), .unset] [(.ref a1), (.int (1 : Int32)), (.ref ar)])) (fun t k => ?_) ?_
  · show Steps p.tables e below (T3.setTop (mkF m 19 #[.val (.ref a1), .val (.long tm), .second, .val (.int (1 : Int32)), .unset] [(.int (0 : Int32)), (.ref ar)])) _
    refine XS.iloadN X3.here hx rfl (hb hby d_p25_m6_19) rfl ?_
    show Steps p.tables e below (T3.setTop (mkF m 20 #[.val (.ref a1), .val (.long tm), .second, .val (.int (1 : Int32)), .unset] [(.int (1 : Int32)), (.int (0 : Int32)), (.ref ar)])) _
    refine XS.iadd X3.here hx rfl (hb hby d_p25_m6_20) rfl ?_
    show Steps p.tables e below (T3.setTop (mkF m 21 #[.val (.ref a1), .val (.long tm), .second, .val (.int (1 : Int32)), .unset] [(.int (1 : Int32)), (.ref ar)])) _
    refine XS.aloadN X3.here hx rfl (hb hby d_p25_m6_21) rfl rfl ?_
    exact k
  refine Go.getF X3 hx hZ hown (wd hw 25 rfl) Via.refl e3 F_a1_times (hb hby d_p25_m6_22) ?_
  intro T4 X4 e4
  show Go p e below _ T4 (mkF m 25 #[.val (.ref a1), .val (.long tm), .second, .val (.int (1 : Int32)), .unset] [(.ref ar), (.int (1 : Int32)), (.ref ar)])
  refine Go.alenV X4 hx hZ e4 V_ar (hb hby d_p25_m6_25) ?_
  show Go p e below _ T4 (mkF m 26 #[.val (.ref a1), .val (.long tm), .second, .val (.int (1 : Int32)), .unset] [(.int (16 : Int32)), (.int (1 : Int32)), (.ref ar)])
  refine Go.by (T' := T4) (g' := (mkF m 27 #[.val (.ref a1), .val (.long tm), .second, .val (.int (1 : Int32)), .unset] [(.int (1 : Int32)), (.ref ar)])) (fun t k => ?_) ?_
  · show Steps p.tables e below (T4.setTop (mkF m 26 #[.val (.ref a1), .val (.long tm), .second, .val (.int (1 : Int32)), .unset] [(.int (16 : Int32)), (.int (1 : Int32)), (.ref ar)])) _
    refine iremM X4 hx rfl (hb hby d_p25_m6_26) rfl (by decide) ?_
    exact k
  refine Go.aloadV X4 hx hZ e4 V_ar (j := (1 : Int32)) (v := (.long x1)) ⟨by decide, by decide⟩ rfl (Or.inr (Or.inl ⟨rfl, rfl⟩)) (hb hby d_p25_m6_27) ?_
  show Go p e below _ T4 (mkF m 28 #[.val (.ref a1), .val (.long tm), .second, .val (.int (1 : Int32)), .unset] [(.long x1)])
  refine Go.by (T' := T4) (g' := (mkF m 12 #[.val (.ref a1), .val (.long tm), .second, .val (.int (0 : Int32)), .unset] [(.ref a1)])) (fun t k => ?_) ?_
  · show Steps p.tables e below (T4.setTop (mkF m 28 #[.val (.ref a1), .val (.long tm), .second, .val (.int (1 : Int32)), .unset] [(.long x1)])) _
    refine XS.lloadN X4.here hx rfl (hb hby d_p25_m6_28) rfl ?_
    show Steps p.tables e below (T4.setTop (mkF m 29 #[.val (.ref a1), .val (.long tm), .second, .val (.int (1 : Int32)), .unset] [(.long tm), (.long x1)])) _
    refine XS.lcmp X4.here hx rfl (hb hby d_p25_m6_29) rfl ?_
    show Steps p.tables e below (T4.setTop (mkF m 30 #[.val (.ref a1), .val (.long tm), .second, .val (.int (1 : Int32)), .unset] [(.int (lcmpW x1 tm))])) _
    refine XS.ifYes X4.here hx rfl (pc0 := 30) (pc' := 102) rfl (hb hby d_p25_m6_30) rfl ((if0 _ _).trans (feq (fun q => hr1 ((lw_eq _ _).mp q))).2) (by decide) (by decide) ?_
    show Steps p.tables e below (T4.setTop (mkF m 102 #[.val (.ref a1), .val (.long tm), .second, .val (.int (1 : Int32)), .unset] [])) _
    refine XS.iinc X4.here hx rfl (hb hby d_p25_m6_102) rfl (l' := #[.val (.ref a1), .val (.long tm), .second, .val (.int (0 : Int32)), .unset]) rfl ?_
    show Steps p.tables e below (T4.setTop (mkF m 105 #[.val (.ref a1), .val (.long tm), .second, .val (.int (0 : Int32)), .unset] [])) _
    refine XS.goto X4.here hx rfl (pc0 := 105) (pc' := 7) rfl (hb hby d_p25_m6_105) (by decide) (by decide) ?_
    show Steps p.tables e below (T4.setTop (mkF m 7 #[.val (.ref a1), .val (.long tm), .second, .val (.int (0 : Int32)), .unset] [])) _
    refine XS.iloadN X4.here hx rfl (hb hby d_p25_m6_7) rfl ?_
    show Steps p.tables e below (T4.setTop (mkF m 8 #[.val (.ref a1), .val (.long tm), .second, .val (.int (0 : Int32)), .unset] [(.int (0 : Int32))])) _
    refine XS.ifNo X4.here hx rfl (hb hby d_p25_m6_8) rfl ((if0 _ _).trans (flt (by decide : ¬ (0 : Int32) < (0 : Int32))).1) ?_
    show Steps p.tables e below (T4.setTop (mkF m 11 #[.val (.ref a1), .val (.long tm), .second, .val (.int (0 : Int32)), .unset] [])) _
    refine XS.aloadN X4.here hx rfl (hb hby d_p25_m6_11) rfl rfl ?_
    exact k
  refine Go.getF X4 hx hZ hown (wd hw 25 rfl) Via.refl e4 F_a1_times (hb hby d_p25_m6_12) ?_
  intro T5 X5 e5
  show Go p e below _ T5 (mkF m 15 #[.val (.ref a1), .val (.long tm), .second, .val (.int (0 : Int32)), .unset] [(.ref ar)])
  refine Go.by (T' := T5) (g' := (mkF m 16 #[.val (.ref a1), .val (.long tm), .second, .val (.int (0 : Int32)), .unset] [(.ref a1), (.ref ar)])) (fun t k => ?_) ?_
  · show Steps p.tables e below (T5.setTop (mkF m 15 #[.val (.ref a1), .val (.long tm), .second, .val (.int (0 : Int32)), .unset] [(.ref ar)])) _
    refine XS.aloadN X5.here hx rfl (hb hby d_p25_m6_15) rfl rfl ?_
    exact k
  refine Go.getF X5 hx hZ hown (wd hw 62 rfl) Via.refl e5 F_a1_head (hb hby d_p25_m6_16) ?_
  intro T6 X6 e6
  show Go p e below _ T6 (mkF m 19 #[.val (.ref a1), .val (.long tm), .second, .val (.int (0 : Int32)), .unset] [(.int (0 : Int32)), (.ref ar)])
  refine Go.by (T' := T6) (g' := (mkF m 22 #[.val (.ref a1), .val (.long tm), .second, .val (.int (0 : Int32)), .unset] [(.ref a1), (.int (0 : Int32)), (.ref ar)])) (fun t k => ?_) ?_
  · show Steps p.tables e below (T6.setTop (mkF m 19 #[.val (.ref a1), .val (.long tm), .second, .val (.int (0 : Int32)), .unset] [(.int (0 : Int32)), (.ref ar)])) _
    refine XS.iloadN X6.here hx rfl (hb hby d_p25_m6_19) rfl ?_
    show Steps p.tables e below (T6.setTop (mkF m 20 #[.val (.ref a1), .val (.long tm), .second, .val (.int (0 : Int32)), .unset] [(.int (0 : Int32)), (.int (0 : Int32)), (.ref ar)])) _
    refine XS.iadd X6.here hx rfl (hb hby d_p25_m6_20) rfl ?_
    show Steps p.tables e below (T6.setTop (mkF m 21 #[.val (.ref a1), .val (.long tm), .second, .val (.int (0 : Int32)), .unset] [(.int (0 : Int32)), (.ref ar)])) _
    refine XS.aloadN X6.here hx rfl (hb hby d_p25_m6_21) rfl rfl ?_
    exact k
  refine Go.getF X6 hx hZ hown (wd hw 25 rfl) Via.refl e6 F_a1_times (hb hby d_p25_m6_22) ?_
  intro T7 X7 e7
  show Go p e below _ T7 (mkF m 25 #[.val (.ref a1), .val (.long tm), .second, .val (.int (0 : Int32)), .unset] [(.ref ar), (.int (0 : Int32)), (.ref ar)])
  refine Go.alenV X7 hx hZ e7 V_ar (hb hby d_p25_m6_25) ?_
  show Go p e below _ T7 (mkF m 26 #[.val (.ref a1), .val (.long tm), .second, .val (.int (0 : Int32)), .unset] [(.int (16 : Int32)), (.int (0 : Int32)), (.ref ar)])
  refine Go.by (T' := T7) (g' := (mkF m 27 #[.val (.ref a1), .val (.long tm), .second, .val (.int (0 : Int32)), .unset] [(.int (0 : Int32)), (.ref ar)])) (fun t k => ?_) ?_
  · show Steps p.tables e below (T7.setTop (mkF m 26 #[.val (.ref a1), .val (.long tm), .second, .val (.int (0 : Int32)), .unset] [(.int (16 : Int32)), (.int (0 : Int32)), (.ref ar)])) _
    refine iremM X7 hx rfl (hb hby d_p25_m6_26) rfl (by decide) ?_
    exact k
  refine Go.aloadV X7 hx hZ e7 V_ar (j := (0 : Int32)) (v := (.long x0)) ⟨by decide, by decide⟩ rfl (Or.inr (Or.inl ⟨rfl, rfl⟩)) (hb hby d_p25_m6_27) ?_
  show Go p e below _ T7 (mkF m 28 #[.val (.ref a1), .val (.long tm), .second, .val (.int (0 : Int32)), .unset] [(.long x0)])
  refine Go.by (T' := T7) (g' := (mkF m 108 #[.val (.ref a1), .val (.long tm), .second, .val (.int (-1 : Int32)), .unset] [])) (fun t k => ?_) ?_
  · show Steps p.tables e below (T7.setTop (mkF m 28 #[.val (.ref a1), .val (.long tm), .second, .val (.int (0 : Int32)), .unset] [(.long x0)])) _
    refine XS.lloadN X7.here hx rfl (hb hby d_p25_m6_28) rfl ?_
    show Steps p.tables e below (T7.setTop (mkF m 29 #[.val (.ref a1), .val (.long tm), .second, .val (.int (0 : Int32)), .unset] [(.long tm), (.long x0)])) _
    refine XS.lcmp X7.here hx rfl (hb hby d_p25_m6_29) rfl ?_
    show Steps p.tables e below (T7.setTop (mkF m 30 #[.val (.ref a1), .val (.long tm), .second, .val (.int (0 : Int32)), .unset] [(.int (lcmpW x0 tm))])) _
    refine XS.ifYes X7.here hx rfl (pc0 := 30) (pc' := 102) rfl (hb hby d_p25_m6_30) rfl ((if0 _ _).trans (feq (fun q => hr0 ((lw_eq _ _).mp q))).2) (by decide) (by decide) ?_
    show Steps p.tables e below (T7.setTop (mkF m 102 #[.val (.ref a1), .val (.long tm), .second, .val (.int (0 : Int32)), .unset] [])) _
    refine XS.iinc X7.here hx rfl (hb hby d_p25_m6_102) rfl (l' := #[.val (.ref a1), .val (.long tm), .second, .val (.int (-1 : Int32)), .unset]) rfl ?_
    show Steps p.tables e below (T7.setTop (mkF m 105 #[.val (.ref a1), .val (.long tm), .second, .val (.int (-1 : Int32)), .unset] [])) _
    refine XS.goto X7.here hx rfl (pc0 := 105) (pc' := 7) rfl (hb hby d_p25_m6_105) (by decide) (by decide) ?_
    show Steps p.tables e below (T7.setTop (mkF m 7 #[.val (.ref a1), .val (.long tm), .second, .val (.int (-1 : Int32)), .unset] [])) _
    refine XS.iloadN X7.here hx rfl (hb hby d_p25_m6_7) rfl ?_
    show Steps p.tables e below (T7.setTop (mkF m 8 #[.val (.ref a1), .val (.long tm), .second, .val (.int (-1 : Int32)), .unset] [(.int (-1 : Int32))])) _
    refine XS.ifYes X7.here hx rfl (pc0 := 8) (pc' := 108) rfl (hb hby d_p25_m6_8) rfl ((if0 _ _).trans (tlt (by decide : (-1 : Int32) < (0 : Int32))).1) (by decide) (by decide) ?_
    exact k
  refine Go.retV X7 hx hlk hret (hb hby d_p25_m6_108) (by decide) (by decide) e7 ?_
  exact ⟨rfl, N0, K, F_a1_windowNanos, F_a1_times, F_a1_head, F_a1_count, F_a1_now, V_ar⟩
set_option maxRecDepth 65536 in
set_option maxHeartbeats 40000000 in
theorem ct_move_0_2_0 (l : Launch) (Z : State) (a0 : Array Value) (hw : ∀ d ∈ tables_1, d.before a0 Z = true) (w_MS : Addr) (S_MS : Sta Z Z.heap "java/util/concurrent/TimeUnit" "MILLISECONDS" "Ljava/util/concurrent/TimeUnit;" (.ref w_MS)) (E_MS : Exa Z Z.heap w_MS "java/util/concurrent/TimeUnit") (F_MS1 : Fld Z Z.heap w_MS "java/util/concurrent/TimeUnit" "scale" "J" (.long 1000000)) (F_MS2 : Fld Z Z.heap w_MS "java/util/concurrent/TimeUnit" "maxNanos" "J" (.long 9223372036854)) (a1 : Addr) (ar : Addr) (kA : ClassId) (wn : Int64) (nw : Int64) (x0 : Int64) (x1 : Int64) (x2 : Int64) (tm : Int64) (h0 : Heap) (n0 : Nat) (O : Old Z n0 h0) (E_a1 : Exa Z h0 a1 "com/example/breakwater/breakwater/OrderRateWindow") (F_a1_windowNanos : Fld Z h0 a1 "com/example/breakwater/breakwater/OrderRateWindow" "windowNanos" "J" (.long wn)) (F_a1_times : Fld Z h0 a1 "com/example/breakwater/breakwater/OrderRateWindow" "times" "[J" (.ref ar)) (F_a1_head : Fld Z h0 a1 "com/example/breakwater/breakwater/OrderRateWindow" "head" "I" (.int (0 : Int32))) (F_a1_count : Fld Z h0 a1 "com/example/breakwater/breakwater/OrderRateWindow" "count" "I" (.int (2 : Int32))) (F_a1_now : Fld Z h0 a1 "com/example/breakwater/breakwater/OrderRateWindow" "now" "J" (.long nw)) (V_ar : Arv Z h0 ar kA .long (16 : Int32) [(.long x0), (.long x1), (.long x2)] (.long (0 : Int64))) (g_a1 : n0 ≤ a1) (g_ar : n0 ≤ ar) (ne_a1_ar : a1 ≠ ar) (ht : ¬ tm < nw) (hq0 : (tm - x0) < wn) :
    Ct l (⟨"com/example/breakwater/breakwater/OrderRateWindow", "moveTo", "(J)Z"⟩ : MethodName) prog_25_method_3_code 3 (some .boolean) ({ frames := 0, cells := 0, slots := 0, locals := 0 } : Room) Z #[(.ref a1), (.long tm)] h0 (fun v h L => v = some (.int 1) ∧ Fr n0 L ∧ Keep h0 h [a1, ar] ∧ Fld Z h a1 "com/example/breakwater/breakwater/OrderRateWindow" "windowNanos" "J" (.long wn) ∧ Fld Z h a1 "com/example/breakwater/breakwater/OrderRateWindow" "times" "[J" (.ref ar) ∧ Fld Z h a1 "com/example/breakwater/breakwater/OrderRateWindow" "head" "I" (.int (0 : Int32)) ∧ Fld Z h a1 "com/example/breakwater/breakwater/OrderRateWindow" "count" "I" (.int (2 : Int32)) ∧ Fld Z h a1 "com/example/breakwater/breakwater/OrderRateWindow" "now" "J" (.long tm) ∧ Arv Z h ar kA .long (16 : Int32) [(.long x0), (.long x1), (.long x2)] (.long (0 : Int64))) := by
  refine Ct.of (plainFor_of_name pn_OrderRateWindow_528) ?_
  intro p e s m below meth c T0 X0 hx hby hml hown hnm hret hlk hZ e0
  have hown : s.vm.findClass "com/example/breakwater/breakwater/OrderRateWindow" = some m.cls := hown
  have hml : c.maxLocals = 3 := hml
  have N0 := Fr.nil n0
  refine Go.cast (g' := mkF m 0 #[.val (.ref a1), .val (.long tm), .second] []) (by first | (simp [entryFrame, mkF, argsToLocals, Value.category]; done) | rfl) ?_
  have K : Keep h0 h0 [a1, ar] := Keep.refl _ _
  refine Go.by (T' := T0) (g' := (mkF m 2 #[.val (.ref a1), .val (.long tm), .second] [(.ref a1), (.long tm)])) (fun t k => ?_) ?_
  · show Steps p.tables e below (T0.setTop (mkF m 0 #[.val (.ref a1), .val (.long tm), .second] [])) _
    refine XS.lloadN X0.here hx rfl (hb hby d_p25_m3_0) rfl ?_
    show Steps p.tables e below (T0.setTop (mkF m 1 #[.val (.ref a1), .val (.long tm), .second] [(.long tm)])) _
    refine XS.aloadN X0.here hx rfl (hb hby d_p25_m3_1) rfl rfl ?_
    exact k
  refine Go.getF X0 hx hZ hown (wd hw 28 rfl) Via.refl e0 F_a1_now (hb hby d_p25_m3_2) ?_
  intro T1 X1 e1
  show Go p e below _ T1 (mkF m 5 #[.val (.ref a1), .val (.long tm), .second] [(.long nw), (.long tm)])
  refine Go.by (T' := T1) (g' := (mkF m 13 #[.val (.ref a1), .val (.long tm), .second] [(.long tm), (.ref a1)])) (fun t k => ?_) ?_
  · show Steps p.tables e below (T1.setTop (mkF m 5 #[.val (.ref a1), .val (.long tm), .second] [(.long nw), (.long tm)])) _
    refine XS.lcmp X1.here hx rfl (hb hby d_p25_m3_5) rfl ?_
    show Steps p.tables e below (T1.setTop (mkF m 6 #[.val (.ref a1), .val (.long tm), .second] [(.int (lcmpW tm nw))])) _
    refine XS.ifYes X1.here hx rfl (pc0 := 6) (pc' := 11) rfl (hb hby d_p25_m3_6) rfl ((if0 _ _).trans (flt (fun q => ht ((lw_lt _ _).mp q))).2.1) (by decide) (by decide) ?_
    show Steps p.tables e below (T1.setTop (mkF m 11 #[.val (.ref a1), .val (.long tm), .second] [])) _
    refine XS.aloadN X1.here hx rfl (hb hby d_p25_m3_11) rfl rfl ?_
    show Steps p.tables e below (T1.setTop (mkF m 12 #[.val (.ref a1), .val (.long tm), .second] [(.ref a1)])) _
    refine XS.lloadN X1.here hx rfl (hb hby d_p25_m3_12) rfl ?_
    exact k
  refine Go.putF X1 hx hZ hown (wd hw 28 rfl) Via.refl e1 F_a1_now E_a1 (Or.inl (wd hw 29 rfl)) (wd hw 4 rfl) (ty := .long) (by decide) rfl rfl (hb hby d_p25_m3_13) ?_
  intro T2 h2 X2 e2 W2
  replace E_a1 := E_a1.wr W2
  replace F_a1_windowNanos := F_a1_windowNanos.other W2 (Or.inr (slot_ne (a0 := a0) (Or.inr (wd hw 49 rfl)) (Or.inl (wd hw 29 rfl)) (by decide) (t := .long) (t' := .long) (by decide) (by decide)))
  replace F_a1_times := F_a1_times.other W2 (Or.inr (slot_ne (a0 := a0) (Or.inl (wd hw 26 rfl)) (Or.inl (wd hw 29 rfl)) (by decide) (t := (.array .long)) (t' := .long) (by decide) (by decide)))
  replace F_a1_head := F_a1_head.other W2 (Or.inr (slot_ne (a0 := a0) (Or.inl (wd hw 63 rfl)) (Or.inl (wd hw 29 rfl)) (by decide) (t := .int) (t' := .long) (by decide) (by decide)))
  replace F_a1_count := F_a1_count.other W2 (Or.inr (slot_ne (a0 := a0) (Or.inl (wd hw 56 rfl)) (Or.inl (wd hw 29 rfl)) (by decide) (t := .int) (t' := .long) (by decide) (by decide)))
  replace F_a1_now := F_a1_now.same W2
  replace V_ar := V_ar.other W2 (Ne.symm ne_a1_ar)
  replace O := O.wr W2 g_a1
  have N2 := Fr.snoc X2 N0 g_a1
  replace K := K.wr W2 (Or.inl (List.mem_of_getElem? (i := 0) rfl))
  show Go p e below _ T2 (mkF m 16 #[.val (.ref a1), .val (.long tm), .second] [])
  refine Go.by (T' := T2) (g' := (mkF m 17 #[.val (.ref a1), .val (.long tm), .second] [(.ref a1)])) (fun t k => ?_) ?_
  · show Steps p.tables e below (T2.setTop (mkF m 16 #[.val (.ref a1), .val (.long tm), .second] [])) _
    refine XS.aloadN X2.here hx rfl (hb hby d_p25_m3_16) rfl rfl ?_
    exact k
  refine Go.getF X2 hx hZ hown (wd hw 55 rfl) Via.refl e2 F_a1_count (hb hby d_p25_m3_17) ?_
  intro T3 X3 e3
  show Go p e below _ T3 (mkF m 20 #[.val (.ref a1), .val (.long tm), .second] [(.int (2 : Int32))])
  refine Go.by (T' := T3) (g' := (mkF m 24 #[.val (.ref a1), .val (.long tm), .second] [(.ref a1)])) (fun t k => ?_) ?_
  · show Steps p.tables e below (T3.setTop (mkF m 20 #[.val (.ref a1), .val (.long tm), .second] [(.int (2 : Int32))])) _
    refine XS.ifNo X3.here hx rfl (hb hby d_p25_m3_20) rfl ((if0 _ _).trans (tlt (by decide : (0 : Int32) < (2 : Int32))).2.2.2) ?_
    show Steps p.tables e below (T3.setTop (mkF m 23 #[.val (.ref a1), .val (.long tm), .second] [])) _
    refine XS.aloadN X3.here hx rfl (hb hby d_p25_m3_23) rfl rfl ?_
    exact k
  refine Go.getF X3 hx hZ hown (wd hw 28 rfl) Via.refl e3 F_a1_now (hb hby d_p25_m3_24) ?_
  intro T4 X4 e4
  show Go p e below _ T4 (mkF m 27 #[.val (.ref a1), .val (.long tm), .second] [(.long tm)])
  refine Go.by (T' := T4) (g' := (mkF m 28 #[.val (.ref a1), .val (.long tm), .second] [(.ref a1), (.long tm)])) (fun t k => ?_) ?_
  · show Steps p.tables e below (T4.setTop (mkF m 27 #[.val (.ref a1), .val (.long tm), .second] [(.long tm)])) _
    refine XS.aloadN X4.here hx rfl (hb hby d_p25_m3_27) rfl rfl ?_
    exact k
  refine Go.getF X4 hx hZ hown (wd hw 25 rfl) Via.refl e4 F_a1_times (hb hby d_p25_m3_28) ?_
  intro T5 X5 e5
  show Go p e below _ T5 (mkF m 31 #[.val (.ref a1), .val (.long tm), .second] [(.ref ar), (.long tm)])
  refine Go.by (T' := T5) (g' := (mkF m 32 #[.val (.ref a1), .val (.long tm), .second] [(.ref a1), (.ref ar), (.long tm)])) (fun t k => ?_) ?_
  · show Steps p.tables e below (T5.setTop (mkF m 31 #[.val (.ref a1), .val (.long tm), .second] [(.ref ar), (.long tm)])) _
    refine XS.aloadN X5.here hx rfl (hb hby d_p25_m3_31) rfl rfl ?_
    exact k
  refine Go.getF X5 hx hZ hown (wd hw 62 rfl) Via.refl e5 F_a1_head (hb hby d_p25_m3_32) ?_
  intro T6 X6 e6
  show Go p e below _ T6 (mkF m 35 #[.val (.ref a1), .val (.long tm), .second] [(.int (0 : Int32)), (.ref ar), (.long tm)])
  refine Go.aloadV X6 hx hZ e6 V_ar (j := (0 : Int32)) (v := (.long x0)) ⟨by decide, by decide⟩ rfl (Or.inr (Or.inl ⟨rfl, rfl⟩)) (hb hby d_p25_m3_35) ?_
  show Go p e below _ T6 (mkF m 36 #[.val (.ref a1), .val (.long tm), .second] [(.long x0), (.long tm)])
  refine Go.by (T' := T6) (g' := (mkF m 38 #[.val (.ref a1), .val (.long tm), .second] [(.ref a1), (.long (tm - x0))])) (fun t k => ?_) ?_
  · show Steps p.tables e below (T6.setTop (mkF m 36 #[.val (.ref a1), .val (.long tm), .second] [(.long x0), (.long tm)])) _
    refine XS.lsub X6.here hx rfl (hb hby d_p25_m3_36) rfl ?_
    show Steps p.tables e below (T6.setTop (mkF m 37 #[.val (.ref a1), .val (.long tm), .second] [(.long (tm - x0))])) _
    refine XS.aloadN X6.here hx rfl (hb hby d_p25_m3_37) rfl rfl ?_
    exact k
  refine Go.getF X6 hx hZ hown (wd hw 48 rfl) Via.refl e6 F_a1_windowNanos (hb hby d_p25_m3_38) ?_
  intro T7 X7 e7
  show Go p e below _ T7 (mkF m 41 #[.val (.ref a1), .val (.long tm), .second] [(.long wn), (.long (tm - x0))])
  refine Go.by (T' := T7) (g' := (mkF m 75 #[.val (.ref a1), .val (.long tm), .second] [(.int (1 : Int32))])) (fun t k => ?_) ?_
  · show Steps p.tables e below (T7.setTop (mkF m 41 #[.val (.ref a1), .val (.long tm), .second] [(.long wn), (.long (tm - x0))])) _
    refine XS.lcmp X7.here hx rfl (hb hby d_p25_m3_41) rfl ?_
    show Steps p.tables e below (T7.setTop (mkF m 42 #[.val (.ref a1), .val (.long tm), .second] [(.int (lcmpW (tm - x0) wn))])) _
    refine XS.ifYes X7.here hx rfl (pc0 := 42) (pc' := 74) rfl (hb hby d_p25_m3_42) rfl ((if0 _ _).trans (tlt ((lw_lt _ _).mpr hq0)).1) (by decide) (by decide) ?_
    show Steps p.tables e below (T7.setTop (mkF m 74 #[.val (.ref a1), .val (.long tm), .second] [])) _
    refine XS.iconst X7.here hx rfl (hb hby d_p25_m3_74) ?_
    exact k
  refine Go.retZ X7 hx hlk hret (Or.inr rfl) (hb hby d_p25_m3_75) (by decide) (by decide) e7 ?_
  exact ⟨rfl, N2, K, F_a1_windowNanos, F_a1_times, F_a1_head, F_a1_count, F_a1_now, V_ar⟩
set_option maxRecDepth 65536 in
set_option maxHeartbeats 40000000 in
theorem ct_move_0_1_1 (l : Launch) (Z : State) (a0 : Array Value) (hw : ∀ d ∈ tables_1, d.before a0 Z = true) (w_MS : Addr) (S_MS : Sta Z Z.heap "java/util/concurrent/TimeUnit" "MILLISECONDS" "Ljava/util/concurrent/TimeUnit;" (.ref w_MS)) (E_MS : Exa Z Z.heap w_MS "java/util/concurrent/TimeUnit") (F_MS1 : Fld Z Z.heap w_MS "java/util/concurrent/TimeUnit" "scale" "J" (.long 1000000)) (F_MS2 : Fld Z Z.heap w_MS "java/util/concurrent/TimeUnit" "maxNanos" "J" (.long 9223372036854)) (a1 : Addr) (ar : Addr) (kA : ClassId) (wn : Int64) (nw : Int64) (x0 : Int64) (x1 : Int64) (x2 : Int64) (tm : Int64) (h0 : Heap) (n0 : Nat) (O : Old Z n0 h0) (E_a1 : Exa Z h0 a1 "com/example/breakwater/breakwater/OrderRateWindow") (F_a1_windowNanos : Fld Z h0 a1 "com/example/breakwater/breakwater/OrderRateWindow" "windowNanos" "J" (.long wn)) (F_a1_times : Fld Z h0 a1 "com/example/breakwater/breakwater/OrderRateWindow" "times" "[J" (.ref ar)) (F_a1_head : Fld Z h0 a1 "com/example/breakwater/breakwater/OrderRateWindow" "head" "I" (.int (0 : Int32))) (F_a1_count : Fld Z h0 a1 "com/example/breakwater/breakwater/OrderRateWindow" "count" "I" (.int (1 : Int32))) (F_a1_now : Fld Z h0 a1 "com/example/breakwater/breakwater/OrderRateWindow" "now" "J" (.long nw)) (V_ar : Arv Z h0 ar kA .long (16 : Int32) [(.long x0), (.long x1), (.long x2)] (.long (0 : Int64))) (g_a1 : n0 ≤ a1) (g_ar : n0 ≤ ar) (ne_a1_ar : a1 ≠ ar) (ht : ¬ tm < nw) (hq0 : ¬ (tm - x0) < wn) :
    Ct l (⟨"com/example/breakwater/breakwater/OrderRateWindow", "moveTo", "(J)Z"⟩ : MethodName) prog_25_method_3_code 3 (some .boolean) ({ frames := 0, cells := 0, slots := 0, locals := 0 } : Room) Z #[(.ref a1), (.long tm)] h0 (fun v h L => v = some (.int 1) ∧ Fr n0 L ∧ Keep h0 h [a1, ar] ∧ Fld Z h a1 "com/example/breakwater/breakwater/OrderRateWindow" "windowNanos" "J" (.long wn) ∧ Fld Z h a1 "com/example/breakwater/breakwater/OrderRateWindow" "times" "[J" (.ref ar) ∧ Fld Z h a1 "com/example/breakwater/breakwater/OrderRateWindow" "head" "I" (.int (1 : Int32)) ∧ Fld Z h a1 "com/example/breakwater/breakwater/OrderRateWindow" "count" "I" (.int (0 : Int32)) ∧ Fld Z h a1 "com/example/breakwater/breakwater/OrderRateWindow" "now" "J" (.long tm) ∧ Arv Z h ar kA .long (16 : Int32) [(.long x0), (.long x1), (.long x2)] (.long (0 : Int64))) := by
  refine Ct.of (plainFor_of_name pn_OrderRateWindow_528) ?_
  intro p e s m below meth c T0 X0 hx hby hml hown hnm hret hlk hZ e0
  have hown : s.vm.findClass "com/example/breakwater/breakwater/OrderRateWindow" = some m.cls := hown
  have hml : c.maxLocals = 3 := hml
  have N0 := Fr.nil n0
  refine Go.cast (g' := mkF m 0 #[.val (.ref a1), .val (.long tm), .second] []) (by first | (simp [entryFrame, mkF, argsToLocals, Value.category]; done) | rfl) ?_
  have K : Keep h0 h0 [a1, ar] := Keep.refl _ _
  refine Go.by (T' := T0) (g' := (mkF m 2 #[.val (.ref a1), .val (.long tm), .second] [(.ref a1), (.long tm)])) (fun t k => ?_) ?_
  · show Steps p.tables e below (T0.setTop (mkF m 0 #[.val (.ref a1), .val (.long tm), .second] [])) _
    refine XS.lloadN X0.here hx rfl (hb hby d_p25_m3_0) rfl ?_
    show Steps p.tables e below (T0.setTop (mkF m 1 #[.val (.ref a1), .val (.long tm), .second] [(.long tm)])) _
    refine XS.aloadN X0.here hx rfl (hb hby d_p25_m3_1) rfl rfl ?_
    exact k
  refine Go.getF X0 hx hZ hown (wd hw 28 rfl) Via.refl e0 F_a1_now (hb hby d_p25_m3_2) ?_
  intro T1 X1 e1
  show Go p e below _ T1 (mkF m 5 #[.val (.ref a1), .val (.long tm), .second] [(.long nw), (.long tm)])
  refine Go.by (T' := T1) (g' := (mkF m 13 #[.val (.ref a1), .val (.long tm), .second] [(.long tm), (.ref a1)])) (fun t k => ?_) ?_
  · show Steps p.tables e below (T1.setTop (mkF m 5 #[.val (.ref a1), .val (.long tm), .second] [(.long nw), (.long tm)])) _
    refine XS.lcmp X1.here hx rfl (hb hby d_p25_m3_5) rfl ?_
    show Steps p.tables e below (T1.setTop (mkF m 6 #[.val (.ref a1), .val (.long tm), .second] [(.int (lcmpW tm nw))])) _
    refine XS.ifYes X1.here hx rfl (pc0 := 6) (pc' := 11) rfl (hb hby d_p25_m3_6) rfl ((if0 _ _).trans (flt (fun q => ht ((lw_lt _ _).mp q))).2.1) (by decide) (by decide) ?_
    show Steps p.tables e below (T1.setTop (mkF m 11 #[.val (.ref a1), .val (.long tm), .second] [])) _
    refine XS.aloadN X1.here hx rfl (hb hby d_p25_m3_11) rfl rfl ?_
    show Steps p.tables e below (T1.setTop (mkF m 12 #[.val (.ref a1), .val (.long tm), .second] [(.ref a1)])) _
    refine XS.lloadN X1.here hx rfl (hb hby d_p25_m3_12) rfl ?_
    exact k
  refine Go.putF X1 hx hZ hown (wd hw 28 rfl) Via.refl e1 F_a1_now E_a1 (Or.inl (wd hw 29 rfl)) (wd hw 4 rfl) (ty := .long) (by decide) rfl rfl (hb hby d_p25_m3_13) ?_
  intro T2 h2 X2 e2 W2
  replace E_a1 := E_a1.wr W2
  replace F_a1_windowNanos := F_a1_windowNanos.other W2 (Or.inr (slot_ne (a0 := a0) (Or.inr (wd hw 49 rfl)) (Or.inl (wd hw 29 rfl)) (by decide) (t := .long) (t' := .long) (by decide) (by decide)))
  replace F_a1_times := F_a1_times.other W2 (Or.inr (slot_ne (a0 := a0) (Or.inl (wd hw 26 rfl)) (Or.inl (wd hw 29 rfl)) (by decide) (t := (.array .long)) (t' := .long) (by decide) (by decide)))
  replace F_a1_head := F_a1_head.other W2 (Or.inr (slot_ne (a0 := a0) (Or.inl (wd hw 63 rfl)) (Or.inl (wd hw 29 rfl)) (by decide) (t := .int) (t' := .long) (by decide) (by decide)))
  replace F_a1_count := F_a1_count.other W2 (Or.inr (slot_ne (a0 := a0) (Or.inl (wd hw 56 rfl)) (Or.inl (wd hw 29 rfl)) (by decide) (t := .int) (t' := .long) (by decide) (by decide)))
  replace F_a1_now := F_a1_now.same W2
  replace V_ar := V_ar.other W2 (Ne.symm ne_a1_ar)
  replace O := O.wr W2 g_a1
  have N2 := Fr.snoc X2 N0 g_a1
  replace K := K.wr W2 (Or.inl (List.mem_of_getElem? (i := 0) rfl))
  show Go p e below _ T2 (mkF m 16 #[.val (.ref a1), .val (.long tm), .second] [])
  refine Go.by (T' := T2) (g' := (mkF m 17 #[.val (.ref a1), .val (.long tm), .second] [(.ref a1)])) (fun t k => ?_) ?_
  · show Steps p.tables e below (T2.setTop (mkF m 16 #[.val (.ref a1), .val (.long tm), .second] [])) _
    refine XS.aloadN X2.here hx rfl (hb hby d_p25_m3_16) rfl rfl ?_
    exact k
  refine Go.getF X2 hx hZ hown (wd hw 55 rfl) Via.refl e2 F_a1_count (hb hby d_p25_m3_17) ?_
  intro T3 X3 e3
  show Go p e below _ T3 (mkF m 20 #[.val (.ref a1), .val (.long tm), .second] [(.int (1 : Int32))])
  refine Go.by (T' := T3) (g' := (mkF m 24 #[.val (.ref a1), .val (.long tm), .second] [(.ref a1)])) (fun t k => ?_) ?_
  · show Steps p.tables e below (T3.setTop (mkF m 20 #[.val (.ref a1), .val (.long tm), .second] [(.int (1 : Int32))])) _
    refine XS.ifNo X3.here hx rfl (hb hby d_p25_m3_20) rfl ((if0 _ _).trans (tlt (by decide : (0 : Int32) < (1 : Int32))).2.2.2) ?_
    show Steps p.tables e below (T3.setTop (mkF m 23 #[.val (.ref a1), .val (.long tm), .second] [])) _
    refine XS.aloadN X3.here hx rfl (hb hby d_p25_m3_23) rfl rfl ?_
    exact k
  refine Go.getF X3 hx hZ hown (wd hw 28 rfl) Via.refl e3 F_a1_now (hb hby d_p25_m3_24) ?_
  intro T4 X4 e4
  show Go p e below _ T4 (mkF m 27 #[.val (.ref a1), .val (.long tm), .second] [(.long tm)])
  refine Go.by (T' := T4) (g' := (mkF m 28 #[.val (.ref a1), .val (.long tm), .second] [(.ref a1), (.long tm)])) (fun t k => ?_) ?_
  · show Steps p.tables e below (T4.setTop (mkF m 27 #[.val (.ref a1), .val (.long tm), .second] [(.long tm)])) _
    refine XS.aloadN X4.here hx rfl (hb hby d_p25_m3_27) rfl rfl ?_
    exact k
  refine Go.getF X4 hx hZ hown (wd hw 25 rfl) Via.refl e4 F_a1_times (hb hby d_p25_m3_28) ?_
  intro T5 X5 e5
  show Go p e below _ T5 (mkF m 31 #[.val (.ref a1), .val (.long tm), .second] [(.ref ar), (.long tm)])
  refine Go.by (T' := T5) (g' := (mkF m 32 #[.val (.ref a1), .val (.long tm), .second] [(.ref a1), (.ref ar), (.long tm)])) (fun t k => ?_) ?_
  · show Steps p.tables e below (T5.setTop (mkF m 31 #[.val (.ref a1), .val (.long tm), .second] [(.ref ar), (.long tm)])) _
    refine XS.aloadN X5.here hx rfl (hb hby d_p25_m3_31) rfl rfl ?_
    exact k
  refine Go.getF X5 hx hZ hown (wd hw 62 rfl) Via.refl e5 F_a1_head (hb hby d_p25_m3_32) ?_
  intro T6 X6 e6
  show Go p e below _ T6 (mkF m 35 #[.val (.ref a1), .val (.long tm), .second] [(.int (0 : Int32)), (.ref ar), (.long tm)])
  refine Go.aloadV X6 hx hZ e6 V_ar (j := (0 : Int32)) (v := (.long x0)) ⟨by decide, by decide⟩ rfl (Or.inr (Or.inl ⟨rfl, rfl⟩)) (hb hby d_p25_m3_35) ?_
  show Go p e below _ T6 (mkF m 36 #[.val (.ref a1), .val (.long tm), .second] [(.long x0), (.long tm)])
  refine Go.by (T' := T6) (g' := (mkF m 38 #[.val (.ref a1), .val (.long tm), .second] [(.ref a1), (.long (tm - x0))])) (fun t k => ?_) ?_
  · show Steps p.tables e below (T6.setTop (mkF m 36 #[.val (.ref a1), .val (.long tm), .second] [(.long x0), (.long tm)])) _
    refine XS.lsub X6.here hx rfl (hb hby d_p25_m3_36) rfl ?_
    show Steps p.tables e below (T6.setTop (mkF m 37 #[.val (.ref a1), .val (.long tm), .second] [(.long (tm - x0))])) _
    refine XS.aloadN X6.here hx rfl (hb hby d_p25_m3_37) rfl rfl ?_
    exact k
  refine Go.getF X6 hx hZ hown (wd hw 48 rfl) Via.refl e6 F_a1_windowNanos (hb hby d_p25_m3_38) ?_
  intro T7 X7 e7
  show Go p e below _ T7 (mkF m 41 #[.val (.ref a1), .val (.long tm), .second] [(.long wn), (.long (tm - x0))])
  refine Go.by (T' := T7) (g' := (mkF m 47 #[.val (.ref a1), .val (.long tm), .second] [(.ref a1), (.ref a1)])) (fun t k => ?_) ?_
  · show Steps p.tables e below (T7.setTop (mkF m 41 #[.val (.ref a1), .val (.long tm), .second] [(.long wn), (.long (tm - x0))])) _
    refine XS.lcmp X7.here hx rfl (hb hby d_p25_m3_41) rfl ?_
    show Steps p.tables e below (T7.setTop (mkF m 42 #[.val (.ref a1), .val (.long tm), .second] [(.int (lcmpW (tm - x0) wn))])) _
    refine XS.ifNo X7.here hx rfl (hb hby d_p25_m3_42) rfl ((if0 _ _).trans (flt (fun q => hq0 ((lw_lt _ _).mp q))).1) ?_
    show Steps p.tables e below (T7.setTop (mkF m 45 #[.val (.ref a1), .val (.long tm), .second] [])) _
    refine XS.aloadN X7.here hx rfl (hb hby d_p25_m3_45) rfl rfl ?_
    show Steps p.tables e below (T7.setTop (mkF m 46 #[.val (.ref a1), .val (.long tm), .second] [(.ref a1)])) _
    refine XS.aloadN X7.here hx rfl (hb hby d_p25_m3_46) rfl rfl ?_
    exact k
  refine Go.getF X7 hx hZ hown (wd hw 62 rfl) Via.refl e7 F_a1_head (hb hby d_p25_m3_47) ?_
  intro T8 X8 e8
  show Go p e below _ T8 (mkF m 50 #[.val (.ref a1), .val (.long tm), .second] [(.int (0 : Int32)), (.ref a1)])
  refine Go.by (T' := T8) (g' := (mkF m 53 #[.val (.ref a1), .val (.long tm), .second] [(.ref a1), (.int (1 : Int32)), (.ref a1)])) (fun t k => ?_) ?_
  · show Steps p.tables e below (T8.setTop (mkF m 50 #[.val (.ref a1), .val (.long tm), .second] [(.int (0 : Int32)), (.ref a1)])) _
    refine XS.iconst X8.here hx rfl (hb hby d_p25_m3_50) ?_
    show Steps p.tables e below (T8.setTop (mkF m 51 #[.val (.ref a1), .val (.long tm), .second] [(.int (1 : Int32)), (.int (0 : Int32)), (.ref a1)])) _
    refine XS.iadd X8.here hx rfl (hb hby d_p25_m3_51) rfl ?_
    show Steps p.tables e below (T8.setTop (mkF m 52 #[.val (.ref a1), .val (.long tm), .second] [(.int (1 : Int32)), (.ref a1)])) _
    refine XS.aloadN X8.here hx rfl (hb hby d_p25_m3_52) rfl rfl ?_
    exact k
  refine Go.getF X8 hx hZ hown (wd hw 25 rfl) Via.refl e8 F_a1_times (hb hby d_p25_m3_53) ?_
  intro T9 X9 e9
  show Go p e below _ T9 (mkF m 56 #[.val (.ref a1), .val (.long tm), .second] [(.ref ar), (.int (1 : Int32)), (.ref a1)])
  refine Go.alenV X9 hx hZ e9 V_ar (hb hby d_p25_m3_56) ?_
  show Go p e below _ T9 (mkF m 57 #[.val (.ref a1), .val (.long tm), .second] [(.int (16 : Int32)), (.int (1 : Int32)), (.ref a1)])
  refine Go.by (T' := T9) (g' := (mkF m 58 #[.val (.ref a1), .val (.long tm), .second] [(.int (1 : Int32)), (.ref a1)])) (fun t k => ?_) ?_
  · show Steps p.tables e below (T9.setTop (mkF m 57 #[.val (.ref a1), .val (.long tm), .second] [(.int (16 : Int32)), (.int (1 : Int32)), (.ref a1)])) _
    refine iremM X9 hx rfl (hb hby d_p25_m3_57) rfl (by decide) ?_
    exact k
  refine Go.putF X9 hx hZ hown (wd hw 62 rfl) Via.refl e9 F_a1_head E_a1 (Or.inl (wd hw 63 rfl)) (wd hw 4 rfl) (ty := .int) (by decide) rfl rfl (hb hby d_p25_m3_58) ?_
  intro T10 h10 X10 e10 W10
  replace E_a1 := E_a1.wr W10
  replace F_a1_windowNanos := F_a1_windowNanos.other W10 (Or.inr (slot_ne (a0 := a0) (Or.inr (wd hw 49 rfl)) (Or.inl (wd hw 63 rfl)) (by decide) (t := .long) (t' := .int) (by decide) (by decide)))
  replace F_a1_times := F_a1_times.other W10 (Or.inr (slot_ne (a0 := a0) (Or.inl (wd hw 26 rfl)) (Or.inl (wd hw 63 rfl)) (by decide) (t := (.array .long)) (t' := .int) (by decide) (by decide)))
  replace F_a1_head := F_a1_head.same W10
  replace F_a1_count := F_a1_count.other W10 (Or.inr (slot_ne (a0 := a0) (Or.inl (wd hw 56 rfl)) (Or.inl (wd hw 63 rfl)) (by decide) (t := .int) (t' := .int) (by decide) (by decide)))
  replace F_a1_now := F_a1_now.other W10 (Or.inr (slot_ne (a0 := a0) (Or.inl (wd hw 29 rfl)) (Or.inl (wd hw 63 rfl)) (by decide) (t := .long) (t' := .int) (by decide) (by decide)))
  replace V_ar := V_ar.other W10 (Ne.symm ne_a1_ar)
  replace O := O.wr W10 g_a1
  have N10 := Fr.snoc X10 N2 g_a1
  replace K := K.wr W10 (Or.inl (List.mem_of_getElem? (i := 0) rfl))
  show Go p e below _ T10 (mkF m 61 #[.val (.ref a1), .val (.long tm), .second] [])
  refine Go.by (T' := T10) (g' := (mkF m 63 #[.val (.ref a1), .val (.long tm), .second] [(.ref a1), (.ref a1)])) (fun t k => ?_) ?_
  · show Steps p.tables e below (T10.setTop (mkF m 61 #[.val (.ref a1), .val (.long tm), .second] [])) _
    refine XS.aloadN X10.here hx rfl (hb hby d_p25_m3_61) rfl rfl ?_
    show Steps p.tables e below (T10.setTop (mkF m 62 #[.val (.ref a1), .val (.long tm), .second] [(.ref a1)])) _
    refine XS.dup X10.here hx rfl (hb hby d_p25_m3_62) rfl rfl ?_
    exact k
  refine Go.getF X10 hx hZ hown (wd hw 55 rfl) Via.refl e10 F_a1_count (hb hby d_p25_m3_63) ?_
  intro T11 X11 e11
  show Go p e below _ T11 (mkF m 66 #[.val (.ref a1), .val (.long tm), .second] [(.int (1 : Int32)), (.ref a1)])
  refine Go.by (T' := T11) (g' := (mkF m 68 #[.val (.ref a1), .val (.long tm), .second] [(.int (0 : Int32)), (.ref a1)])) (fun t k => ?_) ?_
  · show Steps p.tables e below (T11.setTop (mkF m 66 #[.val (.ref a1), .val (.long tm), .second] [(.int (1 : Int32)), (.ref a1)])) _
    refine XS.iconst X11.here hx rfl (hb hby d_p25_m3_66) ?_
    show Steps p.tables e below (T11.setTop (mkF m 67 #[.val (.ref a1), .val (.long tm), .second] [(.int (1 : Int32)), (.int (1 : Int32)), (.ref a1)])) _
    refine XS.isub X11.here hx rfl (hb hby d_p25_m3_67) rfl ?_
    exact k
  refine Go.putF X11 hx hZ hown (wd hw 55 rfl) Via.refl e11 F_a1_count E_a1 (Or.inl (wd hw 56 rfl)) (wd hw 4 rfl) (ty := .int) (by decide) rfl rfl (hb hby d_p25_m3_68) ?_
  intro T12 h12 X12 e12 W12
  replace E_a1 := E_a1.wr W12
  replace F_a1_windowNanos := F_a1_windowNanos.other W12 (Or.inr (slot_ne (a0 := a0) (Or.inr (wd hw 49 rfl)) (Or.inl (wd hw 56 rfl)) (by decide) (t := .long) (t' := .int) (by decide) (by decide)))
  replace F_a1_times := F_a1_times.other W12 (Or.inr (slot_ne (a0 := a0) (Or.inl (wd hw 26 rfl)) (Or.inl (wd hw 56 rfl)) (by decide) (t := (.array .long)) (t' := .int) (by decide) (by decide)))
  replace F_a1_head := F_a1_head.other W12 (Or.inr (slot_ne (a0 := a0) (Or.inl (wd hw 63 rfl)) (Or.inl (wd hw 56 rfl)) (by decide) (t := .int) (t' := .int) (by decide) (by decide)))
  replace F_a1_count := F_a1_count.same W12
  replace F_a1_now := F_a1_now.other W12 (Or.inr (slot_ne (a0 := a0) (Or.inl (wd hw 29 rfl)) (Or.inl (wd hw 56 rfl)) (by decide) (t := .long) (t' := .int) (by decide) (by decide)))
  replace V_ar := V_ar.other W12 (Ne.symm ne_a1_ar)
  replace O := O.wr W12 g_a1
  have N12 := Fr.snoc X12 N10 g_a1
  replace K := K.wr W12 (Or.inl (List.mem_of_getElem? (i := 0) rfl))
  show Go p e below _ T12 (mkF m 71 #[.val (.ref a1), .val (.long tm), .second] [])
  refine Go.by (T' := T12) (g' := (mkF m 17 #[.val (.ref a1), .val (.long tm), .second] [(.ref a1)])) (fun t k => ?_) ?_
  · show Steps p.tables e below (T12.setTop (mkF m 71 #[.val (.ref a1), .val (.long tm), .second] [])) _
    refine XS.goto X12.here hx rfl (pc0 := 71) (pc' := 16) rfl (hb hby d_p25_m3_71) (by decide) (by decide) ?_
    show Steps p.tables e below (T12.setTop (mkF m 16 #[.val (.ref a1), .val (.long tm), .second] [])) _
    refine XS.aloadN X12.here hx rfl (hb hby d_p25_m3_16) rfl rfl ?_
    exact k
  refine Go.getF X12 hx hZ hown (wd hw 55 rfl) Via.refl e12 F_a1_count (hb hby d_p25_m3_17) ?_
  intro T13 X13 e13
  show Go p e below _ T13 (mkF m 20 #[.val (.ref a1), .val (.long tm), .second] [(.int (0 : Int32))])
  refine Go.by (T' := T13) (g' := (mkF m 75 #[.val (.ref a1), .val (.long tm), .second] [(.int (1 : Int32))])) (fun t k => ?_) ?_
  · show Steps p.tables e below (T13.setTop (mkF m 20 #[.val (.ref a1), .val (.long tm), .second] [(.int (0 : Int32))])) _
    refine XS.ifYes X13.here hx rfl (pc0 := 20) (pc' := 74) rfl (hb hby d_p25_m3_20) rfl ((if0 _ _).trans (flt (by decide : ¬ (0 : Int32) < (0 : Int32))).2.2.2) (by decide) (by decide) ?_
    show Steps p.tables e below (T13.setTop (mkF m 74 #[.val (.ref a1), .val (.long tm), .second] [])) _
    refine XS.iconst X13.here hx rfl (hb hby d_p25_m3_74) ?_
    exact k
  refine Go.retZ X13 hx hlk hret (Or.inr rfl) (hb hby d_p25_m3_75) (by decide) (by decide) e13 ?_
  exact ⟨rfl, N12, K, F_a1_windowNanos, F_a1_times, F_a1_head, F_a1_count, F_a1_now, V_ar⟩
set_option maxRecDepth 65536 in
set_option maxHeartbeats 40000000 in
theorem ct_remove_0_2_0 (l : Launch) (Z : State) (a0 : Array Value) (hw : ∀ d ∈ tables_1, d.before a0 Z = true) (w_MS : Addr) (S_MS : Sta Z Z.heap "java/util/concurrent/TimeUnit" "MILLISECONDS" "Ljava/util/concurrent/TimeUnit;" (.ref w_MS)) (E_MS : Exa Z Z.heap w_MS "java/util/concurrent/TimeUnit") (F_MS1 : Fld Z Z.heap w_MS "java/util/concurrent/TimeUnit" "scale" "J" (.long 1000000)) (F_MS2 : Fld Z Z.heap w_MS "java/util/concurrent/TimeUnit" "maxNanos" "J" (.long 9223372036854)) (a1 : Addr) (ar : Addr) (kA : ClassId) (wn : Int64) (nw : Int64) (x0 : Int64) (x1 : Int64) (x2 : Int64) (tm : Int64) (h0 : Heap) (n0 : Nat) (O : Old Z n0 h0) (E_a1 : Exa Z h0 a1 "com/example/breakwater/breakwater/OrderRateWindow") (F_a1_windowNanos : Fld Z h0 a1 "com/example/breakwater/breakwater/OrderRateWindow" "windowNanos" "J" (.long wn)) (F_a1_times : Fld Z h0 a1 "com/example/breakwater/breakwater/OrderRateWindow" "times" "[J" (.ref ar)) (F_a1_head : Fld Z h0 a1 "com/example/breakwater/breakwater/OrderRateWindow" "head" "I" (.int (0 : Int32))) (F_a1_count : Fld Z h0 a1 "com/example/breakwater/breakwater/OrderRateWindow" "count" "I" (.int (2 : Int32))) (F_a1_now : Fld Z h0 a1 "com/example/breakwater/breakwater/OrderRateWindow" "now" "J" (.long nw)) (V_ar : Arv Z h0 ar kA .long (16 : Int32) [(.long x0), (.long x1), (.long x2)] (.long (0 : Int64))) (g_a1 : n0 ≤ a1) (g_ar : n0 ≤ ar) (ne_a1_ar : a1 ≠ ar) (hr1 : ¬ x1 = tm) (hr0 : x0 = tm) :
    Ct l (⟨"com/example/breakwater/breakwater/OrderRateWindow", "remove", "(J)V"⟩ : MethodName) prog_25_method_6_code 5 none ({ frames := 0, cells := 0, slots := 0, locals := 0 } : Room) Z #[(.ref a1), (.long tm)] h0 (fun v h L => v = none ∧ Fr n0 L ∧ Keep h0 h [a1, ar] ∧ Fld Z h a1 "com/example/breakwater/breakwater/OrderRateWindow" "windowNanos" "J" (.long wn) ∧ Fld Z h a1 "com/example/breakwater/breakwater/OrderRateWindow" "times" "[J" (.ref ar) ∧ Fld Z h a1 "com/example/breakwater/breakwater/OrderRateWindow" "head" "I" (.int (0 : Int32)) ∧ Fld Z h a1 "com/example/breakwater/breakwater/OrderRateWindow" "count" "I" (.int (1 : Int32)) ∧ Fld Z h a1 "com/example/breakwater/breakwater/OrderRateWindow" "now" "J" (.long nw) ∧ Arv Z h ar kA .long (16 : Int32) [(.long x1), (.long x1), (.long x2)] (.long (0 : Int64))) := by
  refine Ct.of (plainFor_of_name pn_OrderRateWindow_528) ?_
  intro p e s m below meth c T0 X0 hx hby hml hown hnm hret hlk hZ e0
  have hown : s.vm.findClass "com/example/breakwater/breakwater/OrderRateWindow" = some m.cls := hown
  have hml : c.maxLocals = 5 := hml
  have N0 := Fr.nil n0
  refine Go.cast (g' := mkF m 0 #[.val (.ref a1), .val (.long tm), .second, .unset, .unset] []) (by first | (simp [entryFrame, mkF, argsToLocals, Value.category]; done) | rfl) ?_
  have K : Keep h0 h0 [a1, ar] := Keep.refl _ _
  refine Go.by (T' := T0) (g' := (mkF m 1 #[.val (.ref a1), .val (.long tm), .second, .unset, .unset] [(.ref a1)])) (fun t k => ?_) ?_
  · show Steps p.tables e below (T0.setTop (mkF m 0 #[.val (.ref a1), .val (.long tm), .second, .unset, .unset] [])) _
    refine XS.aloadN X0.here hx rfl (hb hby d_p25_m6_0) rfl rfl ?_
    exact k
  refine Go.getF X0 hx hZ hown (wd hw 55 rfl) Via.refl e0 F_a1_count (hb hby d_p25_m6_1) ?_
  intro T1 X1 e1
  show Go p e below _ T1 (mkF m 4 #[.val (.ref a1), .val (.long tm), .second, .unset, .unset] [(.int (2 : Int32))])
  refine Go.by (T' := T1) (g' := (mkF m 12 #[.val (.ref a1), .val (.long tm), .second, .val (.int (1 : Int32)), .unset] [(.ref a1)])) (fun t k => ?_) ?_
  · show Steps p.tables e below (T1.setTop (mkF m 4 #[.val (.ref a1), .val (.long tm), .second, .unset, .unset] [(.int (2 : Int32))])) _
    refine XS.iconst X1.here hx rfl (hb hby d_p25_m6_4) ?_
    show Steps p.tables e below (T1.setTop (mkF m 5 #[.val (.ref a1), .val (.long tm), .second, .unset, .unset] [(.int (1 : Int32)), (.int (2 : Int32))])) _
    refine XS.isub X1.here hx rfl (hb hby d_p25_m6_5) rfl ?_
    show Steps p.tables e below (T1.setTop (mkF m 6 #[.val (.ref a1), .val (.long tm), .second, .unset, .unset] [(.int (1 : Int32))])) _
    refine XS.istoreN X1.here hx rfl (hb hby d_p25_m6_6) rfl (l' := #[.val (.ref a1), .val (.long tm), .second, .val (.int (1 : Int32)), .unset]) rfl ?_
    show Steps p.tables e below (T1.setTop (mkF m 7 #[.val (.ref a1), .val (.long tm), .second, .val (.int (1 : Int32)), .unset] [])) _
    refine XS.iloadN X1.here hx rfl (hb hby d_p25_m6_7) rfl ?_
    show Steps p.tables e below (T1.setTop (mkF m 8 #[.val (.ref a1), .val (.long tm), .second, .val (.int (1 : Int32)), .unset] [(.int (1 : Int32))])) _
    refine XS.ifNo X1.here hx rfl (hb hby d_p25_m6_8) rfl ((if0 _ _).trans (flt (by decide : ¬ (1 : Int32) < (0 : Int32))).1) ?_
    show Steps p.tables e below (T1.setTop (mkF m 11 #[.val (.ref a1), .val (.long tm), .second, .val (.int (1 : Int32)), .unset] [])) _
    refine XS.aloadN X1.here hx rfl (hb hby d_p25_m6_11) rfl rfl ?_
    exact k
  refine Go.getF X1 hx hZ hown (wd hw 25 rfl) Via.refl e1 F_a1_times (hb hby d_p25_m6_12) ?_
  intro T2 X2 e2
  show Go p e below _ T2 (mkF m 15 #[.val (.ref a1), .val (.long tm), .second, .val (.int (1 : Int32)), .unset] [(.ref ar)])
  refine Go.by (T' := T2) (g' := (mkF m 16 #[.val (.ref a1), .val (.long tm), .second, .val (.int (1 : Int32)), .unset] [(.ref a1), (.ref ar)])) (fun t k => ?_) ?_
  · show Steps p.tables e below (T2.setTop (mkF m 15 #[.val (.ref a1), .val (.long tm), .second, .val (.int (1 : Int32)), .unset] [(.ref ar)])) _
    refine XS.aloadN X2.here hx rfl (hb hby d_p25_m6_15) rfl rfl ?_
    exact k
  refine Go.getF X2 hx hZ hown (wd hw 62 rfl) Via.refl e2 F_a1_head (hb hby d_p25_m6_16) ?_
  intro T3 X3 e3
  show Go p e below _ T3 (mkF m 19 #[.val (.ref a1), .val (.long tm), .second, .val (.int (1 : Int32)), .unset] [(.int (0 : Int32)), (.ref ar)])
  refine Go.by (T' := T3) (g' := (mkF m 22 #[.val (.ref a1), .val (.long tm), .second, .val (.int (1 : Int32)), .unset] [(.ref a1), (.int (1 : Int32)), (.ref ar)])) (fun t k => ?_) ?_
  · show Steps p.tables e below (T3.setTop (mkF m 19 #[.val (.ref a1), .val (.long tm), .second, .val (.int (1 : Int32)), .unset] [(.int (0 : Int32)), (.ref ar)])) _
    refine XS.iloadN X3.here hx rfl (hb hby d_p25_m6_19) rfl ?_
    show Steps p.tables e below (T3.setTop (mkF m 20 #[.val (.ref a1), .val (.long tm), .second, .val (.int (1 : Int32)), .unset] [(.int (1 : Int32)), (.int (0 : Int32)), (.ref ar)])) _
    refine XS.iadd X3.here hx rfl (hb hby d_p25_m6_20) rfl ?_
    show Steps p.tables e below (T3.setTop (mkF m 21 #[.val (.ref a1), .val (.long tm), .second, .val (.int (1 : Int32)), .unset] [(.int (1 : Int32)), (.ref ar)])) _
    refine XS.aloadN X3.here hx rfl (hb hby d_p25_m6_21) rfl rfl ?_
    exact k
  refine Go.getF X3 hx hZ hown (wd hw 25 rfl) Via.refl e3 F_a1_times (hb hby d_p25_m6_22) ?_
  intro T4 X4 e4
  show Go p e below _ T4 (mkF m 25 #[.val (.ref a1), .val (.long tm), .second, .val (.int (1 : Int32)), .unset] [(.ref ar), (.int (1 : Int32)), (.ref ar)])
  refine Go.alenV X4 hx hZ e4 V_ar (hb hby d_p25_m6_25) ?_
  show Go p e below _ T4 (mkF m 26 #[.val (.ref a1), .val (.long tm), .second, .val (.int (1 : Int32)), .unset] [(.int (16 : Int32)), (.int (1 : Int32)), (.ref ar)])
  refine Go.by (T' := T4) (g' := (mkF m 27 #[.val (.ref a1), .val (.long tm), .second, .val (.int (1 : Int32)), .unset] [(.int (1 : Int32)), (.ref ar)])) (fun t k => ?_) ?_
  · show Steps p.tables e below (T4.setTop (mkF m 26 #[.val (.ref a1), .val (.long tm), .second, .val (.int (1 : Int32)), .unset] [(.int (16 : Int32)), (.int (1 : Int32)), (.ref ar)])) _
    refine iremM X4 hx rfl (hb hby d_p25_m6_26) rfl (by decide) ?_
    exact k
  refine Go.aloadV X4 hx hZ e4 V_ar (j := (1 : Int32)) (v := (.long x1)) ⟨by decide, by decide⟩ rfl (Or.inr (Or.inl ⟨rfl, rfl⟩)) (hb hby d_p25_m6_27) ?_
  show Go p e below _ T4 (mkF m 28 #[.val (.ref a1), .val (.long tm), .second, .val (.int (1 : Int32)), .unset] [(.long x1)])
  refine Go.by (T' := T4) (g' := (mkF m 12 #[.val (.ref a1), .val (.long tm), .second, .val (.int (0 : Int32)), .unset] [(.ref a1)])) (fun t k => ?_) ?_
  · show Steps p.tables e below (T4.setTop (mkF m 28 #[.val (.ref a1), .val (.long tm), .second, .val (.int (1 : Int32)), .unset] [(.long x1)])) _
    refine XS.lloadN X4.here hx rfl (hb hby d_p25_m6_28) rfl ?_
    show Steps p.tables e below (T4.setTop (mkF m 29 #[.val (.ref a1), .val (.long tm), .second, .val (.int (1 : Int32)), .unset] [(.long tm), (.long x1)])) _
    refine XS.lcmp X4.here hx rfl (hb hby d_p25_m6_29) rfl ?_
    show Steps p.tables e below (T4.setTop (mkF m 30 #[.val (.ref a1), .val (.long tm), .second, .val (.int (1 : Int32)), .unset] [(.int (lcmpW x1 tm))])) _
    refine XS.ifYes X4.here hx rfl (pc0 := 30) (pc' := 102) rfl (hb hby d_p25_m6_30) rfl ((if0 _ _).trans (feq (fun q => hr1 ((lw_eq _ _).mp q))).2) (by decide) (by decide) ?_
    show Steps p.tables e below (T4.setTop (mkF m 102 #[.val (.ref a1), .val (.long tm), .second, .val (.int (1 : Int32)), .unset] [])) _
    refine XS.iinc X4.here hx rfl (hb hby d_p25_m6_102) rfl (l' := #[.val (.ref a1), .val (.long tm), .second, .val (.int (0 : Int32)), .unset]) rfl ?_
    show Steps p.tables e below (T4.setTop (mkF m 105 #[.val (.ref a1), .val (.long tm), .second, .val (.int (0 : Int32)), .unset] [])) _
    refine XS.goto X4.here hx rfl (pc0 := 105) (pc' := 7) rfl (hb hby d_p25_m6_105) (by decide) (by decide) ?_
    show Steps p.tables e below (T4.setTop (mkF m 7 #[.val (.ref a1), .val (.long tm), .second, .val (.int (0 : Int32)), .unset] [])) _
    refine XS.iloadN X4.here hx rfl (hb hby d_p25_m6_7) rfl ?_
    show Steps p.tables e below (T4.setTop (mkF m 8 #[.val (.ref a1), .val (.long tm), .second, .val (.int (0 : Int32)), .unset] [(.int (0 : Int32))])) _
    refine XS.ifNo X4.here hx rfl (hb hby d_p25_m6_8) rfl ((if0 _ _).trans (flt (by decide : ¬ (0 : Int32) < (0 : Int32))).1) ?_
    show Steps p.tables e below (T4.setTop (mkF m 11 #[.val (.ref a1), .val (.long tm), .second, .val (.int (0 : Int32)), .unset] [])) _
    refine XS.aloadN X4.here hx rfl (hb hby d_p25_m6_11) rfl rfl ?_
    exact k
  refine Go.getF X4 hx hZ hown (wd hw 25 rfl) Via.refl e4 F_a1_times (hb hby d_p25_m6_12) ?_
  intro T5 X5 e5
  show Go p e below _ T5 (mkF m 15 #[.val (.ref a1), .val (.long tm), .second, .val (.int (0 : Int32)), .unset] [(.ref ar)])
  refine Go.by (T' := T5) (g' := (mkF m 16 #[.val (.ref a1), .val (.long tm), .second, .val (.int (0 : Int32)), .unset] [(.ref a1), (.ref ar)])) (fun t k => ?_) ?_
  · show Steps p.tables e below (T5.setTop (mkF m 15 #[.val (.ref a1), .val (.long tm), .second, .val (.int (0 : Int32)), .unset] [(.ref ar)])) _
    refine XS.aloadN X5.here hx rfl (hb hby d_p25_m6_15) rfl rfl ?_
    exact k
  refine Go.getF X5 hx hZ hown (wd hw 62 rfl) Via.refl e5 F_a1_head (hb hby d_p25_m6_16) ?_
  intro T6 X6 e6
  show Go p e below _ T6 (mkF m 19 #[.val (.ref a1), .val (.long tm), .second, .val (.int (0 : Int32)), .unset] [(.int (0 : Int32)), (.ref ar)])
  refine Go.by (T' := T6) (g' := (mkF m 22 #[.val (.ref a1), .val (.long tm), .second, .val (.int (0 : Int32)), .unset] [(.ref a1), (.int (0 : Int32)), (.ref ar)])) (fun t k => ?_) ?_
  · show Steps p.tables e below (T6.setTop (mkF m 19 #[.val (.ref a1), .val (.long tm), .second, .val (.int (0 : Int32)), .unset] [(.int (0 : Int32)), (.ref ar)])) _
    refine XS.iloadN X6.here hx rfl (hb hby d_p25_m6_19) rfl ?_
    show Steps p.tables e below (T6.setTop (mkF m 20 #[.val (.ref a1), .val (.long tm), .second, .val (.int (0 : Int32)), .unset] [(.int (0 : Int32)), (.int (0 : Int32)), (.ref ar)])) _
    refine XS.iadd X6.here hx rfl (hb hby d_p25_m6_20) rfl ?_
    show Steps p.tables e below (T6.setTop (mkF m 21 #[.val (.ref a1), .val (.long tm), .second, .val (.int (0 : Int32)), .unset] [(.int (0 : Int32)), (.ref ar)])) _
    refine XS.aloadN X6.here hx rfl (hb hby d_p25_m6_21) rfl rfl ?_
    exact k
  refine Go.getF X6 hx hZ hown (wd hw 25 rfl) Via.refl e6 F_a1_times (hb hby d_p25_m6_22) ?_
  intro T7 X7 e7
  show Go p e below _ T7 (mkF m 25 #[.val (.ref a1), .val (.long tm), .second, .val (.int (0 : Int32)), .unset] [(.ref ar), (.int (0 : Int32)), (.ref ar)])
  refine Go.alenV X7 hx hZ e7 V_ar (hb hby d_p25_m6_25) ?_
  show Go p e below _ T7 (mkF m 26 #[.val (.ref a1), .val (.long tm), .second, .val (.int (0 : Int32)), .unset] [(.int (16 : Int32)), (.int (0 : Int32)), (.ref ar)])
  refine Go.by (T' := T7) (g' := (mkF m 27 #[.val (.ref a1), .val (.long tm), .second, .val (.int (0 : Int32)), .unset] [(.int (0 : Int32)), (.ref ar)])) (fun t k => ?_) ?_
  · show Steps p.tables e below (T7.setTop (mkF m 26 #[.val (.ref a1), .val (.long tm), .second, .val (.int (0 : Int32)), .unset] [(.int (16 : Int32)), (.int (0 : Int32)), (.ref ar)])) _
    refine iremM X7 hx rfl (hb hby d_p25_m6_26) rfl (by decide) ?_
    exact k
  refine Go.aloadV X7 hx hZ e7 V_ar (j := (0 : Int32)) (v := (.long x0)) ⟨by decide, by decide⟩ rfl (Or.inr (Or.inl ⟨rfl, rfl⟩)) (hb hby d_p25_m6_27) ?_
  show Go p e below _ T7 (mkF m 28 #[.val (.ref a1), .val (.long tm), .second, .val (.int (0 : Int32)), .unset] [(.long x0)])
  refine Go.by (T' := T7) (g' := (mkF m 39 #[.val (.ref a1), .val (.long tm), .second, .val (.int (0 : Int32)), .val (.int (0 : Int32))] [(.ref a1), (.int (0 : Int32))])) (fun t k => ?_) ?_
  · show Steps p.tables e below (T7.setTop (mkF m 28 #[.val (.ref a1), .val (.long tm), .second, .val (.int (0 : Int32)), .unset] [(.long x0)])) _
    refine XS.lloadN X7.here hx rfl (hb hby d_p25_m6_28) rfl ?_
    show Steps p.tables e below (T7.setTop (mkF m 29 #[.val (.ref a1), .val (.long tm), .second, .val (.int (0 : Int32)), .unset] [(.long tm), (.long x0)])) _
    refine XS.lcmp X7.here hx rfl (hb hby d_p25_m6_29) rfl ?_
    show Steps p.tables e below (T7.setTop (mkF m 30 #[.val (.ref a1), .val (.long tm), .second, .val (.int (0 : Int32)), .unset] [(.int (lcmpW x0 tm))])) _
    refine XS.ifNo X7.here hx rfl (hb hby d_p25_m6_30) rfl ((if0 _ _).trans (teq ((lw_eq _ _).mpr hr0)).2) ?_
    show Steps p.tables e below (T7.setTop (mkF m 33 #[.val (.ref a1), .val (.long tm), .second, .val (.int (0 : Int32)), .unset] [])) _
    refine XS.iloadN X7.here hx rfl (hb hby d_p25_m6_33) rfl ?_
    show Steps p.tables e below (T7.setTop (mkF m 34 #[.val (.ref a1), .val (.long tm), .second, .val (.int (0 : Int32)), .unset] [(.int (0 : Int32))])) _
    refine XS.istore X7.here hx rfl (hb hby d_p25_m6_34) rfl (l' := #[.val (.ref a1), .val (.long tm), .second, .val (.int (0 : Int32)), .val (.int (0 : Int32))]) rfl ?_
    show Steps p.tables e below (T7.setTop (mkF m 36 #[.val (.ref a1), .val (.long tm), .second, .val (.int (0 : Int32)), .val (.int (0 : Int32))] [])) _
    refine XS.iload X7.here hx rfl (hb hby d_p25_m6_36) rfl ?_
    show Steps p.tables e below (T7.setTop (mkF m 38 #[.val (.ref a1), .val (.long tm), .second, .val (.int (0 : Int32)), .val (.int (0 : Int32))] [(.int (0 : Int32))])) _
    refine XS.aloadN X7.here hx rfl (hb hby d_p25_m6_38) rfl rfl ?_
    exact k
  refine Go.getF X7 hx hZ hown (wd hw 55 rfl) Via.refl e7 F_a1_count (hb hby d_p25_m6_39) ?_
  intro T8 X8 e8
  show Go p e below _ T8 (mkF m 42 #[.val (.ref a1), .val (.long tm), .second, .val (.int (0 : Int32)), .val (.int (0 : Int32))] [(.int (2 : Int32)), (.int (0 : Int32))])
  refine Go.by (T' := T8) (g' := (mkF m 48 #[.val (.ref a1), .val (.long tm), .second, .val (.int (0 : Int32)), .val (.int (0 : Int32))] [(.ref a1)])) (fun t k => ?_) ?_
  · show Steps p.tables e below (T8.setTop (mkF m 42 #[.val (.ref a1), .val (.long tm), .second, .val (.int (0 : Int32)), .val (.int (0 : Int32))] [(.int (2 : Int32)), (.int (0 : Int32))])) _
    refine XS.iconst X8.here hx rfl (hb hby d_p25_m6_42) ?_
    show Steps p.tables e below (T8.setTop (mkF m 43 #[.val (.ref a1), .val (.long tm), .second, .val (.int (0 : Int32)), .val (.int (0 : Int32))] [(.int (1 : Int32)), (.int (2 : Int32)), (.int (0 : Int32))])) _
    refine XS.isub X8.here hx rfl (hb hby d_p25_m6_43) rfl ?_
    show Steps p.tables e below (T8.setTop (mkF m 44 #[.val (.ref a1), .val (.long tm), .second, .val (.int (0 : Int32)), .val (.int (0 : Int32))] [(.int (1 : Int32)), (.int (0 : Int32))])) _
    refine XS.icmpNo X8.here hx rfl (hb hby d_p25_m6_44) rfl (tlt (by decide : (0 : Int32) < (1 : Int32))).2.1 ?_
    show Steps p.tables e below (T8.setTop (mkF m 47 #[.val (.ref a1), .val (.long tm), .second, .val (.int (0 : Int32)), .val (.int (0 : Int32))] [])) _
    refine XS.aloadN X8.here hx rfl (hb hby d_p25_m6_47) rfl rfl ?_
    exact k
  refine Go.getF X8 hx hZ hown (wd hw 25 rfl) Via.refl e8 F_a1_times (hb hby d_p25_m6_48) ?_
  intro T9 X9 e9
  show Go p e below _ T9 (mkF m 51 #[.val (.ref a1), .val (.long tm), .second, .val (.int (0 : Int32)), .val (.int (0 : Int32))] [(.ref ar)])
  refine Go.by (T' := T9) (g' := (mkF m 52 #[.val (.ref a1), .val (.long tm), .second, .val (.int (0 : Int32)), .val (.int (0 : Int32))] [(.ref a1), (.ref ar)])) (fun t k => ?_) ?_
  · show Steps p.tables e below (T9.setTop (mkF m 51 #[.val (.ref a1), .val (.long tm), .second, .val (.int (0 : Int32)), .val (.int (0 : Int32))] [(.ref ar)])) _
    refine XS.aloadN X9.here hx rfl (hb hby d_p25_m6_51) rfl rfl ?_
    exact k
  refine Go.getF X9 hx hZ hown (wd hw 62 rfl) Via.refl e9 F_a1_head (hb hby d_p25_m6_52) ?_
  intro T10 X10 e10
  show Go p e below _ T10 (mkF m 55 #[.val (.ref a1), .val (.long tm), .second, .val (.int (0 : Int32)), .val (.int (0 : Int32))] [(.int (0 : Int32)), (.ref ar)])
  refine Go.by (T' := T10) (g' := (mkF m 59 #[.val (.ref a1), .val (.long tm), .second, .val (.int (0 : Int32)), .val (.int (0 : Int32))] [(.ref a1), (.int (0 : Int32)), (.ref ar)])) (fun t k => ?_) ?_
  · show Steps p.tables e below (T10.setTop (mkF m 55 #[.val (.ref a1), .val (.long tm), .second, .val (.int (0 : Int32)), .val (.int (0 : Int32))] [(.int (0 : Int32)), (.ref ar)])) _
    refine XS.iload X10.here hx rfl (hb hby d_p25_m6_55) rfl ?_
    show Steps p.tables e below (T10.setTop (mkF m 57 #[.val (.ref a1), .val (.long tm), .second, .val (.int (0 : Int32)), .val (.int (0 : Int32))] [(.int (0 : Int32)), (.int (0 : Int32)), (.ref ar)])) _
    refine XS.iadd X10.here hx rfl (hb hby d_p25_m6_57) rfl ?_
    show Steps p.tables e below (T10.setTop (mkF m 58 #[.val (.ref a1), .val (.long tm), .second, .val (.int (0 : Int32)), .val (.int (0 : Int32))] [(.int (0 : Int32)), (.ref ar)])) _
    refine XS.aloadN X10.here hx rfl (hb hby d_p25_m6_58) rfl rfl ?_
    exact k
  refine Go.getF X10 hx hZ hown (wd hw 25 rfl) Via.refl e10 F_a1_times (hb hby d_p25_m6_59) ?_
  intro T11 X11 e11
  show Go p e below _ T11 (mkF m 62 #[.val (.ref a1), .val (.long tm), .second, .val (.int (0 : Int32)), .val (.int (0 : Int32))] [(.ref ar), (.int (0 : Int32)), (.ref ar)])
  refine Go.alenV X11 hx hZ e11 V_ar (hb hby d_p25_m6_62) ?_
  show Go p e below _ T11 (mkF m 63 #[.val (.ref a1), .val (.long tm), .second, .val (.int (0 : Int32)), .val (.int (0 : Int32))] [(.int (16 : Int32)), (.int (0 : Int32)), (.ref ar)])
  refine Go.by (T' := T11) (g' := (mkF m 65 #[.val (.ref a1), .val (.long tm), .second, .val (.int (0 : Int32)), .val (.int (0 : Int32))] [(.ref a1), (.int (0 : Int32)), (.ref ar)])) (fun t k => ?_) ?_
  · show Steps p.tables e below (T11.setTop (mkF m 63 #[.val (.ref a1), .val (.long tm), .second, .val (.int (0 : Int32)), .val (.int (0 : Int32))] [(.int (16 : Int32)), (.int (0 : Int32)), (.ref ar)])) _
    refine iremM X11 hx rfl (hb hby d_p25_m6_63) rfl (by decide) ?_
    show Steps p.tables e below (T11.setTop (mkF m 64 #[.val (.ref a1), .val (.long tm), .second, .val (.int (0 : Int32)), .val (.int (0 : Int32))] [(.int (0 : Int32)), (.ref ar)])) _
    refine XS.aloadN X11.here hx rfl (hb hby d_p25_m6_64) rfl rfl ?_
    exact k
  refine Go.getF X11 hx hZ hown (wd hw 25 rfl) Via.refl e11 F_a1_times (hb hby d_p25_m6_65) ?_
  intro T12 X12 e12
  show Go p e below _ T12 (mkF m 68 #[.val (.ref a1), .val (.long tm), .second, .val (.int (0 : Int32)), .val (.int (0 : Int32))] [(.ref ar), (.int (0 : Int32)), (.ref ar)])
  refine Go.by (T' := T12) (g' := (mkF m 69 #[.val (.ref a1), .val (.long tm), .second, .val (.int (0 : Int32)), .val (.int (0 : Int32))] [(.ref a1), (.ref ar), (.int (0 : Int32)), (.ref ar)])) (fun t k => ?_) ?_
  · show Steps p.tables e below (T12.setTop (mkF m 68 #[.val (.ref a1), .val (.long tm), .second, .val (.int (0 : Int32)), .val (.int (0 : Int32))] [(.ref ar), (.int (0 : Int32)), (.ref ar)])) _
    refine XS.aloadN X12.here hx rfl (hb hby d_p25_m6_68) rfl rfl ?_
    exact k
  refine Go.getF X12 hx hZ hown (wd hw 62 rfl) Via.refl e12 F_a1_head (hb hby d_p25_m6_69) ?_
  intro T13 X13 e13
  show Go p e below _ T13 (mkF m 72 #[.val (.ref a1), .val (.long tm), .second, .val (.int (0 : Int32)), .val (.int (0 : Int32))] [(.int (0 : Int32)), (.ref ar), (.int (0 : Int32)), (.ref ar)])
  refine Go.by (T' := T13) (g' := (mkF m 78 #[.val (.ref a1), .val (.long tm), .second, .val (.int (0 : Int32)), .val (.int (0 : Int32))] [(.ref a1), (.int (1 : Int32)), (.ref ar), (.int (0 : Int32)), (.ref ar)])) (fun t k => ?_) ?_
  · show Steps p.tables e below (T13.setTop (mkF m 72 #[.val (.ref a1), .val (.long tm), .second, .val (.int (0 : Int32)), .val (.int (0 : Int32))] [(.int (0 : Int32)), (.ref ar), (.int (0 : Int32)), (.ref ar)])) _
    refine XS.iload X13.here hx rfl (hb hby d_p25_m6_72) rfl ?_
    show Steps p.tables e below (T13.setTop (mkF m 74 #[.val (.ref a1), .val (.long tm), .second, .val (.int (0 : Int32)), .val (.int (0 : Int32))] [(.int (0 : Int32)), (.int (0 : Int32)), (.ref ar), (.int (0 : Int32)), (.ref ar)])) _
    refine XS.iadd X13.here hx rfl (hb hby d_p25_m6_74) rfl ?_
    show Steps p.tables e below (T13.setTop (mkF m 75 #[.val (.ref a1), .val (.long tm), .second, .val (.int (0 : Int32)), .val (.int (0 : Int32))] [(.int (0 : Int32)), (.ref ar), (.int (0 : Int32)), (.ref ar)])) _
    refine XS.iconst X13.here hx rfl (hb hby d_p25_m6_75) ?_
    show Steps p.tables e below (T13.setTop (mkF m 76 #[.val (.ref a1), .val (.long tm), .second, .val (.int (0 : Int32)), .val (.int (0 : Int32))] [(.int (1 : Int32)), (.int (0 : Int32)), (.ref ar), (.int (0 : Int32)), (.ref ar)])) _
    refine XS.iadd X13.here hx rfl (hb hby d_p25_m6_76) rfl ?_
    show Steps p.tables e below (T13.setTop (mkF m 77 #[.val (.ref a1), .val (.long tm), .second, .val (.int (0 : Int32)), .val (.int (0 : Int32))] [(.int (1 : Int32)), (.ref ar), (.int (0 : Int32)), (.ref ar)])) _
    refine XS.aloadN X13.here hx rfl (hb hby d_p25_m6_77) rfl rfl ?_
    exact k
  refine Go.getF X13 hx hZ hown (wd hw 25 rfl) Via.refl e13 F_a1_times (hb hby d_p25_m6_78) ?_
  intro T14 X14 e14
  show Go p e below _ T14 (mkF m 81 #[.val (.ref a1), .val (.long tm), .second, .val (.int (0 : Int32)), .val (.int (0 : Int32))] [(.ref ar), (.int (1 : Int32)), (.ref ar), (.int (0 : Int32)), (.ref ar)])
  refine Go.alenV X14 hx hZ e14 V_ar (hb hby d_p25_m6_81) ?_
  show Go p e below _ T14 (mkF m 82 #[.val (.ref a1), .val (.long tm), .second, .val (.int (0 : Int32)), .val (.int (0 : Int32))] [(.int (16 : Int32)), (.int (1 : Int32)), (.ref ar), (.int (0 : Int32)), (.ref ar)])
  refine Go.by (T' := T14) (g' := (mkF m 83 #[.val (.ref a1), .val (.long tm), .second, .val (.int (0 : Int32)), .val (.int (0 : Int32))] [(.int (1 : Int32)), (.ref ar), (.int (0 : Int32)), (.ref ar)])) (fun t k => ?_) ?_
  · show Steps p.tables e below (T14.setTop (mkF m 82 #[.val (.ref a1), .val (.long tm), .second, .val (.int (0 : Int32)), .val (.int (0 : Int32))] [(.int (16 : Int32)), (.int (1 : Int32)), (.ref ar), (.int (0 : Int32)), (.ref ar)])) _
    refine iremM X14 hx rfl (hb hby d_p25_m6_82) rfl (by decide) ?_
    exact k
  refine Go.aloadV X14 hx hZ e14 V_ar (j := (1 : Int32)) (v := (.long x1)) ⟨by decide, by decide⟩ rfl (Or.inr (Or.inl ⟨rfl, rfl⟩)) (hb hby d_p25_m6_83) ?_
  show Go p e below _ T14 (mkF m 84 #[.val (.ref a1), .val (.long tm), .second, .val (.int (0 : Int32)), .val (.int (0 : Int32))] [(.long x1), (.int (0 : Int32)), (.ref ar)])
  refine Go.jstV X14 hx hZ e14 V_ar (j := (0 : Int32)) (x := x1) ⟨by decide, by decide⟩ 0 rfl (Nat.le_of_ble_eq_true rfl) (hb hby d_p25_m6_84) ?_
  intro T15 h15 X15 e15 W15 Vn15
  replace E_a1 := E_a1.wr W15
  replace F_a1_windowNanos := F_a1_windowNanos.other W15 (Or.inl ne_a1_ar)
  replace F_a1_times := F_a1_times.other W15 (Or.inl ne_a1_ar)
  replace F_a1_head := F_a1_head.other W15 (Or.inl ne_a1_ar)
  replace F_a1_count := F_a1_count.other W15 (Or.inl ne_a1_ar)
  replace F_a1_now := F_a1_now.other W15 (Or.inl ne_a1_ar)
  replace O := O.wr W15 g_ar
  have N15 := Fr.snoc X15 N0 g_ar
  replace K := K.wr W15 (Or.inl (List.mem_of_getElem? (i := 1) rfl))
  replace V_ar : Arv Z h15 ar kA .long (16 : Int32) [(.long x1), (.long x1), (.long x2)] (.long (0 : Int64)) := Vn15
  clear Vn15
  show Go p e below _ T15 (mkF m 85 #[.val (.ref a1), .val (.long tm), .second, .val (.int (0 : Int32)), .val (.int (0 : Int32))] [])
  refine Go.by (T' := T15) (g' := (mkF m 39 #[.val (.ref a1), .val (.long tm), .second, .val (.int (0 : Int32)), .val (.int (1 : Int32))] [(.ref a1), (.int (1 : Int32))])) (fun t k => ?_) ?_
  · show Steps p.tables e below (T15.setTop (mkF m 85 #[.val (.ref a1), .val (.long tm), .second, .val (.int (0 : Int32)), .val (.int (0 : Int32))] [])) _
    refine XS.iinc X15.here hx rfl (hb hby d_p25_m6_85) rfl (l' := #[.val (.ref a1), .val (.long tm), .second, .val (.int (0 : Int32)), .val (.int (1 : Int32))]) rfl ?_
    show Steps p.tables e below (T15.setTop (mkF m 88 #[.val (.ref a1), .val (.long tm), .second, .val (.int (0 : Int32)), .val (.int (1 : Int32))] [])) _
    refine XS.goto X15.here hx rfl (pc0 := 88) (pc' := 36) rfl (hb hby d_p25_m6_88) (by decide) (by decide) ?_
    show Steps p.tables e below (T15.setTop (mkF m 36 #[.val (.ref a1), .val (.long tm), .second, .val (.int (0 : Int32)), .val (.int (1 : Int32))] [])) _
    refine XS.iload X15.here hx rfl (hb hby d_p25_m6_36) rfl ?_
    show Steps p.tables e below (T15.setTop (mkF m 38 #[.val (.ref a1), .val (.long tm), .second, .val (.int (0 : Int32)), .val (.int (1 : Int32))] [(.int (1 : Int32))])) _
    refine XS.aloadN X15.here hx rfl (hb hby d_p25_m6_38) rfl rfl ?_
    exact k
  refine Go.getF X15 hx hZ hown (wd hw 55 rfl) Via.refl e15 F_a1_count (hb hby d_p25_m6_39) ?_
  intro T16 X16 e16
  show Go p e below _ T16 (mkF m 42 #[.val (.ref a1), .val (.long tm), .second, .val (.int (0 : Int32)), .val (.int (1 : Int32))] [(.int (2 : Int32)), (.int (1 : Int32))])
  refine Go.by (T' := T16) (g' := (mkF m 93 #[.val (.ref a1), .val (.long tm), .second, .val (.int (0 : Int32)), .val (.int (1 : Int32))] [(.ref a1), (.ref a1)])) (fun t k => ?_) ?_
  · show Steps p.tables e below (T16.setTop (mkF m 42 #[.val (.ref a1), .val (.long tm), .second, .val (.int (0 : Int32)), .val (.int (1 : Int32))] [(.int (2 : Int32)), (.int (1 : Int32))])) _
    refine XS.iconst X16.here hx rfl (hb hby d_p25_m6_42) ?_
    show Steps p.tables e below (T16.setTop (mkF m 43 #[.val (.ref a1), .val (.long tm), .second, .val (.int (0 : Int32)), .val (.int (1 : Int32))] [(.int (1 : Int32)), (.int (2 : Int32)), (.int (1 : Int32))])) _
    refine XS.isub X16.here hx rfl (hb hby d_p25_m6_43) rfl ?_
    show Steps p.tables e below (T16.setTop (mkF m 44 #[.val (.ref a1), .val (.long tm), .second, .val (.int (0 : Int32)), .val (.int (1 : Int32))] [(.int (1 : Int32)), (.int (1 : Int32))])) _
    refine XS.icmpYes X16.here hx rfl (pc0 := 44) (pc' := 91) rfl (hb hby d_p25_m6_44) rfl (flt (by decide : ¬ (1 : Int32) < (1 : Int32))).2.1 (by decide) (by decide) ?_
    show Steps p.tables e below (T16.setTop (mkF m 91 #[.val (.ref a1), .val (.long tm), .second, .val (.int (0 : Int32)), .val (.int (1 : Int32))] [])) _
    refine XS.aloadN X16.here hx rfl (hb hby d_p25_m6_91) rfl rfl ?_
    show Steps p.tables e below (T16.setTop (mkF m 92 #[.val (.ref a1), .val (.long tm), .second, .val (.int (0 : Int32)), .val (.int (1 : Int32))] [(.ref a1)])) _
    refine XS.dup X16.here hx rfl (hb hby d_p25_m6_92) rfl rfl ?_
    exact k
  refine Go.getF X16 hx hZ hown (wd hw 55 rfl) Via.refl e16 F_a1_count (hb hby d_p25_m6_93) ?_
  intro T17 X17 e17
  show Go p e below _ T17 (mkF m 96 #[.val (.ref a1), .val (.long tm), .second, .val (.int (0 : Int32)), .val (.int (1 : Int32))] [(.int (2 : Int32)), (.ref a1)])
  refine Go.by (T' := T17) (g' := (mkF m 98 #[.val (.ref a1), .val (.long tm), .second, .val (.int (0 : Int32)), .val (.int (1 : Int32))] [(.int (1 : Int32)), (.ref a1)])) (fun t k => ?_) ?_
  · show Steps p.tables e below (T17.setTop (mkF m 96 #[.val (.ref a1), .val (.long tm), .second, .val (.int (0 : Int32)), .val (.int (1 : Int32))] [(.int (2 : Int32)), (.ref a1)])) _
    refine XS.iconst X17.here hx rfl (hb hby d_p25_m6_96) ?_
    show Steps p.tables e below (T17.setTop (mkF m 97 #[.val (.ref a1), .val (.long tm), .second, .val (.int (0 : Int32)), .val (.int (1 : Int32))] [(.int (1 : Int32)), (.int (2 : Int32)), (.ref a1)])) _
    refine XS.isub X17.here hx rfl (hb hby d_p25_m6_97) rfl ?_
    exact k
  refine Go.putF X17 hx hZ hown (wd hw 55 rfl) Via.refl e17 F_a1_count E_a1 (Or.inl (wd hw 56 rfl)) (wd hw 4 rfl) (ty := .int) (by decide) rfl rfl (hb hby d_p25_m6_98) ?_
  intro T18 h18 X18 e18 W18
  replace E_a1 := E_a1.wr W18
  replace F_a1_windowNanos := F_a1_windowNanos.other W18 (Or.inr (slot_ne (a0 := a0) (Or.inr (wd hw 49 rfl)) (Or.inl (wd hw 56 rfl)) (by decide) (t := .long) (t' := .int) (by decide) (by decide)))
  replace F_a1_times := F_a1_times.other W18 (Or.inr (slot_ne (a0 := a0) (Or.inl (wd hw 26 rfl)) (Or.inl (wd hw 56 rfl)) (by decide) (t := (.array .long)) (t' := .int) (by decide) (by decide)))
  replace F_a1_head := F_a1_head.other W18 (Or.inr (slot_ne (a0 := a0) (Or.inl (wd hw 63 rfl)) (Or.inl (wd hw 56 rfl)) (by decide) (t := .int) (t' := .int) (by decide) (by decide)))
  replace F_a1_count := F_a1_count.same W18
  replace F_a1_now := F_a1_now.other W18 (Or.inr (slot_ne (a0 := a0) (Or.inl (wd hw 29 rfl)) (Or.inl (wd hw 56 rfl)) (by decide) (t := .long) (t' := .int) (by decide) (by decide)))
  replace V_ar := V_ar.other W18 (Ne.symm ne_a1_ar)
  replace O := O.wr W18 g_a1
  have N18 := Fr.snoc X18 N15 g_a1
  replace K := K.wr W18 (Or.inl (List.mem_of_getElem? (i := 0) rfl))
  show Go p e below _ T18 (mkF m 101 #[.val (.ref a1), .val (.long tm), .second, .val (.int (0 : Int32)), .val (.int (1 : Int32))] [])
  refine Go.retV X18 hx hlk hret (hb hby d_p25_m6_101) (by decide) (by decide) e18 ?_
  exact ⟨rfl, N18, K, F_a1_windowNanos, F_a1_times, F_a1_head, F_a1_count, F_a1_now, V_ar⟩
set_option maxRecDepth 65536 in
set_option maxHeartbeats 40000000 in
theorem ct_move_0_2_1 (l : Launch) (Z : State) (a0 : Array Value) (hw : ∀ d ∈ tables_1, d.before a0 Z = true) (w_MS : Addr) (S_MS : Sta Z Z.heap "java/util/concurrent/TimeUnit" "MILLISECONDS" "Ljava/util/concurrent/TimeUnit;" (.ref w_MS)) (E_MS : Exa Z Z.heap w_MS "java/util/concurrent/TimeUnit") (F_MS1 : Fld Z Z.heap w_MS "java/util/concurrent/TimeUnit" "scale" "J" (.long 1000000)) (F_MS2 : Fld Z Z.heap w_MS "java/util/concurrent/TimeUnit" "maxNanos" "J" (.long 9223372036854)) (a1 : Addr) (ar : Addr) (kA : ClassId) (wn : Int64) (nw : Int64) (x0 : Int64) (x1 : Int64) (x2 : Int64) (tm : Int64) (h0 : Heap) (n0 : Nat) (O : Old Z n0 h0) (E_a1 : Exa Z h0 a1 "com/example/breakwater/breakwater/OrderRateWindow") (F_a1_windowNanos : Fld Z h0 a1 "com/example/breakwater/breakwater/OrderRateWindow" "windowNanos" "J" (.long wn)) (F_a1_times : Fld Z h0 a1 "com/example/breakwater/breakwater/OrderRateWindow" "times" "[J" (.ref ar)) (F_a1_head : Fld Z h0 a1 "com/example/breakwater/breakwater/OrderRateWindow" "head" "I" (.int (0 : Int32))) (F_a1_count : Fld Z h0 a1 "com/example/breakwater/breakwater/OrderRateWindow" "count" "I" (.int (2 : Int32))) (F_a1_now : Fld Z h0 a1 "com/example/breakwater/breakwater/OrderRateWindow" "now" "J" (.long nw)) (V_ar : Arv Z h0 ar kA .long (16 : Int32) [(.long x0), (.long x1), (.long x2)] (.long (0 : Int64))) (g_a1 : n0 ≤ a1) (g_ar : n0 ≤ ar) (ne_a1_ar : a1 ≠ ar) (ht : ¬ tm < nw) (hq0 : ¬ (tm - x0) < wn) (hq1 : (tm - x1) < wn) :
    Ct l (⟨"com/example/breakwater/breakwater/OrderRateWindow", "moveTo", "(J)Z"⟩ : MethodName) prog_25_method_3_code 3 (some .boolean) ({ frames := 0, cells := 0, slots := 0, locals := 0 } : Room) Z #[(.ref a1), (.long tm)] h0 (fun v h L => v = some (.int 1) ∧ Fr n0 L ∧ Keep h0 h [a1, ar] ∧ Fld Z h a1 "com/example/breakwater/breakwater/OrderRateWindow" "windowNanos" "J" (.long wn) ∧ Fld Z h a1 "com/example/breakwater/breakwater/OrderRateWindow" "times" "[J" (.ref ar) ∧ Fld Z h a1 "com/example/breakwater/breakwater/OrderRateWindow" "head" "I" (.int (1 : Int32)) ∧ Fld Z h a1 "com/example/breakwater/breakwater/OrderRateWindow" "count" "I" (.int (1 : Int32)) ∧ Fld Z h a1 "com/example/breakwater/breakwater/OrderRateWindow" "now" "J" (.long tm) ∧ Arv Z h ar kA .long (16 : Int32) [(.long x0), (.long x1), (.long x2)] (.long (0 : Int64))) := by
  refine Ct.of (plainFor_of_name pn_OrderRateWindow_528) ?_
  intro p e s m below meth c T0 X0 hx hby hml hown hnm hret hlk hZ e0
  have hown : s.vm.findClass "com/example/breakwater/breakwater/OrderRateWindow" = some m.cls := hown
  have hml : c.maxLocals = 3 := hml
  have N0 := Fr.nil n0
  refine Go.cast (g' := mkF m 0 #[.val (.ref a1), .val (.long tm), .second] []) (by first | (simp [entryFrame, mkF, argsToLocals, Value.category]; done) | rfl) ?_
  have K : Keep h0 h0 [a1, ar] := Keep.refl _ _
  refine Go.by (T' := T0) (g' := (mkF m 2 #[.val (.ref a1), .val (.long tm), .second] [(.ref a1), (.long tm)])) (fun t k => ?_) ?_
  · show Steps p.tables e below (T0.setTop (mkF m 0 #[.val (.ref a1), .val (.long tm), .second] [])) _
    refine XS.lloadN X0.here hx rfl (hb hby d_p25_m3_0) rfl ?_
    show Steps p.tables e below (T0.setTop (mkF m 1 #[.val (.ref a1), .val (.long tm), .second] [(.long tm)])) _
    refine XS.aloadN X0.here hx rfl (hb hby d_p25_m3_1) rfl rfl ?_
    exact k
  refine Go.getF X0 hx hZ hown (wd hw 28 rfl) Via.refl e0 F_a1_now (hb hby d_p25_m3_2) ?_
  intro T1 X1 e1
  show Go p e below _ T1 (mkF m 5 #[.val (.ref a1), .val (.long tm), .second] [(.long nw), (.long tm)])
  refine Go.by (T' := T1) (g' := (mkF m 13 #[.val (.ref a1), .val (.long tm), .second] [(.long tm), (.ref a1)])) (fun t k => ?_) ?_
  · show Steps p.tables e below (T1.setTop (mkF m 5 #[.val (.ref a1), .val (.long tm), .second] [(.long nw), (.long tm)])) _
    refine XS.lcmp X1.here hx rfl (hb hby d_p25_m3_5) rfl ?_
    show Steps p.tables e below (T1.setTop (mkF m 6 #[.val (.ref a1), .val (.long tm), .second] [(.int (lcmpW tm nw))])) _
    refine XS.ifYes X1.here hx rfl (pc0 := 6) (pc' := 11) rfl (hb hby d_p25_m3_6) rfl ((if0 _ _).trans (flt (fun q => ht ((lw_lt _ _).mp q))).2.1) (by decide) (by decide) ?_
    show Steps p.tables e below (T1.setTop (mkF m 11 #[.val (.ref a1), .val (.long tm), .second] [])) _
    refine XS.aloadN X1.here hx rfl (hb hby d_p25_m3_11) rfl rfl ?_
    show Steps p.tables e below (T1.setTop (mkF m 12 #[.val (.ref a1), .val (.long tm), .second] [(.ref a1)])) _
    refine XS.lloadN X1.here hx rfl (hb hby d_p25_m3_12) rfl ?_
    exact k
  refine Go.putF X1 hx hZ hown (wd hw 28 rfl) Via.refl e1 F_a1_now E_a1 (Or.inl (wd hw 29 rfl)) (wd hw 4 rfl) (ty := .long) (by decide) rfl rfl (hb hby d_p25_m3_13) ?_
  intro T2 h2 X2 e2 W2
  replace E_a1 := E_a1.wr W2
  replace F_a1_windowNanos := F_a1_windowNanos.other W2 (Or.inr (slot_ne (a0 := a0) (Or.inr (wd hw 49 rfl)) (Or.inl (wd hw 29 rfl)) (by decide) (t := .long) (t' := .long) (by decide) (by decide)))
  replace F_a1_times := F_a1_times.other W2 (Or.inr (slot_ne (a0 := a0) (Or.inl (wd hw 26 rfl)) (Or.inl (wd hw 29 rfl)) (by decide) (t := (.array .long)) (t' := .long) (by decide) (by decide)))
  replace F_a1_head := F_a1_head.other W2 (Or.inr (slot_ne (a0 := a0) (Or.inl (wd hw 63 rfl)) (Or.inl (wd hw 29 rfl)) (by decide) (t := .int) (t' := .long) (by decide) (by decide)))
  replace F_a1_count := F_a1_count.other W2 (Or.inr (slot_ne (a0 := a0) (Or.inl (wd hw 56 rfl)) (Or.inl (wd hw 29 rfl)) (by decide) (t := .int) (t' := .long) (by decide) (by decide)))
  replace F_a1_now := F_a1_now.same W2
  replace V_ar := V_ar.other W2 (Ne.symm ne_a1_ar)
  replace O := O.wr W2 g_a1
  have N2 := Fr.snoc X2 N0 g_a1
  replace K := K.wr W2 (Or.inl (List.mem_of_getElem? (i := 0) rfl))
  show Go p e below _ T2 (mkF m 16 #[.val (.ref a1), .val (.long tm), .second] [])
  refine Go.by (T' := T2) (g' := (mkF m 17 #[.val (.ref a1), .val (.long tm), .second] [(.ref a1)])) (fun t k => ?_) ?_
  · show Steps p.tables e below (T2.setTop (mkF m 16 #[.val (.ref a1), .val (.long tm), .second] [])) _
    refine XS.aloadN X2.here hx rfl (hb hby d_p25_m3_16) rfl rfl ?_
    exact k
  refine Go.getF X2 hx hZ hown (wd hw 55 rfl) Via.refl e2 F_a1_count (hb hby d_p25_m3_17) ?_
  intro T3 X3 e3
  show Go p e below _ T3 (mkF m 20 #[.val (.ref a1), .val (.long tm), .second] [(.int (2 : Int32))])
  refine Go.by (T' := T3) (g' := (mkF m 24 #[.val (.ref a1), .val (.long tm), .second] [(.ref a1)])) (fun t k => ?_) ?_
  · show Steps p.tables e below (T3.setTop (mkF m 20 #[.val (.ref a1), .val (.long tm), .second] [(.int (2 : Int32))])) _
    refine XS.ifNo X3.here hx rfl (hb hby d_p25_m3_20) rfl ((if0 _ _).trans (tlt (by decide : (0 : Int32) < (2 : Int32))).2.2.2) ?_
    show Steps p.tables e below (T3.setTop (mkF m 23 #[.val (.ref a1), .val (.long tm), .second] [])) _
    refine XS.aloadN X3.here hx rfl (hb hby d_p25_m3_23) rfl rfl ?_
    exact k
  refine Go.getF X3 hx hZ hown (wd hw 28 rfl) Via.refl e3 F_a1_now (hb hby d_p25_m3_24) ?_
  intro T4 X4 e4
  show Go p e below _ T4 (mkF m 27 #[.val (.ref a1), .val (.long tm), .second] [(.long tm)])
  refine Go.by (T' := T4) (g' := (mkF m 28 #[.val (.ref a1), .val (.long tm), .second] [(.ref a1), (.long tm)])) (fun t k => ?_) ?_
  · show Steps p.tables e below (T4.setTop (mkF m 27 #[.val (.ref a1), .val (.long tm), .second] [(.long tm)])) _
    refine XS.aloadN X4.here hx rfl (hb hby d_p25_m3_27) rfl rfl ?_
    exact k
  refine Go.getF X4 hx hZ hown (wd hw 25 rfl) Via.refl e4 F_a1_times (hb hby d_p25_m3_28) ?_
  intro T5 X5 e5
  show Go p e below _ T5 (mkF m 31 #[.val (.ref a1), .val (.long tm), .second] [(.ref ar), (.long tm)])
  refine Go.by (T' := T5) (g' := (mkF m 32 #[.val (.ref a1), .val (.long tm), .second] [(.ref a1), (.ref ar), (.long tm)])) (fun t k => ?_) ?_
  · show Steps p.tables e below (T5.setTop (mkF m 31 #[.val (.ref a1), .val (.long tm), .second] [(.ref ar), (.long tm)])) _
    refine XS.aloadN X5.here hx rfl (hb hby d_p25_m3_31) rfl rfl ?_
    exact k
  refine Go.getF X5 hx hZ hown (wd hw 62 rfl) Via.refl e5 F_a1_head (hb hby d_p25_m3_32) ?_
  intro T6 X6 e6
  show Go p e below _ T6 (mkF m 35 #[.val (.ref a1), .val (.long tm), .second] [(.int (0 : Int32)), (.ref ar), (.long tm)])
  refine Go.aloadV X6 hx hZ e6 V_ar (j := (0 : Int32)) (v := (.long x0)) ⟨by decide, by decide⟩ rfl (Or.inr (Or.inl ⟨rfl, rfl⟩)) (hb hby d_p25_m3_35) ?_
  show Go p e below _ T6 (mkF m 36 #[.val (.ref a1), .val (.long tm), .second] [(.long x0), (.long tm)])
  refine Go.by (T' := T6) (g' := (mkF m 38 #[.val (.ref a1), .val (.long tm), .second] [(.ref a1), (.long (tm - x0))])) (fun t k => ?_) ?_
  · show Steps p.tables e below (T6.setTop (mkF m 36 #[.val (.ref a1), .val (.long tm), .second] [(.long x0), (.long tm)])) _
    refine XS.lsub X6.here hx rfl (hb hby d_p25_m3_36) rfl ?_
    show Steps p.tables e below (T6.setTop (mkF m 37 #[.val (.ref a1), .val (.long tm), .second] [(.long (tm - x0))])) _
    refine XS.aloadN X6.here hx rfl (hb hby d_p25_m3_37) rfl rfl ?_
    exact k
  refine Go.getF X6 hx hZ hown (wd hw 48 rfl) Via.refl e6 F_a1_windowNanos (hb hby d_p25_m3_38) ?_
  intro T7 X7 e7
  show Go p e below _ T7 (mkF m 41 #[.val (.ref a1), .val (.long tm), .second] [(.long wn), (.long (tm - x0))])
  refine Go.by (T' := T7) (g' := (mkF m 47 #[.val (.ref a1), .val (.long tm), .second] [(.ref a1), (.ref a1)])) (fun t k => ?_) ?_
  · show Steps p.tables e below (T7.setTop (mkF m 41 #[.val (.ref a1), .val (.long tm), .second] [(.long wn), (.long (tm - x0))])) _
    refine XS.lcmp X7.here hx rfl (hb hby d_p25_m3_41) rfl ?_
    show Steps p.tables e below (T7.setTop (mkF m 42 #[.val (.ref a1), .val (.long tm), .second] [(.int (lcmpW (tm - x0) wn))])) _
    refine XS.ifNo X7.here hx rfl (hb hby d_p25_m3_42) rfl ((if0 _ _).trans (flt (fun q => hq0 ((lw_lt _ _).mp q))).1) ?_
    show Steps p.tables e below (T7.setTop (mkF m 45 #[.val (.ref a1), .val (.long tm), .second] [])) _
    refine XS.aloadN X7.here hx rfl (hb hby d_p25_m3_45) rfl rfl ?_
    show Steps p.tables e below (T7.setTop (mkF m 46 #[.val (.ref a1), .val (.long tm), .second] [(.ref a1)])) _
    refine XS.aloadN X7.here hx rfl (hb hby d_p25_m3_46) rfl rfl ?_
    exact k
  refine Go.getF X7 hx hZ hown (wd hw 62 rfl) Via.refl e7 F_a1_head (hb hby d_p25_m3_47) ?_
  intro T8 X8 e8
  show Go p e below _ T8 (mkF m 50 #[.val (.ref a1), .val (.long tm), .second] [(.int (0 : Int32)), (.ref a1)])
  refine Go.by (T' := T8) (g' := (mkF m 53 #[.val (.ref a1), .val (.long tm), .second] [(.ref a1), (.int (1 : Int32)), (.ref a1)])) (fun t k => ?_) ?_
  · show Steps p.tables e below (T8.setTop (mkF m 50 #[.val (.ref a1), .val (.long tm), .second] [(.int (0 : Int32)), (.ref a1)])) _
    refine XS.iconst X8.here hx rfl (hb hby d_p25_m3_50) ?_
    show Steps p.tables e below (T8.setTop (mkF m 51 #[.val (.ref a1), .val (.long tm), .second] [(.int (1 : Int32)), (.int (0 : Int32)), (.ref a1)])) _
    refine XS.iadd X8.here hx rfl (hb hby d_p25_m3_51) rfl ?_
    show Steps p.tables e below (T8.setTop (mkF m 52 #[.val (.ref a1), .val (.long tm), .second] [(.int (1 : Int32)), (.ref a1)])) _
    refine XS.aloadN X8.here hx rfl (hb hby d_p25_m3_52) rfl rfl ?_
    exact k
  refine Go.getF X8 hx hZ hown (wd hw 25 rfl) Via.refl e8 F_a1_times (hb hby d_p25_m3_53) ?_
  intro T9 X9 e9
  show Go p e below _ T9 (mkF m 56 #[.val (.ref a1), .val (.long tm), .second] [(.ref ar), (.int (1 : Int32)), (.ref a1)])
  refine Go.alenV X9 hx hZ e9 V_ar (hb hby d_p25_m3_56) ?_
  show Go p e below _ T9 (mkF m 57 #[.val (.ref a1), .val (.long tm), .second] [(.int (16 : Int32)), (.int (1 : Int32)), (.ref a1)])
  refine Go.by (T' := T9) (g' := (mkF m 58 #[.val (.ref a1), .val (.long tm), .second] [(.int (1 : Int32)), (.ref a1)])) (fun t k => ?_) ?_
  · show Steps p.tables e below (T9.setTop (mkF m 57 #[.val (.ref a1), .val (.long tm), .second] [(.int (16 : Int32)), (.int (1 : Int32)), (.ref a1)])) _
    refine iremM X9 hx rfl (hb hby d_p25_m3_57) rfl (by decide) ?_
    exact k
  refine Go.putF X9 hx hZ hown (wd hw 62 rfl) Via.refl e9 F_a1_head E_a1 (Or.inl (wd hw 63 rfl)) (wd hw 4 rfl) (ty := .int) (by decide) rfl rfl (hb hby d_p25_m3_58) ?_
  intro T10 h10 X10 e10 W10
  replace E_a1 := E_a1.wr W10
  replace F_a1_windowNanos := F_a1_windowNanos.other W10 (Or.inr (slot_ne (a0 := a0) (Or.inr (wd hw 49 rfl)) (Or.inl (wd hw 63 rfl)) (by decide) (t := .long) (t' := .int) (by decide) (by decide)))
  replace F_a1_times := F_a1_times.other W10 (Or.inr (slot_ne (a0 := a0) (Or.inl (wd hw 26 rfl)) (Or.inl (wd hw 63 rfl)) (by decide) (t := (.array .long)) (t' := .int) (by decide) (by decide)))
  replace F_a1_head := F_a1_head.same W10
  replace F_a1_count := F_a1_count.other W10 (Or.inr (slot_ne (a0 := a0) (Or.inl (wd hw 56 rfl)) (Or.inl (wd hw 63 rfl)) (by decide) (t := .int) (t' := .int) (by decide) (by decide)))
  replace F_a1_now := F_a1_now.other W10 (Or.inr (slot_ne (a0 := a0) (Or.inl (wd hw 29 rfl)) (Or.inl (wd hw 63 rfl)) (by decide) (t := .long) (t' := .int) (by decide) (by decide)))
  replace V_ar := V_ar.other W10 (Ne.symm ne_a1_ar)
  replace O := O.wr W10 g_a1
  have N10 := Fr.snoc X10 N2 g_a1
  replace K := K.wr W10 (Or.inl (List.mem_of_getElem? (i := 0) rfl))
  show Go p e below _ T10 (mkF m 61 #[.val (.ref a1), .val (.long tm), .second] [])
  refine Go.by (T' := T10) (g' := (mkF m 63 #[.val (.ref a1), .val (.long tm), .second] [(.ref a1), (.ref a1)])) (fun t k => ?_) ?_
  · show Steps p.tables e below (T10.setTop (mkF m 61 #[.val (.ref a1), .val (.long tm), .second] [])) _
    refine XS.aloadN X10.here hx rfl (hb hby d_p25_m3_61) rfl rfl ?_
    show Steps p.tables e below (T10.setTop (mkF m 62 #[.val (.ref a1), .val (.long tm), .second] [(.ref a1)])) _
    refine XS.dup X10.here hx rfl (hb hby d_p25_m3_62) rfl rfl ?_
    exact k
  refine Go.getF X10 hx hZ hown (wd hw 55 rfl) Via.refl e10 F_a1_count (hb hby d_p25_m3_63) ?_
  intro T11 X11 e11
  show Go p e below _ T11 (mkF m 66 #[.val (.ref a1), .val (.long tm), .second] [(.int (2 : Int32)), (.ref a1)])
  refine Go.by (T' := T11) (g' := (mkF m 68 #[.val (.ref a1), .val (.long tm), .second] [(.int (1 : Int32)), (.ref a1)])) (fun t k => ?_) ?_
  · show Steps p.tables e below (T11.setTop (mkF m 66 #[.val (.ref a1), .val (.long tm), .second] [(.int (2 : Int32)), (.ref a1)])) _
    refine XS.iconst X11.here hx rfl (hb hby d_p25_m3_66) ?_
    show Steps p.tables e below (T11.setTop (mkF m 67 #[.val (.ref a1), .val (.long tm), .second] [(.int (1 : Int32)), (.int (2 : Int32)), (.ref a1)])) _
    refine XS.isub X11.here hx rfl (hb hby d_p25_m3_67) rfl ?_
    exact k
  refine Go.putF X11 hx hZ hown (wd hw 55 rfl) Via.refl e11 F_a1_count E_a1 (Or.inl (wd hw 56 rfl)) (wd hw 4 rfl) (ty := .int) (by decide) rfl rfl (hb hby d_p25_m3_68) ?_
  intro T12 h12 X12 e12 W12
  replace E_a1 := E_a1.wr W12
  replace F_a1_windowNanos := F_a1_windowNanos.other W12 (Or.inr (slot_ne (a0 := a0) (Or.inr (wd hw 49 rfl)) (Or.inl (wd hw 56 rfl)) (by decide) (t := .long) (t' := .int) (by decide) (by decide)))
  replace F_a1_times := F_a1_times.other W12 (Or.inr (slot_ne (a0 := a0) (Or.inl (wd hw 26 rfl)) (Or.inl (wd hw 56 rfl)) (by decide) (t := (.array .long)) (t' := .int) (by decide) (by decide)))
  replace F_a1_head := F_a1_head.other W12 (Or.inr (slot_ne (a0 := a0) (Or.inl (wd hw 63 rfl)) (Or.inl (wd hw 56 rfl)) (by decide) (t := .int) (t' := .int) (by decide) (by decide)))
  replace F_a1_count := F_a1_count.same W12
  replace F_a1_now := F_a1_now.other W12 (Or.inr (slot_ne (a0 := a0) (Or.inl (wd hw 29 rfl)) (Or.inl (wd hw 56 rfl)) (by decide) (t := .long) (t' := .int) (by decide) (by decide)))
  replace V_ar := V_ar.other W12 (Ne.symm ne_a1_ar)
  replace O := O.wr W12 g_a1
  have N12 := Fr.snoc X12 N10 g_a1
  replace K := K.wr W12 (Or.inl (List.mem_of_getElem? (i := 0) rfl))
  show Go p e below _ T12 (mkF m 71 #[.val (.ref a1), .val (.long tm), .second] [])
  refine Go.by (T' := T12) (g' := (mkF m 17 #[.val (.ref a1), .val (.long tm), .second] [(.ref a1)])) (fun t k => ?_) ?_
  · show Steps p.tables e below (T12.setTop (mkF m 71 #[.val (.ref a1), .val (.long tm), .second] [])) _
    refine XS.goto X12.here hx rfl (pc0 := 71) (pc' := 16) rfl (hb hby d_p25_m3_71) (by decide) (by decide) ?_
    show Steps p.tables e below (T12.setTop (mkF m 16 #[.val (.ref a1), .val (.long tm), .second] [])) _
    refine XS.aloadN X12.here hx rfl (hb hby d_p25_m3_16) rfl rfl ?_
    exact k
  refine Go.getF X12 hx hZ hown (wd hw 55 rfl) Via.refl e12 F_a1_count (hb hby d_p25_m3_17) ?_
  intro T13 X13 e13
  show Go p e below _ T13 (mkF m 20 #[.val (.ref a1), .val (.long tm), .second] [(.int (1 : Int32))])
  refine Go.by (T' := T13) (g' := (mkF m 24 #[.val (.ref a1), .val (.long tm), .second] [(.ref a1)])) (fun t k => ?_) ?_
  · show Steps p.tables e below (T13.setTop (mkF m 20 #[.val (.ref a1), .val (.long tm), .second] [(.int (1 : Int32))])) _
    refine XS.ifNo X13.here hx rfl (hb hby d_p25_m3_20) rfl ((if0 _ _).trans (tlt (by decide : (0 : Int32) < (1 : Int32))).2.2.2) ?_
    show Steps p.tables e below (T13.setTop (mkF m 23 #[.val (.ref a1), .val (.long tm), .second] [])) _
    refine XS.aloadN X13.here hx rfl (hb hby d_p25_m3_23) rfl rfl ?_
    exact k
  refine Go.getF X13 hx hZ hown (wd hw 28 rfl) Via.refl e13 F_a1_now (hb hby d_p25_m3_24) ?_
  intro T14 X14 e14
  show Go p e below _ T14 (mkF m 27 #[.val (.ref a1), .val (.long tm), .second] [(.long tm)])
  refine Go.by (T' := T14) (g' := (mkF m 28 #[.val (.ref a1), .val (.long tm), .second] [(.ref a1), (.long tm)])) (fun t k => ?_) ?_
  · show Steps p.tables e below (T14.setTop (mkF m 27 #[.val (.ref a1), .val (.long tm), .second] [(.long tm)])) _
    refine XS.aloadN X14.here hx rfl (hb hby d_p25_m3_27) rfl rfl ?_
    exact k
  refine Go.getF X14 hx hZ hown (wd hw 25 rfl) Via.refl e14 F_a1_times (hb hby d_p25_m3_28) ?_
  intro T15 X15 e15
  show Go p e below _ T15 (mkF m 31 #[.val (.ref a1), .val (.long tm), .second] [(.ref ar), (.long tm)])
  refine Go.by (T' := T15) (g' := (mkF m 32 #[.val (.ref a1), .val (.long tm), .second] [(.ref a1), (.ref ar), (.long tm)])) (fun t k => ?_) ?_
  · show Steps p.tables e below (T15.setTop (mkF m 31 #[.val (.ref a1), .val (.long tm), .second] [(.ref ar), (.long tm)])) _
    refine XS.aloadN X15.here hx rfl (hb hby d_p25_m3_31) rfl rfl ?_
    exact k
  refine Go.getF X15 hx hZ hown (wd hw 62 rfl) Via.refl e15 F_a1_head (hb hby d_p25_m3_32) ?_
  intro T16 X16 e16
  show Go p e below _ T16 (mkF m 35 #[.val (.ref a1), .val (.long tm), .second] [(.int (1 : Int32)), (.ref ar), (.long tm)])
  refine Go.aloadV X16 hx hZ e16 V_ar (j := (1 : Int32)) (v := (.long x1)) ⟨by decide, by decide⟩ rfl (Or.inr (Or.inl ⟨rfl, rfl⟩)) (hb hby d_p25_m3_35) ?_
  show Go p e below _ T16 (mkF m 36 #[.val (.ref a1), .val (.long tm), .second] [(.long x1), (.long tm)])
  refine Go.by (T' := T16) (g' := (mkF m 38 #[.val (.ref a1), .val (.long tm), .second] [(.ref a1), (.long (tm - x1))])) (fun t k => ?_) ?_
  · show Steps p.tables e below (T16.setTop (mkF m 36 #[.val (.ref a1), .val (.long tm), .second] [(.long x1), (.long tm)])) _
    refine XS.lsub X16.here hx rfl (hb hby d_p25_m3_36) rfl ?_
    show Steps p.tables e below (T16.setTop (mkF m 37 #[.val (.ref a1), .val (.long tm), .second] [(.long (tm - x1))])) _
    refine XS.aloadN X16.here hx rfl (hb hby d_p25_m3_37) rfl rfl ?_
    exact k
  refine Go.getF X16 hx hZ hown (wd hw 48 rfl) Via.refl e16 F_a1_windowNanos (hb hby d_p25_m3_38) ?_
  intro T17 X17 e17
  show Go p e below _ T17 (mkF m 41 #[.val (.ref a1), .val (.long tm), .second] [(.long wn), (.long (tm - x1))])
  refine Go.by (T' := T17) (g' := (mkF m 75 #[.val (.ref a1), .val (.long tm), .second] [(.int (1 : Int32))])) (fun t k => ?_) ?_
  · show Steps p.tables e below (T17.setTop (mkF m 41 #[.val (.ref a1), .val (.long tm), .second] [(.long wn), (.long (tm - x1))])) _
    refine XS.lcmp X17.here hx rfl (hb hby d_p25_m3_41) rfl ?_
    show Steps p.tables e below (T17.setTop (mkF m 42 #[.val (.ref a1), .val (.long tm), .second] [(.int (lcmpW (tm - x1) wn))])) _
    refine XS.ifYes X17.here hx rfl (pc0 := 42) (pc' := 74) rfl (hb hby d_p25_m3_42) rfl ((if0 _ _).trans (tlt ((lw_lt _ _).mpr hq1)).1) (by decide) (by decide) ?_
    show Steps p.tables e below (T17.setTop (mkF m 74 #[.val (.ref a1), .val (.long tm), .second] [])) _
    refine XS.iconst X17.here hx rfl (hb hby d_p25_m3_74) ?_
    exact k
  refine Go.retZ X17 hx hlk hret (Or.inr rfl) (hb hby d_p25_m3_75) (by decide) (by decide) e17 ?_
  exact ⟨rfl, N12, K, F_a1_windowNanos, F_a1_times, F_a1_head, F_a1_count, F_a1_now, V_ar⟩
set_option maxRecDepth 65536 in
set_option maxHeartbeats 40000000 in
theorem ct_add_1_0 (l : Launch) (Z : State) (a0 : Array Value) (hw : ∀ d ∈ tables_1, d.before a0 Z = true) (w_MS : Addr) (S_MS : Sta Z Z.heap "java/util/concurrent/TimeUnit" "MILLISECONDS" "Ljava/util/concurrent/TimeUnit;" (.ref w_MS)) (E_MS : Exa Z Z.heap w_MS "java/util/concurrent/TimeUnit") (F_MS1 : Fld Z Z.heap w_MS "java/util/concurrent/TimeUnit" "scale" "J" (.long 1000000)) (F_MS2 : Fld Z Z.heap w_MS "java/util/concurrent/TimeUnit" "maxNanos" "J" (.long 9223372036854)) (a1 : Addr) (ar : Addr) (kA : ClassId) (wn : Int64) (nw : Int64) (x0 : Int64) (x1 : Int64) (x2 : Int64) (h0 : Heap) (n0 : Nat) (O : Old Z n0 h0) (E_a1 : Exa Z h0 a1 "com/example/breakwater/breakwater/OrderRateWindow") (F_a1_windowNanos : Fld Z h0 a1 "com/example/breakwater/breakwater/OrderRateWindow" "windowNanos" "J" (.long wn)) (F_a1_times : Fld Z h0 a1 "com/example/breakwater/breakwater/OrderRateWindow" "times" "[J" (.ref ar)) (F_a1_head : Fld Z h0 a1 "com/example/breakwater/breakwater/OrderRateWindow" "head" "I" (.int (1 : Int32))) (F_a1_count : Fld Z h0 a1 "com/example/breakwater/breakwater/OrderRateWindow" "count" "I" (.int (0 : Int32))) (F_a1_now : Fld Z h0 a1 "com/example/breakwater/breakwater/OrderRateWindow" "now" "J" (.long nw)) (V_ar : Arv Z h0 ar kA .long (16 : Int32) [(.long x0), (.long x1), (.long x2)] (.long (0 : Int64))) (g_a1 : n0 ≤ a1) (g_ar : n0 ≤ ar) (ne_a1_ar : a1 ≠ ar) :
    Ct l (⟨"com/example/breakwater/breakwater/OrderRateWindow", "add", "()V"⟩ : MethodName) prog_25_method_5_code 1 none ({ frames := 0, cells := 0, slots := 0, locals := 0 } : Room) Z #[(.ref a1)] h0 (fun v h L => v = none ∧ Fr n0 L ∧ Keep h0 h [a1, ar] ∧ Fld Z h a1 "com/example/breakwater/breakwater/OrderRateWindow" "windowNanos" "J" (.long wn) ∧ Fld Z h a1 "com/example/breakwater/breakwater/OrderRateWindow" "times" "[J" (.ref ar) ∧ Fld Z h a1 "com/example/breakwater/breakwater/OrderRateWindow" "head" "I" (.int (1 : Int32)) ∧ Fld Z h a1 "com/example/breakwater/breakwater/OrderRateWindow" "count" "I" (.int (1 : Int32)) ∧ Fld Z h a1 "com/example/breakwater/breakwater/OrderRateWindow" "now" "J" (.long nw) ∧ Arv Z h ar kA .long (16 : Int32) [(.long x0), (.long nw), (.long x2)] (.long (0 : Int64))) := by
  refine Ct.of (plainFor_of_name pn_OrderRateWindow_528) ?_
  intro p e s m below meth c T0 X0 hx hby hml hown hnm hret hlk hZ e0
  have hown : s.vm.findClass "com/example/breakwater/breakwater/OrderRateWindow" = some m.cls := hown
  have hml : c.maxLocals = 1 := hml
  have N0 := Fr.nil n0
  refine Go.cast (g' := mkF m 0 #[.val (.ref a1)] []) (by first | (simp [entryFrame, mkF, argsToLocals, Value.category]; done) | rfl) ?_
  have K : Keep h0 h0 [a1, ar] := Keep.refl _ _
  refine Go.by (T' := T0) (g' := (mkF m 1 #[.val (.ref a1)] [(.ref a1)])) (fun t k => ?_) ?_
  · show Steps p.tables e below (T0.setTop (mkF m 0 #[.val (.ref a1)] [])) _
    refine XS.aloadN X0.here hx rfl (hb hby d_p25_m5_0) rfl rfl ?_
    exact k
  refine Go.getF X0 hx hZ hown (wd hw 55 rfl) Via.refl e0 F_a1_count (hb hby d_p25_m5_1) ?_
  intro T1 X1 e1
  show Go p e below _ T1 (mkF m 4 #[.val (.ref a1)] [(.int (0 : Int32))])
  refine Go.by (T' := T1) (g' := (mkF m 5 #[.val (.ref a1)] [(.ref a1), (.int (0 : Int32))])) (fun t k => ?_) ?_
  · show Steps p.tables e below (T1.setTop (mkF m 4 #[.val (.ref a1)] [(.int (0 : Int32))])) _
    refine XS.aloadN X1.here hx rfl (hb hby d_p25_m5_4) rfl rfl ?_
    exact k
  refine Go.getF X1 hx hZ hown (wd hw 25 rfl) Via.refl e1 F_a1_times (hb hby d_p25_m5_5) ?_
  intro T2 X2 e2
  show Go p e below _ T2 (mkF m 8 #[.val (.ref a1)] [(.ref ar), (.int (0 : Int32))])
  refine Go.alenV X2 hx hZ e2 V_ar (hb hby d_p25_m5_8) ?_
  show Go p e below _ T2 (mkF m 9 #[.val (.ref a1)] [(.int (16 : Int32)), (.int (0 : Int32))])
  refine Go.by (T' := T2) (g' := (mkF m 17 #[.val (.ref a1)] [(.ref a1)])) (fun t k => ?_) ?_
  · show Steps p.tables e below (T2.setTop (mkF m 9 #[.val (.ref a1)] [(.int (16 : Int32)), (.int (0 : Int32))])) _
    refine XS.icmpYes X2.here hx rfl (pc0 := 9) (pc' := 16) rfl (hb hby d_p25_m5_9) rfl (feq (by decide : ¬ (0 : Int32) = (16 : Int32))).2 (by decide) (by decide) ?_
    show Steps p.tables e below (T2.setTop (mkF m 16 #[.val (.ref a1)] [])) _
    refine XS.aloadN X2.here hx rfl (hb hby d_p25_m5_16) rfl rfl ?_
    exact k
  refine Go.getF X2 hx hZ hown (wd hw 25 rfl) Via.refl e2 F_a1_times (hb hby d_p25_m5_17) ?_
  intro T3 X3 e3
  show Go p e below _ T3 (mkF m 20 #[.val (.ref a1)] [(.ref ar)])
  refine Go.by (T' := T3) (g' := (mkF m 21 #[.val (.ref a1)] [(.ref a1), (.ref ar)])) (fun t k => ?_) ?_
  · show Steps p.tables e below (T3.setTop (mkF m 20 #[.val (.ref a1)] [(.ref ar)])) _
    refine XS.aloadN X3.here hx rfl (hb hby d_p25_m5_20) rfl rfl ?_
    exact k
  refine Go.getF X3 hx hZ hown (wd hw 62 rfl) Via.refl e3 F_a1_head (hb hby d_p25_m5_21) ?_
  intro T4 X4 e4
  show Go p e below _ T4 (mkF m 24 #[.val (.ref a1)] [(.int (1 : Int32)), (.ref ar)])
  refine Go.by (T' := T4) (g' := (mkF m 25 #[.val (.ref a1)] [(.ref a1), (.int (1 : Int32)), (.ref ar)])) (fun t k => ?_) ?_
  · show Steps p.tables e below (T4.setTop (mkF m 24 #[.val (.ref a1)] [(.int (1 : Int32)), (.ref ar)])) _
    refine XS.aloadN X4.here hx rfl (hb hby d_p25_m5_24) rfl rfl ?_
    exact k
  refine Go.getF X4 hx hZ hown (wd hw 55 rfl) Via.refl e4 F_a1_count (hb hby d_p25_m5_25) ?_
  intro T5 X5 e5
  show Go p e below _ T5 (mkF m 28 #[.val (.ref a1)] [(.int (0 : Int32)), (.int (1 : Int32)), (.ref ar)])
  refine Go.by (T' := T5) (g' := (mkF m 30 #[.val (.ref a1)] [(.ref a1), (.int (1 : Int32)), (.ref ar)])) (fun t k => ?_) ?_
  · show Steps p.tables e below (T5.setTop (mkF m 28 #[.val (.ref a1)] [(.int (0 : Int32)), (.int (1 : Int32)), (.ref ar)])) _
    refine XS.iadd X5.here hx rfl (hb hby d_p25_m5_28) rfl ?_
    show Steps p.tables e below (T5.setTop (mkF m 29 #[.val (.ref a1)] [(.int (1 : Int32)), (.ref ar)])) _
    refine XS.aloadN X5.here hx rfl (hb hby d_p25_m5_29) rfl rfl ?_
    exact k
  refine Go.getF X5 hx hZ hown (wd hw 25 rfl) Via.refl e5 F_a1_times (hb hby d_p25_m5_30) ?_
  intro T6 X6 e6
  show Go p e below _ T6 (mkF m 33 #[.val (.ref a1)] [(.ref ar), (.int (1 : Int32)), (.ref ar)])
  refine Go.alenV X6 hx hZ e6 V_ar (hb hby d_p25_m5_33) ?_
  show Go p e below _ T6 (mkF m 34 #[.val (.ref a1)] [(.int (16 : Int32)), (.int (1 : Int32)), (.ref ar)])
  refine Go.by (T' := T6) (g' := (mkF m 36 #[.val (.ref a1)] [(.ref a1), (.int (1 : Int32)), (.ref ar)])) (fun t k => ?_) ?_
  · show Steps p.tables e below (T6.setTop (mkF m 34 #[.val (.ref a1)] [(.int (16 : Int32)), (.int (1 : Int32)), (.ref ar)])) _
    refine iremM X6 hx rfl (hb hby d_p25_m5_34) rfl (by decide) ?_
    show Steps p.tables e below (T6.setTop (mkF m 35 #[.val (.ref a1)] [(.int (1 : Int32)), (.ref ar)])) _
    refine XS.aloadN X6.here hx rfl (hb hby d_p25_m5_35) rfl rfl ?_
    exact k
  refine Go.getF X6 hx hZ hown (wd hw 28 rfl) Via.refl e6 F_a1_now (hb hby d_p25_m5_36) ?_
  intro T7 X7 e7
  show Go p e below _ T7 (mkF m 39 #[.val (.ref a1)] [(.long nw), (.int (1 : Int32)), (.ref ar)])
  refine Go.jstV X7 hx hZ e7 V_ar (j := (1 : Int32)) (x := nw) ⟨by decide, by decide⟩ 1 rfl (Nat.le_of_ble_eq_true rfl) (hb hby d_p25_m5_39) ?_
  intro T8 h8 X8 e8 W8 Vn8
  replace E_a1 := E_a1.wr W8
  replace F_a1_windowNanos := F_a1_windowNanos.other W8 (Or.inl ne_a1_ar)
  replace F_a1_times := F_a1_times.other W8 (Or.inl ne_a1_ar)
  replace F_a1_head := F_a1_head.other W8 (Or.inl ne_a1_ar)
  replace F_a1_count := F_a1_count.other W8 (Or.inl ne_a1_ar)
  replace F_a1_now := F_a1_now.other W8 (Or.inl ne_a1_ar)
  replace O := O.wr W8 g_ar
  have N8 := Fr.snoc X8 N0 g_ar
  replace K := K.wr W8 (Or.inl (List.mem_of_getElem? (i := 1) rfl))
  replace V_ar : Arv Z h8 ar kA .long (16 : Int32) [(.long x0), (.long nw), (.long x2)] (.long (0 : Int64)) := Vn8
  clear Vn8
  show Go p e below _ T8 (mkF m 40 #[.val (.ref a1)] [])
  refine Go.by (T' := T8) (g' := (mkF m 42 #[.val (.ref a1)] [(.ref a1), (.ref a1)])) (fun t k => ?_) ?_
  · show Steps p.tables e below (T8.setTop (mkF m 40 #[.val (.ref a1)] [])) _
    refine XS.aloadN X8.here hx rfl (hb hby d_p25_m5_40) rfl rfl ?_
    show Steps p.tables e below (T8.setTop (mkF m 41 #[.val (.ref a1)] [(.ref a1)])) _
    refine XS.dup X8.here hx rfl (hb hby d_p25_m5_41) rfl rfl ?_
    exact k
  refine Go.getF X8 hx hZ hown (wd hw 55 rfl) Via.refl e8 F_a1_count (hb hby d_p25_m5_42) ?_
  intro T9 X9 e9
  show Go p e below _ T9 (mkF m 45 #[.val (.ref a1)] [(.int (0 : Int32)), (.ref a1)])
  refine Go.by (T' := T9) (g' := (mkF m 47 #[.val (.ref a1)] [(.int (1 : Int32)), (.ref a1)])) (fun t k => ?_) ?_
  · show Steps p.tables e below (T9.setTop (mkF m 45 #[.val (.ref a1)] [(.int (0 : Int32)), (.ref a1)])) _
    refine XS.iconst X9.here hx rfl (hb hby d_p25_m5_45) ?_
    show Steps p.tables e below (T9.setTop (mkF m 46 #[.val (.ref a1)] [(.int (1 : Int32)), (.int (0 : Int32)), (.ref a1)])) _
    refine XS.iadd X9.here hx rfl (hb hby d_p25_m5_46) rfl ?_
    exact k
  refine Go.putF X9 hx hZ hown (wd hw 55 rfl) Via.refl e9 F_a1_count E_a1 (Or.inl (wd hw 56 rfl)) (wd hw 4 rfl) (ty := .int) (by decide) rfl rfl (hb hby d_p25_m5_47) ?_
  intro T10 h10 X10 e10 W10
  replace E_a1 := E_a1.wr W10
  replace F_a1_windowNanos := F_a1_windowNanos.other W10 (Or.inr (slot_ne (a0 := a0) (Or.inr (wd hw 49 rfl)) (Or.inl (wd hw 56 rfl)) (by decide) (t := .long) (t' := .int) (by decide) (by decide)))
  replace F_a1_times := F_a1_times.other W10 (Or.inr (slot_ne (a0 := a0) (Or.inl (wd hw 26 rfl)) (Or.inl (wd hw 56 rfl)) (by decide) (t := (.array .long)) (t' := .int) (by decide) (by decide)))
  replace F_a1_head := F_a1_head.other W10 (Or.inr (slot_ne (a0 := a0) (Or.inl (wd hw 63 rfl)) (Or.inl (wd hw 56 rfl)) (by decide) (t := .int) (t' := .int) (by decide) (by decide)))
  replace F_a1_count := F_a1_count.same W10
  replace F_a1_now := F_a1_now.other W10 (Or.inr (slot_ne (a0 := a0) (Or.inl (wd hw 29 rfl)) (Or.inl (wd hw 56 rfl)) (by decide) (t := .long) (t' := .int) (by decide) (by decide)))
  replace V_ar := V_ar.other W10 (Ne.symm ne_a1_ar)
  replace O := O.wr W10 g_a1
  have N10 := Fr.snoc X10 N8 g_a1
  replace K := K.wr W10 (Or.inl (List.mem_of_getElem? (i := 0) rfl))
  show Go p e below _ T10 (mkF m 50 #[.val (.ref a1)] [])
  refine Go.retV X10 hx hlk hret (hb hby d_p25_m5_50) (by decide) (by decide) e10 ?_
  exact ⟨rfl, N10, K, F_a1_windowNanos, F_a1_times, F_a1_head, F_a1_count, F_a1_now, V_ar⟩
set_option maxRecDepth 65536 in
set_option maxHeartbeats 40000000 in
theorem ct_remove_1_1_0 (l : Launch) (Z : State) (a0 : Array Value) (hw : ∀ d ∈ tables_1, d.before a0 Z = true) (w_MS : Addr) (S_MS : Sta Z Z.heap "java/util/concurrent/TimeUnit" "MILLISECONDS" "Ljava/util/concurrent/TimeUnit;" (.ref w_MS)) (E_MS : Exa Z Z.heap w_MS "java/util/concurrent/TimeUnit") (F_MS1 : Fld Z Z.heap w_MS "java/util/concurrent/TimeUnit" "scale" "J" (.long 1000000)) (F_MS2 : Fld Z Z.heap w_MS "java/util/concurrent/TimeUnit" "maxNanos" "J" (.long 9223372036854)) (a1 : Addr) (ar : Addr) (kA : ClassId) (wn : Int64) (nw : Int64) (x0 : Int64) (x1 : Int64) (x2 : Int64) (tm : Int64) (h0 : Heap) (n0 : Nat) (O : Old Z n0 h0) (E_a1 : Exa Z h0 a1 "com/example/breakwater/breakwater/OrderRateWindow") (F_a1_windowNanos : Fld Z h0 a1 "com/example/breakwater/breakwater/OrderRateWindow" "windowNanos" "J" (.long wn)) (F_a1_times : Fld Z h0 a1 "com/example/breakwater/breakwater/OrderRateWindow" "times" "[J" (.ref ar)) (F_a1_head : Fld Z h0 a1 "com/example/breakwater/breakwater/OrderRateWindow" "head" "I" (.int (1 : Int32))) (F_a1_count : Fld Z h0 a1 "com/example/breakwater/breakwater/OrderRateWindow" "count" "I" (.int (1 : Int32))) (F_a1_now : Fld Z h0 a1 "com/example/breakwater/breakwater/OrderRateWindow" "now" "J" (.long nw)) (V_ar : Arv Z h0 ar kA .long (16 : Int32) [(.long x0), (.long x1), (.long x2)] (.long (0 : Int64))) (g_a1 : n0 ≤ a1) (g_ar : n0 ≤ ar) (ne_a1_ar : a1 ≠ ar) (hr0 : x1 = tm) :
    Ct l (⟨"com/example/breakwater/breakwater/OrderRateWindow", "remove", "(J)V"⟩ : MethodName) prog_25_method_6_code 5 none ({ frames := 0, cells := 0, slots := 0, locals := 0 } : Room) Z #[(.ref a1), (.long tm)] h0 (fun v h L => v = none ∧ Fr n0 L ∧ Keep h0 h [a1, ar] ∧ Fld Z h a1 "com/example/breakwater/breakwater/OrderRateWindow" "windowNanos" "J" (.long wn) ∧ Fld Z h a1 "com/example/breakwater/breakwater/OrderRateWindow" "times" "[J" (.ref ar) ∧ Fld Z h a1 "com/example/breakwater/breakwater/OrderRateWindow" "head" "I" (.int (1 : Int32)) ∧ Fld Z h a1 "com/example/breakwater/breakwater/OrderRateWindow" "count" "I" (.int (0 : Int32)) ∧ Fld Z h a1 "com/example/breakwater/breakwater/OrderRateWindow" "now" "J" (.long nw) ∧ Arv Z h ar kA .long (16 : Int32) [(.long x0), (.long x1), (.long x2)] (.long (0 : Int64))) := by
  refine Ct.of (plainFor_of_name pn_OrderRateWindow_528) ?_
  intro p e s m below meth c T0 X0 hx hby hml hown hnm hret hlk hZ e0
  have hown : s.vm.findClass "com/example/breakwater/breakwater/OrderRateWindow" = some m.cls := hown
  have hml : c.maxLocals = 5 := hml
  have N0 := Fr.nil n0
  refine Go.cast (g' := mkF m 0 #[.val (.ref a1), .val (.long tm), .second, .unset, .unset] []) (by first | (simp [entryFrame, mkF, argsToLocals, Value.category]; done) | rfl) ?_
  have K : Keep h0 h0 [a1, ar] := Keep.refl _ _
  refine Go.by (T' := T0) (g' := (mkF m 1 #[.val (.ref a1), .val (.long tm), .second, .unset, .unset] [(.ref a1)])) (fun t k => ?_) ?_
  · show Steps p.tables e below (T0.setTop (mkF m 0 #[.val (.ref a1), .val (.long tm), .second, .unset, .unset] [])) _
    refine XS.aloadN X0.here hx rfl (hb hby d_p25_m6_0) rfl rfl ?_
    exact k
  refine Go.getF X0 hx hZ hown (wd hw 55 rfl) Via.refl e0 F_a1_count (hb hby d_p25_m6_1) ?_
  intro T1 X1 e1
  show Go p e below _ T1 (mkF m 4 #[.val (.ref a1), .val (.long tm), .second, .unset, .unset] [(.int (1 : Int32))])
  refine Go.by (T' := T1) (g' := (mkF m 12 #[.val (.ref a1), .val (.long tm), .second, .val (.int (0 : Int32)), .unset] [(.ref a1)])) (fun t k => ?_) ?_
  · show Steps p.tables e below (T1.setTop (mkF m 4 #[.val (.ref a1), .val (.long tm), .second, .unset, .unset] [(.int (1 : Int32))])) _
    refine XS.iconst X1.here hx rfl (hb hby d_p25_m6_4) ?_
    show Steps p.tables e below (T1.setTop (mkF m 5 #[.val (.ref a1), .val (.long tm), .second, .unset, .unset] [(.int (1 : Int32)), (.int (1 : Int32))])) _
    refine XS.isub X1.here hx rfl (hb hby d_p25_m6_5) rfl ?_
    show Steps p.tables e below (T1.setTop (mkF m 6 #[.val (.ref a1), .val (.long tm), .second, .unset, .unset] [(.int (0 : Int32))])) _
    refine XS.istoreN X1.here hx rfl (hb hby d_p25_m6_6) rfl (l' := #[.val (.ref a1), .val (.long tm), .second, .val (.int (0 : Int32)), .unset]) rfl ?_
    show Steps p.tables e below (T1.setTop (mkF m 7 #[.val (.ref a1), .val (.long tm), .second, .val (.int (0 : Int32)), .unset] [])) _
    refine XS.iloadN X1.here hx rfl (hb hby d_p25_m6_7) rfl ?_
    show Steps p.tables e below (T1.setTop (mkF m 8 #[.val (.ref a1), .val (.long tm), .second, .val (.int (0 : Int32)), .unset] [(.int (0 : Int32))])) _
    refine XS.ifNo X1.here hx rfl (hb hby d_p25_m6_8) rfl ((if0 _ _).trans (flt (by decide : ¬ (0 : Int32) < (0 : Int32))).1) ?_
    show Steps p.tables e below (T1.setTop (mkF m 11 #[.val (.ref a1), .val (.long tm), .second, .val (.int (0 : Int32)), .unset] [])) _
    refine XS.aloadN X1.here hx rfl (hb hby d_p25_m6_11) rfl rfl ?_
    exact k
  refine Go.getF X1 hx hZ hown (wd hw 25 rfl) Via.refl e1 F_a1_times (hb hby d_p25_m6_12) ?_
  intro T2 X2 e2
  show Go p e below _ T2 (mkF m 15 #[.val (.ref a1), .val (.long tm), .second, .val (.int (0 : Int32)), .unset] [(.ref ar)])
  refine Go.by (T' := T2) (g' := (mkF m 16 #[.val (.ref a1), .val (.long tm), .second, .val (.int (0 : Int32)), .unset] [(.ref a1), (.ref ar)])) (fun t k => ?_) ?_
  · show Steps p.tables e below (T2.setTop (mkF m 15 #[.val (.ref a1), .val (.long tm), .second, .val (.int (0 : Int32)), .unset] [(.ref ar)])) _
    refine XS.aloadN X2.here hx rfl (hb hby d_p25_m6_15) rfl rfl ?_
    exact k
  refine Go.getF X2 hx hZ hown (wd hw 62 rfl) Via.refl e2 F_a1_head (hb hby d_p25_m6_16) ?_
  intro T3 X3 e3
  show Go p e below _ T3 (mkF m 19 #[.val (.ref a1), .val (.long tm), .second, .val (.int (0 : Int32)), .unset] [(.int (1 : Int32)), (.ref ar)])
  refine Go.by (T' := T3) (g' := (mkF m 22 #[.val (.ref a1), .val (.long tm), .second, .val (.int (0 : Int32)), .unset] [(.ref a1), (.int (1 : Int32)), (.ref ar)])) (fun t k => ?_) ?_
  · show Steps p.tables e below (T3.setTop (mkF m 19 #[.val (.ref a1), .val (.long tm), .second, .val (.int (0 : Int32)), .unset] [(.int (1 : Int32)), (.ref ar)])) _
    refine XS.iloadN X3.here hx rfl (hb hby d_p25_m6_19) rfl ?_
    show Steps p.tables e below (T3.setTop (mkF m 20 #[.val (.ref a1), .val (.long tm), .second, .val (.int (0 : Int32)), .unset] [(.int (0 : Int32)), (.int (1 : Int32)), (.ref ar)])) _
    refine XS.iadd X3.here hx rfl (hb hby d_p25_m6_20) rfl ?_
    show Steps p.tables e below (T3.setTop (mkF m 21 #[.val (.ref a1), .val (.long tm), .second, .val (.int (0 : Int32)), .unset] [(.int (1 : Int32)), (.ref ar)])) _
    refine XS.aloadN X3.here hx rfl (hb hby d_p25_m6_21) rfl rfl ?_
    exact k
  refine Go.getF X3 hx hZ hown (wd hw 25 rfl) Via.refl e3 F_a1_times (hb hby d_p25_m6_22) ?_
  intro T4 X4 e4
  show Go p e below _ T4 (mkF m 25 #[.val (.ref a1), .val (.long tm), .second, .val (.int (0 : Int32)), .unset] [(.ref ar), (.int (1 : Int32)), (.ref ar)])
  refine Go.alenV X4 hx hZ e4 V_ar (hb hby d_p25_m6_25) ?_
  show Go p e below _ T4 (mkF m 26 #[.val (.ref a1), .val (.long tm), .second, .val (.int (0 : Int32)), .unset] [(.int (16 : Int32)), (.int (1 : Int32)), (.ref ar)])
  refine Go.by (T' := T4) (g' := (mkF m 27 #[.val (.ref a1), .val (.long tm), .second, .val (.int (0 : Int32)), .unset] [(.int (1 : Int32)), (.ref ar)])) (fun t k => ?_) ?_
  · show Steps p.tables e below (T4.setTop (mkF m 26 #[.val (.ref a1), .val (.long tm), .second, .val (.int (0 : Int32)), .unset] [(.int (16 : Int32)), (.int (1 : Int32)), (.ref ar)])) _
    refine iremM X4 hx rfl (hb hby d_p25_m6_26) rfl (by decide) ?_
    exact k
  refine Go.aloadV X4 hx hZ e4 V_ar (j := (1 : Int32)) (v := (.long x1)) ⟨by decide, by decide⟩ rfl (Or.inr (Or.inl ⟨rfl, rfl⟩)) (hb hby d_p25_m6_27) ?_
  show Go p e below _ T4 (mkF m 28 #[.val (.ref a1), .val (.long tm), .second, .val (.int (0 : Int32)), .unset] [(.long x1)])
  refine Go.by (T' := T4) (g' := (mkF m 39 #[.val (.ref a1), .val (.long tm), .second, .val (.int (0 : Int32)), .val (.int (0 : Int32))] [(.ref a1), (.int (0 : Int32))])) (fun t k => ?_) ?_
  · show Steps p.tables e below (T4.setTop (mkF m 28 #[.val (.ref a1), .val (.long tm), .second, .val (.int (0 : Int32)), .unset] [(.long x1)])) _
    refine XS.lloadN X4.here hx rfl (hb hby d_p25_m6_28) rfl ?_
    show Steps p.tables e below (T4.setTop (mkF m 29 #[.val (.ref a1), .val (.long tm), .second, .val (.int (0 : Int32)), .unset] [(.long tm), (.long x1)])) _
    refine XS.lcmp X4.here hx rfl (hb hby d_p25_m6_29) rfl ?_
    show Steps p.tables e below (T4.setTop (mkF m 30 #[.val (.ref a1), .val (.long tm), .second, .val (.int (0 : Int32)), .unset] [(.int (lcmpW x1 tm))])) _
    refine XS.ifNo X4.here hx rfl (hb hby d_p25_m6_30) rfl ((if0 _ _).trans (teq ((lw_eq _ _).mpr hr0)).2) ?_
    show Steps p.tables e below (T4.setTop (mkF m 33 #[.val (.ref a1), .val (.long tm), .second, .val (.int (0 : Int32)), .unset] [])) _
    refine XS.iloadN X4.here hx rfl (hb hby d_p25_m6_33) rfl ?_
    show Steps p.tables e below (T4.setTop (mkF m 34 #[.val (.ref a1), .val (.long tm), .second, .val (.int (0 : Int32)), .unset] [(.int (0 : Int32))])) _
    refine XS.istore X4.here hx rfl (hb hby d_p25_m6_34) rfl (l' := #[.val (.ref a1), .val (.long tm), .second, .val (.int (0 : Int32)), .val (.int (0 : Int32))]) rfl ?_
    show Steps p.tables e below (T4.setTop (mkF m 36 #[.val (.ref a1), .val (.long tm), .second, .val (.int (0 : Int32)), .val (.int (0 : Int32))] [])) _
    refine XS.iload X4.here hx rfl (hb hby d_p25_m6_36) rfl ?_
    show Steps p.tables e below (T4.setTop (mkF m 38 #[.val (.ref a1), .val (.long tm), .second, .val (.int (0 : Int32)), .val (.int (0 : Int32))] [(.int (0 : Int32))])) _
    refine XS.aloadN X4.here hx rfl (hb hby d_p25_m6_38) rfl rfl ?_
    exact k
  refine Go.getF X4 hx hZ hown (wd hw 55 rfl) Via.refl e4 F_a1_count (hb hby d_p25_m6_39) ?_
  intro T5 X5 e5
  show Go p e below _ T5 (mkF m 42 #[.val (.ref a1), .val (.long tm), .second, .val (.int (0 : Int32)), .val (.int (0 : Int32))] [(.int (1 : Int32)), (.int (0 : Int32))])
  refine Go.by (T' := T5) (g' := (mkF m 93 #[.val (.ref a1), .val (.long tm), .second, .val (.int (0 : Int32)), .val (.int (0 : Int32))] [(.ref a1), (.ref a1)])) (fun t k => ?_) ?_
  · show Steps p.tables e below (T5.setTop (mkF m 42 #[.val (.ref a1), .val (.long tm), .second, .val (.int (0 : Int32)), .val (.int (0 : Int32))] [(.int (1 : Int32)), (.int (0 : Int32))])) _
    refine XS.iconst X5.here hx rfl (hb hby d_p25_m6_42) ?_
    show Steps p.tables e below (T5.setTop (mkF m 43 #[.val (.ref a1), .val (.long tm), .second, .val (.int (0 : Int32)), .val (.int (0 : Int32))] [(.int (1 : Int32)), (.int (1 : Int32)), (.int (0 : Int32))])) _
    refine XS.isub X5.here hx rfl (hb hby d_p25_m6_43) rfl ?_
    show Steps p.tables e below (T5.setTop (mkF m 44 #[.val (.ref a1), .val (.long tm), .second, .val (.int (0 : Int32)), .val (.int (0 : Int32))] [(.int (0 : Int32)), (.int (0 : Int32))])) _
    refine XS.icmpYes X5.here hx rfl (pc0 := 44) (pc' := 91) rfl (hb hby d_p25_m6_44) rfl (flt (by decide : ¬ (0 : Int32) < (0 : Int32))).2.1 (by decide) (by decide) ?_
    show Steps p.tables e below (T5.setTop (mkF m 91 #[.val (.ref a1), .val (.long tm), .second, .val (.int (0 : Int32)), .val (.int (0 : Int32))] [])) _
    refine XS.aloadN X5.here hx rfl (hb hby d_p25_m6_91) rfl rfl ?_
    show Steps p.tables e below (T5.setTop (mkF m 92 #[.val (.ref a1), .val (.long tm), .second, .val (.int (0 : Int32)), .val (.int (0 : Int32))] [(.ref a1)])) _
    refine XS.dup X5.here hx rfl (hb hby d_p25_m6_92) rfl rfl ?_
    exact k
  refine Go.getF X5 hx hZ hown (wd hw 55 rfl) Via.refl e5 F_a1_count (hb hby d_p25_m6_93) ?_
  intro T6 X6 e6
  show Go p e below _ T6 (mkF m 96 #[.val (.ref a1), .val (.long tm), .second, .val (.int (0 : Int32)), .val (.int (0 : Int32))] [(.int (1 : Int32)), (.ref a1)])
  refine Go.by (T' := T6) (g' := (mkF m 98 #[.val (.ref a1), .val (.long tm), .second, .val (.int (0 : Int32)), .val (.int (0 : Int32))] [(.int (0 : Int32)), (.ref a1)])) (fun t k => ?_) ?_
  · show Steps p.tables e below (T6.setTop (mkF m 96 #[.val (.ref a1), .val (.long tm), .second, .val (.int (0 : Int32)), .val (.int (0 : Int32))] [(.int (1 : Int32)), (.ref a1)])) _
    refine XS.iconst X6.here hx rfl (hb hby d_p25_m6_96) ?_
    show Steps p.tables e below (T6.setTop (mkF m 97 #[.val (.ref a1), .val (.long tm), .second, .val (.int (0 : Int32)), .val (.int (0 : Int32))] [(.int (1 : Int32)), (.int (1 : Int32)), (.ref a1)])) _
    refine XS.isub X6.here hx rfl (hb hby d_p25_m6_97) rfl ?_
    exact k
  refine Go.putF X6 hx hZ hown (wd hw 55 rfl) Via.refl e6 F_a1_count E_a1 (Or.inl (wd hw 56 rfl)) (wd hw 4 rfl) (ty := .int) (by decide) rfl rfl (hb hby d_p25_m6_98) ?_
  intro T7 h7 X7 e7 W7
  replace E_a1 := E_a1.wr W7
  replace F_a1_windowNanos := F_a1_windowNanos.other W7 (Or.inr (slot_ne (a0 := a0) (Or.inr (wd hw 49 rfl)) (Or.inl (wd hw 56 rfl)) (by decide) (t := .long) (t' := .int) (by decide) (by decide)))
  replace F_a1_times := F_a1_times.other W7 (Or.inr (slot_ne (a0 := a0) (Or.inl (wd hw 26 rfl)) (Or.inl (wd hw 56 rfl)) (by decide) (t := (.array .long)) (t' := .int) (by decide) (by decide)))
  replace F_a1_head := F_a1_head.other W7 (Or.inr (slot_ne (a0 := a0) (Or.inl (wd hw 63 rfl)) (Or.inl (wd hw 56 rfl)) (by decide) (t := .int) (t' := .int) (by decide) (by decide)))
  replace F_a1_count := F_a1_count.same W7
  replace F_a1_now := F_a1_now.other W7 (Or.inr (slot_ne (a0 := a0) (Or.inl (wd hw 29 rfl)) (Or.inl (wd hw 56 rfl)) (by decide) (t := .long) (t' := .int) (by decide) (by decide)))
  replace V_ar := V_ar.other W7 (Ne.symm ne_a1_ar)
  replace O := O.wr W7 g_a1
  have N7 := Fr.snoc X7 N0 g_a1
  replace K := K.wr W7 (Or.inl (List.mem_of_getElem? (i := 0) rfl))
  show Go p e below _ T7 (mkF m 101 #[.val (.ref a1), .val (.long tm), .second, .val (.int (0 : Int32)), .val (.int (0 : Int32))] [])
  refine Go.retV X7 hx hlk hret (hb hby d_p25_m6_101) (by decide) (by decide) e7 ?_
  exact ⟨rfl, N7, K, F_a1_windowNanos, F_a1_times, F_a1_head, F_a1_count, F_a1_now, V_ar⟩
set_option maxRecDepth 65536 in
set_option maxHeartbeats 40000000 in
theorem ct_move_1_0_0 (l : Launch) (Z : State) (a0 : Array Value) (hw : ∀ d ∈ tables_1, d.before a0 Z = true) (w_MS : Addr) (S_MS : Sta Z Z.heap "java/util/concurrent/TimeUnit" "MILLISECONDS" "Ljava/util/concurrent/TimeUnit;" (.ref w_MS)) (E_MS : Exa Z Z.heap w_MS "java/util/concurrent/TimeUnit") (F_MS1 : Fld Z Z.heap w_MS "java/util/concurrent/TimeUnit" "scale" "J" (.long 1000000)) (F_MS2 : Fld Z Z.heap w_MS "java/util/concurrent/TimeUnit" "maxNanos" "J" (.long 9223372036854)) (a1 : Addr) (ar : Addr) (kA : ClassId) (wn : Int64) (nw : Int64) (x0 : Int64) (x1 : Int64) (x2 : Int64) (tm : Int64) (h0 : Heap) (n0 : Nat) (O : Old Z n0 h0) (E_a1 : Exa Z h0 a1 "com/example/breakwater/breakwater/OrderRateWindow") (F_a1_windowNanos : Fld Z h0 a1 "com/example/breakwater/breakwater/OrderRateWindow" "windowNanos" "J" (.long wn)) (F_a1_times : Fld Z h0 a1 "com/example/breakwater/breakwater/OrderRateWindow" "times" "[J" (.ref ar)) (F_a1_head : Fld Z h0 a1 "com/example/breakwater/breakwater/OrderRateWindow" "head" "I" (.int (1 : Int32))) (F_a1_count : Fld Z h0 a1 "com/example/breakwater/breakwater/OrderRateWindow" "count" "I" (.int (0 : Int32))) (F_a1_now : Fld Z h0 a1 "com/example/breakwater/breakwater/OrderRateWindow" "now" "J" (.long nw)) (V_ar : Arv Z h0 ar kA .long (16 : Int32) [(.long x0), (.long x1), (.long x2)] (.long (0 : Int64))) (g_a1 : n0 ≤ a1) (g_ar : n0 ≤ ar) (ne_a1_ar : a1 ≠ ar) (ht : ¬ tm < nw) :
    Ct l (⟨"com/example/breakwater/breakwater/OrderRateWindow", "moveTo", "(J)Z"⟩ : MethodName) prog_25_method_3_code 3 (some .boolean) ({ frames := 0, cells := 0, slots := 0, locals := 0 } : Room) Z #[(.ref a1), (.long tm)] h0 (fun v h L => v = some (.int 1) ∧ Fr n0 L ∧ Keep h0 h [a1, ar] ∧ Fld Z h a1 "com/example/breakwater/breakwater/OrderRateWindow" "windowNanos" "J" (.long wn) ∧ Fld Z h a1 "com/example/breakwater/breakwater/OrderRateWindow" "times" "[J" (.ref ar) ∧ Fld Z h a1 "com/example/breakwater/breakwater/OrderRateWindow" "head" "I" (.int (1 : Int32)) ∧ Fld Z h a1 "com/example/breakwater/breakwater/OrderRateWindow" "count" "I" (.int (0 : Int32)) ∧ Fld Z h a1 "com/example/breakwater/breakwater/OrderRateWindow" "now" "J" (.long tm) ∧ Arv Z h ar kA .long (16 : Int32) [(.long x0), (.long x1), (.long x2)] (.long (0 : Int64))) := by
  refine Ct.of (plainFor_of_name pn_OrderRateWindow_528) ?_
  intro p e s m below meth c T0 X0 hx hby hml hown hnm hret hlk hZ e0
  have hown : s.vm.findClass "com/example/breakwater/breakwater/OrderRateWindow" = some m.cls := hown
  have hml : c.maxLocals = 3 := hml
  have N0 := Fr.nil n0
  refine Go.cast (g' := mkF m 0 #[.val (.ref a1), .val (.long tm), .second] []) (by first | (simp [entryFrame, mkF, argsToLocals, Value.category]; done) | rfl) ?_
  have K : Keep h0 h0 [a1, ar] := Keep.refl _ _
  refine Go.by (T' := T0) (g' := (mkF m 2 #[.val (.ref a1), .val (.long tm), .second] [(.ref a1), (.long tm)])) (fun t k => ?_) ?_
  · show Steps p.tables e below (T0.setTop (mkF m 0 #[.val (.ref a1), .val (.long tm), .second] [])) _
    refine XS.lloadN X0.here hx rfl (hb hby d_p25_m3_0) rfl ?_
    show Steps p.tables e below (T0.setTop (mkF m 1 #[.val (.ref a1), .val (.long tm), .second] [(.long tm)])) _
    refine XS.aloadN X0.here hx rfl (hb hby d_p25_m3_1) rfl rfl ?_
    exact k
  refine Go.getF X0 hx hZ hown (wd hw 28 rfl) Via.refl e0 F_a1_now (hb hby d_p25_m3_2) ?_
  intro T1 X1 e1
  show Go p e below _ T1 (mkF m 5 #[.val (.ref a1), .val (.long tm), .second] [(.long nw), (.long tm)])
  refine Go.by (T' := T1) (g' := (mkF m 13 #[.val (.ref a1), .val (.long tm), .second] [(.long tm), (.ref a1)])) (fun t k => ?_) ?_
  · show Steps p.tables e below (T1.setTop (mkF m 5 #[.val (.ref a1), .val (.long tm), .second] [(.long nw), (.long tm)])) _
    refine XS.lcmp X1.here hx rfl (hb hby d_p25_m3_5) rfl ?_
    show Steps p.tables e below (T1.setTop (mkF m 6 #[.val (.ref a1), .val (.long tm), .second] [(.int (lcmpW tm nw))])) _
    refine XS.ifYes X1.here hx rfl (pc0 := 6) (pc' := 11) rfl (hb hby d_p25_m3_6) rfl ((if0 _ _).trans (flt (fun q => ht ((lw_lt _ _).mp q))).2.1) (by decide) (by decide) ?_
    show Steps p.tables e below (T1.setTop (mkF m 11 #[.val (.ref a1), .val (.long tm), .second] [])) _
    refine XS.aloadN X1.here hx rfl (hb hby d_p25_m3_11) rfl rfl ?_
    show Steps p.tables e below (T1.setTop (mkF m 12 #[.val (.ref a1), .val (.long tm), .second] [(.ref a1)])) _
    refine XS.lloadN X1.here hx rfl (hb hby d_p25_m3_12) rfl ?_
    exact k
  refine Go.putF X1 hx hZ hown (wd hw 28 rfl) Via.refl e1 F_a1_now E_a1 (Or.inl (wd hw 29 rfl)) (wd hw 4 rfl) (ty := .long) (by decide) rfl rfl (hb hby d_p25_m3_13) ?_
  intro T2 h2 X2 e2 W2
  replace E_a1 := E_a1.wr W2
  replace F_a1_windowNanos := F_a1_windowNanos.other W2 (Or.inr (slot_ne (a0 := a0) (Or.inr (wd hw 49 rfl)) (Or.inl (wd hw 29 rfl)) (by decide) (t := .long) (t' := .long) (by decide) (by decide)))
  replace F_a1_times := F_a1_times.other W2 (Or.inr (slot_ne (a0 := a0) (Or.inl (wd hw 26 rfl)) (Or.inl (wd hw 29 rfl)) (by decide) (t := (.array .long)) (t' := .long) (by decide) (by decide)))
  replace F_a1_head := F_a1_head.other W2 (Or.inr (slot_ne (a0 := a0) (Or.inl (wd hw 63 rfl)) (Or.inl (wd hw 29 rfl)) (by decide) (t := .int) (t' := .long) (by decide) (by decide)))
  replace F_a1_count := F_a1_count.other W2 (Or.inr (slot_ne (a0 := a0) (Or.inl (wd hw 56 rfl)) (Or.inl (wd hw 29 rfl)) (by decide) (t := .int) (t' := .long) (by decide) (by decide)))
  replace F_a1_now := F_a1_now.same W2
  replace V_ar := V_ar.other W2 (Ne.symm ne_a1_ar)
  replace O := O.wr W2 g_a1
  have N2 := Fr.snoc X2 N0 g_a1
  replace K := K.wr W2 (Or.inl (List.mem_of_getElem? (i := 0) rfl))
  show Go p e below _ T2 (mkF m 16 #[.val (.ref a1), .val (.long tm), .second] [])
  refine Go.by (T' := T2) (g' := (mkF m 17 #[.val (.ref a1), .val (.long tm), .second] [(.ref a1)])) (fun t k => ?_) ?_
  · show Steps p.tables e below (T2.setTop (mkF m 16 #[.val (.ref a1), .val (.long tm), .second] [])) _
    refine XS.aloadN X2.here hx rfl (hb hby d_p25_m3_16) rfl rfl ?_
    exact k
  refine Go.getF X2 hx hZ hown (wd hw 55 rfl) Via.refl e2 F_a1_count (hb hby d_p25_m3_17) ?_
  intro T3 X3 e3
  show Go p e below _ T3 (mkF m 20 #[.val (.ref a1), .val (.long tm), .second] [(.int (0 : Int32))])
  refine Go.by (T' := T3) (g' := (mkF m 75 #[.val (.ref a1), .val (.long tm), .second] [(.int (1 : Int32))])) (fun t k => ?_) ?_
  · show Steps p.tables e below (T3.setTop (mkF m 20 #[.val (.ref a1), .val (.long tm), .second] [(.int (0 : Int32))])) _
    refine XS.ifYes X3.here hx rfl (pc0 := 20) (pc' := 74) rfl (hb hby d_p25_m3_20) rfl ((if0 _ _).trans (flt (by decide : ¬ (0 : Int32) < (0 : Int32))).2.2.2) (by decide) (by decide) ?_
    show Steps p.tables e below (T3.setTop (mkF m 74 #[.val (.ref a1), .val (.long tm), .second] [])) _
    refine XS.iconst X3.here hx rfl (hb hby d_p25_m3_74) ?_
    exact k
  refine Go.retZ X3 hx hlk hret (Or.inr rfl) (hb hby d_p25_m3_75) (by decide) (by decide) e3 ?_
  exact ⟨rfl, N2, K, F_a1_windowNanos, F_a1_times, F_a1_head, F_a1_count, F_a1_now, V_ar⟩
set_option maxRecDepth 65536 in
set_option maxHeartbeats 40000000 in
theorem ct_remove_1_1_n (l : Launch) (Z : State) (a0 : Array Value) (hw : ∀ d ∈ tables_1, d.before a0 Z = true) (w_MS : Addr) (S_MS : Sta Z Z.heap "java/util/concurrent/TimeUnit" "MILLISECONDS" "Ljava/util/concurrent/TimeUnit;" (.ref w_MS)) (E_MS : Exa Z Z.heap w_MS "java/util/concurrent/TimeUnit") (F_MS1 : Fld Z Z.heap w_MS "java/util/concurrent/TimeUnit" "scale" "J" (.long 1000000)) (F_MS2 : Fld Z Z.heap w_MS "java/util/concurrent/TimeUnit" "maxNanos" "J" (.long 9223372036854)) (a1 : Addr) (ar : Addr) (kA : ClassId) (wn : Int64) (nw : Int64) (x0 : Int64) (x1 : Int64) (x2 : Int64) (tm : Int64) (h0 : Heap) (n0 : Nat) (O : Old Z n0 h0) (E_a1 : Exa Z h0 a1 "com/example/breakwater/breakwater/OrderRateWindow") (F_a1_windowNanos : Fld Z h0 a1 "com/example/breakwater/breakwater/OrderRateWindow" "windowNanos" "J" (.long wn)) (F_a1_times : Fld Z h0 a1 "com/example/breakwater/breakwater/OrderRateWindow" "times" "[J" (.ref ar)) (F_a1_head : Fld Z h0 a1 "com/example/breakwater/breakwater/OrderRateWindow" "head" "I" (.int (1 : Int32))) (F_a1_count : Fld Z h0 a1 "com/example/breakwater/breakwater/OrderRateWindow" "count" "I" (.int (1 : Int32))) (F_a1_now : Fld Z h0 a1 "com/example/breakwater/breakwater/OrderRateWindow" "now" "J" (.long nw)) (V_ar : Arv Z h0 ar kA .long (16 : Int32) [(.long x0), (.long x1), (.long x2)] (.long (0 : Int64))) (g_a1 : n0 ≤ a1) (g_ar : n0 ≤ ar) (ne_a1_ar : a1 ≠ ar) (hr0 : ¬ x1 = tm) :
    Ct l (⟨"com/example/breakwater/breakwater/OrderRateWindow", "remove", "(J)V"⟩ : MethodName) prog_25_method_6_code 5 none ({ frames := 0, cells := 0, slots := 0, locals := 0 } : Room) Z #[(.ref a1), (.long tm)] h0 (fun v h L => v = none ∧ Fr n0 L ∧ Keep h0 h [a1, ar] ∧ Fld Z h a1 "com/example/breakwater/breakwater/OrderRateWindow" "windowNanos" "J" (.long wn) ∧ Fld Z h a1 "com/example/breakwater/breakwater/OrderRateWindow" "times" "[J" (.ref ar) ∧ Fld Z h a1 "com/example/breakwater/breakwater/OrderRateWindow" "head" "I" (.int (1 : Int32)) ∧ Fld Z h a1 "com/example/breakwater/breakwater/OrderRateWindow" "count" "I" (.int (1 : Int32)) ∧ Fld Z h a1 "com/example/breakwater/breakwater/OrderRateWindow" "now" "J" (.long nw) ∧ Arv Z h ar kA .long (16 : Int32) [(.long x0), (.long x1), (.long x2)] (.long (0 : Int64))) := by
  refine Ct.of (plainFor_of_name pn_OrderRateWindow_528) ?_
  intro p e s m below meth c T0 X0 hx hby hml hown hnm hret hlk hZ e0
  have hown : s.vm.findClass "com/example/breakwater/breakwater/OrderRateWindow" = some m.cls := hown
  have hml : c.maxLocals = 5 := hml
  have N0 := Fr.nil n0
  refine Go.cast (g' := mkF m 0 #[.val (.ref a1), .val (.long tm), .second, .unset, .unset] []) (by first | (simp [entryFrame, mkF, argsToLocals, Value.category]; done) | rfl) ?_
  have K : Keep h0 h0 [a1, ar] := Keep.refl _ _
  refine Go.by (T' := T0) (g' := (mkF m 1 #[.val (.ref a1), .val (.long tm), .second, .unset, .unset] [(.ref a1)])) (fun t k => ?_) ?_
  · show Steps p.tables e below (T0.setTop (mkF m 0 #[.val (.ref a1), .val (.long tm), .second, .unset, .unset] [])) _
    refine XS.aloadN X0.here hx rfl (hb hby d_p25_m6_0) rfl rfl ?_
    exact k
  refine Go.getF X0 hx hZ hown (wd hw 55 rfl) Via.refl e0 F_a1_count (hb hby d_p25_m6_1) ?_
  intro T1 X1 e1
  show Go p e below _ T1 (mkF m 4 #[.val (.ref a1), .val (.long tm), .second, .unset, .unset] [(.int (1 : Int32))])
  refine Go.by (T' := T1) (g' := (mkF m 12 #[.val (.ref a1), .val (.long tm), .second, .val (.int (0 : Int32)), .unset] [(.ref a1)])) (fun t k => ?_) ?_
  · show Steps p.tables e below (T1.setTop (mkF m 4 #[.val (.ref a1), .val (.long tm), .second, .unset, .unset] [(.int (1 : Int32))])) _
    refine XS.iconst X1.here hx rfl (hb hby d_p25_m6_4) ?_
    show Steps p.tables e below (T1.setTop (mkF m 5 #[.val (.ref a1), .val (.long tm), .second, .unset, .unset] [(.int (1 : Int32)), (.int (1 : Int32))])) _
    refine XS.isub X1.here hx rfl (hb hby d_p25_m6_5) rfl ?_
    show Steps p.tables e below (T1.setTop (mkF m 6 #[.val (.ref a1), .val (.long tm), .second, .unset, .unset] [(.int (0 : Int32))])) _
    refine XS.istoreN X1.here hx rfl (hb hby d_p25_m6_6) rfl (l' := #[.val (.ref a1), .val (.long tm), .second, .val (.int (0 : Int32)), .unset]) rfl ?_
    show Steps p.tables e below (T1.setTop (mkF m 7 #[.val (.ref a1), .val (.long tm), .second, .val (.int (0 : Int32)), .unset] [])) _
    refine XS.iloadN X1.here hx rfl (hb hby d_p25_m6_7) rfl ?_
    show Steps p.tables e below (T1.setTop (mkF m 8 #[.val (.ref a1), .val (.long tm), .second, .val (.int (0 : Int32)), .unset] [(.int (0 : Int32))])) _
    refine XS.ifNo X1.here hx rfl (hb hby d_p25_m6_8) rfl ((if0 _ _).trans (flt (by decide : ¬ (0 : Int32) < (0 : Int32))).1) ?_
    show Steps p.tables e below (T1.setTop (mkF m 11 #[.val (.ref a1), .val (.long tm), .second, .val (.int (0 : Int32)), .unset] [])) _
    refine XS.aloadN X1.here hx rfl (hb hby d_p25_m6_11) rfl rfl ?_
    exact k
  refine Go.getF X1 hx hZ hown (wd hw 25 rfl) Via.refl e1 F_a1_times (hb hby d_p25_m6_12) ?_
  intro T2 X2 e2
  show Go p e below _ T2 (mkF m 15 #[.val (.ref a1), .val (.long tm), .second, .val (.int (0 : Int32)), .unset] [(.ref ar)])
  refine Go.by (T' := T2) (g' := (mkF m 16 #[.val (.ref a1), .val (.long tm), .second, .val (.int (0 : Int32)), .unset] [(.ref a1), (.ref ar)])) (fun t k => ?_) ?_
  · show Steps p.tables e below (T2.setTop (mkF m 15 #[.val (.ref a1), .val (.long tm), .second, .val (.int (0 : Int32)), .unset] [(.ref ar)])) _
    refine XS.aloadN X2.here hx rfl (hb hby d_p25_m6_15) rfl rfl ?_
    exact k
  refine Go.getF X2 hx hZ hown (wd hw 62 rfl) Via.refl e2 F_a1_head (hb hby d_p25_m6_16) ?_
  intro T3 X3 e3
  show Go p e below _ T3 (mkF m 19 #[.val (.ref a1), .val (.long tm), .second, .val (.int (0 : Int32)), .unset] [(.int (1 : Int32)), (.ref ar)])
  refine Go.by (T' := T3) (g' := (mkF m 22 #[.val (.ref a1), .val (.long tm), .second, .val (.int (0 : Int32)), .unset] [(.ref a1), (.int (1 : Int32)), (.ref ar)])) (fun t k => ?_) ?_
  · show Steps p.tables e below (T3.setTop (mkF m 19 #[.val (.ref a1), .val (.long tm), .second, .val (.int (0 : Int32)), .unset] [(.int (1 : Int32)), (.ref ar)])) _
    refine XS.iloadN X3.here hx rfl (hb hby d_p25_m6_19) rfl ?_
    show Steps p.tables e below (T3.setTop (mkF m 20 #[.val (.ref a1), .val (.long tm), .second, .val (.int (0 : Int32)), .unset] [(.int (0 : Int32)), (.int (1 : Int32)), (.ref ar)])) _
    refine XS.iadd X3.here hx rfl (hb hby d_p25_m6_20) rfl ?_
    show Steps p.tables e below (T3.setTop (mkF m 21 #[.val (.ref a1), .val (.long tm), .second, .val (.int (0 : Int32)), .unset] [(.int (1 : Int32)), (.ref ar)])) _
    refine XS.aloadN X3.here hx rfl (hb hby d_p25_m6_21) rfl rfl ?_
    exact k
  refine Go.getF X3 hx hZ hown (wd hw 25 rfl) Via.refl e3 F_a1_times (hb hby d_p25_m6_22) ?_
  intro T4 X4 e4
  show Go p e below _ T4 (mkF m 25 #[.val (.ref a1), .val (.long tm), .second, .val (.int (0 : Int32)), .unset] [(.ref ar), (.int (1 : Int32)), (.ref ar)])
  refine Go.alenV X4 hx hZ e4 V_ar (hb hby d_p25_m6_25) ?_
  show Go p e below _ T4 (mkF m 26 #[.val (.ref a1), .val (.long tm), .second, .val (.int (0 : Int32)), .unset] [(.int (16 : Int32)), (.int (1 : Int32)), (.ref ar)])
  refine Go.by (T' := T4) (g' := (mkF m 27 #[.val (.ref a1), .val (.long tm), .second, .val (.int (0 : Int32)), .unset] [(.int (1 : Int32)), (.ref ar)])) (fun t k => ?_) ?_
  · show Steps p.tables e below (T4.setTop (mkF m 26 #[.val (.ref a1), .val (.long tm), .second, .val (.int (0 : Int32)), .unset] [(.int (16 : Int32)), (.int (1 : Int32)), (.ref ar)])) _
    refine iremM X4 hx rfl (hb hby d_p25_m6_26) rfl (by decide) ?_
    exact k
  refine Go.aloadV X4 hx hZ e4 V_ar (j := (1 : Int32)) (v := (.long x1)) ⟨by decide, by decide⟩ rfl (Or.inr (Or.inl ⟨rfl, rfl⟩)) (hb hby d_p25_m6_27) ?_
  show Go p e below _ T4 (mkF m 28 #[.val (.ref a1), .val (.long tm), .second, .val (.int (0 : Int32)), .unset] [(.long x1)])
  refine Go.by (T' := T4) (g' := (mkF m 108 #[.val (.ref a1), .val (.long tm), .second, .val (.int (-1 : Int32)), .unset] [])) (fun t k => ?_) ?_
  · show Steps p.tables e below (T4.setTop (mkF m 28 #[.val (.ref a1), .val (.long tm), .second, .val (.int (0 : Int32)), .unset] [(.long x1)])) _
    refine XS.lloadN X4.here hx rfl (hb hby d_p25_m6_28) rfl ?_
    show Steps p.tables e below (T4.setTop (mkF m 29 #[.val (.ref a1), .val (.long tm), .second, .val (.int (0 : Int32)), .unset] [(.long tm), (.long x1)])) _
    refine XS.lcmp X4.here hx rfl (hb hby d_p25_m6_29) rfl ?_
    show Steps p.tables e below (T4.setTop (mkF m 30 #[.val (.ref a1), .val (.long tm), .second, .val (.int (0 : Int32)), .unset] [(.int (lcmpW x1 tm))])) _
    refine XS.ifYes X4.here hx rfl (pc0 := 30) (pc' := 102) rfl (hb hby d_p25_m6_30) rfl ((if0 _ _).trans (feq (fun q => hr0 ((lw_eq _ _).mp q))).2) (by decide) (by decide) ?_
    show Steps p.tables e below (T4.setTop (mkF m 102 #[.val (.ref a1), .val (.long tm), .second, .val (.int (0 : Int32)), .unset] [])) _
    refine XS.iinc X4.here hx rfl (hb hby d_p25_m6_102) rfl (l' := #[.val (.ref a1), .val (.long tm), .second, .val (.int (-1 : Int32)), .unset]) rfl ?_
    show Steps p.tables e below (T4.setTop (mkF m 105 #[.val (.ref a1), .val (.long tm), .second, .val (.int (-1 : Int32)), .unset] [])) _
    refine XS.goto X4.here hx rfl (pc0 := 105) (pc' := 7) rfl (hb hby d_p25_m6_105) (by decide) (by decide) ?_
    show Steps p.tables e below (T4.setTop (mkF m 7 #[.val (.ref a1), .val (.long tm), .second, .val (.int (-1 : Int32)), .unset] [])) _
    refine XS.iloadN X4.here hx rfl (hb hby d_p25_m6_7) rfl ?_
    show Steps p.tables e below (T4.setTop (mkF m 8 #[.val (.ref a1), .val (.long tm), .second, .val (.int (-1 : Int32)), .unset] [(.int (-1 : Int32))])) _
    refine XS.ifYes X4.here hx rfl (pc0 := 8) (pc' := 108) rfl (hb hby d_p25_m6_8) rfl ((if0 _ _).trans (tlt (by decide : (-1 : Int32) < (0 : Int32))).1) (by decide) (by decide) ?_
    exact k
  refine Go.retV X4 hx hlk hret (hb hby d_p25_m6_108) (by decide) (by decide) e4 ?_
  exact ⟨rfl, N0, K, F_a1_windowNanos, F_a1_times, F_a1_head, F_a1_count, F_a1_now, V_ar⟩
set_option maxRecDepth 65536 in
set_option maxHeartbeats 40000000 in
theorem ct_move_1_1_0 (l : Launch) (Z : State) (a0 : Array Value) (hw : ∀ d ∈ tables_1, d.before a0 Z = true) (w_MS : Addr) (S_MS : Sta Z Z.heap "java/util/concurrent/TimeUnit" "MILLISECONDS" "Ljava/util/concurrent/TimeUnit;" (.ref w_MS)) (E_MS : Exa Z Z.heap w_MS "java/util/concurrent/TimeUnit") (F_MS1 : Fld Z Z.heap w_MS "java/util/concurrent/TimeUnit" "scale" "J" (.long 1000000)) (F_MS2 : Fld Z Z.heap w_MS "java/util/concurrent/TimeUnit" "maxNanos" "J" (.long 9223372036854)) (a1 : Addr) (ar : Addr) (kA : ClassId) (wn : Int64) (nw : Int64) (x0 : Int64) (x1 : Int64) (x2 : Int64) (tm : Int64) (h0 : Heap) (n0 : Nat) (O : Old Z n0 h0) (E_a1 : Exa Z h0 a1 "com/example/breakwater/breakwater/OrderRateWindow") (F_a1_windowNanos : Fld Z h0 a1 "com/example/breakwater/breakwater/OrderRateWindow" "windowNanos" "J" (.long wn)) (F_a1_times : Fld Z h0 a1 "com/example/breakwater/breakwater/OrderRateWindow" "times" "[J" (.ref ar)) (F_a1_head : Fld Z h0 a1 "com/example/breakwater/breakwater/OrderRateWindow" "head" "I" (.int (1 : Int32))) (F_a1_count : Fld Z h0 a1 "com/example/breakwater/breakwater/OrderRateWindow" "count" "I" (.int (1 : Int32))) (F_a1_now : Fld Z h0 a1 "com/example/breakwater/breakwater/OrderRateWindow" "now" "J" (.long nw)) (V_ar : Arv Z h0 ar kA .long (16 : Int32) [(.long x0), (.long x1), (.long x2)] (.long (0 : Int64))) (g_a1 : n0 ≤ a1) (g_ar : n0 ≤ ar) (ne_a1_ar : a1 ≠ ar) (ht : ¬ tm < nw) (hq0 : (tm - x1) < wn) :
    Ct l (⟨"com/example/breakwater/breakwater/OrderRateWindow", "moveTo", "(J)Z"⟩ : MethodName) prog_25_method_3_code 3 (some .boolean) ({ frames := 0, cells := 0, slots := 0, locals := 0 } : Room) Z #[(.ref a1), (.long tm)] h0 (fun v h L => v = some (.int 1) ∧ Fr n0 L ∧ Keep h0 h [a1, ar] ∧ Fld Z h a1 "com/example/breakwater/breakwater/OrderRateWindow" "windowNanos" "J" (.long wn) ∧ Fld Z h a1 "com/example/breakwater/breakwater/OrderRateWindow" "times" "[J" (.ref ar) ∧ Fld Z h a1 "com/example/breakwater/breakwater/OrderRateWindow" "head" "I" (.int (1 : Int32)) ∧ Fld Z h a1 "com/example/breakwater/breakwater/OrderRateWindow" "count" "I" (.int (1 : Int32)) ∧ Fld Z h a1 "com/example/breakwater/breakwater/OrderRateWindow" "now" "J" (.long tm) ∧ Arv Z h ar kA .long (16 : Int32) [(.long x0), (.long x1), (.long x2)] (.long (0 : Int64))) := by
  refine Ct.of (plainFor_of_name pn_OrderRateWindow_528) ?_
  intro p e s m below meth c T0 X0 hx hby hml hown hnm hret hlk hZ e0
  have hown : s.vm.findClass "com/example/breakwater/breakwater/OrderRateWindow" = some m.cls := hown
  have hml : c.maxLocals = 3 := hml
  have N0 := Fr.nil n0
  refine Go.cast (g' := mkF m 0 #[.val (.ref a1), .val (.long tm), .second] []) (by first | (simp [entryFrame, mkF, argsToLocals, Value.category]; done) | rfl) ?_
  have K : Keep h0 h0 [a1, ar] := Keep.refl _ _
  refine Go.by (T' := T0) (g' := (mkF m 2 #[.val (.ref a1), .val (.long tm), .second] [(.ref a1), (.long tm)])) (fun t k => ?_) ?_
  · show Steps p.tables e below (T0.setTop (mkF m 0 #[.val (.ref a1), .val (.long tm), .second] [])) _
    refine XS.lloadN X0.here hx rfl (hb hby d_p25_m3_0) rfl ?_
    show Steps p.tables e below (T0.setTop (mkF m 1 #[.val (.ref a1), .val (.long tm), .second] [(.long tm)])) _
    refine XS.aloadN X0.here hx rfl (hb hby d_p25_m3_1) rfl rfl ?_
    exact k
  refine Go.getF X0 hx hZ hown (wd hw 28 rfl) Via.refl e0 F_a1_now (hb hby d_p25_m3_2) ?_
  intro T1 X1 e1
  show Go p e below _ T1 (mkF m 5 #[.val (.ref a1), .val (.long tm), .second] [(.long nw), (.long tm)])
  refine Go.by (T' := T1) (g' := (mkF m 13 #[.val (.ref a1), .val (.long tm), .second] [(.long tm), (.ref a1)])) (fun t k => ?_) ?_
  · show Steps p.tables e below (T1.setTop (mkF m 5 #[.val (.ref a1), .val (.long tm), .second] [(.long nw), (.long tm)])) _
    refine XS.lcmp X1.here hx rfl (hb hby d_p25_m3_5) rfl ?_
    show Steps p.tables e below (T1.setTop (mkF m 6 #[.val (.ref a1), .val (.long tm), .second] [(.int (lcmpW tm nw))])) _
    refine XS.ifYes X1.here hx rfl (pc0 := 6) (pc' := 11) rfl (hb hby d_p25_m3_6) rfl ((if0 _ _).trans (flt (fun q => ht ((lw_lt _ _).mp q))).2.1) (by decide) (by decide) ?_
    show Steps p.tables e below (T1.setTop (mkF m 11 #[.val (.ref a1), .val (.long tm), .second] [])) _
    refine XS.aloadN X1.here hx rfl (hb hby d_p25_m3_11) rfl rfl ?_
    show Steps p.tables e below (T1.setTop (mkF m 12 #[.val (.ref a1), .val (.long tm), .second] [(.ref a1)])) _
    refine XS.lloadN X1.here hx rfl (hb hby d_p25_m3_12) rfl ?_
    exact k
  refine Go.putF X1 hx hZ hown (wd hw 28 rfl) Via.refl e1 F_a1_now E_a1 (Or.inl (wd hw 29 rfl)) (wd hw 4 rfl) (ty := .long) (by decide) rfl rfl (hb hby d_p25_m3_13) ?_
  intro T2 h2 X2 e2 W2
  replace E_a1 := E_a1.wr W2
  replace F_a1_windowNanos := F_a1_windowNanos.other W2 (Or.inr (slot_ne (a0 := a0) (Or.inr (wd hw 49 rfl)) (Or.inl (wd hw 29 rfl)) (by decide) (t := .long) (t' := .long) (by decide) (by decide)))
  replace F_a1_times := F_a1_times.other W2 (Or.inr (slot_ne (a0 := a0) (Or.inl (wd hw 26 rfl)) (Or.inl (wd hw 29 rfl)) (by decide) (t := (.array .long)) (t' := .long) (by decide) (by decide)))
  replace F_a1_head := F_a1_head.other W2 (Or.inr (slot_ne (a0 := a0) (Or.inl (wd hw 63 rfl)) (Or.inl (wd hw 29 rfl)) (by decide) (t := .int) (t' := .long) (by decide) (by decide)))
  replace F_a1_count := F_a1_count.other W2 (Or.inr (slot_ne (a0 := a0) (Or.inl (wd hw 56 rfl)) (Or.inl (wd hw 29 rfl)) (by decide) (t := .int) (t' := .long) (by decide) (by decide)))
  replace F_a1_now := F_a1_now.same W2
  replace V_ar := V_ar.other W2 (Ne.symm ne_a1_ar)
  replace O := O.wr W2 g_a1
  have N2 := Fr.snoc X2 N0 g_a1
  replace K := K.wr W2 (Or.inl (List.mem_of_getElem? (i := 0) rfl))
  show Go p e below _ T2 (mkF m 16 #[.val (.ref a1), .val (.long tm), .second] [])
  refine Go.by (T' := T2) (g' := (mkF m 17 #[.val (.ref a1), .val (.long tm), .second] [(.ref a1)])) (fun t k => ?_) ?_
  · show Steps p.tables e below (T2.setTop (mkF m 16 #[.val (.ref a1), .val (.long tm), .second] [])) _
    refine XS.aloadN X2.here hx rfl (hb hby d_p25_m3_16) rfl rfl ?_
    exact k
  refine Go.getF X2 hx hZ hown (wd hw 55 rfl) Via.refl e2 F_a1_count (hb hby d_p25_m3_17) ?_
  intro T3 X3 e3
  show Go p e below _ T3 (mkF m 20 #[.val (.ref a1), .val (.long tm), .second] [(.int (1 : Int32))])
  refine Go.by (T' := T3) (g' := (mkF m 24 #[.val (.ref a1), .val (.long tm), .second] [(.ref a1)])) (fun t k => ?_) ?_
  · show Steps p.tables e below (T3.setTop (mkF m 20 #[.val (.ref a1), .val (.long tm), .second] [(.int (1 : Int32))])) _
    refine XS.ifNo X3.here hx rfl (hb hby d_p25_m3_20) rfl ((if0 _ _).trans (tlt (by decide : (0 : Int32) < (1 : Int32))).2.2.2) ?_
    show Steps p.tables e below (T3.setTop (mkF m 23 #[.val (.ref a1), .val (.long tm), .second] [])) _
    refine XS.aloadN X3.here hx rfl (hb hby d_p25_m3_23) rfl rfl ?_
    exact k
  refine Go.getF X3 hx hZ hown (wd hw 28 rfl) Via.refl e3 F_a1_now (hb hby d_p25_m3_24) ?_
  intro T4 X4 e4
  show Go p e below _ T4 (mkF m 27 #[.val (.ref a1), .val (.long tm), .second] [(.long tm)])
  refine Go.by (T' := T4) (g' := (mkF m 28 #[.val (.ref a1), .val (.long tm), .second] [(.ref a1), (.long tm)])) (fun t k => ?_) ?_
  · show Steps p.tables e below (T4.setTop (mkF m 27 #[.val (.ref a1), .val (.long tm), .second] [(.long tm)])) _
    refine XS.aloadN X4.here hx rfl (hb hby d_p25_m3_27) rfl rfl ?_
    exact k
  refine Go.getF X4 hx hZ hown (wd hw 25 rfl) Via.refl e4 F_a1_times (hb hby d_p25_m3_28) ?_
  intro T5 X5 e5
  show Go p e below _ T5 (mkF m 31 #[.val (.ref a1), .val (.long tm), .second] [(.ref ar), (.long tm)])
  refine Go.by (T' := T5) (g' := (mkF m 32 #[.val (.ref a1), .val (.long tm), .second] [(.ref a1), (.ref ar), (.long tm)])) (fun t k => ?_) ?_
  · show Steps p.tables e below (T5.setTop (mkF m 31 #[.val (.ref a1), .val (.long tm), .second] [(.ref ar), (.long tm)])) _
    refine XS.aloadN X5.here hx rfl (hb hby d_p25_m3_31) rfl rfl ?_
    exact k
  refine Go.getF X5 hx hZ hown (wd hw 62 rfl) Via.refl e5 F_a1_head (hb hby d_p25_m3_32) ?_
  intro T6 X6 e6
  show Go p e below _ T6 (mkF m 35 #[.val (.ref a1), .val (.long tm), .second] [(.int (1 : Int32)), (.ref ar), (.long tm)])
  refine Go.aloadV X6 hx hZ e6 V_ar (j := (1 : Int32)) (v := (.long x1)) ⟨by decide, by decide⟩ rfl (Or.inr (Or.inl ⟨rfl, rfl⟩)) (hb hby d_p25_m3_35) ?_
  show Go p e below _ T6 (mkF m 36 #[.val (.ref a1), .val (.long tm), .second] [(.long x1), (.long tm)])
  refine Go.by (T' := T6) (g' := (mkF m 38 #[.val (.ref a1), .val (.long tm), .second] [(.ref a1), (.long (tm - x1))])) (fun t k => ?_) ?_
  · show Steps p.tables e below (T6.setTop (mkF m 36 #[.val (.ref a1), .val (.long tm), .second] [(.long x1), (.long tm)])) _
    refine XS.lsub X6.here hx rfl (hb hby d_p25_m3_36) rfl ?_
    show Steps p.tables e below (T6.setTop (mkF m 37 #[.val (.ref a1), .val (.long tm), .second] [(.long (tm - x1))])) _
    refine XS.aloadN X6.here hx rfl (hb hby d_p25_m3_37) rfl rfl ?_
    exact k
  refine Go.getF X6 hx hZ hown (wd hw 48 rfl) Via.refl e6 F_a1_windowNanos (hb hby d_p25_m3_38) ?_
  intro T7 X7 e7
  show Go p e below _ T7 (mkF m 41 #[.val (.ref a1), .val (.long tm), .second] [(.long wn), (.long (tm - x1))])
  refine Go.by (T' := T7) (g' := (mkF m 75 #[.val (.ref a1), .val (.long tm), .second] [(.int (1 : Int32))])) (fun t k => ?_) ?_
  · show Steps p.tables e below (T7.setTop (mkF m 41 #[.val (.ref a1), .val (.long tm), .second] [(.long wn), (.long (tm - x1))])) _
    refine XS.lcmp X7.here hx rfl (hb hby d_p25_m3_41) rfl ?_
    show Steps p.tables e below (T7.setTop (mkF m 42 #[.val (.ref a1), .val (.long tm), .second] [(.int (lcmpW (tm - x1) wn))])) _
    refine XS.ifYes X7.here hx rfl (pc0 := 42) (pc' := 74) rfl (hb hby d_p25_m3_42) rfl ((if0 _ _).trans (tlt ((lw_lt _ _).mpr hq0)).1) (by decide) (by decide) ?_
    show Steps p.tables e below (T7.setTop (mkF m 74 #[.val (.ref a1), .val (.long tm), .second] [])) _
    refine XS.iconst X7.here hx rfl (hb hby d_p25_m3_74) ?_
    exact k
  refine Go.retZ X7 hx hlk hret (Or.inr rfl) (hb hby d_p25_m3_75) (by decide) (by decide) e7 ?_
  exact ⟨rfl, N2, K, F_a1_windowNanos, F_a1_times, F_a1_head, F_a1_count, F_a1_now, V_ar⟩
set_option maxRecDepth 65536 in
set_option maxHeartbeats 40000000 in
theorem ct_get_count_l_1___Int32__5 (l : Launch) (Z : State) (a0 : Array Value) (hw : ∀ d ∈ tables_1, d.before a0 Z = true) (a1 : Addr) (h0 : Heap) (n0 : Nat) (O : Old Z n0 h0) (F_a1 : Fld Z h0 a1 "com/example/breakwater/breakwater/OrderRateWindow" "count" "I" (.int (1 : Int32))) :
    Ct l (⟨"com/example/breakwater/breakwater/OrderRateWindow", "count", "()I"⟩ : MethodName) prog_25_method_4_code 1 (some .int) ({ frames := 0, cells := 0, slots := 0, locals := 0 } : Room) Z #[(.ref a1)] h0 (fun v h L => v = some (.int (1 : Int32)) ∧ Fr n0 L ∧ h0 = h) := by
  refine Ct.of (plainFor_of_name pn_OrderRateWindow_528) ?_
  intro p e s m below meth c T0 X0 hx hby hml hown hnm hret hlk hZ e0
  have hown : s.vm.findClass "com/example/breakwater/breakwater/OrderRateWindow" = some m.cls := hown
  have hml : c.maxLocals = 1 := hml
  have N0 := Fr.nil n0
  refine Go.cast (g' := mkF m 0 #[.val (.ref a1)] []) (by first | (simp [entryFrame, mkF, argsToLocals, Value.category]; done) | rfl) ?_
  refine Go.by (T' := T0) (g' := (mkF m 1 #[.val (.ref a1)] [(.ref a1)])) (fun t k => ?_) ?_
  · show Steps p.tables e below (T0.setTop (mkF m 0 #[.val (.ref a1)] [])) _
    refine XS.aloadN X0.here hx rfl (hb hby d_p25_m4_0) rfl rfl ?_
    exact k
  refine Go.getF X0 hx hZ hown (wd hw 55 rfl) Via.refl e0 F_a1 (hb hby d_p25_m4_1) ?_
  intro T1 X1 e1
  show Go p e below _ T1 (mkF m 4 #[.val (.ref a1)] [(.int (1 : Int32))])
  refine Go.retI X1 hx hlk hret (hb hby d_p25_m4_4) (by decide) (by decide) e1 ?_
  exact ⟨rfl, N0, rfl⟩
set_option maxRecDepth 65536 in
set_option maxHeartbeats 40000000 in
theorem ct_get_count_l_2___Int32__7 (l : Launch) (Z : State) (a0 : Array Value) (hw : ∀ d ∈ tables_1, d.before a0 Z = true) (a1 : Addr) (h0 : Heap) (n0 : Nat) (O : Old Z n0 h0) (F_a1 : Fld Z h0 a1 "com/example/breakwater/breakwater/OrderRateWindow" "count" "I" (.int (2 : Int32))) :
    Ct l (⟨"com/example/breakwater/breakwater/OrderRateWindow", "count", "()I"⟩ : MethodName) prog_25_method_4_code 1 (some .int) ({ frames := 0, cells := 0, slots := 0, locals := 0 } : Room) Z #[(.ref a1)] h0 (fun v h L => v = some (.int (2 : Int32)) ∧ Fr n0 L ∧ h0 = h) := by
  refine Ct.of (plainFor_of_name pn_OrderRateWindow_528) ?_
  intro p e s m below meth c T0 X0 hx hby hml hown hnm hret hlk hZ e0
  have hown : s.vm.findClass "com/example/breakwater/breakwater/OrderRateWindow" = some m.cls := hown
  have hml : c.maxLocals = 1 := hml
  have N0 := Fr.nil n0
  refine Go.cast (g' := mkF m 0 #[.val (.ref a1)] []) (by first | (simp [entryFrame, mkF, argsToLocals, Value.category]; done) | rfl) ?_
  refine Go.by (T' := T0) (g' := (mkF m 1 #[.val (.ref a1)] [(.ref a1)])) (fun t k => ?_) ?_
  · show Steps p.tables e below (T0.setTop (mkF m 0 #[.val (.ref a1)] [])) _
    refine XS.aloadN X0.here hx rfl (hb hby d_p25_m4_0) rfl rfl ?_
    exact k
  refine Go.getF X0 hx hZ hown (wd hw 55 rfl) Via.refl e0 F_a1 (hb hby d_p25_m4_1) ?_
  intro T1 X1 e1
  show Go p e below _ T1 (mkF m 4 #[.val (.ref a1)] [(.int (2 : Int32))])
  refine Go.retI X1 hx hlk hret (hb hby d_p25_m4_4) (by decide) (by decide) e1 ?_
  exact ⟨rfl, N0, rfl⟩
set_option maxRecDepth 65536 in
set_option maxHeartbeats 40000000 in
theorem ct_get_count_l_0___Int32__10 (l : Launch) (Z : State) (a0 : Array Value) (hw : ∀ d ∈ tables_1, d.before a0 Z = true) (a1 : Addr) (h0 : Heap) (n0 : Nat) (O : Old Z n0 h0) (F_a1 : Fld Z h0 a1 "com/example/breakwater/breakwater/OrderRateWindow" "count" "I" (.int (0 : Int32))) :
    Ct l (⟨"com/example/breakwater/breakwater/OrderRateWindow", "count", "()I"⟩ : MethodName) prog_25_method_4_code 1 (some .int) ({ frames := 0, cells := 0, slots := 0, locals := 0 } : Room) Z #[(.ref a1)] h0 (fun v h L => v = some (.int (0 : Int32)) ∧ Fr n0 L ∧ h0 = h) := by
  refine Ct.of (plainFor_of_name pn_OrderRateWindow_528) ?_
  intro p e s m below meth c T0 X0 hx hby hml hown hnm hret hlk hZ e0
  have hown : s.vm.findClass "com/example/breakwater/breakwater/OrderRateWindow" = some m.cls := hown
  have hml : c.maxLocals = 1 := hml
  have N0 := Fr.nil n0
  refine Go.cast (g' := mkF m 0 #[.val (.ref a1)] []) (by first | (simp [entryFrame, mkF, argsToLocals, Value.category]; done) | rfl) ?_
  refine Go.by (T' := T0) (g' := (mkF m 1 #[.val (.ref a1)] [(.ref a1)])) (fun t k => ?_) ?_
  · show Steps p.tables e below (T0.setTop (mkF m 0 #[.val (.ref a1)] [])) _
    refine XS.aloadN X0.here hx rfl (hb hby d_p25_m4_0) rfl rfl ?_
    exact k
  refine Go.getF X0 hx hZ hown (wd hw 55 rfl) Via.refl e0 F_a1 (hb hby d_p25_m4_1) ?_
  intro T1 X1 e1
  show Go p e below _ T1 (mkF m 4 #[.val (.ref a1)] [(.int (0 : Int32))])
  refine Go.retI X1 hx hlk hret (hb hby d_p25_m4_4) (by decide) (by decide) e1 ?_
  exact ⟨rfl, N0, rfl⟩
set_option maxRecDepth 65536 in
set_option maxHeartbeats 40000000 in
theorem ct_law (l : Launch) (Z : State) (a0 : Array Value) (hw : ∀ d ∈ tables_1, d.before a0 Z = true) (w_MS : Addr) (S_MS : Sta Z Z.heap "java/util/concurrent/TimeUnit" "MILLISECONDS" "Ljava/util/concurrent/TimeUnit;" (.ref w_MS)) (E_MS : Exa Z Z.heap w_MS "java/util/concurrent/TimeUnit") (F_MS1 : Fld Z Z.heap w_MS "java/util/concurrent/TimeUnit" "scale" "J" (.long 1000000)) (F_MS2 : Fld Z Z.heap w_MS "java/util/concurrent/TimeUnit" "maxNanos" "J" (.long 9223372036854)) (p0 : Int32) (p1 : Int64) (p2 : Int64) (p3 : Int32) (p4 : Int64) (h0 : Heap) (n0 : Nat) (O : Old Z n0 h0)  :
    Ct l x code maxLocals ret room_1 Z #[(.int p0), (.long p1), (.long p2), (.int p3), (.long p4)] h0 (fun v h L => v = some (.int 1) ∧ Fr n0 L) := by
  refine Ct.of (plainFor_of_name pn_OrderRateWindowRemovePinLaw_400) ?_
  intro p e s m below meth c T0 X0 hx hby hml hown hnm hret hlk hZ e0
  have hown : s.vm.findClass "com/example/breakwater/breakwater/OrderRateWindowRemovePinLaw" = some m.cls := hown
  have hml : c.maxLocals = 28 := hml
  have N0 := Fr.nil n0
  refine Go.cast (g' := mkF m 0 #[.val (.int p0), .val (.long p1), .second, .val (.long p2), .second, .val (.int p3), .val (.long p4), .second, .unset, .unset, .unset, .unset, .unset, .unset, .unset, .unset, .unset, .unset, .unset, .unset, .unset, .unset, .unset, .unset, .unset, .unset, .unset, .unset] []) (by first | (simp [entryFrame, mkF, argsToLocals, Value.category, maxLocals]; done) | rfl) ?_
  refine Go.by (T' := T0) (g' := (mkF m 18 #[.val (.int p0), .val (.long p1), .second, .val (.long p2), .second, .val (.int p3), .val (.long p4), .second, .val (.long ((1 : Int64) + ((p0 &&& (255 : Int32)).toInt64))), .second, .val (.long (((1 : Int64) + ((p0 &&& (255 : Int32)).toInt64)) * (1000000 : Int64))), .second, .unset, .unset, .unset, .unset, .unset, .unset, .unset, .unset, .unset, .unset, .unset, .unset, .unset, .unset, .unset, .unset] [])) (fun t k => ?_) ?_
  · show Steps p.tables e below (T0.setTop (mkF m 0 #[.val (.int p0), .val (.long p1), .second, .val (.long p2), .second, .val (.int p3), .val (.long p4), .second, .unset, .unset, .unset, .unset, .unset, .unset, .unset, .unset, .unset, .unset, .unset, .unset, .unset, .unset, .unset, .unset, .unset, .unset, .unset, .unset] [])) _
    refine XS.lconst X0.here hx rfl (hb hby at_0) ?_
    show Steps p.tables e below (T0.setTop (mkF m 1 #[.val (.int p0), .val (.long p1), .second, .val (.long p2), .second, .val (.int p3), .val (.long p4), .second, .unset, .unset, .unset, .unset, .unset, .unset, .unset, .unset, .unset, .unset, .unset, .unset, .unset, .unset, .unset, .unset, .unset, .unset, .unset, .unset] [(.long (1 : Int64))])) _
    refine XS.iloadN X0.here hx rfl (hb hby at_1) rfl ?_
    show Steps p.tables e below (T0.setTop (mkF m 2 #[.val (.int p0), .val (.long p1), .second, .val (.long p2), .second, .val (.int p3), .val (.long p4), .second, .unset, .unset, .unset, .unset, .unset, .unset, .unset, .unset, .unset, .unset, .unset, .unset, .unset, .unset, .unset, .unset, .unset, .unset, .unset, .unset] [(.int p0), (.long (1 : Int64))])) _
    refine XS.sipush X0.here hx rfl (hb hby at_2) ?_
    show Steps p.tables e below (T0.setTop (mkF m 5 #[.val (.int p0), .val (.long p1), .second, .val (.long p2), .second, .val (.int p3), .val (.long p4), .second, .unset, .unset, .unset, .unset, .unset, .unset, .unset, .unset, .unset, .unset, .unset, .unset, .unset, .unset, .unset, .unset, .unset, .unset, .unset, .unset] [(.int (255 : Int32)), (.int p0), (.long (1 : Int64))])) _
    refine XS.iand X0.here hx rfl (hb hby at_5) rfl ?_
    show Steps p.tables e below (T0.setTop (mkF m 6 #[.val (.int p0), .val (.long p1), .second, .val (.long p2), .second, .val (.int p3), .val (.long p4), .second, .unset, .unset, .unset, .unset, .unset, .unset, .unset, .unset, .unset, .unset, .unset, .unset, .unset, .unset, .unset, .unset, .unset, .unset, .unset, .unset] [(.int (p0 &&& (255 : Int32))), (.long (1 : Int64))])) _
    refine XS.i2l X0.here hx rfl (hb hby at_6) rfl ?_
    show Steps p.tables e below (T0.setTop (mkF m 7 #[.val (.int p0), .val (.long p1), .second, .val (.long p2), .second, .val (.int p3), .val (.long p4), .second, .unset, .unset, .unset, .unset, .unset, .unset, .unset, .unset, .unset, .unset, .unset, .unset, .unset, .unset, .unset, .unset, .unset, .unset, .unset, .unset] [(.long ((p0 &&& (255 : Int32)).toInt64)), (.long (1 : Int64))])) _
    refine XS.ladd X0.here hx rfl (hb hby at_7) rfl ?_
    show Steps p.tables e below (T0.setTop (mkF m 8 #[.val (.int p0), .val (.long p1), .second, .val (.long p2), .second, .val (.int p3), .val (.long p4), .second, .unset, .unset, .unset, .unset, .unset, .unset, .unset, .unset, .unset, .unset, .unset, .unset, .unset, .unset, .unset, .unset, .unset, .unset, .unset, .unset] [(.long ((1 : Int64) + ((p0 &&& (255 : Int32)).toInt64)))])) _
    refine XS.lstore X0.here hx rfl (hb hby at_8) rfl (l' := #[.val (.int p0), .val (.long p1), .second, .val (.long p2), .second, .val (.int p3), .val (.long p4), .second, .val (.long ((1 : Int64) + ((p0 &&& (255 : Int32)).toInt64))), .second, .unset, .unset, .unset, .unset, .unset, .unset, .unset, .unset, .unset, .unset, .unset, .unset, .unset, .unset, .unset, .unset, .unset, .unset]) rfl ?_
    show Steps p.tables e below (T0.setTop (mkF m 10 #[.val (.int p0), .val (.long p1), .second, .val (.long p2), .second, .val (.int p3), .val (.long p4), .second, .val (.long ((1 : Int64) + ((p0 &&& (255 : Int32)).toInt64))), .second, .unset, .unset, .unset, .unset, .unset, .unset, .unset, .unset, .unset, .unset, .unset, .unset, .unset, .unset, .unset, .unset, .unset, .unset] [])) _
    refine XS.lload X0.here hx rfl (hb hby at_10) rfl ?_
    show Steps p.tables e below (T0.setTop (mkF m 12 #[.val (.int p0), .val (.long p1), .second, .val (.long p2), .second, .val (.int p3), .val (.long p4), .second, .val (.long ((1 : Int64) + ((p0 &&& (255 : Int32)).toInt64))), .second, .unset, .unset, .unset, .unset, .unset, .unset, .unset, .unset, .unset, .unset, .unset, .unset, .unset, .unset, .unset, .unset, .unset, .unset] [(.long ((1 : Int64) + ((p0 &&& (255 : Int32)).toInt64)))])) _
    refine X0.ldc2Long hx hown (mvT hZ (wd hw 0 rfl)) (g := (mkF m 12 #[.val (.int p0), .val (.long p1), .second, .val (.long p2), .second, .val (.int p3), .val (.long p4), .second, .val (.long ((1 : Int64) + ((p0 &&& (255 : Int32)).toInt64))), .second, .unset, .unset, .unset, .unset, .unset, .unset, .unset, .unset, .unset, .unset, .unset, .unset, .unset, .unset, .unset, .unset, .unset, .unset] [(.long ((1 : Int64) + ((p0 &&& (255 : Int32)).toInt64)))])) rfl (hb hby at_12) _ ?_
    show Steps p.tables e below (T0.setTop (mkF m 15 #[.val (.int p0), .val (.long p1), .second, .val (.long p2), .second, .val (.int p3), .val (.long p4), .second, .val (.long ((1 : Int64) + ((p0 &&& (255 : Int32)).toInt64))), .second, .unset, .unset, .unset, .unset, .unset, .unset, .unset, .unset, .unset, .unset, .unset, .unset, .unset, .unset, .unset, .unset, .unset, .unset] [(.long (1000000 : Int64)), (.long ((1 : Int64) + ((p0 &&& (255 : Int32)).toInt64)))])) _
    refine XS.lmul X0.here hx rfl (hb hby at_15) rfl ?_
    show Steps p.tables e below (T0.setTop (mkF m 16 #[.val (.int p0), .val (.long p1), .second, .val (.long p2), .second, .val (.int p3), .val (.long p4), .second, .val (.long ((1 : Int64) + ((p0 &&& (255 : Int32)).toInt64))), .second, .unset, .unset, .unset, .unset, .unset, .unset, .unset, .unset, .unset, .unset, .unset, .unset, .unset, .unset, .unset, .unset, .unset, .unset] [(.long (((1 : Int64) + ((p0 &&& (255 : Int32)).toInt64)) * (1000000 : Int64)))])) _
    refine XS.lstore X0.here hx rfl (hb hby at_16) rfl (l' := #[.val (.int p0), .val (.long p1), .second, .val (.long p2), .second, .val (.int p3), .val (.long p4), .second, .val (.long ((1 : Int64) + ((p0 &&& (255 : Int32)).toInt64))), .second, .val (.long (((1 : Int64) + ((p0 &&& (255 : Int32)).toInt64)) * (1000000 : Int64))), .second, .unset, .unset, .unset, .unset, .unset, .unset, .unset, .unset, .unset, .unset, .unset, .unset, .unset, .unset, .unset, .unset]) rfl ?_
    exact k
  obtain ⟨wm, hwm⟩ : ∃ z, z = ((1 : Int64) + ((p0 &&& (255 : Int32)).toInt64)) := ⟨_, rfl⟩
  rw [← hwm]
  have hwm := own_wm hwm
  obtain ⟨wn, hwn⟩ : ∃ z, z = (wm * (1000000 : Int64)) := ⟨_, rfl⟩
  rw [← hwn]
  have hz1 := own_hz1 hwm
  have hz2 := own_hz2 hwm
  have hwr := own_wr hwm hwn
  show Go p e below _ T0 (mkF m 18 #[.val (.int p0), .val (.long p1), .second, .val (.long p2), .second, .val (.int p3), .val (.long p4), .second, .val (.long wm), .second, .val (.long wn), .second, .unset, .unset, .unset, .unset, .unset, .unset, .unset, .unset, .unset, .unset, .unset, .unset, .unset, .unset, .unset, .unset] [])
  refine Go.by (T' := T0) (g' := (mkF m 23 #[.val (.int p0), .val (.long p1), .second, .val (.long p2), .second, .val (.int p3), .val (.long p4), .second, .val (.long wm), .second, .val (.long wn), .second, .val (.long (p1 >>> ((2 : Int32) &&& 0x3f).toInt64)), .second, .unset, .unset, .unset, .unset, .unset, .unset, .unset, .unset, .unset, .unset, .unset, .unset, .unset, .unset] [])) (fun t k => ?_) ?_
  · show Steps p.tables e below (T0.setTop (mkF m 18 #[.val (.int p0), .val (.long p1), .second, .val (.long p2), .second, .val (.int p3), .val (.long p4), .second, .val (.long wm), .second, .val (.long wn), .second, .unset, .unset, .unset, .unset, .unset, .unset, .unset, .unset, .unset, .unset, .unset, .unset, .unset, .unset, .unset, .unset] [])) _
    refine XS.lloadN X0.here hx rfl (hb hby at_18) rfl ?_
    show Steps p.tables e below (T0.setTop (mkF m 19 #[.val (.int p0), .val (.long p1), .second, .val (.long p2), .second, .val (.int p3), .val (.long p4), .second, .val (.long wm), .second, .val (.long wn), .second, .unset, .unset, .unset, .unset, .unset, .unset, .unset, .unset, .unset, .unset, .unset, .unset, .unset, .unset, .unset, .unset] [(.long p1)])) _
    refine XS.iconst X0.here hx rfl (hb hby at_19) ?_
    show Steps p.tables e below (T0.setTop (mkF m 20 #[.val (.int p0), .val (.long p1), .second, .val (.long p2), .second, .val (.int p3), .val (.long p4), .second, .val (.long wm), .second, .val (.long wn), .second, .unset, .unset, .unset, .unset, .unset, .unset, .unset, .unset, .unset, .unset, .unset, .unset, .unset, .unset, .unset, .unset] [(.int (2 : Int32)), (.long p1)])) _
    refine XS.lshr X0.here hx rfl (hb hby at_20) rfl ?_
    show Steps p.tables e below (T0.setTop (mkF m 21 #[.val (.int p0), .val (.long p1), .second, .val (.long p2), .second, .val (.int p3), .val (.long p4), .second, .val (.long wm), .second, .val (.long wn), .second, .unset, .unset, .unset, .unset, .unset, .unset, .unset, .unset, .unset, .unset, .unset, .unset, .unset, .unset, .unset, .unset] [(.long (p1 >>> ((2 : Int32) &&& 0x3f).toInt64))])) _
    refine XS.lstore X0.here hx rfl (hb hby at_21) rfl (l' := #[.val (.int p0), .val (.long p1), .second, .val (.long p2), .second, .val (.int p3), .val (.long p4), .second, .val (.long wm), .second, .val (.long wn), .second, .val (.long (p1 >>> ((2 : Int32) &&& 0x3f).toInt64)), .second, .unset, .unset, .unset, .unset, .unset, .unset, .unset, .unset, .unset, .unset, .unset, .unset, .unset, .unset]) rfl ?_
    exact k
  obtain ⟨av, hav⟩ : ∃ z, z = (p1 >>> ((2 : Int32) &&& 0x3f).toInt64) := ⟨_, rfl⟩
  rw [← hav]
  have ha := own_ha hav
  show Go p e below _ T0 (mkF m 23 #[.val (.int p0), .val (.long p1), .second, .val (.long p2), .second, .val (.int p3), .val (.long p4), .second, .val (.long wm), .second, .val (.long wn), .second, .val (.long av), .second, .unset, .unset, .unset, .unset, .unset, .unset, .unset, .unset, .unset, .unset, .unset, .unset, .unset, .unset] [])
  refine Go.by (T' := T0) (g' := (mkF m 30 #[.val (.int p0), .val (.long p1), .second, .val (.long p2), .second, .val (.int p3), .val (.long p4), .second, .val (.long wm), .second, .val (.long wn), .second, .val (.long av), .second, .unset, .unset, .unset, .unset, .unset, .unset, .unset, .unset, .unset, .unset, .unset, .unset, .unset, .unset] [(.int (lcmpW (p2 &&& (3 : Int64)) (0 : Int64)))])) (fun t k => ?_) ?_
  · show Steps p.tables e below (T0.setTop (mkF m 23 #[.val (.int p0), .val (.long p1), .second, .val (.long p2), .second, .val (.int p3), .val (.long p4), .second, .val (.long wm), .second, .val (.long wn), .second, .val (.long av), .second, .unset, .unset, .unset, .unset, .unset, .unset, .unset, .unset, .unset, .unset, .unset, .unset, .unset, .unset] [])) _
    refine XS.lloadN X0.here hx rfl (hb hby at_23) rfl ?_
    show Steps p.tables e below (T0.setTop (mkF m 24 #[.val (.int p0), .val (.long p1), .second, .val (.long p2), .second, .val (.int p3), .val (.long p4), .second, .val (.long wm), .second, .val (.long wn), .second, .val (.long av), .second, .unset, .unset, .unset, .unset, .unset, .unset, .unset, .unset, .unset, .unset, .unset, .unset, .unset, .unset] [(.long p2)])) _
    refine X0.ldc2Long hx hown (mvT hZ (wd hw 1 rfl)) (g := (mkF m 24 #[.val (.int p0), .val (.long p1), .second, .val (.long p2), .second, .val (.int p3), .val (.long p4), .second, .val (.long wm), .second, .val (.long wn), .second, .val (.long av), .second, .unset, .unset, .unset, .unset, .unset, .unset, .unset, .unset, .unset, .unset, .unset, .unset, .unset, .unset] [(.long p2)])) rfl (hb hby at_24) _ ?_
    show Steps p.tables e below (T0.setTop (mkF m 27 #[.val (.int p0), .val (.long p1), .second, .val (.long p2), .second, .val (.int p3), .val (.long p4), .second, .val (.long wm), .second, .val (.long wn), .second, .val (.long av), .second, .unset, .unset, .unset, .unset, .unset, .unset, .unset, .unset, .unset, .unset, .unset, .unset, .unset, .unset] [(.long (3 : Int64)), (.long p2)])) _
    refine XS.land X0.here hx rfl (hb hby at_27) rfl ?_
    show Steps p.tables e below (T0.setTop (mkF m 28 #[.val (.int p0), .val (.long p1), .second, .val (.long p2), .second, .val (.int p3), .val (.long p4), .second, .val (.long wm), .second, .val (.long wn), .second, .val (.long av), .second, .unset, .unset, .unset, .unset, .unset, .unset, .unset, .unset, .unset, .unset, .unset, .unset, .unset, .unset] [(.long (p2 &&& (3 : Int64)))])) _
    refine XS.lconst X0.here hx rfl (hb hby at_28) ?_
    show Steps p.tables e below (T0.setTop (mkF m 29 #[.val (.int p0), .val (.long p1), .second, .val (.long p2), .second, .val (.int p3), .val (.long p4), .second, .val (.long wm), .second, .val (.long wn), .second, .val (.long av), .second, .unset, .unset, .unset, .unset, .unset, .unset, .unset, .unset, .unset, .unset, .unset, .unset, .unset, .unset] [(.long (0 : Int64)), (.long (p2 &&& (3 : Int64)))])) _
    refine XS.lcmp X0.here hx rfl (hb hby at_29) rfl ?_
    exact k
  have J1 : ∀ (dv : Int64), (0 ≤ dv.toInt ∧ dv.toInt < 1073741824) → Go p e below (EndF s room_1.cells room_1.slots (fun v h L => v = some (.int 1) ∧ Fr n0 L)) T0 (mkF m 44 #[.val (.int p0), .val (.long p1), .second, .val (.long p2), .second, .val (.int p3), .val (.long p4), .second, .val (.long wm), .second, .val (.long wn), .second, .val (.long av), .second, .unset, .unset, .unset, .unset, .unset, .unset, .unset, .unset, .unset, .unset, .unset, .unset, .unset, .unset] [(.long dv)]) := by
    intro dv hd
    refine Go.by (T' := T0) (g' := (mkF m 53 #[.val (.int p0), .val (.long p1), .second, .val (.long p2), .second, .val (.int p3), .val (.long p4), .second, .val (.long wm), .second, .val (.long wn), .second, .val (.long av), .second, .val (.long dv), .second, .val (.long (av + dv)), .second, .unset, .unset, .unset, .unset, .unset, .unset, .unset, .unset, .unset, .unset] [])) (fun t k => ?_) ?_
    · show Steps p.tables e below (T0.setTop (mkF m 44 #[.val (.int p0), .val (.long p1), .second, .val (.long p2), .second, .val (.int p3), .val (.long p4), .second, .val (.long wm), .second, .val (.long wn), .second, .val (.long av), .second, .unset, .unset, .unset, .unset, .unset, .unset, .unset, .unset, .unset, .unset, .unset, .unset, .unset, .unset] [(.long dv)])) _
      refine XS.lstore X0.here hx rfl (hb hby at_44) rfl (l' := #[.val (.int p0), .val (.long p1), .second, .val (.long p2), .second, .val (.int p3), .val (.long p4), .second, .val (.long wm), .second, .val (.long wn), .second, .val (.long av), .second, .val (.long dv), .second, .unset, .unset, .unset, .unset, .unset, .unset, .unset, .unset, .unset, .unset, .unset, .unset]) rfl ?_
      show Steps p.tables e below (T0.setTop (mkF m 46 #[.val (.int p0), .val (.long p1), .second, .val (.long p2), .second, .val (.int p3), .val (.long p4), .second, .val (.long wm), .second, .val (.long wn), .second, .val (.long av), .second, .val (.long dv), .second, .unset, .unset, .unset, .unset, .unset, .unset, .unset, .unset, .unset, .unset, .unset, .unset] [])) _
      refine XS.lload X0.here hx rfl (hb hby at_46) rfl ?_
      show Steps p.tables e below (T0.setTop (mkF m 48 #[.val (.int p0), .val (.long p1), .second, .val (.long p2), .second, .val (.int p3), .val (.long p4), .second, .val (.long wm), .second, .val (.long wn), .second, .val (.long av), .second, .val (.long dv), .second, .unset, .unset, .unset, .unset, .unset, .unset, .unset, .unset, .unset, .unset, .unset, .unset] [(.long av)])) _
      refine XS.lload X0.here hx rfl (hb hby at_48) rfl ?_
      show Steps p.tables e below (T0.setTop (mkF m 50 #[.val (.int p0), .val (.long p1), .second, .val (.long p2), .second, .val (.int p3), .val (.long p4), .second, .val (.long wm), .second, .val (.long wn), .second, .val (.long av), .second, .val (.long dv), .second, .unset, .unset, .unset, .unset, .unset, .unset, .unset, .unset, .unset, .unset, .unset, .unset] [(.long dv), (.long av)])) _
      refine XS.ladd X0.here hx rfl (hb hby at_50) rfl ?_
      show Steps p.tables e below (T0.setTop (mkF m 51 #[.val (.int p0), .val (.long p1), .second, .val (.long p2), .second, .val (.int p3), .val (.long p4), .second, .val (.long wm), .second, .val (.long wn), .second, .val (.long av), .second, .val (.long dv), .second, .unset, .unset, .unset, .unset, .unset, .unset, .unset, .unset, .unset, .unset, .unset, .unset] [(.long (av + dv))])) _
      refine XS.lstore X0.here hx rfl (hb hby at_51) rfl (l' := #[.val (.int p0), .val (.long p1), .second, .val (.long p2), .second, .val (.int p3), .val (.long p4), .second, .val (.long wm), .second, .val (.long wn), .second, .val (.long av), .second, .val (.long dv), .second, .val (.long (av + dv)), .second, .unset, .unset, .unset, .unset, .unset, .unset, .unset, .unset, .unset, .unset]) rfl ?_
      exact k
    obtain ⟨bv, hbv⟩ : ∃ z, z = (av + dv) := ⟨_, rfl⟩
    rw [← hbv]
    show Go p e below _ T0 (mkF m 53 #[.val (.int p0), .val (.long p1), .second, .val (.long p2), .second, .val (.int p3), .val (.long p4), .second, .val (.long wm), .second, .val (.long wn), .second, .val (.long av), .second, .val (.long dv), .second, .val (.long bv), .second, .unset, .unset, .unset, .unset, .unset, .unset, .unset, .unset, .unset, .unset] [])
    refine Go.by (T' := T0) (g' := (mkF m 61 #[.val (.int p0), .val (.long p1), .second, .val (.long p2), .second, .val (.int p3), .val (.long p4), .second, .val (.long wm), .second, .val (.long wn), .second, .val (.long av), .second, .val (.long dv), .second, .val (.long bv), .second, .val (.int (p3 &&& (3 : Int32))), .unset, .unset, .unset, .unset, .unset, .unset, .unset, .unset, .unset] [(.int (p3 &&& (3 : Int32)))])) (fun t k => ?_) ?_
    · show Steps p.tables e below (T0.setTop (mkF m 53 #[.val (.int p0), .val (.long p1), .second, .val (.long p2), .second, .val (.int p3), .val (.long p4), .second, .val (.long wm), .second, .val (.long wn), .second, .val (.long av), .second, .val (.long dv), .second, .val (.long bv), .second, .unset, .unset, .unset, .unset, .unset, .unset, .unset, .unset, .unset, .unset] [])) _
      refine XS.iload X0.here hx rfl (hb hby at_53) rfl ?_
      show Steps p.tables e below (T0.setTop (mkF m 55 #[.val (.int p0), .val (.long p1), .second, .val (.long p2), .second, .val (.int p3), .val (.long p4), .second, .val (.long wm), .second, .val (.long wn), .second, .val (.long av), .second, .val (.long dv), .second, .val (.long bv), .second, .unset, .unset, .unset, .unset, .unset, .unset, .unset, .unset, .unset, .unset] [(.int p3)])) _
      refine XS.iconst X0.here hx rfl (hb hby at_55) ?_
      show Steps p.tables e below (T0.setTop (mkF m 56 #[.val (.int p0), .val (.long p1), .second, .val (.long p2), .second, .val (.int p3), .val (.long p4), .second, .val (.long wm), .second, .val (.long wn), .second, .val (.long av), .second, .val (.long dv), .second, .val (.long bv), .second, .unset, .unset, .unset, .unset, .unset, .unset, .unset, .unset, .unset, .unset] [(.int (3 : Int32)), (.int p3)])) _
      refine XS.iand X0.here hx rfl (hb hby at_56) rfl ?_
      show Steps p.tables e below (T0.setTop (mkF m 57 #[.val (.int p0), .val (.long p1), .second, .val (.long p2), .second, .val (.int p3), .val (.long p4), .second, .val (.long wm), .second, .val (.long wn), .second, .val (.long av), .second, .val (.long dv), .second, .val (.long bv), .second, .unset, .unset, .unset, .unset, .unset, .unset, .unset, .unset, .unset, .unset] [(.int (p3 &&& (3 : Int32)))])) _
      refine XS.istore X0.here hx rfl (hb hby at_57) rfl (l' := #[.val (.int p0), .val (.long p1), .second, .val (.long p2), .second, .val (.int p3), .val (.long p4), .second, .val (.long wm), .second, .val (.long wn), .second, .val (.long av), .second, .val (.long dv), .second, .val (.long bv), .second, .val (.int (p3 &&& (3 : Int32))), .unset, .unset, .unset, .unset, .unset, .unset, .unset, .unset, .unset]) rfl ?_
      show Steps p.tables e below (T0.setTop (mkF m 59 #[.val (.int p0), .val (.long p1), .second, .val (.long p2), .second, .val (.int p3), .val (.long p4), .second, .val (.long wm), .second, .val (.long wn), .second, .val (.long av), .second, .val (.long dv), .second, .val (.long bv), .second, .val (.int (p3 &&& (3 : Int32))), .unset, .unset, .unset, .unset, .unset, .unset, .unset, .unset, .unset] [])) _
      refine XS.iload X0.here hx rfl (hb hby at_59) rfl ?_
      exact k
    have J2 : ∀ (xv : Int64), Go p e below (EndF s room_1.cells room_1.slots (fun v h L => v = some (.int 1) ∧ Fr n0 L)) T0 (mkF m 103 #[.val (.int p0), .val (.long p1), .second, .val (.long p2), .second, .val (.int p3), .val (.long p4), .second, .val (.long wm), .second, .val (.long wn), .second, .val (.long av), .second, .val (.long dv), .second, .val (.long bv), .second, .val (.int (p3 &&& (3 : Int32))), .val (.long xv), .second, .unset, .unset, .unset, .unset, .unset, .unset, .unset] []) := by
      intro xv
      by_cases hy3 : dv = (0 : Int64)
      · skip
        have hlt := own_lt0 hy3 hwr
        have hab : av = bv := own_ab hbv hy3
        by_cases hy4 : xv = bv
        · skip
          refine Go.newO X0 hx hZ hown (wd hw 3 rfl) (wd hw 4 rfl) (wd hw 5 rfl) e0 (hb hby at_103) (by decide) (by decide) ?_
          intro T5 h5 b5 X5 e5 E5 g5 A5 D5
          have lb5 := Nat.le_of_eq g5.symm
          have g_b5 : n0 ≤ b5 := Nat.le_trans (OwnKit.Old.le O) lb5
          replace O := O.ext E5
          have E_b5 := A5
          have F_b5_times : Fld Z h5 b5 "com/example/breakwater/breakwater/OrderRateWindow" "times" "[J" .null := D5 (Or.inl (wd hw 26 rfl)) (ty := (.array .long)) (by decide)
          have F_b5_now : Fld Z h5 b5 "com/example/breakwater/breakwater/OrderRateWindow" "now" "J" (.long (0 : Int64)) := D5 (Or.inl (wd hw 29 rfl)) (ty := .long) (by decide)
          have F_b5_rate : Fld Z h5 b5 "com/example/breakwater/breakwater/OrderRateWindow" "rate" "Lcom/example/breakwater/breakwater/OrderRate;" .null := D5 (Or.inr (wd hw 31 rfl)) (ty := (.object "com/example/breakwater/breakwater/OrderRate")) (by decide)
          have F_b5_windowNanos : Fld Z h5 b5 "com/example/breakwater/breakwater/OrderRateWindow" "windowNanos" "J" (.long (0 : Int64)) := D5 (Or.inr (wd hw 49 rfl)) (ty := .long) (by decide)
          have F_b5_count : Fld Z h5 b5 "com/example/breakwater/breakwater/OrderRateWindow" "count" "I" (.int (0 : Int32)) := D5 (Or.inl (wd hw 56 rfl)) (ty := .int) (by decide)
          have F_b5_head : Fld Z h5 b5 "com/example/breakwater/breakwater/OrderRateWindow" "head" "I" (.int (0 : Int32)) := D5 (Or.inl (wd hw 63 rfl)) (ty := .int) (by decide)
          show Go p e below _ T5 (mkF m 106 #[.val (.int p0), .val (.long p1), .second, .val (.long p2), .second, .val (.int p3), .val (.long p4), .second, .val (.long wm), .second, .val (.long wn), .second, .val (.long av), .second, .val (.long dv), .second, .val (.long bv), .second, .val (.int (p3 &&& (3 : Int32))), .val (.long xv), .second, .unset, .unset, .unset, .unset, .unset, .unset, .unset] [(.ref b5)])
          refine Go.by (T' := T5) (g' := (mkF m 107 #[.val (.int p0), .val (.long p1), .second, .val (.long p2), .second, .val (.int p3), .val (.long p4), .second, .val (.long wm), .second, .val (.long wn), .second, .val (.long av), .second, .val (.long dv), .second, .val (.long bv), .second, .val (.int (p3 &&& (3 : Int32))), .val (.long xv), .second, .unset, .unset, .unset, .unset, .unset, .unset, .unset] [(.ref b5), (.ref b5)])) (fun t k => ?_) ?_
          · show Steps p.tables e below (T5.setTop (mkF m 106 #[.val (.int p0), .val (.long p1), .second, .val (.long p2), .second, .val (.int p3), .val (.long p4), .second, .val (.long wm), .second, .val (.long wn), .second, .val (.long av), .second, .val (.long dv), .second, .val (.long bv), .second, .val (.int (p3 &&& (3 : Int32))), .val (.long xv), .second, .unset, .unset, .unset, .unset, .unset, .unset, .unset] [(.ref b5)])) _
            refine XS.dup X5.here hx rfl (hb hby at_106) rfl rfl ?_
            exact k
          refine Go.newO X5 hx hZ hown (wd hw 6 rfl) (wd hw 7 rfl) (wd hw 8 rfl) e5 (hb hby at_107) (by decide) (by decide) ?_
          intro T6 h6 b6 X6 e6 E6 g6 A6 D6
          have lb6 := Nat.le_of_eq g6.symm
          have ne_b5_b6 : b5 ≠ b6 := Nat.ne_of_lt (Nat.lt_of_lt_of_le E_b5.lt lb6)
          have g_b6 : n0 ≤ b6 := Nat.le_trans (OwnKit.Old.le O) lb6
          replace E_b5 := E_b5.ext E6
          replace F_b5_times := F_b5_times.ext E6
          replace F_b5_now := F_b5_now.ext E6
          replace F_b5_rate := F_b5_rate.ext E6
          replace F_b5_windowNanos := F_b5_windowNanos.ext E6
          replace F_b5_count := F_b5_count.ext E6
          replace F_b5_head := F_b5_head.ext E6
          replace O := O.ext E6
          have E_b6 := A6
          have F_b6_maxOrders : Fld Z h6 b6 "com/example/breakwater/breakwater/OrderRate" "maxOrders" "J" (.long (0 : Int64)) := D6 (Or.inr (wd hw 17 rfl)) (ty := .long) (by decide)
          have F_b6_windowMillis : Fld Z h6 b6 "com/example/breakwater/breakwater/OrderRate" "windowMillis" "J" (.long (0 : Int64)) := D6 (Or.inr (wd hw 19 rfl)) (ty := .long) (by decide)
          show Go p e below _ T6 (mkF m 110 #[.val (.int p0), .val (.long p1), .second, .val (.long p2), .second, .val (.int p3), .val (.long p4), .second, .val (.long wm), .second, .val (.long wn), .second, .val (.long av), .second, .val (.long dv), .second, .val (.long bv), .second, .val (.int (p3 &&& (3 : Int32))), .val (.long xv), .second, .unset, .unset, .unset, .unset, .unset, .unset, .unset] [(.ref b6), (.ref b5), (.ref b5)])
          refine Go.by (T' := T6) (g' := (mkF m 116 #[.val (.int p0), .val (.long p1), .second, .val (.long p2), .second, .val (.int p3), .val (.long p4), .second, .val (.long wm), .second, .val (.long wn), .second, .val (.long av), .second, .val (.long dv), .second, .val (.long bv), .second, .val (.int (p3 &&& (3 : Int32))), .val (.long xv), .second, .unset, .unset, .unset, .unset, .unset, .unset, .unset] [(.long wm), (.long (5 : Int64)), (.ref b6), (.ref b6), (.ref b5), (.ref b5)])) (fun t k => ?_) ?_
          · show Steps p.tables e below (T6.setTop (mkF m 110 #[.val (.int p0), .val (.long p1), .second, .val (.long p2), .second, .val (.int p3), .val (.long p4), .second, .val (.long wm), .second, .val (.long wn), .second, .val (.long av), .second, .val (.long dv), .second, .val (.long bv), .second, .val (.int (p3 &&& (3 : Int32))), .val (.long xv), .second, .unset, .unset, .unset, .unset, .unset, .unset, .unset] [(.ref b6), (.ref b5), (.ref b5)])) _
            refine XS.dup X6.here hx rfl (hb hby at_110) rfl rfl ?_
            show Steps p.tables e below (T6.setTop (mkF m 111 #[.val (.int p0), .val (.long p1), .second, .val (.long p2), .second, .val (.int p3), .val (.long p4), .second, .val (.long wm), .second, .val (.long wn), .second, .val (.long av), .second, .val (.long dv), .second, .val (.long bv), .second, .val (.int (p3 &&& (3 : Int32))), .val (.long xv), .second, .unset, .unset, .unset, .unset, .unset, .unset, .unset] [(.ref b6), (.ref b6), (.ref b5), (.ref b5)])) _
            refine X6.ldc2Long hx hown (mvT hZ (wd hw 9 rfl)) (g := (mkF m 111 #[.val (.int p0), .val (.long p1), .second, .val (.long p2), .second, .val (.int p3), .val (.long p4), .second, .val (.long wm), .second, .val (.long wn), .second, .val (.long av), .second, .val (.long dv), .second, .val (.long bv), .second, .val (.int (p3 &&& (3 : Int32))), .val (.long xv), .second, .unset, .unset, .unset, .unset, .unset, .unset, .unset] [(.ref b6), (.ref b6), (.ref b5), (.ref b5)])) rfl (hb hby at_111) _ ?_
            show Steps p.tables e below (T6.setTop (mkF m 114 #[.val (.int p0), .val (.long p1), .second, .val (.long p2), .second, .val (.int p3), .val (.long p4), .second, .val (.long wm), .second, .val (.long wn), .second, .val (.long av), .second, .val (.long dv), .second, .val (.long bv), .second, .val (.int (p3 &&& (3 : Int32))), .val (.long xv), .second, .unset, .unset, .unset, .unset, .unset, .unset, .unset] [(.long (5 : Int64)), (.ref b6), (.ref b6), (.ref b5), (.ref b5)])) _
            refine XS.lload X6.here hx rfl (hb hby at_114) rfl ?_
            exact k
          refine Go.callC X6 hx hZ (W := 3) (argsL := [(.long (5 : Int64)), (.long wm)]) (rest := [(.ref b6), (.ref b5), (.ref b5)]) hown rfl (wd hw 10 rfl) (wd hw 11 rfl) (wd hw 8 rfl) (wd hw 12 rfl) (by decide) (ct_rinit l Z a0 hw w_MS S_MS E_MS F_MS1 F_MS2 b6 (5 : Int64) wm h6 n0 O E_b6 F_b6_maxOrders F_b6_windowMillis g_b6) e6 (by rw [hml]; rfl) (lenOf pd__JJ_V_1185 rfl) rfl rfl (hb hby at_116) (by decide) (by decide) (by decide) (by decide) ?_
          intro v7 T7 h7 L7 X7 e7 q7
          obtain ⟨rfl, N7, K7, F0_7, F1_7⟩ := q7
          replace N7 := Fr.app N0 N7
          replace E_b5 := E_b5.keep K7
          replace F_b5_times := F_b5_times.keep K7 (ninS ne_b5_b6 nin0)
          replace F_b5_now := F_b5_now.keep K7 (ninS ne_b5_b6 nin0)
          replace F_b5_rate := F_b5_rate.keep K7 (ninS ne_b5_b6 nin0)
          replace F_b5_windowNanos := F_b5_windowNanos.keep K7 (ninS ne_b5_b6 nin0)
          replace F_b5_count := F_b5_count.keep K7 (ninS ne_b5_b6 nin0)
          replace F_b5_head := F_b5_head.keep K7 (ninS ne_b5_b6 nin0)
          replace E_b6 := E_b6.keep K7
          clear F_b6_maxOrders
          clear F_b6_windowMillis
          replace O := O.keep K7 (allS g_b6 all0)
          show Go p e below _ T7 (mkF m 119 #[.val (.int p0), .val (.long p1), .second, .val (.long p2), .second, .val (.int p3), .val (.long p4), .second, .val (.long wm), .second, .val (.long wn), .second, .val (.long av), .second, .val (.long dv), .second, .val (.long bv), .second, .val (.int (p3 &&& (3 : Int32))), .val (.long xv), .second, .unset, .unset, .unset, .unset, .unset, .unset, .unset] [(.ref b6), (.ref b5), (.ref b5)])
          refine Go.callC X7 hx hZ (W := 1) (argsL := [(.ref b6)]) (rest := [(.ref b5)]) hown rfl (wd hw 20 rfl) (wd hw 21 rfl) (wd hw 5 rfl) (wd hw 22 rfl) (by decide) (ct_winit l Z a0 hw w_MS S_MS E_MS F_MS1 F_MS2 b5 b6 wm h7 n0 O E_b5 F_b5_rate F_b5_windowNanos F_b5_times F_b5_head F_b5_count F_b5_now g_b5 E_b6 F1_7 ne_b5_b6 hz1 hz2) e7 (by rw [hml]; rfl) (lenOf pd__Lcom_example_breakwater_breakwater_Orde_4493 rfl) rfl rfl (hb hby at_119) (by decide) (by decide) (by decide) (by decide) ?_
          intro v8 T8 h8 L8 X8 e8 q8
          obtain ⟨ar, kA, rfl, N8, K8, lb8, Fi0, Fi1, Fi2, Fi3, Fi4, V_ar⟩ := q8
          replace N8 := Fr.app N7 N8
          have ne_b5_ar : b5 ≠ ar := Nat.ne_of_lt (Nat.lt_of_lt_of_le E_b5.lt lb8)
          have ne_b6_ar : b6 ≠ ar := Nat.ne_of_lt (Nat.lt_of_lt_of_le E_b6.lt lb8)
          have g_ar : n0 ≤ ar := Nat.le_trans (OwnKit.Old.le O) lb8
          replace E_b5 := E_b5.keep K8
          clear F_b5_times
          clear F_b5_now
          clear F_b5_rate
          clear F_b5_windowNanos
          clear F_b5_count
          clear F_b5_head
          replace E_b6 := E_b6.keep K8
          replace F0_7 := F0_7.keep K8 (ninS (Ne.symm ne_b5_b6) nin0)
          replace F1_7 := F1_7.keep K8 (ninS (Ne.symm ne_b5_b6) nin0)
          replace O := O.keep K8 (allS g_b5 all0)
          replace V_ar : Arv Z h8 ar kA .long (16 : Int32) [(.long (0 : Int64)), (.long (0 : Int64)), (.long (0 : Int64))] (.long (0 : Int64)) := V_ar.pad (pad_rep3 _)
          rw [← hwn] at Fi0
          show Go p e below _ T8 (mkF m 122 #[.val (.int p0), .val (.long p1), .second, .val (.long p2), .second, .val (.int p3), .val (.long p4), .second, .val (.long wm), .second, .val (.long wn), .second, .val (.long av), .second, .val (.long dv), .second, .val (.long bv), .second, .val (.int (p3 &&& (3 : Int32))), .val (.long xv), .second, .unset, .unset, .unset, .unset, .unset, .unset, .unset] [(.ref b5)])
          refine Go.by (T' := T8) (g' := (mkF m 128 #[.val (.int p0), .val (.long p1), .second, .val (.long p2), .second, .val (.int p3), .val (.long p4), .second, .val (.long wm), .second, .val (.long wn), .second, .val (.long av), .second, .val (.long dv), .second, .val (.long bv), .second, .val (.int (p3 &&& (3 : Int32))), .val (.long xv), .second, .val (.ref b5), .unset, .unset, .unset, .unset, .unset, .unset] [(.long av), (.ref b5)])) (fun t k => ?_) ?_
          · show Steps p.tables e below (T8.setTop (mkF m 122 #[.val (.int p0), .val (.long p1), .second, .val (.long p2), .second, .val (.int p3), .val (.long p4), .second, .val (.long wm), .second, .val (.long wn), .second, .val (.long av), .second, .val (.long dv), .second, .val (.long bv), .second, .val (.int (p3 &&& (3 : Int32))), .val (.long xv), .second, .unset, .unset, .unset, .unset, .unset, .unset, .unset] [(.ref b5)])) _
            refine XS.astore X8.here hx rfl (hb hby at_122) rfl rfl (l' := #[.val (.int p0), .val (.long p1), .second, .val (.long p2), .second, .val (.int p3), .val (.long p4), .second, .val (.long wm), .second, .val (.long wn), .second, .val (.long av), .second, .val (.long dv), .second, .val (.long bv), .second, .val (.int (p3 &&& (3 : Int32))), .val (.long xv), .second, .val (.ref b5), .unset, .unset, .unset, .unset, .unset, .unset]) rfl ?_
            show Steps p.tables e below (T8.setTop (mkF m 124 #[.val (.int p0), .val (.long p1), .second, .val (.long p2), .second, .val (.int p3), .val (.long p4), .second, .val (.long wm), .second, .val (.long wn), .second, .val (.long av), .second, .val (.long dv), .second, .val (.long bv), .second, .val (.int (p3 &&& (3 : Int32))), .val (.long xv), .second, .val (.ref b5), .unset, .unset, .unset, .unset, .unset, .unset] [])) _
            refine XS.aload X8.here hx rfl (hb hby at_124) rfl rfl ?_
            show Steps p.tables e below (T8.setTop (mkF m 126 #[.val (.int p0), .val (.long p1), .second, .val (.long p2), .second, .val (.int p3), .val (.long p4), .second, .val (.long wm), .second, .val (.long wn), .second, .val (.long av), .second, .val (.long dv), .second, .val (.long bv), .second, .val (.int (p3 &&& (3 : Int32))), .val (.long xv), .second, .val (.ref b5), .unset, .unset, .unset, .unset, .unset, .unset] [(.ref b5)])) _
            refine XS.lload X8.here hx rfl (hb hby at_126) rfl ?_
            exact k
          refine Go.callV X8 hx hZ (W := 0) (argsL := [(.long av)]) (rest := []) hown (wd hw 50 rfl) (wd hw 51 rfl) (notFace_of_selects (args := #[]) (mvT hZ (wd hw 53 rfl))) (wd hw 53 rfl) (wd hw 52 rfl) (wd hw 5 rfl) (wd hw 54 rfl) (by decide) E_b5 (ct_move_0_0_0 l Z a0 hw w_MS S_MS E_MS F_MS1 F_MS2 b5 ar kA wn (-9223372036854775808 : Int64) (0 : Int64) (0 : Int64) (0 : Int64) av h8 n0 O E_b5 Fi0 Fi1 Fi2 Fi3 Fi4 V_ar g_b5 g_ar ne_b5_ar (own_min _)) e8 (by rw [hml]; rfl) (lenOf pd__J_Z_8741 rfl) rfl rfl (hb hby at_128) (by decide) (by decide) (by decide) (by decide) ?_
          intro v9 T9 h9 L9 X9 e9 q9
          obtain ⟨rfl, N9, K9, Fi0_9, Fi1_9, Fi2_9, Fi3_9, Fi4_9, V_a9⟩ := q9
          replace N9 := Fr.app N8 N9
          replace E_b5 := E_b5.keep K9
          replace E_b6 := E_b6.keep K9
          replace F0_7 := F0_7.keep K9 (ninS (Ne.symm ne_b5_b6) (ninS ne_b6_ar nin0))
          replace F1_7 := F1_7.keep K9 (ninS (Ne.symm ne_b5_b6) (ninS ne_b6_ar nin0))
          clear Fi0
          clear Fi1
          clear Fi2
          clear Fi3
          clear Fi4
          clear V_ar
          replace O := O.keep K9 (allS g_b5 (allS g_ar all0))
          have V_ar := V_a9
          show Go p e below _ T9 (mkF m 131 #[.val (.int p0), .val (.long p1), .second, .val (.long p2), .second, .val (.int p3), .val (.long p4), .second, .val (.long wm), .second, .val (.long wn), .second, .val (.long av), .second, .val (.long dv), .second, .val (.long bv), .second, .val (.int (p3 &&& (3 : Int32))), .val (.long xv), .second, .val (.ref b5), .unset, .unset, .unset, .unset, .unset, .unset] [(.int (1 : Int32))])
          refine Go.by (T' := T9) (g' := (mkF m 134 #[.val (.int p0), .val (.long p1), .second, .val (.long p2), .second, .val (.int p3), .val (.long p4), .second, .val (.long wm), .second, .val (.long wn), .second, .val (.long av), .second, .val (.long dv), .second, .val (.long bv), .second, .val (.int (p3 &&& (3 : Int32))), .val (.long xv), .second, .val (.ref b5), .unset, .unset, .unset, .unset, .unset, .unset] [(.ref b5)])) (fun t k => ?_) ?_
          · show Steps p.tables e below (T9.setTop (mkF m 131 #[.val (.int p0), .val (.long p1), .second, .val (.long p2), .second, .val (.int p3), .val (.long p4), .second, .val (.long wm), .second, .val (.long wn), .second, .val (.long av), .second, .val (.long dv), .second, .val (.long bv), .second, .val (.int (p3 &&& (3 : Int32))), .val (.long xv), .second, .val (.ref b5), .unset, .unset, .unset, .unset, .unset, .unset] [(.int (1 : Int32))])) _
            refine XS.pop X9.here hx rfl (hb hby at_131) rfl rfl ?_
            show Steps p.tables e below (T9.setTop (mkF m 132 #[.val (.int p0), .val (.long p1), .second, .val (.long p2), .second, .val (.int p3), .val (.long p4), .second, .val (.long wm), .second, .val (.long wn), .second, .val (.long av), .second, .val (.long dv), .second, .val (.long bv), .second, .val (.int (p3 &&& (3 : Int32))), .val (.long xv), .second, .val (.ref b5), .unset, .unset, .unset, .unset, .unset, .unset] [])) _
            refine XS.aload X9.here hx rfl (hb hby at_132) rfl rfl ?_
            exact k
          refine Go.callV X9 hx hZ (W := 0) (argsL := []) (rest := []) hown (wd hw 57 rfl) (wd hw 58 rfl) (notFace_of_selects (args := #[]) (mvT hZ (wd hw 60 rfl))) (wd hw 60 rfl) (wd hw 59 rfl) (wd hw 5 rfl) (wd hw 61 rfl) (by decide) E_b5 (ct_add_0_0 l Z a0 hw w_MS S_MS E_MS F_MS1 F_MS2 b5 ar kA wn av (0 : Int64) (0 : Int64) (0 : Int64) h9 n0 O E_b5 Fi0_9 Fi1_9 Fi2_9 Fi3_9 Fi4_9 V_ar g_b5 g_ar ne_b5_ar) e9 (by rw [hml]; rfl) (lenOf pd___V_8334 rfl) rfl rfl (hb hby at_134) (by decide) (by decide) (by decide) (by decide) ?_
          intro v10 T10 h10 L10 X10 e10 q10
          obtain ⟨rfl, N10, K10, Fi0_10, Fi1_10, Fi2_10, Fi3_10, Fi4_10, V_a10⟩ := q10
          replace N10 := Fr.app N9 N10
          replace E_b5 := E_b5.keep K10
          replace E_b6 := E_b6.keep K10
          replace F0_7 := F0_7.keep K10 (ninS (Ne.symm ne_b5_b6) (ninS ne_b6_ar nin0))
          replace F1_7 := F1_7.keep K10 (ninS (Ne.symm ne_b5_b6) (ninS ne_b6_ar nin0))
          clear Fi0_9
          clear Fi1_9
          clear Fi2_9
          clear Fi3_9
          clear Fi4_9
          clear V_ar
          replace O := O.keep K10 (allS g_b5 (allS g_ar all0))
          have V_ar := V_a10
          show Go p e below _ T10 (mkF m 137 #[.val (.int p0), .val (.long p1), .second, .val (.long p2), .second, .val (.int p3), .val (.long p4), .second, .val (.long wm), .second, .val (.long wn), .second, .val (.long av), .second, .val (.long dv), .second, .val (.long bv), .second, .val (.int (p3 &&& (3 : Int32))), .val (.long xv), .second, .val (.ref b5), .unset, .unset, .unset, .unset, .unset, .unset] [])
          refine Go.by (T' := T10) (g' := (mkF m 141 #[.val (.int p0), .val (.long p1), .second, .val (.long p2), .second, .val (.int p3), .val (.long p4), .second, .val (.long wm), .second, .val (.long wn), .second, .val (.long av), .second, .val (.long dv), .second, .val (.long bv), .second, .val (.int (p3 &&& (3 : Int32))), .val (.long xv), .second, .val (.ref b5), .unset, .unset, .unset, .unset, .unset, .unset] [(.long bv), (.ref b5)])) (fun t k => ?_) ?_
          · show Steps p.tables e below (T10.setTop (mkF m 137 #[.val (.int p0), .val (.long p1), .second, .val (.long p2), .second, .val (.int p3), .val (.long p4), .second, .val (.long wm), .second, .val (.long wn), .second, .val (.long av), .second, .val (.long dv), .second, .val (.long bv), .second, .val (.int (p3 &&& (3 : Int32))), .val (.long xv), .second, .val (.ref b5), .unset, .unset, .unset, .unset, .unset, .unset] [])) _
            refine XS.aload X10.here hx rfl (hb hby at_137) rfl rfl ?_
            show Steps p.tables e below (T10.setTop (mkF m 139 #[.val (.int p0), .val (.long p1), .second, .val (.long p2), .second, .val (.int p3), .val (.long p4), .second, .val (.long wm), .second, .val (.long wn), .second, .val (.long av), .second, .val (.long dv), .second, .val (.long bv), .second, .val (.int (p3 &&& (3 : Int32))), .val (.long xv), .second, .val (.ref b5), .unset, .unset, .unset, .unset, .unset, .unset] [(.ref b5)])) _
            refine XS.lload X10.here hx rfl (hb hby at_139) rfl ?_
            exact k
          refine Go.callV X10 hx hZ (W := 0) (argsL := [(.long bv)]) (rest := []) hown (wd hw 50 rfl) (wd hw 51 rfl) (notFace_of_selects (args := #[]) (mvT hZ (wd hw 53 rfl))) (wd hw 53 rfl) (wd hw 52 rfl) (wd hw 5 rfl) (wd hw 54 rfl) (by decide) E_b5 (ct_move_0_1_0 l Z a0 hw w_MS S_MS E_MS F_MS1 F_MS2 b5 ar kA wn av av (0 : Int64) (0 : Int64) bv h10 n0 O E_b5 Fi0_10 Fi1_10 Fi2_10 Fi3_10 Fi4_10 V_ar g_b5 g_ar ne_b5_ar (own_ge hbv ha hd) (own_k1 hbv ha hd hlt)) e10 (by rw [hml]; rfl) (lenOf pd__J_Z_8741 rfl) rfl rfl (hb hby at_141) (by decide) (by decide) (by decide) (by decide) ?_
          intro v11 T11 h11 L11 X11 e11 q11
          obtain ⟨rfl, N11, K11, Fi0_11, Fi1_11, Fi2_11, Fi3_11, Fi4_11, V_a11⟩ := q11
          replace N11 := Fr.app N10 N11
          replace E_b5 := E_b5.keep K11
          replace E_b6 := E_b6.keep K11
          replace F0_7 := F0_7.keep K11 (ninS (Ne.symm ne_b5_b6) (ninS ne_b6_ar nin0))
          replace F1_7 := F1_7.keep K11 (ninS (Ne.symm ne_b5_b6) (ninS ne_b6_ar nin0))
          clear Fi0_10
          clear Fi1_10
          clear Fi2_10
          clear Fi3_10
          clear Fi4_10
          clear V_ar
          replace O := O.keep K11 (allS g_b5 (allS g_ar all0))
          have V_ar := V_a11
          show Go p e below _ T11 (mkF m 144 #[.val (.int p0), .val (.long p1), .second, .val (.long p2), .second, .val (.int p3), .val (.long p4), .second, .val (.long wm), .second, .val (.long wn), .second, .val (.long av), .second, .val (.long dv), .second, .val (.long bv), .second, .val (.int (p3 &&& (3 : Int32))), .val (.long xv), .second, .val (.ref b5), .unset, .unset, .unset, .unset, .unset, .unset] [(.int (1 : Int32))])
          refine Go.by (T' := T11) (g' := (mkF m 147 #[.val (.int p0), .val (.long p1), .second, .val (.long p2), .second, .val (.int p3), .val (.long p4), .second, .val (.long wm), .second, .val (.long wn), .second, .val (.long av), .second, .val (.long dv), .second, .val (.long bv), .second, .val (.int (p3 &&& (3 : Int32))), .val (.long xv), .second, .val (.ref b5), .unset, .unset, .unset, .unset, .unset, .unset] [(.ref b5)])) (fun t k => ?_) ?_
          · show Steps p.tables e below (T11.setTop (mkF m 144 #[.val (.int p0), .val (.long p1), .second, .val (.long p2), .second, .val (.int p3), .val (.long p4), .second, .val (.long wm), .second, .val (.long wn), .second, .val (.long av), .second, .val (.long dv), .second, .val (.long bv), .second, .val (.int (p3 &&& (3 : Int32))), .val (.long xv), .second, .val (.ref b5), .unset, .unset, .unset, .unset, .unset, .unset] [(.int (1 : Int32))])) _
            refine XS.pop X11.here hx rfl (hb hby at_144) rfl rfl ?_
            show Steps p.tables e below (T11.setTop (mkF m 145 #[.val (.int p0), .val (.long p1), .second, .val (.long p2), .second, .val (.int p3), .val (.long p4), .second, .val (.long wm), .second, .val (.long wn), .second, .val (.long av), .second, .val (.long dv), .second, .val (.long bv), .second, .val (.int (p3 &&& (3 : Int32))), .val (.long xv), .second, .val (.ref b5), .unset, .unset, .unset, .unset, .unset, .unset] [])) _
            refine XS.aload X11.here hx rfl (hb hby at_145) rfl rfl ?_
            exact k
          refine Go.callV X11 hx hZ (W := 0) (argsL := []) (rest := []) hown (wd hw 57 rfl) (wd hw 58 rfl) (notFace_of_selects (args := #[]) (mvT hZ (wd hw 60 rfl))) (wd hw 60 rfl) (wd hw 59 rfl) (wd hw 5 rfl) (wd hw 61 rfl) (by decide) E_b5 (ct_add_0_1 l Z a0 hw w_MS S_MS E_MS F_MS1 F_MS2 b5 ar kA wn bv av (0 : Int64) (0 : Int64) h11 n0 O E_b5 Fi0_11 Fi1_11 Fi2_11 Fi3_11 Fi4_11 V_ar g_b5 g_ar ne_b5_ar) e11 (by rw [hml]; rfl) (lenOf pd___V_8334 rfl) rfl rfl (hb hby at_147) (by decide) (by decide) (by decide) (by decide) ?_
          intro v12 T12 h12 L12 X12 e12 q12
          obtain ⟨rfl, N12, K12, Fi0_12, Fi1_12, Fi2_12, Fi3_12, Fi4_12, V_a12⟩ := q12
          replace N12 := Fr.app N11 N12
          replace E_b5 := E_b5.keep K12
          replace E_b6 := E_b6.keep K12
          replace F0_7 := F0_7.keep K12 (ninS (Ne.symm ne_b5_b6) (ninS ne_b6_ar nin0))
          replace F1_7 := F1_7.keep K12 (ninS (Ne.symm ne_b5_b6) (ninS ne_b6_ar nin0))
          clear Fi0_11
          clear Fi1_11
          clear Fi2_11
          clear Fi3_11
          clear Fi4_11
          clear V_ar
          replace O := O.keep K12 (allS g_b5 (allS g_ar all0))
          have V_ar := V_a12
          show Go p e below _ T12 (mkF m 150 #[.val (.int p0), .val (.long p1), .second, .val (.long p2), .second, .val (.int p3), .val (.long p4), .second, .val (.long wm), .second, .val (.long wn), .second, .val (.long av), .second, .val (.long dv), .second, .val (.long bv), .second, .val (.int (p3 &&& (3 : Int32))), .val (.long xv), .second, .val (.ref b5), .unset, .unset, .unset, .unset, .unset, .unset] [])
          refine Go.by (T' := T12) (g' := (mkF m 154 #[.val (.int p0), .val (.long p1), .second, .val (.long p2), .second, .val (.int p3), .val (.long p4), .second, .val (.long wm), .second, .val (.long wn), .second, .val (.long av), .second, .val (.long dv), .second, .val (.long bv), .second, .val (.int (p3 &&& (3 : Int32))), .val (.long xv), .second, .val (.ref b5), .unset, .unset, .unset, .unset, .unset, .unset] [(.long xv), (.ref b5)])) (fun t k => ?_) ?_
          · show Steps p.tables e below (T12.setTop (mkF m 150 #[.val (.int p0), .val (.long p1), .second, .val (.long p2), .second, .val (.int p3), .val (.long p4), .second, .val (.long wm), .second, .val (.long wn), .second, .val (.long av), .second, .val (.long dv), .second, .val (.long bv), .second, .val (.int (p3 &&& (3 : Int32))), .val (.long xv), .second, .val (.ref b5), .unset, .unset, .unset, .unset, .unset, .unset] [])) _
            refine XS.aload X12.here hx rfl (hb hby at_150) rfl rfl ?_
            show Steps p.tables e below (T12.setTop (mkF m 152 #[.val (.int p0), .val (.long p1), .second, .val (.long p2), .second, .val (.int p3), .val (.long p4), .second, .val (.long wm), .second, .val (.long wn), .second, .val (.long av), .second, .val (.long dv), .second, .val (.long bv), .second, .val (.int (p3 &&& (3 : Int32))), .val (.long xv), .second, .val (.ref b5), .unset, .unset, .unset, .unset, .unset, .unset] [(.ref b5)])) _
            refine XS.lload X12.here hx rfl (hb hby at_152) rfl ?_
            exact k
          refine Go.callV X12 hx hZ (W := 0) (argsL := [(.long xv)]) (rest := []) hown (wd hw 64 rfl) (wd hw 65 rfl) (notFace_of_selects (args := #[]) (mvT hZ (wd hw 67 rfl))) (wd hw 67 rfl) (wd hw 66 rfl) (wd hw 5 rfl) (wd hw 68 rfl) (by decide) E_b5 (ct_remove_0_2_1 l Z a0 hw w_MS S_MS E_MS F_MS1 F_MS2 b5 ar kA wn bv av bv (0 : Int64) xv h12 n0 O E_b5 Fi0_12 Fi1_12 Fi2_12 Fi3_12 Fi4_12 V_ar g_b5 g_ar ne_b5_ar hy4.symm) e12 (by rw [hml]; rfl) (lenOf pd__J_V_8737 rfl) rfl rfl (hb hby at_154) (by decide) (by decide) (by decide) (by decide) ?_
          intro v13 T13 h13 L13 X13 e13 q13
          obtain ⟨rfl, N13, K13, Fi0_13, Fi1_13, Fi2_13, Fi3_13, Fi4_13, V_a13⟩ := q13
          replace N13 := Fr.app N12 N13
          replace E_b5 := E_b5.keep K13
          replace E_b6 := E_b6.keep K13
          replace F0_7 := F0_7.keep K13 (ninS (Ne.symm ne_b5_b6) (ninS ne_b6_ar nin0))
          replace F1_7 := F1_7.keep K13 (ninS (Ne.symm ne_b5_b6) (ninS ne_b6_ar nin0))
          clear Fi0_12
          clear Fi1_12
          clear Fi2_12
          clear Fi3_12
          clear Fi4_12
          clear V_ar
          replace O := O.keep K13 (allS g_b5 (allS g_ar all0))
          have V_ar := V_a13
          show Go p e below _ T13 (mkF m 157 #[.val (.int p0), .val (.long p1), .second, .val (.long p2), .second, .val (.int p3), .val (.long p4), .second, .val (.long wm), .second, .val (.long wn), .second, .val (.long av), .second, .val (.long dv), .second, .val (.long bv), .second, .val (.int (p3 &&& (3 : Int32))), .val (.long xv), .second, .val (.ref b5), .unset, .unset, .unset, .unset, .unset, .unset] [])
          refine Go.by (T' := T13) (g' := (mkF m 159 #[.val (.int p0), .val (.long p1), .second, .val (.long p2), .second, .val (.int p3), .val (.long p4), .second, .val (.long wm), .second, .val (.long wn), .second, .val (.long av), .second, .val (.long dv), .second, .val (.long bv), .second, .val (.int (p3 &&& (3 : Int32))), .val (.long xv), .second, .val (.ref b5), .unset, .unset, .unset, .unset, .unset, .unset] [(.ref b5)])) (fun t k => ?_) ?_
          · show Steps p.tables e below (T13.setTop (mkF m 157 #[.val (.int p0), .val (.long p1), .second, .val (.long p2), .second, .val (.int p3), .val (.long p4), .second, .val (.long wm), .second, .val (.long wn), .second, .val (.long av), .second, .val (.long dv), .second, .val (.long bv), .second, .val (.int (p3 &&& (3 : Int32))), .val (.long xv), .second, .val (.ref b5), .unset, .unset, .unset, .unset, .unset, .unset] [])) _
            refine XS.aload X13.here hx rfl (hb hby at_157) rfl rfl ?_
            exact k
          refine Go.callV X13 hx hZ (W := 0) (argsL := []) (rest := []) hown (wd hw 69 rfl) (wd hw 70 rfl) (notFace_of_selects (args := #[]) (mvT hZ (wd hw 72 rfl))) (wd hw 72 rfl) (wd hw 71 rfl) (wd hw 5 rfl) (wd hw 73 rfl) (by decide) E_b5 (ct_get_count_l_1___Int32__5 l Z a0 hw  b5 h13 n0 O Fi3_13) e13 (by rw [hml]; rfl) (lenOf pd___I_8321 rfl) rfl rfl (hb hby at_159) (by decide) (by decide) (by decide) (by decide) ?_
          intro v14 T14 h14 L14 X14 e14 q14
          obtain ⟨rfl, N14, rfl⟩ := q14
          replace N14 := Fr.app N13 N14
          show Go p e below _ T14 (mkF m 162 #[.val (.int p0), .val (.long p1), .second, .val (.long p2), .second, .val (.int p3), .val (.long p4), .second, .val (.long wm), .second, .val (.long wn), .second, .val (.long av), .second, .val (.long dv), .second, .val (.long bv), .second, .val (.int (p3 &&& (3 : Int32))), .val (.long xv), .second, .val (.ref b5), .unset, .unset, .unset, .unset, .unset, .unset] [(.int (1 : Int32))])
          refine Go.by (T' := T14) (g' := (mkF m 173 #[.val (.int p0), .val (.long p1), .second, .val (.long p2), .second, .val (.int p3), .val (.long p4), .second, .val (.long wm), .second, .val (.long wn), .second, .val (.long av), .second, .val (.long dv), .second, .val (.long bv), .second, .val (.int (p3 &&& (3 : Int32))), .val (.long xv), .second, .val (.ref b5), .val (.int (1 : Int32)), .unset, .unset, .unset, .unset, .unset] [(.long ((bv + wn) - (1 : Int64))), (.ref b5)])) (fun t k => ?_) ?_
          · show Steps p.tables e below (T14.setTop (mkF m 162 #[.val (.int p0), .val (.long p1), .second, .val (.long p2), .second, .val (.int p3), .val (.long p4), .second, .val (.long wm), .second, .val (.long wn), .second, .val (.long av), .second, .val (.long dv), .second, .val (.long bv), .second, .val (.int (p3 &&& (3 : Int32))), .val (.long xv), .second, .val (.ref b5), .unset, .unset, .unset, .unset, .unset, .unset] [(.int (1 : Int32))])) _
            refine XS.istore X14.here hx rfl (hb hby at_162) rfl (l' := #[.val (.int p0), .val (.long p1), .second, .val (.long p2), .second, .val (.int p3), .val (.long p4), .second, .val (.long wm), .second, .val (.long wn), .second, .val (.long av), .second, .val (.long dv), .second, .val (.long bv), .second, .val (.int (p3 &&& (3 : Int32))), .val (.long xv), .second, .val (.ref b5), .val (.int (1 : Int32)), .unset, .unset, .unset, .unset, .unset]) rfl ?_
            show Steps p.tables e below (T14.setTop (mkF m 164 #[.val (.int p0), .val (.long p1), .second, .val (.long p2), .second, .val (.int p3), .val (.long p4), .second, .val (.long wm), .second, .val (.long wn), .second, .val (.long av), .second, .val (.long dv), .second, .val (.long bv), .second, .val (.int (p3 &&& (3 : Int32))), .val (.long xv), .second, .val (.ref b5), .val (.int (1 : Int32)), .unset, .unset, .unset, .unset, .unset] [])) _
            refine XS.aload X14.here hx rfl (hb hby at_164) rfl rfl ?_
            show Steps p.tables e below (T14.setTop (mkF m 166 #[.val (.int p0), .val (.long p1), .second, .val (.long p2), .second, .val (.int p3), .val (.long p4), .second, .val (.long wm), .second, .val (.long wn), .second, .val (.long av), .second, .val (.long dv), .second, .val (.long bv), .second, .val (.int (p3 &&& (3 : Int32))), .val (.long xv), .second, .val (.ref b5), .val (.int (1 : Int32)), .unset, .unset, .unset, .unset, .unset] [(.ref b5)])) _
            refine XS.lload X14.here hx rfl (hb hby at_166) rfl ?_
            show Steps p.tables e below (T14.setTop (mkF m 168 #[.val (.int p0), .val (.long p1), .second, .val (.long p2), .second, .val (.int p3), .val (.long p4), .second, .val (.long wm), .second, .val (.long wn), .second, .val (.long av), .second, .val (.long dv), .second, .val (.long bv), .second, .val (.int (p3 &&& (3 : Int32))), .val (.long xv), .second, .val (.ref b5), .val (.int (1 : Int32)), .unset, .unset, .unset, .unset, .unset] [(.long bv), (.ref b5)])) _
            refine XS.lload X14.here hx rfl (hb hby at_168) rfl ?_
            show Steps p.tables e below (T14.setTop (mkF m 170 #[.val (.int p0), .val (.long p1), .second, .val (.long p2), .second, .val (.int p3), .val (.long p4), .second, .val (.long wm), .second, .val (.long wn), .second, .val (.long av), .second, .val (.long dv), .second, .val (.long bv), .second, .val (.int (p3 &&& (3 : Int32))), .val (.long xv), .second, .val (.ref b5), .val (.int (1 : Int32)), .unset, .unset, .unset, .unset, .unset] [(.long wn), (.long bv), (.ref b5)])) _
            refine XS.ladd X14.here hx rfl (hb hby at_170) rfl ?_
            show Steps p.tables e below (T14.setTop (mkF m 171 #[.val (.int p0), .val (.long p1), .second, .val (.long p2), .second, .val (.int p3), .val (.long p4), .second, .val (.long wm), .second, .val (.long wn), .second, .val (.long av), .second, .val (.long dv), .second, .val (.long bv), .second, .val (.int (p3 &&& (3 : Int32))), .val (.long xv), .second, .val (.ref b5), .val (.int (1 : Int32)), .unset, .unset, .unset, .unset, .unset] [(.long (bv + wn)), (.ref b5)])) _
            refine XS.lconst X14.here hx rfl (hb hby at_171) ?_
            show Steps p.tables e below (T14.setTop (mkF m 172 #[.val (.int p0), .val (.long p1), .second, .val (.long p2), .second, .val (.int p3), .val (.long p4), .second, .val (.long wm), .second, .val (.long wn), .second, .val (.long av), .second, .val (.long dv), .second, .val (.long bv), .second, .val (.int (p3 &&& (3 : Int32))), .val (.long xv), .second, .val (.ref b5), .val (.int (1 : Int32)), .unset, .unset, .unset, .unset, .unset] [(.long (1 : Int64)), (.long (bv + wn)), (.ref b5)])) _
            refine XS.lsub X14.here hx rfl (hb hby at_172) rfl ?_
            exact k
          refine Go.callV X14 hx hZ (W := 0) (argsL := [(.long ((bv + wn) - (1 : Int64)))]) (rest := []) hown (wd hw 50 rfl) (wd hw 51 rfl) (notFace_of_selects (args := #[]) (mvT hZ (wd hw 53 rfl))) (wd hw 53 rfl) (wd hw 52 rfl) (wd hw 5 rfl) (wd hw 54 rfl) (by decide) E_b5 (ct_move_0_1_0 l Z a0 hw w_MS S_MS E_MS F_MS1 F_MS2 b5 ar kA wn bv av bv (0 : Int64) ((bv + wn) - (1 : Int64)) h13 n0 O E_b5 Fi0_13 Fi1_13 Fi2_13 Fi3_13 Fi4_13 V_ar g_b5 g_ar ne_b5_ar (own_t3 hbv ha hd hwr) (own_s2 hbv ha hd hwr hy3)) e14 (by rw [hml]; rfl) (lenOf pd__J_Z_8741 rfl) rfl rfl (hb hby at_173) (by decide) (by decide) (by decide) (by decide) ?_
          intro v15 T15 h15 L15 X15 e15 q15
          obtain ⟨rfl, N15, K15, Fi0_15, Fi1_15, Fi2_15, Fi3_15, Fi4_15, V_a15⟩ := q15
          replace N15 := Fr.app N14 N15
          replace E_b5 := E_b5.keep K15
          replace E_b6 := E_b6.keep K15
          replace F0_7 := F0_7.keep K15 (ninS (Ne.symm ne_b5_b6) (ninS ne_b6_ar nin0))
          replace F1_7 := F1_7.keep K15 (ninS (Ne.symm ne_b5_b6) (ninS ne_b6_ar nin0))
          clear Fi0_13
          clear Fi1_13
          clear Fi2_13
          clear Fi3_13
          clear Fi4_13
          clear V_ar
          replace O := O.keep K15 (allS g_b5 (allS g_ar all0))
          have V_ar := V_a15
          show Go p e below _ T15 (mkF m 176 #[.val (.int p0), .val (.long p1), .second, .val (.long p2), .second, .val (.int p3), .val (.long p4), .second, .val (.long wm), .second, .val (.long wn), .second, .val (.long av), .second, .val (.long dv), .second, .val (.long bv), .second, .val (.int (p3 &&& (3 : Int32))), .val (.long xv), .second, .val (.ref b5), .val (.int (1 : Int32)), .unset, .unset, .unset, .unset, .unset] [(.int (1 : Int32))])
          refine Go.by (T' := T15) (g' := (mkF m 180 #[.val (.int p0), .val (.long p1), .second, .val (.long p2), .second, .val (.int p3), .val (.long p4), .second, .val (.long wm), .second, .val (.long wn), .second, .val (.long av), .second, .val (.long dv), .second, .val (.long bv), .second, .val (.int (p3 &&& (3 : Int32))), .val (.long xv), .second, .val (.ref b5), .val (.int (1 : Int32)), .val (.int (1 : Int32)), .unset, .unset, .unset, .unset] [(.ref b5)])) (fun t k => ?_) ?_
          · show Steps p.tables e below (T15.setTop (mkF m 176 #[.val (.int p0), .val (.long p1), .second, .val (.long p2), .second, .val (.int p3), .val (.long p4), .second, .val (.long wm), .second, .val (.long wn), .second, .val (.long av), .second, .val (.long dv), .second, .val (.long bv), .second, .val (.int (p3 &&& (3 : Int32))), .val (.long xv), .second, .val (.ref b5), .val (.int (1 : Int32)), .unset, .unset, .unset, .unset, .unset] [(.int (1 : Int32))])) _
            refine XS.istore X15.here hx rfl (hb hby at_176) rfl (l' := #[.val (.int p0), .val (.long p1), .second, .val (.long p2), .second, .val (.int p3), .val (.long p4), .second, .val (.long wm), .second, .val (.long wn), .second, .val (.long av), .second, .val (.long dv), .second, .val (.long bv), .second, .val (.int (p3 &&& (3 : Int32))), .val (.long xv), .second, .val (.ref b5), .val (.int (1 : Int32)), .val (.int (1 : Int32)), .unset, .unset, .unset, .unset]) rfl ?_
            show Steps p.tables e below (T15.setTop (mkF m 178 #[.val (.int p0), .val (.long p1), .second, .val (.long p2), .second, .val (.int p3), .val (.long p4), .second, .val (.long wm), .second, .val (.long wn), .second, .val (.long av), .second, .val (.long dv), .second, .val (.long bv), .second, .val (.int (p3 &&& (3 : Int32))), .val (.long xv), .second, .val (.ref b5), .val (.int (1 : Int32)), .val (.int (1 : Int32)), .unset, .unset, .unset, .unset] [])) _
            refine XS.aload X15.here hx rfl (hb hby at_178) rfl rfl ?_
            exact k
          refine Go.callV X15 hx hZ (W := 0) (argsL := []) (rest := []) hown (wd hw 69 rfl) (wd hw 70 rfl) (notFace_of_selects (args := #[]) (mvT hZ (wd hw 72 rfl))) (wd hw 72 rfl) (wd hw 71 rfl) (wd hw 5 rfl) (wd hw 73 rfl) (by decide) E_b5 (ct_get_count_l_1___Int32__5 l Z a0 hw  b5 h15 n0 O Fi3_15) e15 (by rw [hml]; rfl) (lenOf pd___I_8321 rfl) rfl rfl (hb hby at_180) (by decide) (by decide) (by decide) (by decide) ?_
          intro v16 T16 h16 L16 X16 e16 q16
          obtain ⟨rfl, N16, rfl⟩ := q16
          replace N16 := Fr.app N15 N16
          show Go p e below _ T16 (mkF m 183 #[.val (.int p0), .val (.long p1), .second, .val (.long p2), .second, .val (.int p3), .val (.long p4), .second, .val (.long wm), .second, .val (.long wn), .second, .val (.long av), .second, .val (.long dv), .second, .val (.long bv), .second, .val (.int (p3 &&& (3 : Int32))), .val (.long xv), .second, .val (.ref b5), .val (.int (1 : Int32)), .val (.int (1 : Int32)), .unset, .unset, .unset, .unset] [(.int (1 : Int32))])
          refine Go.by (T' := T16) (g' := (mkF m 299 #[.val (.int p0), .val (.long p1), .second, .val (.long p2), .second, .val (.int p3), .val (.long p4), .second, .val (.long wm), .second, .val (.long wn), .second, .val (.long av), .second, .val (.long dv), .second, .val (.long bv), .second, .val (.int (p3 &&& (3 : Int32))), .val (.long xv), .second, .val (.ref b5), .val (.int (1 : Int32)), .val (.int (1 : Int32)), .val (.int (1 : Int32)), .val (.int (1 : Int32)), .val (.int (0 : Int32)), .val (.int (1 : Int32))] [(.int (1 : Int32))])) (fun t k => ?_) ?_
          · show Steps p.tables e below (T16.setTop (mkF m 183 #[.val (.int p0), .val (.long p1), .second, .val (.long p2), .second, .val (.int p3), .val (.long p4), .second, .val (.long wm), .second, .val (.long wn), .second, .val (.long av), .second, .val (.long dv), .second, .val (.long bv), .second, .val (.int (p3 &&& (3 : Int32))), .val (.long xv), .second, .val (.ref b5), .val (.int (1 : Int32)), .val (.int (1 : Int32)), .unset, .unset, .unset, .unset] [(.int (1 : Int32))])) _
            refine XS.istore X16.here hx rfl (hb hby at_183) rfl (l' := #[.val (.int p0), .val (.long p1), .second, .val (.long p2), .second, .val (.int p3), .val (.long p4), .second, .val (.long wm), .second, .val (.long wn), .second, .val (.long av), .second, .val (.long dv), .second, .val (.long bv), .second, .val (.int (p3 &&& (3 : Int32))), .val (.long xv), .second, .val (.ref b5), .val (.int (1 : Int32)), .val (.int (1 : Int32)), .val (.int (1 : Int32)), .unset, .unset, .unset]) rfl ?_
            show Steps p.tables e below (T16.setTop (mkF m 185 #[.val (.int p0), .val (.long p1), .second, .val (.long p2), .second, .val (.int p3), .val (.long p4), .second, .val (.long wm), .second, .val (.long wn), .second, .val (.long av), .second, .val (.long dv), .second, .val (.long bv), .second, .val (.int (p3 &&& (3 : Int32))), .val (.long xv), .second, .val (.ref b5), .val (.int (1 : Int32)), .val (.int (1 : Int32)), .val (.int (1 : Int32)), .unset, .unset, .unset] [])) _
            refine XS.lload X16.here hx rfl (hb hby at_185) rfl ?_
            show Steps p.tables e below (T16.setTop (mkF m 187 #[.val (.int p0), .val (.long p1), .second, .val (.long p2), .second, .val (.int p3), .val (.long p4), .second, .val (.long wm), .second, .val (.long wn), .second, .val (.long av), .second, .val (.long dv), .second, .val (.long bv), .second, .val (.int (p3 &&& (3 : Int32))), .val (.long xv), .second, .val (.ref b5), .val (.int (1 : Int32)), .val (.int (1 : Int32)), .val (.int (1 : Int32)), .unset, .unset, .unset] [(.long dv)])) _
            refine XS.lload X16.here hx rfl (hb hby at_187) rfl ?_
            show Steps p.tables e below (T16.setTop (mkF m 189 #[.val (.int p0), .val (.long p1), .second, .val (.long p2), .second, .val (.int p3), .val (.long p4), .second, .val (.long wm), .second, .val (.long wn), .second, .val (.long av), .second, .val (.long dv), .second, .val (.long bv), .second, .val (.int (p3 &&& (3 : Int32))), .val (.long xv), .second, .val (.ref b5), .val (.int (1 : Int32)), .val (.int (1 : Int32)), .val (.int (1 : Int32)), .unset, .unset, .unset] [(.long wn), (.long dv)])) _
            refine XS.lcmp X16.here hx rfl (hb hby at_189) rfl ?_
            show Steps p.tables e below (T16.setTop (mkF m 190 #[.val (.int p0), .val (.long p1), .second, .val (.long p2), .second, .val (.int p3), .val (.long p4), .second, .val (.long wm), .second, .val (.long wn), .second, .val (.long av), .second, .val (.long dv), .second, .val (.long bv), .second, .val (.int (p3 &&& (3 : Int32))), .val (.long xv), .second, .val (.ref b5), .val (.int (1 : Int32)), .val (.int (1 : Int32)), .val (.int (1 : Int32)), .unset, .unset, .unset] [(.int (lcmpW dv wn))])) _
            refine XS.ifNo X16.here hx rfl (hb hby at_190) rfl ((if0 _ _).trans (tlt ((lw_lt _ _).mpr hlt)).2.1) ?_
            show Steps p.tables e below (T16.setTop (mkF m 193 #[.val (.int p0), .val (.long p1), .second, .val (.long p2), .second, .val (.int p3), .val (.long p4), .second, .val (.long wm), .second, .val (.long wn), .second, .val (.long av), .second, .val (.long dv), .second, .val (.long bv), .second, .val (.int (p3 &&& (3 : Int32))), .val (.long xv), .second, .val (.ref b5), .val (.int (1 : Int32)), .val (.int (1 : Int32)), .val (.int (1 : Int32)), .unset, .unset, .unset] [])) _
            refine XS.iconst X16.here hx rfl (hb hby at_193) ?_
            show Steps p.tables e below (T16.setTop (mkF m 194 #[.val (.int p0), .val (.long p1), .second, .val (.long p2), .second, .val (.int p3), .val (.long p4), .second, .val (.long wm), .second, .val (.long wn), .second, .val (.long av), .second, .val (.long dv), .second, .val (.long bv), .second, .val (.int (p3 &&& (3 : Int32))), .val (.long xv), .second, .val (.ref b5), .val (.int (1 : Int32)), .val (.int (1 : Int32)), .val (.int (1 : Int32)), .unset, .unset, .unset] [(.int (1 : Int32))])) _
            refine XS.goto X16.here hx rfl (pc0 := 194) (pc' := 198) rfl (hb hby at_194) (by decide) (by decide) ?_
            show Steps p.tables e below (T16.setTop (mkF m 198 #[.val (.int p0), .val (.long p1), .second, .val (.long p2), .second, .val (.int p3), .val (.long p4), .second, .val (.long wm), .second, .val (.long wn), .second, .val (.long av), .second, .val (.long dv), .second, .val (.long bv), .second, .val (.int (p3 &&& (3 : Int32))), .val (.long xv), .second, .val (.ref b5), .val (.int (1 : Int32)), .val (.int (1 : Int32)), .val (.int (1 : Int32)), .unset, .unset, .unset] [(.int (1 : Int32))])) _
            refine XS.istore X16.here hx rfl (hb hby at_198) rfl (l' := #[.val (.int p0), .val (.long p1), .second, .val (.long p2), .second, .val (.int p3), .val (.long p4), .second, .val (.long wm), .second, .val (.long wn), .second, .val (.long av), .second, .val (.long dv), .second, .val (.long bv), .second, .val (.int (p3 &&& (3 : Int32))), .val (.long xv), .second, .val (.ref b5), .val (.int (1 : Int32)), .val (.int (1 : Int32)), .val (.int (1 : Int32)), .val (.int (1 : Int32)), .unset, .unset]) rfl ?_
            show Steps p.tables e below (T16.setTop (mkF m 200 #[.val (.int p0), .val (.long p1), .second, .val (.long p2), .second, .val (.int p3), .val (.long p4), .second, .val (.long wm), .second, .val (.long wn), .second, .val (.long av), .second, .val (.long dv), .second, .val (.long bv), .second, .val (.int (p3 &&& (3 : Int32))), .val (.long xv), .second, .val (.ref b5), .val (.int (1 : Int32)), .val (.int (1 : Int32)), .val (.int (1 : Int32)), .val (.int (1 : Int32)), .unset, .unset] [])) _
            refine XS.iload X16.here hx rfl (hb hby at_200) rfl ?_
            show Steps p.tables e below (T16.setTop (mkF m 202 #[.val (.int p0), .val (.long p1), .second, .val (.long p2), .second, .val (.int p3), .val (.long p4), .second, .val (.long wm), .second, .val (.long wn), .second, .val (.long av), .second, .val (.long dv), .second, .val (.long bv), .second, .val (.int (p3 &&& (3 : Int32))), .val (.long xv), .second, .val (.ref b5), .val (.int (1 : Int32)), .val (.int (1 : Int32)), .val (.int (1 : Int32)), .val (.int (1 : Int32)), .unset, .unset] [(.int (1 : Int32))])) _
            refine XS.ifNo X16.here hx rfl (hb hby at_202) rfl ((if0 _ _).trans (feq (by decide : ¬ (1 : Int32) = (0 : Int32))).1) ?_
            show Steps p.tables e below (T16.setTop (mkF m 205 #[.val (.int p0), .val (.long p1), .second, .val (.long p2), .second, .val (.int p3), .val (.long p4), .second, .val (.long wm), .second, .val (.long wn), .second, .val (.long av), .second, .val (.long dv), .second, .val (.long bv), .second, .val (.int (p3 &&& (3 : Int32))), .val (.long xv), .second, .val (.ref b5), .val (.int (1 : Int32)), .val (.int (1 : Int32)), .val (.int (1 : Int32)), .val (.int (1 : Int32)), .unset, .unset] [])) _
            refine XS.lload X16.here hx rfl (hb hby at_205) rfl ?_
            show Steps p.tables e below (T16.setTop (mkF m 207 #[.val (.int p0), .val (.long p1), .second, .val (.long p2), .second, .val (.int p3), .val (.long p4), .second, .val (.long wm), .second, .val (.long wn), .second, .val (.long av), .second, .val (.long dv), .second, .val (.long bv), .second, .val (.int (p3 &&& (3 : Int32))), .val (.long xv), .second, .val (.ref b5), .val (.int (1 : Int32)), .val (.int (1 : Int32)), .val (.int (1 : Int32)), .val (.int (1 : Int32)), .unset, .unset] [(.long dv)])) _
            refine XS.lconst X16.here hx rfl (hb hby at_207) ?_
            show Steps p.tables e below (T16.setTop (mkF m 208 #[.val (.int p0), .val (.long p1), .second, .val (.long p2), .second, .val (.int p3), .val (.long p4), .second, .val (.long wm), .second, .val (.long wn), .second, .val (.long av), .second, .val (.long dv), .second, .val (.long bv), .second, .val (.int (p3 &&& (3 : Int32))), .val (.long xv), .second, .val (.ref b5), .val (.int (1 : Int32)), .val (.int (1 : Int32)), .val (.int (1 : Int32)), .val (.int (1 : Int32)), .unset, .unset] [(.long (0 : Int64)), (.long dv)])) _
            refine XS.lcmp X16.here hx rfl (hb hby at_208) rfl ?_
            show Steps p.tables e below (T16.setTop (mkF m 209 #[.val (.int p0), .val (.long p1), .second, .val (.long p2), .second, .val (.int p3), .val (.long p4), .second, .val (.long wm), .second, .val (.long wn), .second, .val (.long av), .second, .val (.long dv), .second, .val (.long bv), .second, .val (.int (p3 &&& (3 : Int32))), .val (.long xv), .second, .val (.ref b5), .val (.int (1 : Int32)), .val (.int (1 : Int32)), .val (.int (1 : Int32)), .val (.int (1 : Int32)), .unset, .unset] [(.int (lcmpW dv (0 : Int64)))])) _
            refine XS.ifYes X16.here hx rfl (pc0 := 209) (pc' := 216) rfl (hb hby at_209) rfl ((if0 _ _).trans (teq ((lw_eq _ _).mpr hy3)).1) (by decide) (by decide) ?_
            show Steps p.tables e below (T16.setTop (mkF m 216 #[.val (.int p0), .val (.long p1), .second, .val (.long p2), .second, .val (.int p3), .val (.long p4), .second, .val (.long wm), .second, .val (.long wn), .second, .val (.long av), .second, .val (.long dv), .second, .val (.long bv), .second, .val (.int (p3 &&& (3 : Int32))), .val (.long xv), .second, .val (.ref b5), .val (.int (1 : Int32)), .val (.int (1 : Int32)), .val (.int (1 : Int32)), .val (.int (1 : Int32)), .unset, .unset] [])) _
            refine XS.iconst X16.here hx rfl (hb hby at_216) ?_
            show Steps p.tables e below (T16.setTop (mkF m 217 #[.val (.int p0), .val (.long p1), .second, .val (.long p2), .second, .val (.int p3), .val (.long p4), .second, .val (.long wm), .second, .val (.long wn), .second, .val (.long av), .second, .val (.long dv), .second, .val (.long bv), .second, .val (.int (p3 &&& (3 : Int32))), .val (.long xv), .second, .val (.ref b5), .val (.int (1 : Int32)), .val (.int (1 : Int32)), .val (.int (1 : Int32)), .val (.int (1 : Int32)), .unset, .unset] [(.int (0 : Int32))])) _
            refine XS.istore X16.here hx rfl (hb hby at_217) rfl (l' := #[.val (.int p0), .val (.long p1), .second, .val (.long p2), .second, .val (.int p3), .val (.long p4), .second, .val (.long wm), .second, .val (.long wn), .second, .val (.long av), .second, .val (.long dv), .second, .val (.long bv), .second, .val (.int (p3 &&& (3 : Int32))), .val (.long xv), .second, .val (.ref b5), .val (.int (1 : Int32)), .val (.int (1 : Int32)), .val (.int (1 : Int32)), .val (.int (1 : Int32)), .val (.int (0 : Int32)), .unset]) rfl ?_
            show Steps p.tables e below (T16.setTop (mkF m 219 #[.val (.int p0), .val (.long p1), .second, .val (.long p2), .second, .val (.int p3), .val (.long p4), .second, .val (.long wm), .second, .val (.long wn), .second, .val (.long av), .second, .val (.long dv), .second, .val (.long bv), .second, .val (.int (p3 &&& (3 : Int32))), .val (.long xv), .second, .val (.ref b5), .val (.int (1 : Int32)), .val (.int (1 : Int32)), .val (.int (1 : Int32)), .val (.int (1 : Int32)), .val (.int (0 : Int32)), .unset] [])) _
            refine XS.iload X16.here hx rfl (hb hby at_219) rfl ?_
            show Steps p.tables e below (T16.setTop (mkF m 221 #[.val (.int p0), .val (.long p1), .second, .val (.long p2), .second, .val (.int p3), .val (.long p4), .second, .val (.long wm), .second, .val (.long wn), .second, .val (.long av), .second, .val (.long dv), .second, .val (.long bv), .second, .val (.int (p3 &&& (3 : Int32))), .val (.long xv), .second, .val (.ref b5), .val (.int (1 : Int32)), .val (.int (1 : Int32)), .val (.int (1 : Int32)), .val (.int (1 : Int32)), .val (.int (0 : Int32)), .unset] [(.int (1 : Int32))])) _
            refine XS.ifNo X16.here hx rfl (hb hby at_221) rfl ((if0 _ _).trans (feq (by decide : ¬ (1 : Int32) = (0 : Int32))).1) ?_
            show Steps p.tables e below (T16.setTop (mkF m 224 #[.val (.int p0), .val (.long p1), .second, .val (.long p2), .second, .val (.int p3), .val (.long p4), .second, .val (.long wm), .second, .val (.long wn), .second, .val (.long av), .second, .val (.long dv), .second, .val (.long bv), .second, .val (.int (p3 &&& (3 : Int32))), .val (.long xv), .second, .val (.ref b5), .val (.int (1 : Int32)), .val (.int (1 : Int32)), .val (.int (1 : Int32)), .val (.int (1 : Int32)), .val (.int (0 : Int32)), .unset] [])) _
            refine XS.lload X16.here hx rfl (hb hby at_224) rfl ?_
            show Steps p.tables e below (T16.setTop (mkF m 226 #[.val (.int p0), .val (.long p1), .second, .val (.long p2), .second, .val (.int p3), .val (.long p4), .second, .val (.long wm), .second, .val (.long wn), .second, .val (.long av), .second, .val (.long dv), .second, .val (.long bv), .second, .val (.int (p3 &&& (3 : Int32))), .val (.long xv), .second, .val (.ref b5), .val (.int (1 : Int32)), .val (.int (1 : Int32)), .val (.int (1 : Int32)), .val (.int (1 : Int32)), .val (.int (0 : Int32)), .unset] [(.long dv)])) _
            refine XS.lconst X16.here hx rfl (hb hby at_226) ?_
            show Steps p.tables e below (T16.setTop (mkF m 227 #[.val (.int p0), .val (.long p1), .second, .val (.long p2), .second, .val (.int p3), .val (.long p4), .second, .val (.long wm), .second, .val (.long wn), .second, .val (.long av), .second, .val (.long dv), .second, .val (.long bv), .second, .val (.int (p3 &&& (3 : Int32))), .val (.long xv), .second, .val (.ref b5), .val (.int (1 : Int32)), .val (.int (1 : Int32)), .val (.int (1 : Int32)), .val (.int (1 : Int32)), .val (.int (0 : Int32)), .unset] [(.long (0 : Int64)), (.long dv)])) _
            refine XS.lcmp X16.here hx rfl (hb hby at_227) rfl ?_
            show Steps p.tables e below (T16.setTop (mkF m 228 #[.val (.int p0), .val (.long p1), .second, .val (.long p2), .second, .val (.int p3), .val (.long p4), .second, .val (.long wm), .second, .val (.long wn), .second, .val (.long av), .second, .val (.long dv), .second, .val (.long bv), .second, .val (.int (p3 &&& (3 : Int32))), .val (.long xv), .second, .val (.ref b5), .val (.int (1 : Int32)), .val (.int (1 : Int32)), .val (.int (1 : Int32)), .val (.int (1 : Int32)), .val (.int (0 : Int32)), .unset] [(.int (lcmpW dv (0 : Int64)))])) _
            refine XS.ifNo X16.here hx rfl (hb hby at_228) rfl ((if0 _ _).trans (teq ((lw_eq _ _).mpr hy3)).2) ?_
            show Steps p.tables e below (T16.setTop (mkF m 231 #[.val (.int p0), .val (.long p1), .second, .val (.long p2), .second, .val (.int p3), .val (.long p4), .second, .val (.long wm), .second, .val (.long wn), .second, .val (.long av), .second, .val (.long dv), .second, .val (.long bv), .second, .val (.int (p3 &&& (3 : Int32))), .val (.long xv), .second, .val (.ref b5), .val (.int (1 : Int32)), .val (.int (1 : Int32)), .val (.int (1 : Int32)), .val (.int (1 : Int32)), .val (.int (0 : Int32)), .unset] [])) _
            refine XS.iconst X16.here hx rfl (hb hby at_231) ?_
            show Steps p.tables e below (T16.setTop (mkF m 232 #[.val (.int p0), .val (.long p1), .second, .val (.long p2), .second, .val (.int p3), .val (.long p4), .second, .val (.long wm), .second, .val (.long wn), .second, .val (.long av), .second, .val (.long dv), .second, .val (.long bv), .second, .val (.int (p3 &&& (3 : Int32))), .val (.long xv), .second, .val (.ref b5), .val (.int (1 : Int32)), .val (.int (1 : Int32)), .val (.int (1 : Int32)), .val (.int (1 : Int32)), .val (.int (0 : Int32)), .unset] [(.int (2 : Int32))])) _
            refine XS.goto X16.here hx rfl (pc0 := 232) (pc' := 236) rfl (hb hby at_232) (by decide) (by decide) ?_
            show Steps p.tables e below (T16.setTop (mkF m 236 #[.val (.int p0), .val (.long p1), .second, .val (.long p2), .second, .val (.int p3), .val (.long p4), .second, .val (.long wm), .second, .val (.long wn), .second, .val (.long av), .second, .val (.long dv), .second, .val (.long bv), .second, .val (.int (p3 &&& (3 : Int32))), .val (.long xv), .second, .val (.ref b5), .val (.int (1 : Int32)), .val (.int (1 : Int32)), .val (.int (1 : Int32)), .val (.int (1 : Int32)), .val (.int (0 : Int32)), .unset] [(.int (2 : Int32))])) _
            refine XS.istore X16.here hx rfl (hb hby at_236) rfl (l' := #[.val (.int p0), .val (.long p1), .second, .val (.long p2), .second, .val (.int p3), .val (.long p4), .second, .val (.long wm), .second, .val (.long wn), .second, .val (.long av), .second, .val (.long dv), .second, .val (.long bv), .second, .val (.int (p3 &&& (3 : Int32))), .val (.long xv), .second, .val (.ref b5), .val (.int (1 : Int32)), .val (.int (1 : Int32)), .val (.int (1 : Int32)), .val (.int (1 : Int32)), .val (.int (0 : Int32)), .val (.int (2 : Int32))]) rfl ?_
            show Steps p.tables e below (T16.setTop (mkF m 238 #[.val (.int p0), .val (.long p1), .second, .val (.long p2), .second, .val (.int p3), .val (.long p4), .second, .val (.long wm), .second, .val (.long wn), .second, .val (.long av), .second, .val (.long dv), .second, .val (.long bv), .second, .val (.int (p3 &&& (3 : Int32))), .val (.long xv), .second, .val (.ref b5), .val (.int (1 : Int32)), .val (.int (1 : Int32)), .val (.int (1 : Int32)), .val (.int (1 : Int32)), .val (.int (0 : Int32)), .val (.int (2 : Int32))] [])) _
            refine XS.lload X16.here hx rfl (hb hby at_238) rfl ?_
            show Steps p.tables e below (T16.setTop (mkF m 240 #[.val (.int p0), .val (.long p1), .second, .val (.long p2), .second, .val (.int p3), .val (.long p4), .second, .val (.long wm), .second, .val (.long wn), .second, .val (.long av), .second, .val (.long dv), .second, .val (.long bv), .second, .val (.int (p3 &&& (3 : Int32))), .val (.long xv), .second, .val (.ref b5), .val (.int (1 : Int32)), .val (.int (1 : Int32)), .val (.int (1 : Int32)), .val (.int (1 : Int32)), .val (.int (0 : Int32)), .val (.int (2 : Int32))] [(.long xv)])) _
            refine XS.lload X16.here hx rfl (hb hby at_240) rfl ?_
            show Steps p.tables e below (T16.setTop (mkF m 242 #[.val (.int p0), .val (.long p1), .second, .val (.long p2), .second, .val (.int p3), .val (.long p4), .second, .val (.long wm), .second, .val (.long wn), .second, .val (.long av), .second, .val (.long dv), .second, .val (.long bv), .second, .val (.int (p3 &&& (3 : Int32))), .val (.long xv), .second, .val (.ref b5), .val (.int (1 : Int32)), .val (.int (1 : Int32)), .val (.int (1 : Int32)), .val (.int (1 : Int32)), .val (.int (0 : Int32)), .val (.int (2 : Int32))] [(.long bv), (.long xv)])) _
            refine XS.lcmp X16.here hx rfl (hb hby at_242) rfl ?_
            show Steps p.tables e below (T16.setTop (mkF m 243 #[.val (.int p0), .val (.long p1), .second, .val (.long p2), .second, .val (.int p3), .val (.long p4), .second, .val (.long wm), .second, .val (.long wn), .second, .val (.long av), .second, .val (.long dv), .second, .val (.long bv), .second, .val (.int (p3 &&& (3 : Int32))), .val (.long xv), .second, .val (.ref b5), .val (.int (1 : Int32)), .val (.int (1 : Int32)), .val (.int (1 : Int32)), .val (.int (1 : Int32)), .val (.int (0 : Int32)), .val (.int (2 : Int32))] [(.int (lcmpW xv bv))])) _
            refine XS.ifNo X16.here hx rfl (hb hby at_243) rfl ((if0 _ _).trans (teq ((lw_eq _ _).mpr hy4)).2) ?_
            show Steps p.tables e below (T16.setTop (mkF m 246 #[.val (.int p0), .val (.long p1), .second, .val (.long p2), .second, .val (.int p3), .val (.long p4), .second, .val (.long wm), .second, .val (.long wn), .second, .val (.long av), .second, .val (.long dv), .second, .val (.long bv), .second, .val (.int (p3 &&& (3 : Int32))), .val (.long xv), .second, .val (.ref b5), .val (.int (1 : Int32)), .val (.int (1 : Int32)), .val (.int (1 : Int32)), .val (.int (1 : Int32)), .val (.int (0 : Int32)), .val (.int (2 : Int32))] [])) _
            refine XS.iload X16.here hx rfl (hb hby at_246) rfl ?_
            show Steps p.tables e below (T16.setTop (mkF m 248 #[.val (.int p0), .val (.long p1), .second, .val (.long p2), .second, .val (.int p3), .val (.long p4), .second, .val (.long wm), .second, .val (.long wn), .second, .val (.long av), .second, .val (.long dv), .second, .val (.long bv), .second, .val (.int (p3 &&& (3 : Int32))), .val (.long xv), .second, .val (.ref b5), .val (.int (1 : Int32)), .val (.int (1 : Int32)), .val (.int (1 : Int32)), .val (.int (1 : Int32)), .val (.int (0 : Int32)), .val (.int (2 : Int32))] [(.int (2 : Int32))])) _
            refine XS.iconst X16.here hx rfl (hb hby at_248) ?_
            show Steps p.tables e below (T16.setTop (mkF m 249 #[.val (.int p0), .val (.long p1), .second, .val (.long p2), .second, .val (.int p3), .val (.long p4), .second, .val (.long wm), .second, .val (.long wn), .second, .val (.long av), .second, .val (.long dv), .second, .val (.long bv), .second, .val (.int (p3 &&& (3 : Int32))), .val (.long xv), .second, .val (.ref b5), .val (.int (1 : Int32)), .val (.int (1 : Int32)), .val (.int (1 : Int32)), .val (.int (1 : Int32)), .val (.int (0 : Int32)), .val (.int (2 : Int32))] [(.int (1 : Int32)), (.int (2 : Int32))])) _
            refine XS.isub X16.here hx rfl (hb hby at_249) rfl ?_
            show Steps p.tables e below (T16.setTop (mkF m 250 #[.val (.int p0), .val (.long p1), .second, .val (.long p2), .second, .val (.int p3), .val (.long p4), .second, .val (.long wm), .second, .val (.long wn), .second, .val (.long av), .second, .val (.long dv), .second, .val (.long bv), .second, .val (.int (p3 &&& (3 : Int32))), .val (.long xv), .second, .val (.ref b5), .val (.int (1 : Int32)), .val (.int (1 : Int32)), .val (.int (1 : Int32)), .val (.int (1 : Int32)), .val (.int (0 : Int32)), .val (.int (2 : Int32))] [(.int (1 : Int32))])) _
            refine XS.istore X16.here hx rfl (hb hby at_250) rfl (l' := #[.val (.int p0), .val (.long p1), .second, .val (.long p2), .second, .val (.int p3), .val (.long p4), .second, .val (.long wm), .second, .val (.long wn), .second, .val (.long av), .second, .val (.long dv), .second, .val (.long bv), .second, .val (.int (p3 &&& (3 : Int32))), .val (.long xv), .second, .val (.ref b5), .val (.int (1 : Int32)), .val (.int (1 : Int32)), .val (.int (1 : Int32)), .val (.int (1 : Int32)), .val (.int (0 : Int32)), .val (.int (1 : Int32))]) rfl ?_
            show Steps p.tables e below (T16.setTop (mkF m 252 #[.val (.int p0), .val (.long p1), .second, .val (.long p2), .second, .val (.int p3), .val (.long p4), .second, .val (.long wm), .second, .val (.long wn), .second, .val (.long av), .second, .val (.long dv), .second, .val (.long bv), .second, .val (.int (p3 &&& (3 : Int32))), .val (.long xv), .second, .val (.ref b5), .val (.int (1 : Int32)), .val (.int (1 : Int32)), .val (.int (1 : Int32)), .val (.int (1 : Int32)), .val (.int (0 : Int32)), .val (.int (1 : Int32))] [])) _
            refine XS.goto X16.here hx rfl (pc0 := 252) (pc' := 272) rfl (hb hby at_252) (by decide) (by decide) ?_
            show Steps p.tables e below (T16.setTop (mkF m 272 #[.val (.int p0), .val (.long p1), .second, .val (.long p2), .second, .val (.int p3), .val (.long p4), .second, .val (.long wm), .second, .val (.long wn), .second, .val (.long av), .second, .val (.long dv), .second, .val (.long bv), .second, .val (.int (p3 &&& (3 : Int32))), .val (.long xv), .second, .val (.ref b5), .val (.int (1 : Int32)), .val (.int (1 : Int32)), .val (.int (1 : Int32)), .val (.int (1 : Int32)), .val (.int (0 : Int32)), .val (.int (1 : Int32))] [])) _
            refine XS.iload X16.here hx rfl (hb hby at_272) rfl ?_
            show Steps p.tables e below (T16.setTop (mkF m 274 #[.val (.int p0), .val (.long p1), .second, .val (.long p2), .second, .val (.int p3), .val (.long p4), .second, .val (.long wm), .second, .val (.long wn), .second, .val (.long av), .second, .val (.long dv), .second, .val (.long bv), .second, .val (.int (p3 &&& (3 : Int32))), .val (.long xv), .second, .val (.ref b5), .val (.int (1 : Int32)), .val (.int (1 : Int32)), .val (.int (1 : Int32)), .val (.int (1 : Int32)), .val (.int (0 : Int32)), .val (.int (1 : Int32))] [(.int (1 : Int32))])) _
            refine XS.ifNo X16.here hx rfl (hb hby at_274) rfl ((if0 _ _).trans (feq (by decide : ¬ (1 : Int32) = (0 : Int32))).1) ?_
            show Steps p.tables e below (T16.setTop (mkF m 277 #[.val (.int p0), .val (.long p1), .second, .val (.long p2), .second, .val (.int p3), .val (.long p4), .second, .val (.long wm), .second, .val (.long wn), .second, .val (.long av), .second, .val (.long dv), .second, .val (.long bv), .second, .val (.int (p3 &&& (3 : Int32))), .val (.long xv), .second, .val (.ref b5), .val (.int (1 : Int32)), .val (.int (1 : Int32)), .val (.int (1 : Int32)), .val (.int (1 : Int32)), .val (.int (0 : Int32)), .val (.int (1 : Int32))] [])) _
            refine XS.iload X16.here hx rfl (hb hby at_277) rfl ?_
            show Steps p.tables e below (T16.setTop (mkF m 279 #[.val (.int p0), .val (.long p1), .second, .val (.long p2), .second, .val (.int p3), .val (.long p4), .second, .val (.long wm), .second, .val (.long wn), .second, .val (.long av), .second, .val (.long dv), .second, .val (.long bv), .second, .val (.int (p3 &&& (3 : Int32))), .val (.long xv), .second, .val (.ref b5), .val (.int (1 : Int32)), .val (.int (1 : Int32)), .val (.int (1 : Int32)), .val (.int (1 : Int32)), .val (.int (0 : Int32)), .val (.int (1 : Int32))] [(.int (1 : Int32))])) _
            refine XS.iload X16.here hx rfl (hb hby at_279) rfl ?_
            show Steps p.tables e below (T16.setTop (mkF m 281 #[.val (.int p0), .val (.long p1), .second, .val (.long p2), .second, .val (.int p3), .val (.long p4), .second, .val (.long wm), .second, .val (.long wn), .second, .val (.long av), .second, .val (.long dv), .second, .val (.long bv), .second, .val (.int (p3 &&& (3 : Int32))), .val (.long xv), .second, .val (.ref b5), .val (.int (1 : Int32)), .val (.int (1 : Int32)), .val (.int (1 : Int32)), .val (.int (1 : Int32)), .val (.int (0 : Int32)), .val (.int (1 : Int32))] [(.int (0 : Int32)), (.int (1 : Int32))])) _
            refine XS.iload X16.here hx rfl (hb hby at_281) rfl ?_
            show Steps p.tables e below (T16.setTop (mkF m 283 #[.val (.int p0), .val (.long p1), .second, .val (.long p2), .second, .val (.int p3), .val (.long p4), .second, .val (.long wm), .second, .val (.long wn), .second, .val (.long av), .second, .val (.long dv), .second, .val (.long bv), .second, .val (.int (p3 &&& (3 : Int32))), .val (.long xv), .second, .val (.ref b5), .val (.int (1 : Int32)), .val (.int (1 : Int32)), .val (.int (1 : Int32)), .val (.int (1 : Int32)), .val (.int (0 : Int32)), .val (.int (1 : Int32))] [(.int (1 : Int32)), (.int (0 : Int32)), (.int (1 : Int32))])) _
            refine XS.iadd X16.here hx rfl (hb hby at_283) rfl ?_
            show Steps p.tables e below (T16.setTop (mkF m 284 #[.val (.int p0), .val (.long p1), .second, .val (.long p2), .second, .val (.int p3), .val (.long p4), .second, .val (.long wm), .second, .val (.long wn), .second, .val (.long av), .second, .val (.long dv), .second, .val (.long bv), .second, .val (.int (p3 &&& (3 : Int32))), .val (.long xv), .second, .val (.ref b5), .val (.int (1 : Int32)), .val (.int (1 : Int32)), .val (.int (1 : Int32)), .val (.int (1 : Int32)), .val (.int (0 : Int32)), .val (.int (1 : Int32))] [(.int (1 : Int32)), (.int (1 : Int32))])) _
            refine XS.icmpNo X16.here hx rfl (hb hby at_284) rfl (teq (by decide : (1 : Int32) = (1 : Int32))).2 ?_
            show Steps p.tables e below (T16.setTop (mkF m 287 #[.val (.int p0), .val (.long p1), .second, .val (.long p2), .second, .val (.int p3), .val (.long p4), .second, .val (.long wm), .second, .val (.long wn), .second, .val (.long av), .second, .val (.long dv), .second, .val (.long bv), .second, .val (.int (p3 &&& (3 : Int32))), .val (.long xv), .second, .val (.ref b5), .val (.int (1 : Int32)), .val (.int (1 : Int32)), .val (.int (1 : Int32)), .val (.int (1 : Int32)), .val (.int (0 : Int32)), .val (.int (1 : Int32))] [])) _
            refine XS.iload X16.here hx rfl (hb hby at_287) rfl ?_
            show Steps p.tables e below (T16.setTop (mkF m 289 #[.val (.int p0), .val (.long p1), .second, .val (.long p2), .second, .val (.int p3), .val (.long p4), .second, .val (.long wm), .second, .val (.long wn), .second, .val (.long av), .second, .val (.long dv), .second, .val (.long bv), .second, .val (.int (p3 &&& (3 : Int32))), .val (.long xv), .second, .val (.ref b5), .val (.int (1 : Int32)), .val (.int (1 : Int32)), .val (.int (1 : Int32)), .val (.int (1 : Int32)), .val (.int (0 : Int32)), .val (.int (1 : Int32))] [(.int (1 : Int32))])) _
            refine XS.iload X16.here hx rfl (hb hby at_289) rfl ?_
            show Steps p.tables e below (T16.setTop (mkF m 291 #[.val (.int p0), .val (.long p1), .second, .val (.long p2), .second, .val (.int p3), .val (.long p4), .second, .val (.long wm), .second, .val (.long wn), .second, .val (.long av), .second, .val (.long dv), .second, .val (.long bv), .second, .val (.int (p3 &&& (3 : Int32))), .val (.long xv), .second, .val (.ref b5), .val (.int (1 : Int32)), .val (.int (1 : Int32)), .val (.int (1 : Int32)), .val (.int (1 : Int32)), .val (.int (0 : Int32)), .val (.int (1 : Int32))] [(.int (1 : Int32)), (.int (1 : Int32))])) _
            refine XS.icmpNo X16.here hx rfl (hb hby at_291) rfl (teq (by decide : (1 : Int32) = (1 : Int32))).2 ?_
            show Steps p.tables e below (T16.setTop (mkF m 294 #[.val (.int p0), .val (.long p1), .second, .val (.long p2), .second, .val (.int p3), .val (.long p4), .second, .val (.long wm), .second, .val (.long wn), .second, .val (.long av), .second, .val (.long dv), .second, .val (.long bv), .second, .val (.int (p3 &&& (3 : Int32))), .val (.long xv), .second, .val (.ref b5), .val (.int (1 : Int32)), .val (.int (1 : Int32)), .val (.int (1 : Int32)), .val (.int (1 : Int32)), .val (.int (0 : Int32)), .val (.int (1 : Int32))] [])) _
            refine XS.iconst X16.here hx rfl (hb hby at_294) ?_
            show Steps p.tables e below (T16.setTop (mkF m 295 #[.val (.int p0), .val (.long p1), .second, .val (.long p2), .second, .val (.int p3), .val (.long p4), .second, .val (.long wm), .second, .val (.long wn), .second, .val (.long av), .second, .val (.long dv), .second, .val (.long bv), .second, .val (.int (p3 &&& (3 : Int32))), .val (.long xv), .second, .val (.ref b5), .val (.int (1 : Int32)), .val (.int (1 : Int32)), .val (.int (1 : Int32)), .val (.int (1 : Int32)), .val (.int (0 : Int32)), .val (.int (1 : Int32))] [(.int (1 : Int32))])) _
            refine XS.goto X16.here hx rfl (pc0 := 295) (pc' := 299) rfl (hb hby at_295) (by decide) (by decide) ?_
            exact k
          refine Go.retZ X16 hx hlk hret (Or.inr rfl) (hb hby at_299) (by decide) (by decide) e16 ?_
          exact ⟨rfl, N16⟩
        · skip
          have hxa : ¬ xv = av := hab ▸ hy4
          refine Go.newO X0 hx hZ hown (wd hw 3 rfl) (wd hw 4 rfl) (wd hw 5 rfl) e0 (hb hby at_103) (by decide) (by decide) ?_
          intro T17 h17 b17 X17 e17 E17 g17 A17 D17
          have lb17 := Nat.le_of_eq g17.symm
          have g_b17 : n0 ≤ b17 := Nat.le_trans (OwnKit.Old.le O) lb17
          replace O := O.ext E17
          have E_b17 := A17
          have F_b17_times : Fld Z h17 b17 "com/example/breakwater/breakwater/OrderRateWindow" "times" "[J" .null := D17 (Or.inl (wd hw 26 rfl)) (ty := (.array .long)) (by decide)
          have F_b17_now : Fld Z h17 b17 "com/example/breakwater/breakwater/OrderRateWindow" "now" "J" (.long (0 : Int64)) := D17 (Or.inl (wd hw 29 rfl)) (ty := .long) (by decide)
          have F_b17_rate : Fld Z h17 b17 "com/example/breakwater/breakwater/OrderRateWindow" "rate" "Lcom/example/breakwater/breakwater/OrderRate;" .null := D17 (Or.inr (wd hw 31 rfl)) (ty := (.object "com/example/breakwater/breakwater/OrderRate")) (by decide)
          have F_b17_windowNanos : Fld Z h17 b17 "com/example/breakwater/breakwater/OrderRateWindow" "windowNanos" "J" (.long (0 : Int64)) := D17 (Or.inr (wd hw 49 rfl)) (ty := .long) (by decide)
          have F_b17_count : Fld Z h17 b17 "com/example/breakwater/breakwater/OrderRateWindow" "count" "I" (.int (0 : Int32)) := D17 (Or.inl (wd hw 56 rfl)) (ty := .int) (by decide)
          have F_b17_head : Fld Z h17 b17 "com/example/breakwater/breakwater/OrderRateWindow" "head" "I" (.int (0 : Int32)) := D17 (Or.inl (wd hw 63 rfl)) (ty := .int) (by decide)
          show Go p e below _ T17 (mkF m 106 #[.val (.int p0), .val (.long p1), .second, .val (.long p2), .second, .val (.int p3), .val (.long p4), .second, .val (.long wm), .second, .val (.long wn), .second, .val (.long av), .second, .val (.long dv), .second, .val (.long bv), .second, .val (.int (p3 &&& (3 : Int32))), .val (.long xv), .second, .unset, .unset, .unset, .unset, .unset, .unset, .unset] [(.ref b17)])
          refine Go.by (T' := T17) (g' := (mkF m 107 #[.val (.int p0), .val (.long p1), .second, .val (.long p2), .second, .val (.int p3), .val (.long p4), .second, .val (.long wm), .second, .val (.long wn), .second, .val (.long av), .second, .val (.long dv), .second, .val (.long bv), .second, .val (.int (p3 &&& (3 : Int32))), .val (.long xv), .second, .unset, .unset, .unset, .unset, .unset, .unset, .unset] [(.ref b17), (.ref b17)])) (fun t k => ?_) ?_
          · show Steps p.tables e below (T17.setTop (mkF m 106 #[.val (.int p0), .val (.long p1), .second, .val (.long p2), .second, .val (.int p3), .val (.long p4), .second, .val (.long wm), .second, .val (.long wn), .second, .val (.long av), .second, .val (.long dv), .second, .val (.long bv), .second, .val (.int (p3 &&& (3 : Int32))), .val (.long xv), .second, .unset, .unset, .unset, .unset, .unset, .unset, .unset] [(.ref b17)])) _
            refine XS.dup X17.here hx rfl (hb hby at_106) rfl rfl ?_
            exact k
          refine Go.newO X17 hx hZ hown (wd hw 6 rfl) (wd hw 7 rfl) (wd hw 8 rfl) e17 (hb hby at_107) (by decide) (by decide) ?_
          intro T18 h18 b18 X18 e18 E18 g18 A18 D18
          have lb18 := Nat.le_of_eq g18.symm
          have ne_b17_b18 : b17 ≠ b18 := Nat.ne_of_lt (Nat.lt_of_lt_of_le E_b17.lt lb18)
          have g_b18 : n0 ≤ b18 := Nat.le_trans (OwnKit.Old.le O) lb18
          replace E_b17 := E_b17.ext E18
          replace F_b17_times := F_b17_times.ext E18
          replace F_b17_now := F_b17_now.ext E18
          replace F_b17_rate := F_b17_rate.ext E18
          replace F_b17_windowNanos := F_b17_windowNanos.ext E18
          replace F_b17_count := F_b17_count.ext E18
          replace F_b17_head := F_b17_head.ext E18
          replace O := O.ext E18
          have E_b18 := A18
          have F_b18_maxOrders : Fld Z h18 b18 "com/example/breakwater/breakwater/OrderRate" "maxOrders" "J" (.long (0 : Int64)) := D18 (Or.inr (wd hw 17 rfl)) (ty := .long) (by decide)
          have F_b18_windowMillis : Fld Z h18 b18 "com/example/breakwater/breakwater/OrderRate" "windowMillis" "J" (.long (0 : Int64)) := D18 (Or.inr (wd hw 19 rfl)) (ty := .long) (by decide)
          show Go p e below _ T18 (mkF m 110 #[.val (.int p0), .val (.long p1), .second, .val (.long p2), .second, .val (.int p3), .val (.long p4), .second, .val (.long wm), .second, .val (.long wn), .second, .val (.long av), .second, .val (.long dv), .second, .val (.long bv), .second, .val (.int (p3 &&& (3 : Int32))), .val (.long xv), .second, .unset, .unset, .unset, .unset, .unset, .unset, .unset] [(.ref b18), (.ref b17), (.ref b17)])
          refine Go.by (T' := T18) (g' := (mkF m 116 #[.val (.int p0), .val (.long p1), .second, .val (.long p2), .second, .val (.int p3), .val (.long p4), .second, .val (.long wm), .second, .val (.long wn), .second, .val (.long av), .second, .val (.long dv), .second, .val (.long bv), .second, .val (.int (p3 &&& (3 : Int32))), .val (.long xv), .second, .unset, .unset, .unset, .unset, .unset, .unset, .unset] [(.long wm), (.long (5 : Int64)), (.ref b18), (.ref b18), (.ref b17), (.ref b17)])) (fun t k => ?_) ?_
          · show Steps p.tables e below (T18.setTop (mkF m 110 #[.val (.int p0), .val (.long p1), .second, .val (.long p2), .second, .val (.int p3), .val (.long p4), .second, .val (.long wm), .second, .val (.long wn), .second, .val (.long av), .second, .val (.long dv), .second, .val (.long bv), .second, .val (.int (p3 &&& (3 : Int32))), .val (.long xv), .second, .unset, .unset, .unset, .unset, .unset, .unset, .unset] [(.ref b18), (.ref b17), (.ref b17)])) _
            refine XS.dup X18.here hx rfl (hb hby at_110) rfl rfl ?_
            show Steps p.tables e below (T18.setTop (mkF m 111 #[.val (.int p0), .val (.long p1), .second, .val (.long p2), .second, .val (.int p3), .val (.long p4), .second, .val (.long wm), .second, .val (.long wn), .second, .val (.long av), .second, .val (.long dv), .second, .val (.long bv), .second, .val (.int (p3 &&& (3 : Int32))), .val (.long xv), .second, .unset, .unset, .unset, .unset, .unset, .unset, .unset] [(.ref b18), (.ref b18), (.ref b17), (.ref b17)])) _
            refine X18.ldc2Long hx hown (mvT hZ (wd hw 9 rfl)) (g := (mkF m 111 #[.val (.int p0), .val (.long p1), .second, .val (.long p2), .second, .val (.int p3), .val (.long p4), .second, .val (.long wm), .second, .val (.long wn), .second, .val (.long av), .second, .val (.long dv), .second, .val (.long bv), .second, .val (.int (p3 &&& (3 : Int32))), .val (.long xv), .second, .unset, .unset, .unset, .unset, .unset, .unset, .unset] [(.ref b18), (.ref b18), (.ref b17), (.ref b17)])) rfl (hb hby at_111) _ ?_
            show Steps p.tables e below (T18.setTop (mkF m 114 #[.val (.int p0), .val (.long p1), .second, .val (.long p2), .second, .val (.int p3), .val (.long p4), .second, .val (.long wm), .second, .val (.long wn), .second, .val (.long av), .second, .val (.long dv), .second, .val (.long bv), .second, .val (.int (p3 &&& (3 : Int32))), .val (.long xv), .second, .unset, .unset, .unset, .unset, .unset, .unset, .unset] [(.long (5 : Int64)), (.ref b18), (.ref b18), (.ref b17), (.ref b17)])) _
            refine XS.lload X18.here hx rfl (hb hby at_114) rfl ?_
            exact k
          refine Go.callC X18 hx hZ (W := 3) (argsL := [(.long (5 : Int64)), (.long wm)]) (rest := [(.ref b18), (.ref b17), (.ref b17)]) hown rfl (wd hw 10 rfl) (wd hw 11 rfl) (wd hw 8 rfl) (wd hw 12 rfl) (by decide) (ct_rinit l Z a0 hw w_MS S_MS E_MS F_MS1 F_MS2 b18 (5 : Int64) wm h18 n0 O E_b18 F_b18_maxOrders F_b18_windowMillis g_b18) e18 (by rw [hml]; rfl) (lenOf pd__JJ_V_1185 rfl) rfl rfl (hb hby at_116) (by decide) (by decide) (by decide) (by decide) ?_
          intro v19 T19 h19 L19 X19 e19 q19
          obtain ⟨rfl, N19, K19, F0_19, F1_19⟩ := q19
          replace N19 := Fr.app N0 N19
          replace E_b17 := E_b17.keep K19
          replace F_b17_times := F_b17_times.keep K19 (ninS ne_b17_b18 nin0)
          replace F_b17_now := F_b17_now.keep K19 (ninS ne_b17_b18 nin0)
          replace F_b17_rate := F_b17_rate.keep K19 (ninS ne_b17_b18 nin0)
          replace F_b17_windowNanos := F_b17_windowNanos.keep K19 (ninS ne_b17_b18 nin0)
          replace F_b17_count := F_b17_count.keep K19 (ninS ne_b17_b18 nin0)
          replace F_b17_head := F_b17_head.keep K19 (ninS ne_b17_b18 nin0)
          replace E_b18 := E_b18.keep K19
          clear F_b18_maxOrders
          clear F_b18_windowMillis
          replace O := O.keep K19 (allS g_b18 all0)
          show Go p e below _ T19 (mkF m 119 #[.val (.int p0), .val (.long p1), .second, .val (.long p2), .second, .val (.int p3), .val (.long p4), .second, .val (.long wm), .second, .val (.long wn), .second, .val (.long av), .second, .val (.long dv), .second, .val (.long bv), .second, .val (.int (p3 &&& (3 : Int32))), .val (.long xv), .second, .unset, .unset, .unset, .unset, .unset, .unset, .unset] [(.ref b18), (.ref b17), (.ref b17)])
          refine Go.callC X19 hx hZ (W := 1) (argsL := [(.ref b18)]) (rest := [(.ref b17)]) hown rfl (wd hw 20 rfl) (wd hw 21 rfl) (wd hw 5 rfl) (wd hw 22 rfl) (by decide) (ct_winit l Z a0 hw w_MS S_MS E_MS F_MS1 F_MS2 b17 b18 wm h19 n0 O E_b17 F_b17_rate F_b17_windowNanos F_b17_times F_b17_head F_b17_count F_b17_now g_b17 E_b18 F1_19 ne_b17_b18 hz1 hz2) e19 (by rw [hml]; rfl) (lenOf pd__Lcom_example_breakwater_breakwater_Orde_4493 rfl) rfl rfl (hb hby at_119) (by decide) (by decide) (by decide) (by decide) ?_
          intro v20 T20 h20 L20 X20 e20 q20
          obtain ⟨ar, kA, rfl, N20, K20, lb20, Fi0, Fi1, Fi2, Fi3, Fi4, V_ar⟩ := q20
          replace N20 := Fr.app N19 N20
          have ne_b17_ar : b17 ≠ ar := Nat.ne_of_lt (Nat.lt_of_lt_of_le E_b17.lt lb20)
          have ne_b18_ar : b18 ≠ ar := Nat.ne_of_lt (Nat.lt_of_lt_of_le E_b18.lt lb20)
          have g_ar : n0 ≤ ar := Nat.le_trans (OwnKit.Old.le O) lb20
          replace E_b17 := E_b17.keep K20
          clear F_b17_times
          clear F_b17_now
          clear F_b17_rate
          clear F_b17_windowNanos
          clear F_b17_count
          clear F_b17_head
          replace E_b18 := E_b18.keep K20
          replace F0_19 := F0_19.keep K20 (ninS (Ne.symm ne_b17_b18) nin0)
          replace F1_19 := F1_19.keep K20 (ninS (Ne.symm ne_b17_b18) nin0)
          replace O := O.keep K20 (allS g_b17 all0)
          replace V_ar : Arv Z h20 ar kA .long (16 : Int32) [(.long (0 : Int64)), (.long (0 : Int64)), (.long (0 : Int64))] (.long (0 : Int64)) := V_ar.pad (pad_rep3 _)
          rw [← hwn] at Fi0
          show Go p e below _ T20 (mkF m 122 #[.val (.int p0), .val (.long p1), .second, .val (.long p2), .second, .val (.int p3), .val (.long p4), .second, .val (.long wm), .second, .val (.long wn), .second, .val (.long av), .second, .val (.long dv), .second, .val (.long bv), .second, .val (.int (p3 &&& (3 : Int32))), .val (.long xv), .second, .unset, .unset, .unset, .unset, .unset, .unset, .unset] [(.ref b17)])
          refine Go.by (T' := T20) (g' := (mkF m 128 #[.val (.int p0), .val (.long p1), .second, .val (.long p2), .second, .val (.int p3), .val (.long p4), .second, .val (.long wm), .second, .val (.long wn), .second, .val (.long av), .second, .val (.long dv), .second, .val (.long bv), .second, .val (.int (p3 &&& (3 : Int32))), .val (.long xv), .second, .val (.ref b17), .unset, .unset, .unset, .unset, .unset, .unset] [(.long av), (.ref b17)])) (fun t k => ?_) ?_
          · show Steps p.tables e below (T20.setTop (mkF m 122 #[.val (.int p0), .val (.long p1), .second, .val (.long p2), .second, .val (.int p3), .val (.long p4), .second, .val (.long wm), .second, .val (.long wn), .second, .val (.long av), .second, .val (.long dv), .second, .val (.long bv), .second, .val (.int (p3 &&& (3 : Int32))), .val (.long xv), .second, .unset, .unset, .unset, .unset, .unset, .unset, .unset] [(.ref b17)])) _
            refine XS.astore X20.here hx rfl (hb hby at_122) rfl rfl (l' := #[.val (.int p0), .val (.long p1), .second, .val (.long p2), .second, .val (.int p3), .val (.long p4), .second, .val (.long wm), .second, .val (.long wn), .second, .val (.long av), .second, .val (.long dv), .second, .val (.long bv), .second, .val (.int (p3 &&& (3 : Int32))), .val (.long xv), .second, .val (.ref b17), .unset, .unset, .unset, .unset, .unset, .unset]) rfl ?_
            show Steps p.tables e below (T20.setTop (mkF m 124 #[.val (.int p0), .val (.long p1), .second, .val (.long p2), .second, .val (.int p3), .val (.long p4), .second, .val (.long wm), .second, .val (.long wn), .second, .val (.long av), .second, .val (.long dv), .second, .val (.long bv), .second, .val (.int (p3 &&& (3 : Int32))), .val (.long xv), .second, .val (.ref b17), .unset, .unset, .unset, .unset, .unset, .unset] [])) _
            refine XS.aload X20.here hx rfl (hb hby at_124) rfl rfl ?_
            show Steps p.tables e below (T20.setTop (mkF m 126 #[.val (.int p0), .val (.long p1), .second, .val (.long p2), .second, .val (.int p3), .val (.long p4), .second, .val (.long wm), .second, .val (.long wn), .second, .val (.long av), .second, .val (.long dv), .second, .val (.long bv), .second, .val (.int (p3 &&& (3 : Int32))), .val (.long xv), .second, .val (.ref b17), .unset, .unset, .unset, .unset, .unset, .unset] [(.ref b17)])) _
            refine XS.lload X20.here hx rfl (hb hby at_126) rfl ?_
            exact k
          refine Go.callV X20 hx hZ (W := 0) (argsL := [(.long av)]) (rest := []) hown (wd hw 50 rfl) (wd hw 51 rfl) (notFace_of_selects (args := #[]) (mvT hZ (wd hw 53 rfl))) (wd hw 53 rfl) (wd hw 52 rfl) (wd hw 5 rfl) (wd hw 54 rfl) (by decide) E_b17 (ct_move_0_0_0 l Z a0 hw w_MS S_MS E_MS F_MS1 F_MS2 b17 ar kA wn (-9223372036854775808 : Int64) (0 : Int64) (0 : Int64) (0 : Int64) av h20 n0 O E_b17 Fi0 Fi1 Fi2 Fi3 Fi4 V_ar g_b17 g_ar ne_b17_ar (own_min _)) e20 (by rw [hml]; rfl) (lenOf pd__J_Z_8741 rfl) rfl rfl (hb hby at_128) (by decide) (by decide) (by decide) (by decide) ?_
          intro v21 T21 h21 L21 X21 e21 q21
          obtain ⟨rfl, N21, K21, Fi0_21, Fi1_21, Fi2_21, Fi3_21, Fi4_21, V_a21⟩ := q21
          replace N21 := Fr.app N20 N21
          replace E_b17 := E_b17.keep K21
          replace E_b18 := E_b18.keep K21
          replace F0_19 := F0_19.keep K21 (ninS (Ne.symm ne_b17_b18) (ninS ne_b18_ar nin0))
          replace F1_19 := F1_19.keep K21 (ninS (Ne.symm ne_b17_b18) (ninS ne_b18_ar nin0))
          clear Fi0
          clear Fi1
          clear Fi2
          clear Fi3
          clear Fi4
          clear V_ar
          replace O := O.keep K21 (allS g_b17 (allS g_ar all0))
          have V_ar := V_a21
          show Go p e below _ T21 (mkF m 131 #[.val (.int p0), .val (.long p1), .second, .val (.long p2), .second, .val (.int p3), .val (.long p4), .second, .val (.long wm), .second, .val (.long wn), .second, .val (.long av), .second, .val (.long dv), .second, .val (.long bv), .second, .val (.int (p3 &&& (3 : Int32))), .val (.long xv), .second, .val (.ref b17), .unset, .unset, .unset, .unset, .unset, .unset] [(.int (1 : Int32))])
          refine Go.by (T' := T21) (g' := (mkF m 134 #[.val (.int p0), .val (.long p1), .second, .val (.long p2), .second, .val (.int p3), .val (.long p4), .second, .val (.long wm), .second, .val (.long wn), .second, .val (.long av), .second, .val (.long dv), .second, .val (.long bv), .second, .val (.int (p3 &&& (3 : Int32))), .val (.long xv), .second, .val (.ref b17), .unset, .unset, .unset, .unset, .unset, .unset] [(.ref b17)])) (fun t k => ?_) ?_
          · show Steps p.tables e below (T21.setTop (mkF m 131 #[.val (.int p0), .val (.long p1), .second, .val (.long p2), .second, .val (.int p3), .val (.long p4), .second, .val (.long wm), .second, .val (.long wn), .second, .val (.long av), .second, .val (.long dv), .second, .val (.long bv), .second, .val (.int (p3 &&& (3 : Int32))), .val (.long xv), .second, .val (.ref b17), .unset, .unset, .unset, .unset, .unset, .unset] [(.int (1 : Int32))])) _
            refine XS.pop X21.here hx rfl (hb hby at_131) rfl rfl ?_
            show Steps p.tables e below (T21.setTop (mkF m 132 #[.val (.int p0), .val (.long p1), .second, .val (.long p2), .second, .val (.int p3), .val (.long p4), .second, .val (.long wm), .second, .val (.long wn), .second, .val (.long av), .second, .val (.long dv), .second, .val (.long bv), .second, .val (.int (p3 &&& (3 : Int32))), .val (.long xv), .second, .val (.ref b17), .unset, .unset, .unset, .unset, .unset, .unset] [])) _
            refine XS.aload X21.here hx rfl (hb hby at_132) rfl rfl ?_
            exact k
          refine Go.callV X21 hx hZ (W := 0) (argsL := []) (rest := []) hown (wd hw 57 rfl) (wd hw 58 rfl) (notFace_of_selects (args := #[]) (mvT hZ (wd hw 60 rfl))) (wd hw 60 rfl) (wd hw 59 rfl) (wd hw 5 rfl) (wd hw 61 rfl) (by decide) E_b17 (ct_add_0_0 l Z a0 hw w_MS S_MS E_MS F_MS1 F_MS2 b17 ar kA wn av (0 : Int64) (0 : Int64) (0 : Int64) h21 n0 O E_b17 Fi0_21 Fi1_21 Fi2_21 Fi3_21 Fi4_21 V_ar g_b17 g_ar ne_b17_ar) e21 (by rw [hml]; rfl) (lenOf pd___V_8334 rfl) rfl rfl (hb hby at_134) (by decide) (by decide) (by decide) (by decide) ?_
          intro v22 T22 h22 L22 X22 e22 q22
          obtain ⟨rfl, N22, K22, Fi0_22, Fi1_22, Fi2_22, Fi3_22, Fi4_22, V_a22⟩ := q22
          replace N22 := Fr.app N21 N22
          replace E_b17 := E_b17.keep K22
          replace E_b18 := E_b18.keep K22
          replace F0_19 := F0_19.keep K22 (ninS (Ne.symm ne_b17_b18) (ninS ne_b18_ar nin0))
          replace F1_19 := F1_19.keep K22 (ninS (Ne.symm ne_b17_b18) (ninS ne_b18_ar nin0))
          clear Fi0_21
          clear Fi1_21
          clear Fi2_21
          clear Fi3_21
          clear Fi4_21
          clear V_ar
          replace O := O.keep K22 (allS g_b17 (allS g_ar all0))
          have V_ar := V_a22
          show Go p e below _ T22 (mkF m 137 #[.val (.int p0), .val (.long p1), .second, .val (.long p2), .second, .val (.int p3), .val (.long p4), .second, .val (.long wm), .second, .val (.long wn), .second, .val (.long av), .second, .val (.long dv), .second, .val (.long bv), .second, .val (.int (p3 &&& (3 : Int32))), .val (.long xv), .second, .val (.ref b17), .unset, .unset, .unset, .unset, .unset, .unset] [])
          refine Go.by (T' := T22) (g' := (mkF m 141 #[.val (.int p0), .val (.long p1), .second, .val (.long p2), .second, .val (.int p3), .val (.long p4), .second, .val (.long wm), .second, .val (.long wn), .second, .val (.long av), .second, .val (.long dv), .second, .val (.long bv), .second, .val (.int (p3 &&& (3 : Int32))), .val (.long xv), .second, .val (.ref b17), .unset, .unset, .unset, .unset, .unset, .unset] [(.long bv), (.ref b17)])) (fun t k => ?_) ?_
          · show Steps p.tables e below (T22.setTop (mkF m 137 #[.val (.int p0), .val (.long p1), .second, .val (.long p2), .second, .val (.int p3), .val (.long p4), .second, .val (.long wm), .second, .val (.long wn), .second, .val (.long av), .second, .val (.long dv), .second, .val (.long bv), .second, .val (.int (p3 &&& (3 : Int32))), .val (.long xv), .second, .val (.ref b17), .unset, .unset, .unset, .unset, .unset, .unset] [])) _
            refine XS.aload X22.here hx rfl (hb hby at_137) rfl rfl ?_
            show Steps p.tables e below (T22.setTop (mkF m 139 #[.val (.int p0), .val (.long p1), .second, .val (.long p2), .second, .val (.int p3), .val (.long p4), .second, .val (.long wm), .second, .val (.long wn), .second, .val (.long av), .second, .val (.long dv), .second, .val (.long bv), .second, .val (.int (p3 &&& (3 : Int32))), .val (.long xv), .second, .val (.ref b17), .unset, .unset, .unset, .unset, .unset, .unset] [(.ref b17)])) _
            refine XS.lload X22.here hx rfl (hb hby at_139) rfl ?_
            exact k
          refine Go.callV X22 hx hZ (W := 0) (argsL := [(.long bv)]) (rest := []) hown (wd hw 50 rfl) (wd hw 51 rfl) (notFace_of_selects (args := #[]) (mvT hZ (wd hw 53 rfl))) (wd hw 53 rfl) (wd hw 52 rfl) (wd hw 5 rfl) (wd hw 54 rfl) (by decide) E_b17 (ct_move_0_1_0 l Z a0 hw w_MS S_MS E_MS F_MS1 F_MS2 b17 ar kA wn av av (0 : Int64) (0 : Int64) bv h22 n0 O E_b17 Fi0_22 Fi1_22 Fi2_22 Fi3_22 Fi4_22 V_ar g_b17 g_ar ne_b17_ar (own_ge hbv ha hd) (own_k1 hbv ha hd hlt)) e22 (by rw [hml]; rfl) (lenOf pd__J_Z_8741 rfl) rfl rfl (hb hby at_141) (by decide) (by decide) (by decide) (by decide) ?_
          intro v23 T23 h23 L23 X23 e23 q23
          obtain ⟨rfl, N23, K23, Fi0_23, Fi1_23, Fi2_23, Fi3_23, Fi4_23, V_a23⟩ := q23
          replace N23 := Fr.app N22 N23
          replace E_b17 := E_b17.keep K23
          replace E_b18 := E_b18.keep K23
          replace F0_19 := F0_19.keep K23 (ninS (Ne.symm ne_b17_b18) (ninS ne_b18_ar nin0))
          replace F1_19 := F1_19.keep K23 (ninS (Ne.symm ne_b17_b18) (ninS ne_b18_ar nin0))
          clear Fi0_22
          clear Fi1_22
          clear Fi2_22
          clear Fi3_22
          clear Fi4_22
          clear V_ar
          replace O := O.keep K23 (allS g_b17 (allS g_ar all0))
          have V_ar := V_a23
          show Go p e below _ T23 (mkF m 144 #[.val (.int p0), .val (.long p1), .second, .val (.long p2), .second, .val (.int p3), .val (.long p4), .second, .val (.long wm), .second, .val (.long wn), .second, .val (.long av), .second, .val (.long dv), .second, .val (.long bv), .second, .val (.int (p3 &&& (3 : Int32))), .val (.long xv), .second, .val (.ref b17), .unset, .unset, .unset, .unset, .unset, .unset] [(.int (1 : Int32))])
          refine Go.by (T' := T23) (g' := (mkF m 147 #[.val (.int p0), .val (.long p1), .second, .val (.long p2), .second, .val (.int p3), .val (.long p4), .second, .val (.long wm), .second, .val (.long wn), .second, .val (.long av), .second, .val (.long dv), .second, .val (.long bv), .second, .val (.int (p3 &&& (3 : Int32))), .val (.long xv), .second, .val (.ref b17), .unset, .unset, .unset, .unset, .unset, .unset] [(.ref b17)])) (fun t k => ?_) ?_
          · show Steps p.tables e below (T23.setTop (mkF m 144 #[.val (.int p0), .val (.long p1), .second, .val (.long p2), .second, .val (.int p3), .val (.long p4), .second, .val (.long wm), .second, .val (.long wn), .second, .val (.long av), .second, .val (.long dv), .second, .val (.long bv), .second, .val (.int (p3 &&& (3 : Int32))), .val (.long xv), .second, .val (.ref b17), .unset, .unset, .unset, .unset, .unset, .unset] [(.int (1 : Int32))])) _
            refine XS.pop X23.here hx rfl (hb hby at_144) rfl rfl ?_
            show Steps p.tables e below (T23.setTop (mkF m 145 #[.val (.int p0), .val (.long p1), .second, .val (.long p2), .second, .val (.int p3), .val (.long p4), .second, .val (.long wm), .second, .val (.long wn), .second, .val (.long av), .second, .val (.long dv), .second, .val (.long bv), .second, .val (.int (p3 &&& (3 : Int32))), .val (.long xv), .second, .val (.ref b17), .unset, .unset, .unset, .unset, .unset, .unset] [])) _
            refine XS.aload X23.here hx rfl (hb hby at_145) rfl rfl ?_
            exact k
          refine Go.callV X23 hx hZ (W := 0) (argsL := []) (rest := []) hown (wd hw 57 rfl) (wd hw 58 rfl) (notFace_of_selects (args := #[]) (mvT hZ (wd hw 60 rfl))) (wd hw 60 rfl) (wd hw 59 rfl) (wd hw 5 rfl) (wd hw 61 rfl) (by decide) E_b17 (ct_add_0_1 l Z a0 hw w_MS S_MS E_MS F_MS1 F_MS2 b17 ar kA wn bv av (0 : Int64) (0 : Int64) h23 n0 O E_b17 Fi0_23 Fi1_23 Fi2_23 Fi3_23 Fi4_23 V_ar g_b17 g_ar ne_b17_ar) e23 (by rw [hml]; rfl) (lenOf pd___V_8334 rfl) rfl rfl (hb hby at_147) (by decide) (by decide) (by decide) (by decide) ?_
          intro v24 T24 h24 L24 X24 e24 q24
          obtain ⟨rfl, N24, K24, Fi0_24, Fi1_24, Fi2_24, Fi3_24, Fi4_24, V_a24⟩ := q24
          replace N24 := Fr.app N23 N24
          replace E_b17 := E_b17.keep K24
          replace E_b18 := E_b18.keep K24
          replace F0_19 := F0_19.keep K24 (ninS (Ne.symm ne_b17_b18) (ninS ne_b18_ar nin0))
          replace F1_19 := F1_19.keep K24 (ninS (Ne.symm ne_b17_b18) (ninS ne_b18_ar nin0))
          clear Fi0_23
          clear Fi1_23
          clear Fi2_23
          clear Fi3_23
          clear Fi4_23
          clear V_ar
          replace O := O.keep K24 (allS g_b17 (allS g_ar all0))
          have V_ar := V_a24
          show Go p e below _ T24 (mkF m 150 #[.val (.int p0), .val (.long p1), .second, .val (.long p2), .second, .val (.int p3), .val (.long p4), .second, .val (.long wm), .second, .val (.long wn), .second, .val (.long av), .second, .val (.long dv), .second, .val (.long bv), .second, .val (.int (p3 &&& (3 : Int32))), .val (.long xv), .second, .val (.ref b17), .unset, .unset, .unset, .unset, .unset, .unset] [])
          refine Go.by (T' := T24) (g' := (mkF m 154 #[.val (.int p0), .val (.long p1), .second, .val (.long p2), .second, .val (.int p3), .val (.long p4), .second, .val (.long wm), .second, .val (.long wn), .second, .val (.long av), .second, .val (.long dv), .second, .val (.long bv), .second, .val (.int (p3 &&& (3 : Int32))), .val (.long xv), .second, .val (.ref b17), .unset, .unset, .unset, .unset, .unset, .unset] [(.long xv), (.ref b17)])) (fun t k => ?_) ?_
          · show Steps p.tables e below (T24.setTop (mkF m 150 #[.val (.int p0), .val (.long p1), .second, .val (.long p2), .second, .val (.int p3), .val (.long p4), .second, .val (.long wm), .second, .val (.long wn), .second, .val (.long av), .second, .val (.long dv), .second, .val (.long bv), .second, .val (.int (p3 &&& (3 : Int32))), .val (.long xv), .second, .val (.ref b17), .unset, .unset, .unset, .unset, .unset, .unset] [])) _
            refine XS.aload X24.here hx rfl (hb hby at_150) rfl rfl ?_
            show Steps p.tables e below (T24.setTop (mkF m 152 #[.val (.int p0), .val (.long p1), .second, .val (.long p2), .second, .val (.int p3), .val (.long p4), .second, .val (.long wm), .second, .val (.long wn), .second, .val (.long av), .second, .val (.long dv), .second, .val (.long bv), .second, .val (.int (p3 &&& (3 : Int32))), .val (.long xv), .second, .val (.ref b17), .unset, .unset, .unset, .unset, .unset, .unset] [(.ref b17)])) _
            refine XS.lload X24.here hx rfl (hb hby at_152) rfl ?_
            exact k
          refine Go.callV X24 hx hZ (W := 0) (argsL := [(.long xv)]) (rest := []) hown (wd hw 64 rfl) (wd hw 65 rfl) (notFace_of_selects (args := #[]) (mvT hZ (wd hw 67 rfl))) (wd hw 67 rfl) (wd hw 66 rfl) (wd hw 5 rfl) (wd hw 68 rfl) (by decide) E_b17 (ct_remove_0_2_n l Z a0 hw w_MS S_MS E_MS F_MS1 F_MS2 b17 ar kA wn bv av bv (0 : Int64) xv h24 n0 O E_b17 Fi0_24 Fi1_24 Fi2_24 Fi3_24 Fi4_24 V_ar g_b17 g_ar ne_b17_ar (Ne.symm hy4) (Ne.symm hxa)) e24 (by rw [hml]; rfl) (lenOf pd__J_V_8737 rfl) rfl rfl (hb hby at_154) (by decide) (by decide) (by decide) (by decide) ?_
          intro v25 T25 h25 L25 X25 e25 q25
          obtain ⟨rfl, N25, K25, Fi0_25, Fi1_25, Fi2_25, Fi3_25, Fi4_25, V_a25⟩ := q25
          replace N25 := Fr.app N24 N25
          replace E_b17 := E_b17.keep K25
          replace E_b18 := E_b18.keep K25
          replace F0_19 := F0_19.keep K25 (ninS (Ne.symm ne_b17_b18) (ninS ne_b18_ar nin0))
          replace F1_19 := F1_19.keep K25 (ninS (Ne.symm ne_b17_b18) (ninS ne_b18_ar nin0))
          clear Fi0_24
          clear Fi1_24
          clear Fi2_24
          clear Fi3_24
          clear Fi4_24
          clear V_ar
          replace O := O.keep K25 (allS g_b17 (allS g_ar all0))
          have V_ar := V_a25
          show Go p e below _ T25 (mkF m 157 #[.val (.int p0), .val (.long p1), .second, .val (.long p2), .second, .val (.int p3), .val (.long p4), .second, .val (.long wm), .second, .val (.long wn), .second, .val (.long av), .second, .val (.long dv), .second, .val (.long bv), .second, .val (.int (p3 &&& (3 : Int32))), .val (.long xv), .second, .val (.ref b17), .unset, .unset, .unset, .unset, .unset, .unset] [])
          refine Go.by (T' := T25) (g' := (mkF m 159 #[.val (.int p0), .val (.long p1), .second, .val (.long p2), .second, .val (.int p3), .val (.long p4), .second, .val (.long wm), .second, .val (.long wn), .second, .val (.long av), .second, .val (.long dv), .second, .val (.long bv), .second, .val (.int (p3 &&& (3 : Int32))), .val (.long xv), .second, .val (.ref b17), .unset, .unset, .unset, .unset, .unset, .unset] [(.ref b17)])) (fun t k => ?_) ?_
          · show Steps p.tables e below (T25.setTop (mkF m 157 #[.val (.int p0), .val (.long p1), .second, .val (.long p2), .second, .val (.int p3), .val (.long p4), .second, .val (.long wm), .second, .val (.long wn), .second, .val (.long av), .second, .val (.long dv), .second, .val (.long bv), .second, .val (.int (p3 &&& (3 : Int32))), .val (.long xv), .second, .val (.ref b17), .unset, .unset, .unset, .unset, .unset, .unset] [])) _
            refine XS.aload X25.here hx rfl (hb hby at_157) rfl rfl ?_
            exact k
          refine Go.callV X25 hx hZ (W := 0) (argsL := []) (rest := []) hown (wd hw 69 rfl) (wd hw 70 rfl) (notFace_of_selects (args := #[]) (mvT hZ (wd hw 72 rfl))) (wd hw 72 rfl) (wd hw 71 rfl) (wd hw 5 rfl) (wd hw 73 rfl) (by decide) E_b17 (ct_get_count_l_2___Int32__7 l Z a0 hw  b17 h25 n0 O Fi3_25) e25 (by rw [hml]; rfl) (lenOf pd___I_8321 rfl) rfl rfl (hb hby at_159) (by decide) (by decide) (by decide) (by decide) ?_
          intro v26 T26 h26 L26 X26 e26 q26
          obtain ⟨rfl, N26, rfl⟩ := q26
          replace N26 := Fr.app N25 N26
          show Go p e below _ T26 (mkF m 162 #[.val (.int p0), .val (.long p1), .second, .val (.long p2), .second, .val (.int p3), .val (.long p4), .second, .val (.long wm), .second, .val (.long wn), .second, .val (.long av), .second, .val (.long dv), .second, .val (.long bv), .second, .val (.int (p3 &&& (3 : Int32))), .val (.long xv), .second, .val (.ref b17), .unset, .unset, .unset, .unset, .unset, .unset] [(.int (2 : Int32))])
          refine Go.by (T' := T26) (g' := (mkF m 173 #[.val (.int p0), .val (.long p1), .second, .val (.long p2), .second, .val (.int p3), .val (.long p4), .second, .val (.long wm), .second, .val (.long wn), .second, .val (.long av), .second, .val (.long dv), .second, .val (.long bv), .second, .val (.int (p3 &&& (3 : Int32))), .val (.long xv), .second, .val (.ref b17), .val (.int (2 : Int32)), .unset, .unset, .unset, .unset, .unset] [(.long ((bv + wn) - (1 : Int64))), (.ref b17)])) (fun t k => ?_) ?_
          · show Steps p.tables e below (T26.setTop (mkF m 162 #[.val (.int p0), .val (.long p1), .second, .val (.long p2), .second, .val (.int p3), .val (.long p4), .second, .val (.long wm), .second, .val (.long wn), .second, .val (.long av), .second, .val (.long dv), .second, .val (.long bv), .second, .val (.int (p3 &&& (3 : Int32))), .val (.long xv), .second, .val (.ref b17), .unset, .unset, .unset, .unset, .unset, .unset] [(.int (2 : Int32))])) _
            refine XS.istore X26.here hx rfl (hb hby at_162) rfl (l' := #[.val (.int p0), .val (.long p1), .second, .val (.long p2), .second, .val (.int p3), .val (.long p4), .second, .val (.long wm), .second, .val (.long wn), .second, .val (.long av), .second, .val (.long dv), .second, .val (.long bv), .second, .val (.int (p3 &&& (3 : Int32))), .val (.long xv), .second, .val (.ref b17), .val (.int (2 : Int32)), .unset, .unset, .unset, .unset, .unset]) rfl ?_
            show Steps p.tables e below (T26.setTop (mkF m 164 #[.val (.int p0), .val (.long p1), .second, .val (.long p2), .second, .val (.int p3), .val (.long p4), .second, .val (.long wm), .second, .val (.long wn), .second, .val (.long av), .second, .val (.long dv), .second, .val (.long bv), .second, .val (.int (p3 &&& (3 : Int32))), .val (.long xv), .second, .val (.ref b17), .val (.int (2 : Int32)), .unset, .unset, .unset, .unset, .unset] [])) _
            refine XS.aload X26.here hx rfl (hb hby at_164) rfl rfl ?_
            show Steps p.tables e below (T26.setTop (mkF m 166 #[.val (.int p0), .val (.long p1), .second, .val (.long p2), .second, .val (.int p3), .val (.long p4), .second, .val (.long wm), .second, .val (.long wn), .second, .val (.long av), .second, .val (.long dv), .second, .val (.long bv), .second, .val (.int (p3 &&& (3 : Int32))), .val (.long xv), .second, .val (.ref b17), .val (.int (2 : Int32)), .unset, .unset, .unset, .unset, .unset] [(.ref b17)])) _
            refine XS.lload X26.here hx rfl (hb hby at_166) rfl ?_
            show Steps p.tables e below (T26.setTop (mkF m 168 #[.val (.int p0), .val (.long p1), .second, .val (.long p2), .second, .val (.int p3), .val (.long p4), .second, .val (.long wm), .second, .val (.long wn), .second, .val (.long av), .second, .val (.long dv), .second, .val (.long bv), .second, .val (.int (p3 &&& (3 : Int32))), .val (.long xv), .second, .val (.ref b17), .val (.int (2 : Int32)), .unset, .unset, .unset, .unset, .unset] [(.long bv), (.ref b17)])) _
            refine XS.lload X26.here hx rfl (hb hby at_168) rfl ?_
            show Steps p.tables e below (T26.setTop (mkF m 170 #[.val (.int p0), .val (.long p1), .second, .val (.long p2), .second, .val (.int p3), .val (.long p4), .second, .val (.long wm), .second, .val (.long wn), .second, .val (.long av), .second, .val (.long dv), .second, .val (.long bv), .second, .val (.int (p3 &&& (3 : Int32))), .val (.long xv), .second, .val (.ref b17), .val (.int (2 : Int32)), .unset, .unset, .unset, .unset, .unset] [(.long wn), (.long bv), (.ref b17)])) _
            refine XS.ladd X26.here hx rfl (hb hby at_170) rfl ?_
            show Steps p.tables e below (T26.setTop (mkF m 171 #[.val (.int p0), .val (.long p1), .second, .val (.long p2), .second, .val (.int p3), .val (.long p4), .second, .val (.long wm), .second, .val (.long wn), .second, .val (.long av), .second, .val (.long dv), .second, .val (.long bv), .second, .val (.int (p3 &&& (3 : Int32))), .val (.long xv), .second, .val (.ref b17), .val (.int (2 : Int32)), .unset, .unset, .unset, .unset, .unset] [(.long (bv + wn)), (.ref b17)])) _
            refine XS.lconst X26.here hx rfl (hb hby at_171) ?_
            show Steps p.tables e below (T26.setTop (mkF m 172 #[.val (.int p0), .val (.long p1), .second, .val (.long p2), .second, .val (.int p3), .val (.long p4), .second, .val (.long wm), .second, .val (.long wn), .second, .val (.long av), .second, .val (.long dv), .second, .val (.long bv), .second, .val (.int (p3 &&& (3 : Int32))), .val (.long xv), .second, .val (.ref b17), .val (.int (2 : Int32)), .unset, .unset, .unset, .unset, .unset] [(.long (1 : Int64)), (.long (bv + wn)), (.ref b17)])) _
            refine XS.lsub X26.here hx rfl (hb hby at_172) rfl ?_
            exact k
          refine Go.callV X26 hx hZ (W := 0) (argsL := [(.long ((bv + wn) - (1 : Int64)))]) (rest := []) hown (wd hw 50 rfl) (wd hw 51 rfl) (notFace_of_selects (args := #[]) (mvT hZ (wd hw 53 rfl))) (wd hw 53 rfl) (wd hw 52 rfl) (wd hw 5 rfl) (wd hw 54 rfl) (by decide) E_b17 (ct_move_0_2_0 l Z a0 hw w_MS S_MS E_MS F_MS1 F_MS2 b17 ar kA wn bv av bv (0 : Int64) ((bv + wn) - (1 : Int64)) h25 n0 O E_b17 Fi0_25 Fi1_25 Fi2_25 Fi3_25 Fi4_25 V_ar g_b17 g_ar ne_b17_ar (own_t3 hbv ha hd hwr) (own_s2 hbv ha hd hwr hy3)) e26 (by rw [hml]; rfl) (lenOf pd__J_Z_8741 rfl) rfl rfl (hb hby at_173) (by decide) (by decide) (by decide) (by decide) ?_
          intro v27 T27 h27 L27 X27 e27 q27
          obtain ⟨rfl, N27, K27, Fi0_27, Fi1_27, Fi2_27, Fi3_27, Fi4_27, V_a27⟩ := q27
          replace N27 := Fr.app N26 N27
          replace E_b17 := E_b17.keep K27
          replace E_b18 := E_b18.keep K27
          replace F0_19 := F0_19.keep K27 (ninS (Ne.symm ne_b17_b18) (ninS ne_b18_ar nin0))
          replace F1_19 := F1_19.keep K27 (ninS (Ne.symm ne_b17_b18) (ninS ne_b18_ar nin0))
          clear Fi0_25
          clear Fi1_25
          clear Fi2_25
          clear Fi3_25
          clear Fi4_25
          clear V_ar
          replace O := O.keep K27 (allS g_b17 (allS g_ar all0))
          have V_ar := V_a27
          show Go p e below _ T27 (mkF m 176 #[.val (.int p0), .val (.long p1), .second, .val (.long p2), .second, .val (.int p3), .val (.long p4), .second, .val (.long wm), .second, .val (.long wn), .second, .val (.long av), .second, .val (.long dv), .second, .val (.long bv), .second, .val (.int (p3 &&& (3 : Int32))), .val (.long xv), .second, .val (.ref b17), .val (.int (2 : Int32)), .unset, .unset, .unset, .unset, .unset] [(.int (1 : Int32))])
          refine Go.by (T' := T27) (g' := (mkF m 180 #[.val (.int p0), .val (.long p1), .second, .val (.long p2), .second, .val (.int p3), .val (.long p4), .second, .val (.long wm), .second, .val (.long wn), .second, .val (.long av), .second, .val (.long dv), .second, .val (.long bv), .second, .val (.int (p3 &&& (3 : Int32))), .val (.long xv), .second, .val (.ref b17), .val (.int (2 : Int32)), .val (.int (1 : Int32)), .unset, .unset, .unset, .unset] [(.ref b17)])) (fun t k => ?_) ?_
          · show Steps p.tables e below (T27.setTop (mkF m 176 #[.val (.int p0), .val (.long p1), .second, .val (.long p2), .second, .val (.int p3), .val (.long p4), .second, .val (.long wm), .second, .val (.long wn), .second, .val (.long av), .second, .val (.long dv), .second, .val (.long bv), .second, .val (.int (p3 &&& (3 : Int32))), .val (.long xv), .second, .val (.ref b17), .val (.int (2 : Int32)), .unset, .unset, .unset, .unset, .unset] [(.int (1 : Int32))])) _
            refine XS.istore X27.here hx rfl (hb hby at_176) rfl (l' := #[.val (.int p0), .val (.long p1), .second, .val (.long p2), .second, .val (.int p3), .val (.long p4), .second, .val (.long wm), .second, .val (.long wn), .second, .val (.long av), .second, .val (.long dv), .second, .val (.long bv), .second, .val (.int (p3 &&& (3 : Int32))), .val (.long xv), .second, .val (.ref b17), .val (.int (2 : Int32)), .val (.int (1 : Int32)), .unset, .unset, .unset, .unset]) rfl ?_
            show Steps p.tables e below (T27.setTop (mkF m 178 #[.val (.int p0), .val (.long p1), .second, .val (.long p2), .second, .val (.int p3), .val (.long p4), .second, .val (.long wm), .second, .val (.long wn), .second, .val (.long av), .second, .val (.long dv), .second, .val (.long bv), .second, .val (.int (p3 &&& (3 : Int32))), .val (.long xv), .second, .val (.ref b17), .val (.int (2 : Int32)), .val (.int (1 : Int32)), .unset, .unset, .unset, .unset] [])) _
            refine XS.aload X27.here hx rfl (hb hby at_178) rfl rfl ?_
            exact k
          refine Go.callV X27 hx hZ (W := 0) (argsL := []) (rest := []) hown (wd hw 69 rfl) (wd hw 70 rfl) (notFace_of_selects (args := #[]) (mvT hZ (wd hw 72 rfl))) (wd hw 72 rfl) (wd hw 71 rfl) (wd hw 5 rfl) (wd hw 73 rfl) (by decide) E_b17 (ct_get_count_l_2___Int32__7 l Z a0 hw  b17 h27 n0 O Fi3_27) e27 (by rw [hml]; rfl) (lenOf pd___I_8321 rfl) rfl rfl (hb hby at_180) (by decide) (by decide) (by decide) (by decide) ?_
          intro v28 T28 h28 L28 X28 e28 q28
          obtain ⟨rfl, N28, rfl⟩ := q28
          replace N28 := Fr.app N27 N28
          show Go p e below _ T28 (mkF m 183 #[.val (.int p0), .val (.long p1), .second, .val (.long p2), .second, .val (.int p3), .val (.long p4), .second, .val (.long wm), .second, .val (.long wn), .second, .val (.long av), .second, .val (.long dv), .second, .val (.long bv), .second, .val (.int (p3 &&& (3 : Int32))), .val (.long xv), .second, .val (.ref b17), .val (.int (2 : Int32)), .val (.int (1 : Int32)), .unset, .unset, .unset, .unset] [(.int (2 : Int32))])
          refine Go.by (T' := T28) (g' := (mkF m 299 #[.val (.int p0), .val (.long p1), .second, .val (.long p2), .second, .val (.int p3), .val (.long p4), .second, .val (.long wm), .second, .val (.long wn), .second, .val (.long av), .second, .val (.long dv), .second, .val (.long bv), .second, .val (.int (p3 &&& (3 : Int32))), .val (.long xv), .second, .val (.ref b17), .val (.int (2 : Int32)), .val (.int (1 : Int32)), .val (.int (2 : Int32)), .val (.int (1 : Int32)), .val (.int (0 : Int32)), .val (.int (2 : Int32))] [(.int (1 : Int32))])) (fun t k => ?_) ?_
          · show Steps p.tables e below (T28.setTop (mkF m 183 #[.val (.int p0), .val (.long p1), .second, .val (.long p2), .second, .val (.int p3), .val (.long p4), .second, .val (.long wm), .second, .val (.long wn), .second, .val (.long av), .second, .val (.long dv), .second, .val (.long bv), .second, .val (.int (p3 &&& (3 : Int32))), .val (.long xv), .second, .val (.ref b17), .val (.int (2 : Int32)), .val (.int (1 : Int32)), .unset, .unset, .unset, .unset] [(.int (2 : Int32))])) _
            refine XS.istore X28.here hx rfl (hb hby at_183) rfl (l' := #[.val (.int p0), .val (.long p1), .second, .val (.long p2), .second, .val (.int p3), .val (.long p4), .second, .val (.long wm), .second, .val (.long wn), .second, .val (.long av), .second, .val (.long dv), .second, .val (.long bv), .second, .val (.int (p3 &&& (3 : Int32))), .val (.long xv), .second, .val (.ref b17), .val (.int (2 : Int32)), .val (.int (1 : Int32)), .val (.int (2 : Int32)), .unset, .unset, .unset]) rfl ?_
            show Steps p.tables e below (T28.setTop (mkF m 185 #[.val (.int p0), .val (.long p1), .second, .val (.long p2), .second, .val (.int p3), .val (.long p4), .second, .val (.long wm), .second, .val (.long wn), .second, .val (.long av), .second, .val (.long dv), .second, .val (.long bv), .second, .val (.int (p3 &&& (3 : Int32))), .val (.long xv), .second, .val (.ref b17), .val (.int (2 : Int32)), .val (.int (1 : Int32)), .val (.int (2 : Int32)), .unset, .unset, .unset] [])) _
            refine XS.lload X28.here hx rfl (hb hby at_185) rfl ?_
            show Steps p.tables e below (T28.setTop (mkF m 187 #[.val (.int p0), .val (.long p1), .second, .val (.long p2), .second, .val (.int p3), .val (.long p4), .second, .val (.long wm), .second, .val (.long wn), .second, .val (.long av), .second, .val (.long dv), .second, .val (.long bv), .second, .val (.int (p3 &&& (3 : Int32))), .val (.long xv), .second, .val (.ref b17), .val (.int (2 : Int32)), .val (.int (1 : Int32)), .val (.int (2 : Int32)), .unset, .unset, .unset] [(.long dv)])) _
            refine XS.lload X28.here hx rfl (hb hby at_187) rfl ?_
            show Steps p.tables e below (T28.setTop (mkF m 189 #[.val (.int p0), .val (.long p1), .second, .val (.long p2), .second, .val (.int p3), .val (.long p4), .second, .val (.long wm), .second, .val (.long wn), .second, .val (.long av), .second, .val (.long dv), .second, .val (.long bv), .second, .val (.int (p3 &&& (3 : Int32))), .val (.long xv), .second, .val (.ref b17), .val (.int (2 : Int32)), .val (.int (1 : Int32)), .val (.int (2 : Int32)), .unset, .unset, .unset] [(.long wn), (.long dv)])) _
            refine XS.lcmp X28.here hx rfl (hb hby at_189) rfl ?_
            show Steps p.tables e below (T28.setTop (mkF m 190 #[.val (.int p0), .val (.long p1), .second, .val (.long p2), .second, .val (.int p3), .val (.long p4), .second, .val (.long wm), .second, .val (.long wn), .second, .val (.long av), .second, .val (.long dv), .second, .val (.long bv), .second, .val (.int (p3 &&& (3 : Int32))), .val (.long xv), .second, .val (.ref b17), .val (.int (2 : Int32)), .val (.int (1 : Int32)), .val (.int (2 : Int32)), .unset, .unset, .unset] [(.int (lcmpW dv wn))])) _
            refine XS.ifNo X28.here hx rfl (hb hby at_190) rfl ((if0 _ _).trans (tlt ((lw_lt _ _).mpr hlt)).2.1) ?_
            show Steps p.tables e below (T28.setTop (mkF m 193 #[.val (.int p0), .val (.long p1), .second, .val (.long p2), .second, .val (.int p3), .val (.long p4), .second, .val (.long wm), .second, .val (.long wn), .second, .val (.long av), .second, .val (.long dv), .second, .val (.long bv), .second, .val (.int (p3 &&& (3 : Int32))), .val (.long xv), .second, .val (.ref b17), .val (.int (2 : Int32)), .val (.int (1 : Int32)), .val (.int (2 : Int32)), .unset, .unset, .unset] [])) _
            refine XS.iconst X28.here hx rfl (hb hby at_193) ?_
            show Steps p.tables e below (T28.setTop (mkF m 194 #[.val (.int p0), .val (.long p1), .second, .val (.long p2), .second, .val (.int p3), .val (.long p4), .second, .val (.long wm), .second, .val (.long wn), .second, .val (.long av), .second, .val (.long dv), .second, .val (.long bv), .second, .val (.int (p3 &&& (3 : Int32))), .val (.long xv), .second, .val (.ref b17), .val (.int (2 : Int32)), .val (.int (1 : Int32)), .val (.int (2 : Int32)), .unset, .unset, .unset] [(.int (1 : Int32))])) _
            refine XS.goto X28.here hx rfl (pc0 := 194) (pc' := 198) rfl (hb hby at_194) (by decide) (by decide) ?_
            show Steps p.tables e below (T28.setTop (mkF m 198 #[.val (.int p0), .val (.long p1), .second, .val (.long p2), .second, .val (.int p3), .val (.long p4), .second, .val (.long wm), .second, .val (.long wn), .second, .val (.long av), .second, .val (.long dv), .second, .val (.long bv), .second, .val (.int (p3 &&& (3 : Int32))), .val (.long xv), .second, .val (.ref b17), .val (.int (2 : Int32)), .val (.int (1 : Int32)), .val (.int (2 : Int32)), .unset, .unset, .unset] [(.int (1 : Int32))])) _
            refine XS.istore X28.here hx rfl (hb hby at_198) rfl (l' := #[.val (.int p0), .val (.long p1), .second, .val (.long p2), .second, .val (.int p3), .val (.long p4), .second, .val (.long wm), .second, .val (.long wn), .second, .val (.long av), .second, .val (.long dv), .second, .val (.long bv), .second, .val (.int (p3 &&& (3 : Int32))), .val (.long xv), .second, .val (.ref b17), .val (.int (2 : Int32)), .val (.int (1 : Int32)), .val (.int (2 : Int32)), .val (.int (1 : Int32)), .unset, .unset]) rfl ?_
            show Steps p.tables e below (T28.setTop (mkF m 200 #[.val (.int p0), .val (.long p1), .second, .val (.long p2), .second, .val (.int p3), .val (.long p4), .second, .val (.long wm), .second, .val (.long wn), .second, .val (.long av), .second, .val (.long dv), .second, .val (.long bv), .second, .val (.int (p3 &&& (3 : Int32))), .val (.long xv), .second, .val (.ref b17), .val (.int (2 : Int32)), .val (.int (1 : Int32)), .val (.int (2 : Int32)), .val (.int (1 : Int32)), .unset, .unset] [])) _
            refine XS.iload X28.here hx rfl (hb hby at_200) rfl ?_
            show Steps p.tables e below (T28.setTop (mkF m 202 #[.val (.int p0), .val (.long p1), .second, .val (.long p2), .second, .val (.int p3), .val (.long p4), .second, .val (.long wm), .second, .val (.long wn), .second, .val (.long av), .second, .val (.long dv), .second, .val (.long bv), .second, .val (.int (p3 &&& (3 : Int32))), .val (.long xv), .second, .val (.ref b17), .val (.int (2 : Int32)), .val (.int (1 : Int32)), .val (.int (2 : Int32)), .val (.int (1 : Int32)), .unset, .unset] [(.int (1 : Int32))])) _
            refine XS.ifNo X28.here hx rfl (hb hby at_202) rfl ((if0 _ _).trans (feq (by decide : ¬ (1 : Int32) = (0 : Int32))).1) ?_
            show Steps p.tables e below (T28.setTop (mkF m 205 #[.val (.int p0), .val (.long p1), .second, .val (.long p2), .second, .val (.int p3), .val (.long p4), .second, .val (.long wm), .second, .val (.long wn), .second, .val (.long av), .second, .val (.long dv), .second, .val (.long bv), .second, .val (.int (p3 &&& (3 : Int32))), .val (.long xv), .second, .val (.ref b17), .val (.int (2 : Int32)), .val (.int (1 : Int32)), .val (.int (2 : Int32)), .val (.int (1 : Int32)), .unset, .unset] [])) _
            refine XS.lload X28.here hx rfl (hb hby at_205) rfl ?_
            show Steps p.tables e below (T28.setTop (mkF m 207 #[.val (.int p0), .val (.long p1), .second, .val (.long p2), .second, .val (.int p3), .val (.long p4), .second, .val (.long wm), .second, .val (.long wn), .second, .val (.long av), .second, .val (.long dv), .second, .val (.long bv), .second, .val (.int (p3 &&& (3 : Int32))), .val (.long xv), .second, .val (.ref b17), .val (.int (2 : Int32)), .val (.int (1 : Int32)), .val (.int (2 : Int32)), .val (.int (1 : Int32)), .unset, .unset] [(.long dv)])) _
            refine XS.lconst X28.here hx rfl (hb hby at_207) ?_
            show Steps p.tables e below (T28.setTop (mkF m 208 #[.val (.int p0), .val (.long p1), .second, .val (.long p2), .second, .val (.int p3), .val (.long p4), .second, .val (.long wm), .second, .val (.long wn), .second, .val (.long av), .second, .val (.long dv), .second, .val (.long bv), .second, .val (.int (p3 &&& (3 : Int32))), .val (.long xv), .second, .val (.ref b17), .val (.int (2 : Int32)), .val (.int (1 : Int32)), .val (.int (2 : Int32)), .val (.int (1 : Int32)), .unset, .unset] [(.long (0 : Int64)), (.long dv)])) _
            refine XS.lcmp X28.here hx rfl (hb hby at_208) rfl ?_
            show Steps p.tables e below (T28.setTop (mkF m 209 #[.val (.int p0), .val (.long p1), .second, .val (.long p2), .second, .val (.int p3), .val (.long p4), .second, .val (.long wm), .second, .val (.long wn), .second, .val (.long av), .second, .val (.long dv), .second, .val (.long bv), .second, .val (.int (p3 &&& (3 : Int32))), .val (.long xv), .second, .val (.ref b17), .val (.int (2 : Int32)), .val (.int (1 : Int32)), .val (.int (2 : Int32)), .val (.int (1 : Int32)), .unset, .unset] [(.int (lcmpW dv (0 : Int64)))])) _
            refine XS.ifYes X28.here hx rfl (pc0 := 209) (pc' := 216) rfl (hb hby at_209) rfl ((if0 _ _).trans (teq ((lw_eq _ _).mpr hy3)).1) (by decide) (by decide) ?_
            show Steps p.tables e below (T28.setTop (mkF m 216 #[.val (.int p0), .val (.long p1), .second, .val (.long p2), .second, .val (.int p3), .val (.long p4), .second, .val (.long wm), .second, .val (.long wn), .second, .val (.long av), .second, .val (.long dv), .second, .val (.long bv), .second, .val (.int (p3 &&& (3 : Int32))), .val (.long xv), .second, .val (.ref b17), .val (.int (2 : Int32)), .val (.int (1 : Int32)), .val (.int (2 : Int32)), .val (.int (1 : Int32)), .unset, .unset] [])) _
            refine XS.iconst X28.here hx rfl (hb hby at_216) ?_
            show Steps p.tables e below (T28.setTop (mkF m 217 #[.val (.int p0), .val (.long p1), .second, .val (.long p2), .second, .val (.int p3), .val (.long p4), .second, .val (.long wm), .second, .val (.long wn), .second, .val (.long av), .second, .val (.long dv), .second, .val (.long bv), .second, .val (.int (p3 &&& (3 : Int32))), .val (.long xv), .second, .val (.ref b17), .val (.int (2 : Int32)), .val (.int (1 : Int32)), .val (.int (2 : Int32)), .val (.int (1 : Int32)), .unset, .unset] [(.int (0 : Int32))])) _
            refine XS.istore X28.here hx rfl (hb hby at_217) rfl (l' := #[.val (.int p0), .val (.long p1), .second, .val (.long p2), .second, .val (.int p3), .val (.long p4), .second, .val (.long wm), .second, .val (.long wn), .second, .val (.long av), .second, .val (.long dv), .second, .val (.long bv), .second, .val (.int (p3 &&& (3 : Int32))), .val (.long xv), .second, .val (.ref b17), .val (.int (2 : Int32)), .val (.int (1 : Int32)), .val (.int (2 : Int32)), .val (.int (1 : Int32)), .val (.int (0 : Int32)), .unset]) rfl ?_
            show Steps p.tables e below (T28.setTop (mkF m 219 #[.val (.int p0), .val (.long p1), .second, .val (.long p2), .second, .val (.int p3), .val (.long p4), .second, .val (.long wm), .second, .val (.long wn), .second, .val (.long av), .second, .val (.long dv), .second, .val (.long bv), .second, .val (.int (p3 &&& (3 : Int32))), .val (.long xv), .second, .val (.ref b17), .val (.int (2 : Int32)), .val (.int (1 : Int32)), .val (.int (2 : Int32)), .val (.int (1 : Int32)), .val (.int (0 : Int32)), .unset] [])) _
            refine XS.iload X28.here hx rfl (hb hby at_219) rfl ?_
            show Steps p.tables e below (T28.setTop (mkF m 221 #[.val (.int p0), .val (.long p1), .second, .val (.long p2), .second, .val (.int p3), .val (.long p4), .second, .val (.long wm), .second, .val (.long wn), .second, .val (.long av), .second, .val (.long dv), .second, .val (.long bv), .second, .val (.int (p3 &&& (3 : Int32))), .val (.long xv), .second, .val (.ref b17), .val (.int (2 : Int32)), .val (.int (1 : Int32)), .val (.int (2 : Int32)), .val (.int (1 : Int32)), .val (.int (0 : Int32)), .unset] [(.int (1 : Int32))])) _
            refine XS.ifNo X28.here hx rfl (hb hby at_221) rfl ((if0 _ _).trans (feq (by decide : ¬ (1 : Int32) = (0 : Int32))).1) ?_
            show Steps p.tables e below (T28.setTop (mkF m 224 #[.val (.int p0), .val (.long p1), .second, .val (.long p2), .second, .val (.int p3), .val (.long p4), .second, .val (.long wm), .second, .val (.long wn), .second, .val (.long av), .second, .val (.long dv), .second, .val (.long bv), .second, .val (.int (p3 &&& (3 : Int32))), .val (.long xv), .second, .val (.ref b17), .val (.int (2 : Int32)), .val (.int (1 : Int32)), .val (.int (2 : Int32)), .val (.int (1 : Int32)), .val (.int (0 : Int32)), .unset] [])) _
            refine XS.lload X28.here hx rfl (hb hby at_224) rfl ?_
            show Steps p.tables e below (T28.setTop (mkF m 226 #[.val (.int p0), .val (.long p1), .second, .val (.long p2), .second, .val (.int p3), .val (.long p4), .second, .val (.long wm), .second, .val (.long wn), .second, .val (.long av), .second, .val (.long dv), .second, .val (.long bv), .second, .val (.int (p3 &&& (3 : Int32))), .val (.long xv), .second, .val (.ref b17), .val (.int (2 : Int32)), .val (.int (1 : Int32)), .val (.int (2 : Int32)), .val (.int (1 : Int32)), .val (.int (0 : Int32)), .unset] [(.long dv)])) _
            refine XS.lconst X28.here hx rfl (hb hby at_226) ?_
            show Steps p.tables e below (T28.setTop (mkF m 227 #[.val (.int p0), .val (.long p1), .second, .val (.long p2), .second, .val (.int p3), .val (.long p4), .second, .val (.long wm), .second, .val (.long wn), .second, .val (.long av), .second, .val (.long dv), .second, .val (.long bv), .second, .val (.int (p3 &&& (3 : Int32))), .val (.long xv), .second, .val (.ref b17), .val (.int (2 : Int32)), .val (.int (1 : Int32)), .val (.int (2 : Int32)), .val (.int (1 : Int32)), .val (.int (0 : Int32)), .unset] [(.long (0 : Int64)), (.long dv)])) _
            refine XS.lcmp X28.here hx rfl (hb hby at_227) rfl ?_
            show Steps p.tables e below (T28.setTop (mkF m 228 #[.val (.int p0), .val (.long p1), .second, .val (.long p2), .second, .val (.int p3), .val (.long p4), .second, .val (.long wm), .second, .val (.long wn), .second, .val (.long av), .second, .val (.long dv), .second, .val (.long bv), .second, .val (.int (p3 &&& (3 : Int32))), .val (.long xv), .second, .val (.ref b17), .val (.int (2 : Int32)), .val (.int (1 : Int32)), .val (.int (2 : Int32)), .val (.int (1 : Int32)), .val (.int (0 : Int32)), .unset] [(.int (lcmpW dv (0 : Int64)))])) _
            refine XS.ifNo X28.here hx rfl (hb hby at_228) rfl ((if0 _ _).trans (teq ((lw_eq _ _).mpr hy3)).2) ?_
            show Steps p.tables e below (T28.setTop (mkF m 231 #[.val (.int p0), .val (.long p1), .second, .val (.long p2), .second, .val (.int p3), .val (.long p4), .second, .val (.long wm), .second, .val (.long wn), .second, .val (.long av), .second, .val (.long dv), .second, .val (.long bv), .second, .val (.int (p3 &&& (3 : Int32))), .val (.long xv), .second, .val (.ref b17), .val (.int (2 : Int32)), .val (.int (1 : Int32)), .val (.int (2 : Int32)), .val (.int (1 : Int32)), .val (.int (0 : Int32)), .unset] [])) _
            refine XS.iconst X28.here hx rfl (hb hby at_231) ?_
            show Steps p.tables e below (T28.setTop (mkF m 232 #[.val (.int p0), .val (.long p1), .second, .val (.long p2), .second, .val (.int p3), .val (.long p4), .second, .val (.long wm), .second, .val (.long wn), .second, .val (.long av), .second, .val (.long dv), .second, .val (.long bv), .second, .val (.int (p3 &&& (3 : Int32))), .val (.long xv), .second, .val (.ref b17), .val (.int (2 : Int32)), .val (.int (1 : Int32)), .val (.int (2 : Int32)), .val (.int (1 : Int32)), .val (.int (0 : Int32)), .unset] [(.int (2 : Int32))])) _
            refine XS.goto X28.here hx rfl (pc0 := 232) (pc' := 236) rfl (hb hby at_232) (by decide) (by decide) ?_
            show Steps p.tables e below (T28.setTop (mkF m 236 #[.val (.int p0), .val (.long p1), .second, .val (.long p2), .second, .val (.int p3), .val (.long p4), .second, .val (.long wm), .second, .val (.long wn), .second, .val (.long av), .second, .val (.long dv), .second, .val (.long bv), .second, .val (.int (p3 &&& (3 : Int32))), .val (.long xv), .second, .val (.ref b17), .val (.int (2 : Int32)), .val (.int (1 : Int32)), .val (.int (2 : Int32)), .val (.int (1 : Int32)), .val (.int (0 : Int32)), .unset] [(.int (2 : Int32))])) _
            refine XS.istore X28.here hx rfl (hb hby at_236) rfl (l' := #[.val (.int p0), .val (.long p1), .second, .val (.long p2), .second, .val (.int p3), .val (.long p4), .second, .val (.long wm), .second, .val (.long wn), .second, .val (.long av), .second, .val (.long dv), .second, .val (.long bv), .second, .val (.int (p3 &&& (3 : Int32))), .val (.long xv), .second, .val (.ref b17), .val (.int (2 : Int32)), .val (.int (1 : Int32)), .val (.int (2 : Int32)), .val (.int (1 : Int32)), .val (.int (0 : Int32)), .val (.int (2 : Int32))]) rfl ?_
            show Steps p.tables e below (T28.setTop (mkF m 238 #[.val (.int p0), .val (.long p1), .second, .val (.long p2), .second, .val (.int p3), .val (.long p4), .second, .val (.long wm), .second, .val (.long wn), .second, .val (.long av), .second, .val (.long dv), .second, .val (.long bv), .second, .val (.int (p3 &&& (3 : Int32))), .val (.long xv), .second, .val (.ref b17), .val (.int (2 : Int32)), .val (.int (1 : Int32)), .val (.int (2 : Int32)), .val (.int (1 : Int32)), .val (.int (0 : Int32)), .val (.int (2 : Int32))] [])) _
            refine XS.lload X28.here hx rfl (hb hby at_238) rfl ?_
            show Steps p.tables e below (T28.setTop (mkF m 240 #[.val (.int p0), .val (.long p1), .second, .val (.long p2), .second, .val (.int p3), .val (.long p4), .second, .val (.long wm), .second, .val (.long wn), .second, .val (.long av), .second, .val (.long dv), .second, .val (.long bv), .second, .val (.int (p3 &&& (3 : Int32))), .val (.long xv), .second, .val (.ref b17), .val (.int (2 : Int32)), .val (.int (1 : Int32)), .val (.int (2 : Int32)), .val (.int (1 : Int32)), .val (.int (0 : Int32)), .val (.int (2 : Int32))] [(.long xv)])) _
            refine XS.lload X28.here hx rfl (hb hby at_240) rfl ?_
            show Steps p.tables e below (T28.setTop (mkF m 242 #[.val (.int p0), .val (.long p1), .second, .val (.long p2), .second, .val (.int p3), .val (.long p4), .second, .val (.long wm), .second, .val (.long wn), .second, .val (.long av), .second, .val (.long dv), .second, .val (.long bv), .second, .val (.int (p3 &&& (3 : Int32))), .val (.long xv), .second, .val (.ref b17), .val (.int (2 : Int32)), .val (.int (1 : Int32)), .val (.int (2 : Int32)), .val (.int (1 : Int32)), .val (.int (0 : Int32)), .val (.int (2 : Int32))] [(.long bv), (.long xv)])) _
            refine XS.lcmp X28.here hx rfl (hb hby at_242) rfl ?_
            show Steps p.tables e below (T28.setTop (mkF m 243 #[.val (.int p0), .val (.long p1), .second, .val (.long p2), .second, .val (.int p3), .val (.long p4), .second, .val (.long wm), .second, .val (.long wn), .second, .val (.long av), .second, .val (.long dv), .second, .val (.long bv), .second, .val (.int (p3 &&& (3 : Int32))), .val (.long xv), .second, .val (.ref b17), .val (.int (2 : Int32)), .val (.int (1 : Int32)), .val (.int (2 : Int32)), .val (.int (1 : Int32)), .val (.int (0 : Int32)), .val (.int (2 : Int32))] [(.int (lcmpW xv bv))])) _
            refine XS.ifYes X28.here hx rfl (pc0 := 243) (pc' := 255) rfl (hb hby at_243) rfl ((if0 _ _).trans (feq (fun q => hy4 ((lw_eq _ _).mp q))).2) (by decide) (by decide) ?_
            show Steps p.tables e below (T28.setTop (mkF m 255 #[.val (.int p0), .val (.long p1), .second, .val (.long p2), .second, .val (.int p3), .val (.long p4), .second, .val (.long wm), .second, .val (.long wn), .second, .val (.long av), .second, .val (.long dv), .second, .val (.long bv), .second, .val (.int (p3 &&& (3 : Int32))), .val (.long xv), .second, .val (.ref b17), .val (.int (2 : Int32)), .val (.int (1 : Int32)), .val (.int (2 : Int32)), .val (.int (1 : Int32)), .val (.int (0 : Int32)), .val (.int (2 : Int32))] [])) _
            refine XS.lload X28.here hx rfl (hb hby at_255) rfl ?_
            show Steps p.tables e below (T28.setTop (mkF m 257 #[.val (.int p0), .val (.long p1), .second, .val (.long p2), .second, .val (.int p3), .val (.long p4), .second, .val (.long wm), .second, .val (.long wn), .second, .val (.long av), .second, .val (.long dv), .second, .val (.long bv), .second, .val (.int (p3 &&& (3 : Int32))), .val (.long xv), .second, .val (.ref b17), .val (.int (2 : Int32)), .val (.int (1 : Int32)), .val (.int (2 : Int32)), .val (.int (1 : Int32)), .val (.int (0 : Int32)), .val (.int (2 : Int32))] [(.long xv)])) _
            refine XS.lload X28.here hx rfl (hb hby at_257) rfl ?_
            show Steps p.tables e below (T28.setTop (mkF m 259 #[.val (.int p0), .val (.long p1), .second, .val (.long p2), .second, .val (.int p3), .val (.long p4), .second, .val (.long wm), .second, .val (.long wn), .second, .val (.long av), .second, .val (.long dv), .second, .val (.long bv), .second, .val (.int (p3 &&& (3 : Int32))), .val (.long xv), .second, .val (.ref b17), .val (.int (2 : Int32)), .val (.int (1 : Int32)), .val (.int (2 : Int32)), .val (.int (1 : Int32)), .val (.int (0 : Int32)), .val (.int (2 : Int32))] [(.long av), (.long xv)])) _
            refine XS.lcmp X28.here hx rfl (hb hby at_259) rfl ?_
            show Steps p.tables e below (T28.setTop (mkF m 260 #[.val (.int p0), .val (.long p1), .second, .val (.long p2), .second, .val (.int p3), .val (.long p4), .second, .val (.long wm), .second, .val (.long wn), .second, .val (.long av), .second, .val (.long dv), .second, .val (.long bv), .second, .val (.int (p3 &&& (3 : Int32))), .val (.long xv), .second, .val (.ref b17), .val (.int (2 : Int32)), .val (.int (1 : Int32)), .val (.int (2 : Int32)), .val (.int (1 : Int32)), .val (.int (0 : Int32)), .val (.int (2 : Int32))] [(.int (lcmpW xv av))])) _
            refine XS.ifYes X28.here hx rfl (pc0 := 260) (pc' := 272) rfl (hb hby at_260) rfl ((if0 _ _).trans (feq (fun q => hxa ((lw_eq _ _).mp q))).2) (by decide) (by decide) ?_
            show Steps p.tables e below (T28.setTop (mkF m 272 #[.val (.int p0), .val (.long p1), .second, .val (.long p2), .second, .val (.int p3), .val (.long p4), .second, .val (.long wm), .second, .val (.long wn), .second, .val (.long av), .second, .val (.long dv), .second, .val (.long bv), .second, .val (.int (p3 &&& (3 : Int32))), .val (.long xv), .second, .val (.ref b17), .val (.int (2 : Int32)), .val (.int (1 : Int32)), .val (.int (2 : Int32)), .val (.int (1 : Int32)), .val (.int (0 : Int32)), .val (.int (2 : Int32))] [])) _
            refine XS.iload X28.here hx rfl (hb hby at_272) rfl ?_
            show Steps p.tables e below (T28.setTop (mkF m 274 #[.val (.int p0), .val (.long p1), .second, .val (.long p2), .second, .val (.int p3), .val (.long p4), .second, .val (.long wm), .second, .val (.long wn), .second, .val (.long av), .second, .val (.long dv), .second, .val (.long bv), .second, .val (.int (p3 &&& (3 : Int32))), .val (.long xv), .second, .val (.ref b17), .val (.int (2 : Int32)), .val (.int (1 : Int32)), .val (.int (2 : Int32)), .val (.int (1 : Int32)), .val (.int (0 : Int32)), .val (.int (2 : Int32))] [(.int (1 : Int32))])) _
            refine XS.ifNo X28.here hx rfl (hb hby at_274) rfl ((if0 _ _).trans (feq (by decide : ¬ (1 : Int32) = (0 : Int32))).1) ?_
            show Steps p.tables e below (T28.setTop (mkF m 277 #[.val (.int p0), .val (.long p1), .second, .val (.long p2), .second, .val (.int p3), .val (.long p4), .second, .val (.long wm), .second, .val (.long wn), .second, .val (.long av), .second, .val (.long dv), .second, .val (.long bv), .second, .val (.int (p3 &&& (3 : Int32))), .val (.long xv), .second, .val (.ref b17), .val (.int (2 : Int32)), .val (.int (1 : Int32)), .val (.int (2 : Int32)), .val (.int (1 : Int32)), .val (.int (0 : Int32)), .val (.int (2 : Int32))] [])) _
            refine XS.iload X28.here hx rfl (hb hby at_277) rfl ?_
            show Steps p.tables e below (T28.setTop (mkF m 279 #[.val (.int p0), .val (.long p1), .second, .val (.long p2), .second, .val (.int p3), .val (.long p4), .second, .val (.long wm), .second, .val (.long wn), .second, .val (.long av), .second, .val (.long dv), .second, .val (.long bv), .second, .val (.int (p3 &&& (3 : Int32))), .val (.long xv), .second, .val (.ref b17), .val (.int (2 : Int32)), .val (.int (1 : Int32)), .val (.int (2 : Int32)), .val (.int (1 : Int32)), .val (.int (0 : Int32)), .val (.int (2 : Int32))] [(.int (2 : Int32))])) _
            refine XS.iload X28.here hx rfl (hb hby at_279) rfl ?_
            show Steps p.tables e below (T28.setTop (mkF m 281 #[.val (.int p0), .val (.long p1), .second, .val (.long p2), .second, .val (.int p3), .val (.long p4), .second, .val (.long wm), .second, .val (.long wn), .second, .val (.long av), .second, .val (.long dv), .second, .val (.long bv), .second, .val (.int (p3 &&& (3 : Int32))), .val (.long xv), .second, .val (.ref b17), .val (.int (2 : Int32)), .val (.int (1 : Int32)), .val (.int (2 : Int32)), .val (.int (1 : Int32)), .val (.int (0 : Int32)), .val (.int (2 : Int32))] [(.int (0 : Int32)), (.int (2 : Int32))])) _
            refine XS.iload X28.here hx rfl (hb hby at_281) rfl ?_
            show Steps p.tables e below (T28.setTop (mkF m 283 #[.val (.int p0), .val (.long p1), .second, .val (.long p2), .second, .val (.int p3), .val (.long p4), .second, .val (.long wm), .second, .val (.long wn), .second, .val (.long av), .second, .val (.long dv), .second, .val (.long bv), .second, .val (.int (p3 &&& (3 : Int32))), .val (.long xv), .second, .val (.ref b17), .val (.int (2 : Int32)), .val (.int (1 : Int32)), .val (.int (2 : Int32)), .val (.int (1 : Int32)), .val (.int (0 : Int32)), .val (.int (2 : Int32))] [(.int (2 : Int32)), (.int (0 : Int32)), (.int (2 : Int32))])) _
            refine XS.iadd X28.here hx rfl (hb hby at_283) rfl ?_
            show Steps p.tables e below (T28.setTop (mkF m 284 #[.val (.int p0), .val (.long p1), .second, .val (.long p2), .second, .val (.int p3), .val (.long p4), .second, .val (.long wm), .second, .val (.long wn), .second, .val (.long av), .second, .val (.long dv), .second, .val (.long bv), .second, .val (.int (p3 &&& (3 : Int32))), .val (.long xv), .second, .val (.ref b17), .val (.int (2 : Int32)), .val (.int (1 : Int32)), .val (.int (2 : Int32)), .val (.int (1 : Int32)), .val (.int (0 : Int32)), .val (.int (2 : Int32))] [(.int (2 : Int32)), (.int (2 : Int32))])) _
            refine XS.icmpNo X28.here hx rfl (hb hby at_284) rfl (teq (by decide : (2 : Int32) = (2 : Int32))).2 ?_
            show Steps p.tables e below (T28.setTop (mkF m 287 #[.val (.int p0), .val (.long p1), .second, .val (.long p2), .second, .val (.int p3), .val (.long p4), .second, .val (.long wm), .second, .val (.long wn), .second, .val (.long av), .second, .val (.long dv), .second, .val (.long bv), .second, .val (.int (p3 &&& (3 : Int32))), .val (.long xv), .second, .val (.ref b17), .val (.int (2 : Int32)), .val (.int (1 : Int32)), .val (.int (2 : Int32)), .val (.int (1 : Int32)), .val (.int (0 : Int32)), .val (.int (2 : Int32))] [])) _
            refine XS.iload X28.here hx rfl (hb hby at_287) rfl ?_
            show Steps p.tables e below (T28.setTop (mkF m 289 #[.val (.int p0), .val (.long p1), .second, .val (.long p2), .second, .val (.int p3), .val (.long p4), .second, .val (.long wm), .second, .val (.long wn), .second, .val (.long av), .second, .val (.long dv), .second, .val (.long bv), .second, .val (.int (p3 &&& (3 : Int32))), .val (.long xv), .second, .val (.ref b17), .val (.int (2 : Int32)), .val (.int (1 : Int32)), .val (.int (2 : Int32)), .val (.int (1 : Int32)), .val (.int (0 : Int32)), .val (.int (2 : Int32))] [(.int (2 : Int32))])) _
            refine XS.iload X28.here hx rfl (hb hby at_289) rfl ?_
            show Steps p.tables e below (T28.setTop (mkF m 291 #[.val (.int p0), .val (.long p1), .second, .val (.long p2), .second, .val (.int p3), .val (.long p4), .second, .val (.long wm), .second, .val (.long wn), .second, .val (.long av), .second, .val (.long dv), .second, .val (.long bv), .second, .val (.int (p3 &&& (3 : Int32))), .val (.long xv), .second, .val (.ref b17), .val (.int (2 : Int32)), .val (.int (1 : Int32)), .val (.int (2 : Int32)), .val (.int (1 : Int32)), .val (.int (0 : Int32)), .val (.int (2 : Int32))] [(.int (2 : Int32)), (.int (2 : Int32))])) _
            refine XS.icmpNo X28.here hx rfl (hb hby at_291) rfl (teq (by decide : (2 : Int32) = (2 : Int32))).2 ?_
            show Steps p.tables e below (T28.setTop (mkF m 294 #[.val (.int p0), .val (.long p1), .second, .val (.long p2), .second, .val (.int p3), .val (.long p4), .second, .val (.long wm), .second, .val (.long wn), .second, .val (.long av), .second, .val (.long dv), .second, .val (.long bv), .second, .val (.int (p3 &&& (3 : Int32))), .val (.long xv), .second, .val (.ref b17), .val (.int (2 : Int32)), .val (.int (1 : Int32)), .val (.int (2 : Int32)), .val (.int (1 : Int32)), .val (.int (0 : Int32)), .val (.int (2 : Int32))] [])) _
            refine XS.iconst X28.here hx rfl (hb hby at_294) ?_
            show Steps p.tables e below (T28.setTop (mkF m 295 #[.val (.int p0), .val (.long p1), .second, .val (.long p2), .second, .val (.int p3), .val (.long p4), .second, .val (.long wm), .second, .val (.long wn), .second, .val (.long av), .second, .val (.long dv), .second, .val (.long bv), .second, .val (.int (p3 &&& (3 : Int32))), .val (.long xv), .second, .val (.ref b17), .val (.int (2 : Int32)), .val (.int (1 : Int32)), .val (.int (2 : Int32)), .val (.int (1 : Int32)), .val (.int (0 : Int32)), .val (.int (2 : Int32))] [(.int (1 : Int32))])) _
            refine XS.goto X28.here hx rfl (pc0 := 295) (pc' := 299) rfl (hb hby at_295) (by decide) (by decide) ?_
            exact k
          refine Go.retZ X28 hx hlk hret (Or.inr rfl) (hb hby at_299) (by decide) (by decide) e28 ?_
          exact ⟨rfl, N28⟩
      · skip
        by_cases hy29 : dv < wn
        · skip
          by_cases hy30 : xv = bv
          · skip
            refine Go.newO X0 hx hZ hown (wd hw 3 rfl) (wd hw 4 rfl) (wd hw 5 rfl) e0 (hb hby at_103) (by decide) (by decide) ?_
            intro T31 h31 b31 X31 e31 E31 g31 A31 D31
            have lb31 := Nat.le_of_eq g31.symm
            have g_b31 : n0 ≤ b31 := Nat.le_trans (OwnKit.Old.le O) lb31
            replace O := O.ext E31
            have E_b31 := A31
            have F_b31_times : Fld Z h31 b31 "com/example/breakwater/breakwater/OrderRateWindow" "times" "[J" .null := D31 (Or.inl (wd hw 26 rfl)) (ty := (.array .long)) (by decide)
            have F_b31_now : Fld Z h31 b31 "com/example/breakwater/breakwater/OrderRateWindow" "now" "J" (.long (0 : Int64)) := D31 (Or.inl (wd hw 29 rfl)) (ty := .long) (by decide)
            have F_b31_rate : Fld Z h31 b31 "com/example/breakwater/breakwater/OrderRateWindow" "rate" "Lcom/example/breakwater/breakwater/OrderRate;" .null := D31 (Or.inr (wd hw 31 rfl)) (ty := (.object "com/example/breakwater/breakwater/OrderRate")) (by decide)
            have F_b31_windowNanos : Fld Z h31 b31 "com/example/breakwater/breakwater/OrderRateWindow" "windowNanos" "J" (.long (0 : Int64)) := D31 (Or.inr (wd hw 49 rfl)) (ty := .long) (by decide)
            have F_b31_count : Fld Z h31 b31 "com/example/breakwater/breakwater/OrderRateWindow" "count" "I" (.int (0 : Int32)) := D31 (Or.inl (wd hw 56 rfl)) (ty := .int) (by decide)
            have F_b31_head : Fld Z h31 b31 "com/example/breakwater/breakwater/OrderRateWindow" "head" "I" (.int (0 : Int32)) := D31 (Or.inl (wd hw 63 rfl)) (ty := .int) (by decide)
            show Go p e below _ T31 (mkF m 106 #[.val (.int p0), .val (.long p1), .second, .val (.long p2), .second, .val (.int p3), .val (.long p4), .second, .val (.long wm), .second, .val (.long wn), .second, .val (.long av), .second, .val (.long dv), .second, .val (.long bv), .second, .val (.int (p3 &&& (3 : Int32))), .val (.long xv), .second, .unset, .unset, .unset, .unset, .unset, .unset, .unset] [(.ref b31)])
            refine Go.by (T' := T31) (g' := (mkF m 107 #[.val (.int p0), .val (.long p1), .second, .val (.long p2), .second, .val (.int p3), .val (.long p4), .second, .val (.long wm), .second, .val (.long wn), .second, .val (.long av), .second, .val (.long dv), .second, .val (.long bv), .second, .val (.int (p3 &&& (3 : Int32))), .val (.long xv), .second, .unset, .unset, .unset, .unset, .unset, .unset, .unset] [(.ref b31), (.ref b31)])) (fun t k => ?_) ?_
            · show Steps p.tables e below (T31.setTop (mkF m 106 #[.val (.int p0), .val (.long p1), .second, .val (.long p2), .second, .val (.int p3), .val (.long p4), .second, .val (.long wm), .second, .val (.long wn), .second, .val (.long av), .second, .val (.long dv), .second, .val (.long bv), .second, .val (.int (p3 &&& (3 : Int32))), .val (.long xv), .second, .unset, .unset, .unset, .unset, .unset, .unset, .unset] [(.ref b31)])) _
              refine XS.dup X31.here hx rfl (hb hby at_106) rfl rfl ?_
              exact k
            refine Go.newO X31 hx hZ hown (wd hw 6 rfl) (wd hw 7 rfl) (wd hw 8 rfl) e31 (hb hby at_107) (by decide) (by decide) ?_
            intro T32 h32 b32 X32 e32 E32 g32 A32 D32
            have lb32 := Nat.le_of_eq g32.symm
            have ne_b31_b32 : b31 ≠ b32 := Nat.ne_of_lt (Nat.lt_of_lt_of_le E_b31.lt lb32)
            have g_b32 : n0 ≤ b32 := Nat.le_trans (OwnKit.Old.le O) lb32
            replace E_b31 := E_b31.ext E32
            replace F_b31_times := F_b31_times.ext E32
            replace F_b31_now := F_b31_now.ext E32
            replace F_b31_rate := F_b31_rate.ext E32
            replace F_b31_windowNanos := F_b31_windowNanos.ext E32
            replace F_b31_count := F_b31_count.ext E32
            replace F_b31_head := F_b31_head.ext E32
            replace O := O.ext E32
            have E_b32 := A32
            have F_b32_maxOrders : Fld Z h32 b32 "com/example/breakwater/breakwater/OrderRate" "maxOrders" "J" (.long (0 : Int64)) := D32 (Or.inr (wd hw 17 rfl)) (ty := .long) (by decide)
            have F_b32_windowMillis : Fld Z h32 b32 "com/example/breakwater/breakwater/OrderRate" "windowMillis" "J" (.long (0 : Int64)) := D32 (Or.inr (wd hw 19 rfl)) (ty := .long) (by decide)
            show Go p e below _ T32 (mkF m 110 #[.val (.int p0), .val (.long p1), .second, .val (.long p2), .second, .val (.int p3), .val (.long p4), .second, .val (.long wm), .second, .val (.long wn), .second, .val (.long av), .second, .val (.long dv), .second, .val (.long bv), .second, .val (.int (p3 &&& (3 : Int32))), .val (.long xv), .second, .unset, .unset, .unset, .unset, .unset, .unset, .unset] [(.ref b32), (.ref b31), (.ref b31)])
            refine Go.by (T' := T32) (g' := (mkF m 116 #[.val (.int p0), .val (.long p1), .second, .val (.long p2), .second, .val (.int p3), .val (.long p4), .second, .val (.long wm), .second, .val (.long wn), .second, .val (.long av), .second, .val (.long dv), .second, .val (.long bv), .second, .val (.int (p3 &&& (3 : Int32))), .val (.long xv), .second, .unset, .unset, .unset, .unset, .unset, .unset, .unset] [(.long wm), (.long (5 : Int64)), (.ref b32), (.ref b32), (.ref b31), (.ref b31)])) (fun t k => ?_) ?_
            · show Steps p.tables e below (T32.setTop (mkF m 110 #[.val (.int p0), .val (.long p1), .second, .val (.long p2), .second, .val (.int p3), .val (.long p4), .second, .val (.long wm), .second, .val (.long wn), .second, .val (.long av), .second, .val (.long dv), .second, .val (.long bv), .second, .val (.int (p3 &&& (3 : Int32))), .val (.long xv), .second, .unset, .unset, .unset, .unset, .unset, .unset, .unset] [(.ref b32), (.ref b31), (.ref b31)])) _
              refine XS.dup X32.here hx rfl (hb hby at_110) rfl rfl ?_
              show Steps p.tables e below (T32.setTop (mkF m 111 #[.val (.int p0), .val (.long p1), .second, .val (.long p2), .second, .val (.int p3), .val (.long p4), .second, .val (.long wm), .second, .val (.long wn), .second, .val (.long av), .second, .val (.long dv), .second, .val (.long bv), .second, .val (.int (p3 &&& (3 : Int32))), .val (.long xv), .second, .unset, .unset, .unset, .unset, .unset, .unset, .unset] [(.ref b32), (.ref b32), (.ref b31), (.ref b31)])) _
              refine X32.ldc2Long hx hown (mvT hZ (wd hw 9 rfl)) (g := (mkF m 111 #[.val (.int p0), .val (.long p1), .second, .val (.long p2), .second, .val (.int p3), .val (.long p4), .second, .val (.long wm), .second, .val (.long wn), .second, .val (.long av), .second, .val (.long dv), .second, .val (.long bv), .second, .val (.int (p3 &&& (3 : Int32))), .val (.long xv), .second, .unset, .unset, .unset, .unset, .unset, .unset, .unset] [(.ref b32), (.ref b32), (.ref b31), (.ref b31)])) rfl (hb hby at_111) _ ?_
              show Steps p.tables e below (T32.setTop (mkF m 114 #[.val (.int p0), .val (.long p1), .second, .val (.long p2), .second, .val (.int p3), .val (.long p4), .second, .val (.long wm), .second, .val (.long wn), .second, .val (.long av), .second, .val (.long dv), .second, .val (.long bv), .second, .val (.int (p3 &&& (3 : Int32))), .val (.long xv), .second, .unset, .unset, .unset, .unset, .unset, .unset, .unset] [(.long (5 : Int64)), (.ref b32), (.ref b32), (.ref b31), (.ref b31)])) _
              refine XS.lload X32.here hx rfl (hb hby at_114) rfl ?_
              exact k
            refine Go.callC X32 hx hZ (W := 3) (argsL := [(.long (5 : Int64)), (.long wm)]) (rest := [(.ref b32), (.ref b31), (.ref b31)]) hown rfl (wd hw 10 rfl) (wd hw 11 rfl) (wd hw 8 rfl) (wd hw 12 rfl) (by decide) (ct_rinit l Z a0 hw w_MS S_MS E_MS F_MS1 F_MS2 b32 (5 : Int64) wm h32 n0 O E_b32 F_b32_maxOrders F_b32_windowMillis g_b32) e32 (by rw [hml]; rfl) (lenOf pd__JJ_V_1185 rfl) rfl rfl (hb hby at_116) (by decide) (by decide) (by decide) (by decide) ?_
            intro v33 T33 h33 L33 X33 e33 q33
            obtain ⟨rfl, N33, K33, F0_33, F1_33⟩ := q33
            replace N33 := Fr.app N0 N33
            replace E_b31 := E_b31.keep K33
            replace F_b31_times := F_b31_times.keep K33 (ninS ne_b31_b32 nin0)
            replace F_b31_now := F_b31_now.keep K33 (ninS ne_b31_b32 nin0)
            replace F_b31_rate := F_b31_rate.keep K33 (ninS ne_b31_b32 nin0)
            replace F_b31_windowNanos := F_b31_windowNanos.keep K33 (ninS ne_b31_b32 nin0)
            replace F_b31_count := F_b31_count.keep K33 (ninS ne_b31_b32 nin0)
            replace F_b31_head := F_b31_head.keep K33 (ninS ne_b31_b32 nin0)
            replace E_b32 := E_b32.keep K33
            clear F_b32_maxOrders
            clear F_b32_windowMillis
            replace O := O.keep K33 (allS g_b32 all0)
            show Go p e below _ T33 (mkF m 119 #[.val (.int p0), .val (.long p1), .second, .val (.long p2), .second, .val (.int p3), .val (.long p4), .second, .val (.long wm), .second, .val (.long wn), .second, .val (.long av), .second, .val (.long dv), .second, .val (.long bv), .second, .val (.int (p3 &&& (3 : Int32))), .val (.long xv), .second, .unset, .unset, .unset, .unset, .unset, .unset, .unset] [(.ref b32), (.ref b31), (.ref b31)])
            refine Go.callC X33 hx hZ (W := 1) (argsL := [(.ref b32)]) (rest := [(.ref b31)]) hown rfl (wd hw 20 rfl) (wd hw 21 rfl) (wd hw 5 rfl) (wd hw 22 rfl) (by decide) (ct_winit l Z a0 hw w_MS S_MS E_MS F_MS1 F_MS2 b31 b32 wm h33 n0 O E_b31 F_b31_rate F_b31_windowNanos F_b31_times F_b31_head F_b31_count F_b31_now g_b31 E_b32 F1_33 ne_b31_b32 hz1 hz2) e33 (by rw [hml]; rfl) (lenOf pd__Lcom_example_breakwater_breakwater_Orde_4493 rfl) rfl rfl (hb hby at_119) (by decide) (by decide) (by decide) (by decide) ?_
            intro v34 T34 h34 L34 X34 e34 q34
            obtain ⟨ar, kA, rfl, N34, K34, lb34, Fi0, Fi1, Fi2, Fi3, Fi4, V_ar⟩ := q34
            replace N34 := Fr.app N33 N34
            have ne_b31_ar : b31 ≠ ar := Nat.ne_of_lt (Nat.lt_of_lt_of_le E_b31.lt lb34)
            have ne_b32_ar : b32 ≠ ar := Nat.ne_of_lt (Nat.lt_of_lt_of_le E_b32.lt lb34)
            have g_ar : n0 ≤ ar := Nat.le_trans (OwnKit.Old.le O) lb34
            replace E_b31 := E_b31.keep K34
            clear F_b31_times
            clear F_b31_now
            clear F_b31_rate
            clear F_b31_windowNanos
            clear F_b31_count
            clear F_b31_head
            replace E_b32 := E_b32.keep K34
            replace F0_33 := F0_33.keep K34 (ninS (Ne.symm ne_b31_b32) nin0)
            replace F1_33 := F1_33.keep K34 (ninS (Ne.symm ne_b31_b32) nin0)
            replace O := O.keep K34 (allS g_b31 all0)
            replace V_ar : Arv Z h34 ar kA .long (16 : Int32) [(.long (0 : Int64)), (.long (0 : Int64)), (.long (0 : Int64))] (.long (0 : Int64)) := V_ar.pad (pad_rep3 _)
            rw [← hwn] at Fi0
            show Go p e below _ T34 (mkF m 122 #[.val (.int p0), .val (.long p1), .second, .val (.long p2), .second, .val (.int p3), .val (.long p4), .second, .val (.long wm), .second, .val (.long wn), .second, .val (.long av), .second, .val (.long dv), .second, .val (.long bv), .second, .val (.int (p3 &&& (3 : Int32))), .val (.long xv), .second, .unset, .unset, .unset, .unset, .unset, .unset, .unset] [(.ref b31)])
            refine Go.by (T' := T34) (g' := (mkF m 128 #[.val (.int p0), .val (.long p1), .second, .val (.long p2), .second, .val (.int p3), .val (.long p4), .second, .val (.long wm), .second, .val (.long wn), .second, .val (.long av), .second, .val (.long dv), .second, .val (.long bv), .second, .val (.int (p3 &&& (3 : Int32))), .val (.long xv), .second, .val (.ref b31), .unset, .unset, .unset, .unset, .unset, .unset] [(.long av), (.ref b31)])) (fun t k => ?_) ?_
            · show Steps p.tables e below (T34.setTop (mkF m 122 #[.val (.int p0), .val (.long p1), .second, .val (.long p2), .second, .val (.int p3), .val (.long p4), .second, .val (.long wm), .second, .val (.long wn), .second, .val (.long av), .second, .val (.long dv), .second, .val (.long bv), .second, .val (.int (p3 &&& (3 : Int32))), .val (.long xv), .second, .unset, .unset, .unset, .unset, .unset, .unset, .unset] [(.ref b31)])) _
              refine XS.astore X34.here hx rfl (hb hby at_122) rfl rfl (l' := #[.val (.int p0), .val (.long p1), .second, .val (.long p2), .second, .val (.int p3), .val (.long p4), .second, .val (.long wm), .second, .val (.long wn), .second, .val (.long av), .second, .val (.long dv), .second, .val (.long bv), .second, .val (.int (p3 &&& (3 : Int32))), .val (.long xv), .second, .val (.ref b31), .unset, .unset, .unset, .unset, .unset, .unset]) rfl ?_
              show Steps p.tables e below (T34.setTop (mkF m 124 #[.val (.int p0), .val (.long p1), .second, .val (.long p2), .second, .val (.int p3), .val (.long p4), .second, .val (.long wm), .second, .val (.long wn), .second, .val (.long av), .second, .val (.long dv), .second, .val (.long bv), .second, .val (.int (p3 &&& (3 : Int32))), .val (.long xv), .second, .val (.ref b31), .unset, .unset, .unset, .unset, .unset, .unset] [])) _
              refine XS.aload X34.here hx rfl (hb hby at_124) rfl rfl ?_
              show Steps p.tables e below (T34.setTop (mkF m 126 #[.val (.int p0), .val (.long p1), .second, .val (.long p2), .second, .val (.int p3), .val (.long p4), .second, .val (.long wm), .second, .val (.long wn), .second, .val (.long av), .second, .val (.long dv), .second, .val (.long bv), .second, .val (.int (p3 &&& (3 : Int32))), .val (.long xv), .second, .val (.ref b31), .unset, .unset, .unset, .unset, .unset, .unset] [(.ref b31)])) _
              refine XS.lload X34.here hx rfl (hb hby at_126) rfl ?_
              exact k
            refine Go.callV X34 hx hZ (W := 0) (argsL := [(.long av)]) (rest := []) hown (wd hw 50 rfl) (wd hw 51 rfl) (notFace_of_selects (args := #[]) (mvT hZ (wd hw 53 rfl))) (wd hw 53 rfl) (wd hw 52 rfl) (wd hw 5 rfl) (wd hw 54 rfl) (by decide) E_b31 (ct_move_0_0_0 l Z a0 hw w_MS S_MS E_MS F_MS1 F_MS2 b31 ar kA wn (-9223372036854775808 : Int64) (0 : Int64) (0 : Int64) (0 : Int64) av h34 n0 O E_b31 Fi0 Fi1 Fi2 Fi3 Fi4 V_ar g_b31 g_ar ne_b31_ar (own_min _)) e34 (by rw [hml]; rfl) (lenOf pd__J_Z_8741 rfl) rfl rfl (hb hby at_128) (by decide) (by decide) (by decide) (by decide) ?_
            intro v35 T35 h35 L35 X35 e35 q35
            obtain ⟨rfl, N35, K35, Fi0_35, Fi1_35, Fi2_35, Fi3_35, Fi4_35, V_a35⟩ := q35
            replace N35 := Fr.app N34 N35
            replace E_b31 := E_b31.keep K35
            replace E_b32 := E_b32.keep K35
            replace F0_33 := F0_33.keep K35 (ninS (Ne.symm ne_b31_b32) (ninS ne_b32_ar nin0))
            replace F1_33 := F1_33.keep K35 (ninS (Ne.symm ne_b31_b32) (ninS ne_b32_ar nin0))
            clear Fi0
            clear Fi1
            clear Fi2
            clear Fi3
            clear Fi4
            clear V_ar
            replace O := O.keep K35 (allS g_b31 (allS g_ar all0))
            have V_ar := V_a35
            show Go p e below _ T35 (mkF m 131 #[.val (.int p0), .val (.long p1), .second, .val (.long p2), .second, .val (.int p3), .val (.long p4), .second, .val (.long wm), .second, .val (.long wn), .second, .val (.long av), .second, .val (.long dv), .second, .val (.long bv), .second, .val (.int (p3 &&& (3 : Int32))), .val (.long xv), .second, .val (.ref b31), .unset, .unset, .unset, .unset, .unset, .unset] [(.int (1 : Int32))])
            refine Go.by (T' := T35) (g' := (mkF m 134 #[.val (.int p0), .val (.long p1), .second, .val (.long p2), .second, .val (.int p3), .val (.long p4), .second, .val (.long wm), .second, .val (.long wn), .second, .val (.long av), .second, .val (.long dv), .second, .val (.long bv), .second, .val (.int (p3 &&& (3 : Int32))), .val (.long xv), .second, .val (.ref b31), .unset, .unset, .unset, .unset, .unset, .unset] [(.ref b31)])) (fun t k => ?_) ?_
            · show Steps p.tables e below (T35.setTop (mkF m 131 #[.val (.int p0), .val (.long p1), .second, .val (.long p2), .second, .val (.int p3), .val (.long p4), .second, .val (.long wm), .second, .val (.long wn), .second, .val (.long av), .second, .val (.long dv), .second, .val (.long bv), .second, .val (.int (p3 &&& (3 : Int32))), .val (.long xv), .second, .val (.ref b31), .unset, .unset, .unset, .unset, .unset, .unset] [(.int (1 : Int32))])) _
              refine XS.pop X35.here hx rfl (hb hby at_131) rfl rfl ?_
              show Steps p.tables e below (T35.setTop (mkF m 132 #[.val (.int p0), .val (.long p1), .second, .val (.long p2), .second, .val (.int p3), .val (.long p4), .second, .val (.long wm), .second, .val (.long wn), .second, .val (.long av), .second, .val (.long dv), .second, .val (.long bv), .second, .val (.int (p3 &&& (3 : Int32))), .val (.long xv), .second, .val (.ref b31), .unset, .unset, .unset, .unset, .unset, .unset] [])) _
              refine XS.aload X35.here hx rfl (hb hby at_132) rfl rfl ?_
              exact k
            refine Go.callV X35 hx hZ (W := 0) (argsL := []) (rest := []) hown (wd hw 57 rfl) (wd hw 58 rfl) (notFace_of_selects (args := #[]) (mvT hZ (wd hw 60 rfl))) (wd hw 60 rfl) (wd hw 59 rfl) (wd hw 5 rfl) (wd hw 61 rfl) (by decide) E_b31 (ct_add_0_0 l Z a0 hw w_MS S_MS E_MS F_MS1 F_MS2 b31 ar kA wn av (0 : Int64) (0 : Int64) (0 : Int64) h35 n0 O E_b31 Fi0_35 Fi1_35 Fi2_35 Fi3_35 Fi4_35 V_ar g_b31 g_ar ne_b31_ar) e35 (by rw [hml]; rfl) (lenOf pd___V_8334 rfl) rfl rfl (hb hby at_134) (by decide) (by decide) (by decide) (by decide) ?_
            intro v36 T36 h36 L36 X36 e36 q36
            obtain ⟨rfl, N36, K36, Fi0_36, Fi1_36, Fi2_36, Fi3_36, Fi4_36, V_a36⟩ := q36
            replace N36 := Fr.app N35 N36
            replace E_b31 := E_b31.keep K36
            replace E_b32 := E_b32.keep K36
            replace F0_33 := F0_33.keep K36 (ninS (Ne.symm ne_b31_b32) (ninS ne_b32_ar nin0))
            replace F1_33 := F1_33.keep K36 (ninS (Ne.symm ne_b31_b32) (ninS ne_b32_ar nin0))
            clear Fi0_35
            clear Fi1_35
            clear Fi2_35
            clear Fi3_35
            clear Fi4_35
            clear V_ar
            replace O := O.keep K36 (allS g_b31 (allS g_ar all0))
            have V_ar := V_a36
            show Go p e below _ T36 (mkF m 137 #[.val (.int p0), .val (.long p1), .second, .val (.long p2), .second, .val (.int p3), .val (.long p4), .second, .val (.long wm), .second, .val (.long wn), .second, .val (.long av), .second, .val (.long dv), .second, .val (.long bv), .second, .val (.int (p3 &&& (3 : Int32))), .val (.long xv), .second, .val (.ref b31), .unset, .unset, .unset, .unset, .unset, .unset] [])
            refine Go.by (T' := T36) (g' := (mkF m 141 #[.val (.int p0), .val (.long p1), .second, .val (.long p2), .second, .val (.int p3), .val (.long p4), .second, .val (.long wm), .second, .val (.long wn), .second, .val (.long av), .second, .val (.long dv), .second, .val (.long bv), .second, .val (.int (p3 &&& (3 : Int32))), .val (.long xv), .second, .val (.ref b31), .unset, .unset, .unset, .unset, .unset, .unset] [(.long bv), (.ref b31)])) (fun t k => ?_) ?_
            · show Steps p.tables e below (T36.setTop (mkF m 137 #[.val (.int p0), .val (.long p1), .second, .val (.long p2), .second, .val (.int p3), .val (.long p4), .second, .val (.long wm), .second, .val (.long wn), .second, .val (.long av), .second, .val (.long dv), .second, .val (.long bv), .second, .val (.int (p3 &&& (3 : Int32))), .val (.long xv), .second, .val (.ref b31), .unset, .unset, .unset, .unset, .unset, .unset] [])) _
              refine XS.aload X36.here hx rfl (hb hby at_137) rfl rfl ?_
              show Steps p.tables e below (T36.setTop (mkF m 139 #[.val (.int p0), .val (.long p1), .second, .val (.long p2), .second, .val (.int p3), .val (.long p4), .second, .val (.long wm), .second, .val (.long wn), .second, .val (.long av), .second, .val (.long dv), .second, .val (.long bv), .second, .val (.int (p3 &&& (3 : Int32))), .val (.long xv), .second, .val (.ref b31), .unset, .unset, .unset, .unset, .unset, .unset] [(.ref b31)])) _
              refine XS.lload X36.here hx rfl (hb hby at_139) rfl ?_
              exact k
            refine Go.callV X36 hx hZ (W := 0) (argsL := [(.long bv)]) (rest := []) hown (wd hw 50 rfl) (wd hw 51 rfl) (notFace_of_selects (args := #[]) (mvT hZ (wd hw 53 rfl))) (wd hw 53 rfl) (wd hw 52 rfl) (wd hw 5 rfl) (wd hw 54 rfl) (by decide) E_b31 (ct_move_0_1_0 l Z a0 hw w_MS S_MS E_MS F_MS1 F_MS2 b31 ar kA wn av av (0 : Int64) (0 : Int64) bv h36 n0 O E_b31 Fi0_36 Fi1_36 Fi2_36 Fi3_36 Fi4_36 V_ar g_b31 g_ar ne_b31_ar (own_ge hbv ha hd) (own_k1 hbv ha hd hy29)) e36 (by rw [hml]; rfl) (lenOf pd__J_Z_8741 rfl) rfl rfl (hb hby at_141) (by decide) (by decide) (by decide) (by decide) ?_
            intro v37 T37 h37 L37 X37 e37 q37
            obtain ⟨rfl, N37, K37, Fi0_37, Fi1_37, Fi2_37, Fi3_37, Fi4_37, V_a37⟩ := q37
            replace N37 := Fr.app N36 N37
            replace E_b31 := E_b31.keep K37
            replace E_b32 := E_b32.keep K37
            replace F0_33 := F0_33.keep K37 (ninS (Ne.symm ne_b31_b32) (ninS ne_b32_ar nin0))
            replace F1_33 := F1_33.keep K37 (ninS (Ne.symm ne_b31_b32) (ninS ne_b32_ar nin0))
            clear Fi0_36
            clear Fi1_36
            clear Fi2_36
            clear Fi3_36
            clear Fi4_36
            clear V_ar
            replace O := O.keep K37 (allS g_b31 (allS g_ar all0))
            have V_ar := V_a37
            show Go p e below _ T37 (mkF m 144 #[.val (.int p0), .val (.long p1), .second, .val (.long p2), .second, .val (.int p3), .val (.long p4), .second, .val (.long wm), .second, .val (.long wn), .second, .val (.long av), .second, .val (.long dv), .second, .val (.long bv), .second, .val (.int (p3 &&& (3 : Int32))), .val (.long xv), .second, .val (.ref b31), .unset, .unset, .unset, .unset, .unset, .unset] [(.int (1 : Int32))])
            refine Go.by (T' := T37) (g' := (mkF m 147 #[.val (.int p0), .val (.long p1), .second, .val (.long p2), .second, .val (.int p3), .val (.long p4), .second, .val (.long wm), .second, .val (.long wn), .second, .val (.long av), .second, .val (.long dv), .second, .val (.long bv), .second, .val (.int (p3 &&& (3 : Int32))), .val (.long xv), .second, .val (.ref b31), .unset, .unset, .unset, .unset, .unset, .unset] [(.ref b31)])) (fun t k => ?_) ?_
            · show Steps p.tables e below (T37.setTop (mkF m 144 #[.val (.int p0), .val (.long p1), .second, .val (.long p2), .second, .val (.int p3), .val (.long p4), .second, .val (.long wm), .second, .val (.long wn), .second, .val (.long av), .second, .val (.long dv), .second, .val (.long bv), .second, .val (.int (p3 &&& (3 : Int32))), .val (.long xv), .second, .val (.ref b31), .unset, .unset, .unset, .unset, .unset, .unset] [(.int (1 : Int32))])) _
              refine XS.pop X37.here hx rfl (hb hby at_144) rfl rfl ?_
              show Steps p.tables e below (T37.setTop (mkF m 145 #[.val (.int p0), .val (.long p1), .second, .val (.long p2), .second, .val (.int p3), .val (.long p4), .second, .val (.long wm), .second, .val (.long wn), .second, .val (.long av), .second, .val (.long dv), .second, .val (.long bv), .second, .val (.int (p3 &&& (3 : Int32))), .val (.long xv), .second, .val (.ref b31), .unset, .unset, .unset, .unset, .unset, .unset] [])) _
              refine XS.aload X37.here hx rfl (hb hby at_145) rfl rfl ?_
              exact k
            refine Go.callV X37 hx hZ (W := 0) (argsL := []) (rest := []) hown (wd hw 57 rfl) (wd hw 58 rfl) (notFace_of_selects (args := #[]) (mvT hZ (wd hw 60 rfl))) (wd hw 60 rfl) (wd hw 59 rfl) (wd hw 5 rfl) (wd hw 61 rfl) (by decide) E_b31 (ct_add_0_1 l Z a0 hw w_MS S_MS E_MS F_MS1 F_MS2 b31 ar kA wn bv av (0 : Int64) (0 : Int64) h37 n0 O E_b31 Fi0_37 Fi1_37 Fi2_37 Fi3_37 Fi4_37 V_ar g_b31 g_ar ne_b31_ar) e37 (by rw [hml]; rfl) (lenOf pd___V_8334 rfl) rfl rfl (hb hby at_147) (by decide) (by decide) (by decide) (by decide) ?_
            intro v38 T38 h38 L38 X38 e38 q38
            obtain ⟨rfl, N38, K38, Fi0_38, Fi1_38, Fi2_38, Fi3_38, Fi4_38, V_a38⟩ := q38
            replace N38 := Fr.app N37 N38
            replace E_b31 := E_b31.keep K38
            replace E_b32 := E_b32.keep K38
            replace F0_33 := F0_33.keep K38 (ninS (Ne.symm ne_b31_b32) (ninS ne_b32_ar nin0))
            replace F1_33 := F1_33.keep K38 (ninS (Ne.symm ne_b31_b32) (ninS ne_b32_ar nin0))
            clear Fi0_37
            clear Fi1_37
            clear Fi2_37
            clear Fi3_37
            clear Fi4_37
            clear V_ar
            replace O := O.keep K38 (allS g_b31 (allS g_ar all0))
            have V_ar := V_a38
            show Go p e below _ T38 (mkF m 150 #[.val (.int p0), .val (.long p1), .second, .val (.long p2), .second, .val (.int p3), .val (.long p4), .second, .val (.long wm), .second, .val (.long wn), .second, .val (.long av), .second, .val (.long dv), .second, .val (.long bv), .second, .val (.int (p3 &&& (3 : Int32))), .val (.long xv), .second, .val (.ref b31), .unset, .unset, .unset, .unset, .unset, .unset] [])
            refine Go.by (T' := T38) (g' := (mkF m 154 #[.val (.int p0), .val (.long p1), .second, .val (.long p2), .second, .val (.int p3), .val (.long p4), .second, .val (.long wm), .second, .val (.long wn), .second, .val (.long av), .second, .val (.long dv), .second, .val (.long bv), .second, .val (.int (p3 &&& (3 : Int32))), .val (.long xv), .second, .val (.ref b31), .unset, .unset, .unset, .unset, .unset, .unset] [(.long xv), (.ref b31)])) (fun t k => ?_) ?_
            · show Steps p.tables e below (T38.setTop (mkF m 150 #[.val (.int p0), .val (.long p1), .second, .val (.long p2), .second, .val (.int p3), .val (.long p4), .second, .val (.long wm), .second, .val (.long wn), .second, .val (.long av), .second, .val (.long dv), .second, .val (.long bv), .second, .val (.int (p3 &&& (3 : Int32))), .val (.long xv), .second, .val (.ref b31), .unset, .unset, .unset, .unset, .unset, .unset] [])) _
              refine XS.aload X38.here hx rfl (hb hby at_150) rfl rfl ?_
              show Steps p.tables e below (T38.setTop (mkF m 152 #[.val (.int p0), .val (.long p1), .second, .val (.long p2), .second, .val (.int p3), .val (.long p4), .second, .val (.long wm), .second, .val (.long wn), .second, .val (.long av), .second, .val (.long dv), .second, .val (.long bv), .second, .val (.int (p3 &&& (3 : Int32))), .val (.long xv), .second, .val (.ref b31), .unset, .unset, .unset, .unset, .unset, .unset] [(.ref b31)])) _
              refine XS.lload X38.here hx rfl (hb hby at_152) rfl ?_
              exact k
            refine Go.callV X38 hx hZ (W := 0) (argsL := [(.long xv)]) (rest := []) hown (wd hw 64 rfl) (wd hw 65 rfl) (notFace_of_selects (args := #[]) (mvT hZ (wd hw 67 rfl))) (wd hw 67 rfl) (wd hw 66 rfl) (wd hw 5 rfl) (wd hw 68 rfl) (by decide) E_b31 (ct_remove_0_2_1 l Z a0 hw w_MS S_MS E_MS F_MS1 F_MS2 b31 ar kA wn bv av bv (0 : Int64) xv h38 n0 O E_b31 Fi0_38 Fi1_38 Fi2_38 Fi3_38 Fi4_38 V_ar g_b31 g_ar ne_b31_ar hy30.symm) e38 (by rw [hml]; rfl) (lenOf pd__J_V_8737 rfl) rfl rfl (hb hby at_154) (by decide) (by decide) (by decide) (by decide) ?_
            intro v39 T39 h39 L39 X39 e39 q39
            obtain ⟨rfl, N39, K39, Fi0_39, Fi1_39, Fi2_39, Fi3_39, Fi4_39, V_a39⟩ := q39
            replace N39 := Fr.app N38 N39
            replace E_b31 := E_b31.keep K39
            replace E_b32 := E_b32.keep K39
            replace F0_33 := F0_33.keep K39 (ninS (Ne.symm ne_b31_b32) (ninS ne_b32_ar nin0))
            replace F1_33 := F1_33.keep K39 (ninS (Ne.symm ne_b31_b32) (ninS ne_b32_ar nin0))
            clear Fi0_38
            clear Fi1_38
            clear Fi2_38
            clear Fi3_38
            clear Fi4_38
            clear V_ar
            replace O := O.keep K39 (allS g_b31 (allS g_ar all0))
            have V_ar := V_a39
            show Go p e below _ T39 (mkF m 157 #[.val (.int p0), .val (.long p1), .second, .val (.long p2), .second, .val (.int p3), .val (.long p4), .second, .val (.long wm), .second, .val (.long wn), .second, .val (.long av), .second, .val (.long dv), .second, .val (.long bv), .second, .val (.int (p3 &&& (3 : Int32))), .val (.long xv), .second, .val (.ref b31), .unset, .unset, .unset, .unset, .unset, .unset] [])
            refine Go.by (T' := T39) (g' := (mkF m 159 #[.val (.int p0), .val (.long p1), .second, .val (.long p2), .second, .val (.int p3), .val (.long p4), .second, .val (.long wm), .second, .val (.long wn), .second, .val (.long av), .second, .val (.long dv), .second, .val (.long bv), .second, .val (.int (p3 &&& (3 : Int32))), .val (.long xv), .second, .val (.ref b31), .unset, .unset, .unset, .unset, .unset, .unset] [(.ref b31)])) (fun t k => ?_) ?_
            · show Steps p.tables e below (T39.setTop (mkF m 157 #[.val (.int p0), .val (.long p1), .second, .val (.long p2), .second, .val (.int p3), .val (.long p4), .second, .val (.long wm), .second, .val (.long wn), .second, .val (.long av), .second, .val (.long dv), .second, .val (.long bv), .second, .val (.int (p3 &&& (3 : Int32))), .val (.long xv), .second, .val (.ref b31), .unset, .unset, .unset, .unset, .unset, .unset] [])) _
              refine XS.aload X39.here hx rfl (hb hby at_157) rfl rfl ?_
              exact k
            refine Go.callV X39 hx hZ (W := 0) (argsL := []) (rest := []) hown (wd hw 69 rfl) (wd hw 70 rfl) (notFace_of_selects (args := #[]) (mvT hZ (wd hw 72 rfl))) (wd hw 72 rfl) (wd hw 71 rfl) (wd hw 5 rfl) (wd hw 73 rfl) (by decide) E_b31 (ct_get_count_l_1___Int32__5 l Z a0 hw  b31 h39 n0 O Fi3_39) e39 (by rw [hml]; rfl) (lenOf pd___I_8321 rfl) rfl rfl (hb hby at_159) (by decide) (by decide) (by decide) (by decide) ?_
            intro v40 T40 h40 L40 X40 e40 q40
            obtain ⟨rfl, N40, rfl⟩ := q40
            replace N40 := Fr.app N39 N40
            show Go p e below _ T40 (mkF m 162 #[.val (.int p0), .val (.long p1), .second, .val (.long p2), .second, .val (.int p3), .val (.long p4), .second, .val (.long wm), .second, .val (.long wn), .second, .val (.long av), .second, .val (.long dv), .second, .val (.long bv), .second, .val (.int (p3 &&& (3 : Int32))), .val (.long xv), .second, .val (.ref b31), .unset, .unset, .unset, .unset, .unset, .unset] [(.int (1 : Int32))])
            refine Go.by (T' := T40) (g' := (mkF m 173 #[.val (.int p0), .val (.long p1), .second, .val (.long p2), .second, .val (.int p3), .val (.long p4), .second, .val (.long wm), .second, .val (.long wn), .second, .val (.long av), .second, .val (.long dv), .second, .val (.long bv), .second, .val (.int (p3 &&& (3 : Int32))), .val (.long xv), .second, .val (.ref b31), .val (.int (1 : Int32)), .unset, .unset, .unset, .unset, .unset] [(.long ((bv + wn) - (1 : Int64))), (.ref b31)])) (fun t k => ?_) ?_
            · show Steps p.tables e below (T40.setTop (mkF m 162 #[.val (.int p0), .val (.long p1), .second, .val (.long p2), .second, .val (.int p3), .val (.long p4), .second, .val (.long wm), .second, .val (.long wn), .second, .val (.long av), .second, .val (.long dv), .second, .val (.long bv), .second, .val (.int (p3 &&& (3 : Int32))), .val (.long xv), .second, .val (.ref b31), .unset, .unset, .unset, .unset, .unset, .unset] [(.int (1 : Int32))])) _
              refine XS.istore X40.here hx rfl (hb hby at_162) rfl (l' := #[.val (.int p0), .val (.long p1), .second, .val (.long p2), .second, .val (.int p3), .val (.long p4), .second, .val (.long wm), .second, .val (.long wn), .second, .val (.long av), .second, .val (.long dv), .second, .val (.long bv), .second, .val (.int (p3 &&& (3 : Int32))), .val (.long xv), .second, .val (.ref b31), .val (.int (1 : Int32)), .unset, .unset, .unset, .unset, .unset]) rfl ?_
              show Steps p.tables e below (T40.setTop (mkF m 164 #[.val (.int p0), .val (.long p1), .second, .val (.long p2), .second, .val (.int p3), .val (.long p4), .second, .val (.long wm), .second, .val (.long wn), .second, .val (.long av), .second, .val (.long dv), .second, .val (.long bv), .second, .val (.int (p3 &&& (3 : Int32))), .val (.long xv), .second, .val (.ref b31), .val (.int (1 : Int32)), .unset, .unset, .unset, .unset, .unset] [])) _
              refine XS.aload X40.here hx rfl (hb hby at_164) rfl rfl ?_
              show Steps p.tables e below (T40.setTop (mkF m 166 #[.val (.int p0), .val (.long p1), .second, .val (.long p2), .second, .val (.int p3), .val (.long p4), .second, .val (.long wm), .second, .val (.long wn), .second, .val (.long av), .second, .val (.long dv), .second, .val (.long bv), .second, .val (.int (p3 &&& (3 : Int32))), .val (.long xv), .second, .val (.ref b31), .val (.int (1 : Int32)), .unset, .unset, .unset, .unset, .unset] [(.ref b31)])) _
              refine XS.lload X40.here hx rfl (hb hby at_166) rfl ?_
              show Steps p.tables e below (T40.setTop (mkF m 168 #[.val (.int p0), .val (.long p1), .second, .val (.long p2), .second, .val (.int p3), .val (.long p4), .second, .val (.long wm), .second, .val (.long wn), .second, .val (.long av), .second, .val (.long dv), .second, .val (.long bv), .second, .val (.int (p3 &&& (3 : Int32))), .val (.long xv), .second, .val (.ref b31), .val (.int (1 : Int32)), .unset, .unset, .unset, .unset, .unset] [(.long bv), (.ref b31)])) _
              refine XS.lload X40.here hx rfl (hb hby at_168) rfl ?_
              show Steps p.tables e below (T40.setTop (mkF m 170 #[.val (.int p0), .val (.long p1), .second, .val (.long p2), .second, .val (.int p3), .val (.long p4), .second, .val (.long wm), .second, .val (.long wn), .second, .val (.long av), .second, .val (.long dv), .second, .val (.long bv), .second, .val (.int (p3 &&& (3 : Int32))), .val (.long xv), .second, .val (.ref b31), .val (.int (1 : Int32)), .unset, .unset, .unset, .unset, .unset] [(.long wn), (.long bv), (.ref b31)])) _
              refine XS.ladd X40.here hx rfl (hb hby at_170) rfl ?_
              show Steps p.tables e below (T40.setTop (mkF m 171 #[.val (.int p0), .val (.long p1), .second, .val (.long p2), .second, .val (.int p3), .val (.long p4), .second, .val (.long wm), .second, .val (.long wn), .second, .val (.long av), .second, .val (.long dv), .second, .val (.long bv), .second, .val (.int (p3 &&& (3 : Int32))), .val (.long xv), .second, .val (.ref b31), .val (.int (1 : Int32)), .unset, .unset, .unset, .unset, .unset] [(.long (bv + wn)), (.ref b31)])) _
              refine XS.lconst X40.here hx rfl (hb hby at_171) ?_
              show Steps p.tables e below (T40.setTop (mkF m 172 #[.val (.int p0), .val (.long p1), .second, .val (.long p2), .second, .val (.int p3), .val (.long p4), .second, .val (.long wm), .second, .val (.long wn), .second, .val (.long av), .second, .val (.long dv), .second, .val (.long bv), .second, .val (.int (p3 &&& (3 : Int32))), .val (.long xv), .second, .val (.ref b31), .val (.int (1 : Int32)), .unset, .unset, .unset, .unset, .unset] [(.long (1 : Int64)), (.long (bv + wn)), (.ref b31)])) _
              refine XS.lsub X40.here hx rfl (hb hby at_172) rfl ?_
              exact k
            refine Go.callV X40 hx hZ (W := 0) (argsL := [(.long ((bv + wn) - (1 : Int64)))]) (rest := []) hown (wd hw 50 rfl) (wd hw 51 rfl) (notFace_of_selects (args := #[]) (mvT hZ (wd hw 53 rfl))) (wd hw 53 rfl) (wd hw 52 rfl) (wd hw 5 rfl) (wd hw 54 rfl) (by decide) E_b31 (ct_move_0_1_1 l Z a0 hw w_MS S_MS E_MS F_MS1 F_MS2 b31 ar kA wn bv av bv (0 : Int64) ((bv + wn) - (1 : Int64)) h39 n0 O E_b31 Fi0_39 Fi1_39 Fi2_39 Fi3_39 Fi4_39 V_ar g_b31 g_ar ne_b31_ar (own_t3 hbv ha hd hwr) (own_s3 hbv ha hd hwr hy3)) e40 (by rw [hml]; rfl) (lenOf pd__J_Z_8741 rfl) rfl rfl (hb hby at_173) (by decide) (by decide) (by decide) (by decide) ?_
            intro v41 T41 h41 L41 X41 e41 q41
            obtain ⟨rfl, N41, K41, Fi0_41, Fi1_41, Fi2_41, Fi3_41, Fi4_41, V_a41⟩ := q41
            replace N41 := Fr.app N40 N41
            replace E_b31 := E_b31.keep K41
            replace E_b32 := E_b32.keep K41
            replace F0_33 := F0_33.keep K41 (ninS (Ne.symm ne_b31_b32) (ninS ne_b32_ar nin0))
            replace F1_33 := F1_33.keep K41 (ninS (Ne.symm ne_b31_b32) (ninS ne_b32_ar nin0))
            clear Fi0_39
            clear Fi1_39
            clear Fi2_39
            clear Fi3_39
            clear Fi4_39
            clear V_ar
            replace O := O.keep K41 (allS g_b31 (allS g_ar all0))
            have V_ar := V_a41
            show Go p e below _ T41 (mkF m 176 #[.val (.int p0), .val (.long p1), .second, .val (.long p2), .second, .val (.int p3), .val (.long p4), .second, .val (.long wm), .second, .val (.long wn), .second, .val (.long av), .second, .val (.long dv), .second, .val (.long bv), .second, .val (.int (p3 &&& (3 : Int32))), .val (.long xv), .second, .val (.ref b31), .val (.int (1 : Int32)), .unset, .unset, .unset, .unset, .unset] [(.int (1 : Int32))])
            refine Go.by (T' := T41) (g' := (mkF m 180 #[.val (.int p0), .val (.long p1), .second, .val (.long p2), .second, .val (.int p3), .val (.long p4), .second, .val (.long wm), .second, .val (.long wn), .second, .val (.long av), .second, .val (.long dv), .second, .val (.long bv), .second, .val (.int (p3 &&& (3 : Int32))), .val (.long xv), .second, .val (.ref b31), .val (.int (1 : Int32)), .val (.int (1 : Int32)), .unset, .unset, .unset, .unset] [(.ref b31)])) (fun t k => ?_) ?_
            · show Steps p.tables e below (T41.setTop (mkF m 176 #[.val (.int p0), .val (.long p1), .second, .val (.long p2), .second, .val (.int p3), .val (.long p4), .second, .val (.long wm), .second, .val (.long wn), .second, .val (.long av), .second, .val (.long dv), .second, .val (.long bv), .second, .val (.int (p3 &&& (3 : Int32))), .val (.long xv), .second, .val (.ref b31), .val (.int (1 : Int32)), .unset, .unset, .unset, .unset, .unset] [(.int (1 : Int32))])) _
              refine XS.istore X41.here hx rfl (hb hby at_176) rfl (l' := #[.val (.int p0), .val (.long p1), .second, .val (.long p2), .second, .val (.int p3), .val (.long p4), .second, .val (.long wm), .second, .val (.long wn), .second, .val (.long av), .second, .val (.long dv), .second, .val (.long bv), .second, .val (.int (p3 &&& (3 : Int32))), .val (.long xv), .second, .val (.ref b31), .val (.int (1 : Int32)), .val (.int (1 : Int32)), .unset, .unset, .unset, .unset]) rfl ?_
              show Steps p.tables e below (T41.setTop (mkF m 178 #[.val (.int p0), .val (.long p1), .second, .val (.long p2), .second, .val (.int p3), .val (.long p4), .second, .val (.long wm), .second, .val (.long wn), .second, .val (.long av), .second, .val (.long dv), .second, .val (.long bv), .second, .val (.int (p3 &&& (3 : Int32))), .val (.long xv), .second, .val (.ref b31), .val (.int (1 : Int32)), .val (.int (1 : Int32)), .unset, .unset, .unset, .unset] [])) _
              refine XS.aload X41.here hx rfl (hb hby at_178) rfl rfl ?_
              exact k
            refine Go.callV X41 hx hZ (W := 0) (argsL := []) (rest := []) hown (wd hw 69 rfl) (wd hw 70 rfl) (notFace_of_selects (args := #[]) (mvT hZ (wd hw 72 rfl))) (wd hw 72 rfl) (wd hw 71 rfl) (wd hw 5 rfl) (wd hw 73 rfl) (by decide) E_b31 (ct_get_count_l_0___Int32__10 l Z a0 hw  b31 h41 n0 O Fi3_41) e41 (by rw [hml]; rfl) (lenOf pd___I_8321 rfl) rfl rfl (hb hby at_180) (by decide) (by decide) (by decide) (by decide) ?_
            intro v42 T42 h42 L42 X42 e42 q42
            obtain ⟨rfl, N42, rfl⟩ := q42
            replace N42 := Fr.app N41 N42
            show Go p e below _ T42 (mkF m 183 #[.val (.int p0), .val (.long p1), .second, .val (.long p2), .second, .val (.int p3), .val (.long p4), .second, .val (.long wm), .second, .val (.long wn), .second, .val (.long av), .second, .val (.long dv), .second, .val (.long bv), .second, .val (.int (p3 &&& (3 : Int32))), .val (.long xv), .second, .val (.ref b31), .val (.int (1 : Int32)), .val (.int (1 : Int32)), .unset, .unset, .unset, .unset] [(.int (0 : Int32))])
            refine Go.by (T' := T42) (g' := (mkF m 299 #[.val (.int p0), .val (.long p1), .second, .val (.long p2), .second, .val (.int p3), .val (.long p4), .second, .val (.long wm), .second, .val (.long wn), .second, .val (.long av), .second, .val (.long dv), .second, .val (.long bv), .second, .val (.int (p3 &&& (3 : Int32))), .val (.long xv), .second, .val (.ref b31), .val (.int (1 : Int32)), .val (.int (1 : Int32)), .val (.int (0 : Int32)), .val (.int (1 : Int32)), .val (.int (1 : Int32)), .val (.int (0 : Int32))] [(.int (1 : Int32))])) (fun t k => ?_) ?_
            · show Steps p.tables e below (T42.setTop (mkF m 183 #[.val (.int p0), .val (.long p1), .second, .val (.long p2), .second, .val (.int p3), .val (.long p4), .second, .val (.long wm), .second, .val (.long wn), .second, .val (.long av), .second, .val (.long dv), .second, .val (.long bv), .second, .val (.int (p3 &&& (3 : Int32))), .val (.long xv), .second, .val (.ref b31), .val (.int (1 : Int32)), .val (.int (1 : Int32)), .unset, .unset, .unset, .unset] [(.int (0 : Int32))])) _
              refine XS.istore X42.here hx rfl (hb hby at_183) rfl (l' := #[.val (.int p0), .val (.long p1), .second, .val (.long p2), .second, .val (.int p3), .val (.long p4), .second, .val (.long wm), .second, .val (.long wn), .second, .val (.long av), .second, .val (.long dv), .second, .val (.long bv), .second, .val (.int (p3 &&& (3 : Int32))), .val (.long xv), .second, .val (.ref b31), .val (.int (1 : Int32)), .val (.int (1 : Int32)), .val (.int (0 : Int32)), .unset, .unset, .unset]) rfl ?_
              show Steps p.tables e below (T42.setTop (mkF m 185 #[.val (.int p0), .val (.long p1), .second, .val (.long p2), .second, .val (.int p3), .val (.long p4), .second, .val (.long wm), .second, .val (.long wn), .second, .val (.long av), .second, .val (.long dv), .second, .val (.long bv), .second, .val (.int (p3 &&& (3 : Int32))), .val (.long xv), .second, .val (.ref b31), .val (.int (1 : Int32)), .val (.int (1 : Int32)), .val (.int (0 : Int32)), .unset, .unset, .unset] [])) _
              refine XS.lload X42.here hx rfl (hb hby at_185) rfl ?_
              show Steps p.tables e below (T42.setTop (mkF m 187 #[.val (.int p0), .val (.long p1), .second, .val (.long p2), .second, .val (.int p3), .val (.long p4), .second, .val (.long wm), .second, .val (.long wn), .second, .val (.long av), .second, .val (.long dv), .second, .val (.long bv), .second, .val (.int (p3 &&& (3 : Int32))), .val (.long xv), .second, .val (.ref b31), .val (.int (1 : Int32)), .val (.int (1 : Int32)), .val (.int (0 : Int32)), .unset, .unset, .unset] [(.long dv)])) _
              refine XS.lload X42.here hx rfl (hb hby at_187) rfl ?_
              show Steps p.tables e below (T42.setTop (mkF m 189 #[.val (.int p0), .val (.long p1), .second, .val (.long p2), .second, .val (.int p3), .val (.long p4), .second, .val (.long wm), .second, .val (.long wn), .second, .val (.long av), .second, .val (.long dv), .second, .val (.long bv), .second, .val (.int (p3 &&& (3 : Int32))), .val (.long xv), .second, .val (.ref b31), .val (.int (1 : Int32)), .val (.int (1 : Int32)), .val (.int (0 : Int32)), .unset, .unset, .unset] [(.long wn), (.long dv)])) _
              refine XS.lcmp X42.here hx rfl (hb hby at_189) rfl ?_
              show Steps p.tables e below (T42.setTop (mkF m 190 #[.val (.int p0), .val (.long p1), .second, .val (.long p2), .second, .val (.int p3), .val (.long p4), .second, .val (.long wm), .second, .val (.long wn), .second, .val (.long av), .second, .val (.long dv), .second, .val (.long bv), .second, .val (.int (p3 &&& (3 : Int32))), .val (.long xv), .second, .val (.ref b31), .val (.int (1 : Int32)), .val (.int (1 : Int32)), .val (.int (0 : Int32)), .unset, .unset, .unset] [(.int (lcmpW dv wn))])) _
              refine XS.ifNo X42.here hx rfl (hb hby at_190) rfl ((if0 _ _).trans (tlt ((lw_lt _ _).mpr hy29)).2.1) ?_
              show Steps p.tables e below (T42.setTop (mkF m 193 #[.val (.int p0), .val (.long p1), .second, .val (.long p2), .second, .val (.int p3), .val (.long p4), .second, .val (.long wm), .second, .val (.long wn), .second, .val (.long av), .second, .val (.long dv), .second, .val (.long bv), .second, .val (.int (p3 &&& (3 : Int32))), .val (.long xv), .second, .val (.ref b31), .val (.int (1 : Int32)), .val (.int (1 : Int32)), .val (.int (0 : Int32)), .unset, .unset, .unset] [])) _
              refine XS.iconst X42.here hx rfl (hb hby at_193) ?_
              show Steps p.tables e below (T42.setTop (mkF m 194 #[.val (.int p0), .val (.long p1), .second, .val (.long p2), .second, .val (.int p3), .val (.long p4), .second, .val (.long wm), .second, .val (.long wn), .second, .val (.long av), .second, .val (.long dv), .second, .val (.long bv), .second, .val (.int (p3 &&& (3 : Int32))), .val (.long xv), .second, .val (.ref b31), .val (.int (1 : Int32)), .val (.int (1 : Int32)), .val (.int (0 : Int32)), .unset, .unset, .unset] [(.int (1 : Int32))])) _
              refine XS.goto X42.here hx rfl (pc0 := 194) (pc' := 198) rfl (hb hby at_194) (by decide) (by decide) ?_
              show Steps p.tables e below (T42.setTop (mkF m 198 #[.val (.int p0), .val (.long p1), .second, .val (.long p2), .second, .val (.int p3), .val (.long p4), .second, .val (.long wm), .second, .val (.long wn), .second, .val (.long av), .second, .val (.long dv), .second, .val (.long bv), .second, .val (.int (p3 &&& (3 : Int32))), .val (.long xv), .second, .val (.ref b31), .val (.int (1 : Int32)), .val (.int (1 : Int32)), .val (.int (0 : Int32)), .unset, .unset, .unset] [(.int (1 : Int32))])) _
              refine XS.istore X42.here hx rfl (hb hby at_198) rfl (l' := #[.val (.int p0), .val (.long p1), .second, .val (.long p2), .second, .val (.int p3), .val (.long p4), .second, .val (.long wm), .second, .val (.long wn), .second, .val (.long av), .second, .val (.long dv), .second, .val (.long bv), .second, .val (.int (p3 &&& (3 : Int32))), .val (.long xv), .second, .val (.ref b31), .val (.int (1 : Int32)), .val (.int (1 : Int32)), .val (.int (0 : Int32)), .val (.int (1 : Int32)), .unset, .unset]) rfl ?_
              show Steps p.tables e below (T42.setTop (mkF m 200 #[.val (.int p0), .val (.long p1), .second, .val (.long p2), .second, .val (.int p3), .val (.long p4), .second, .val (.long wm), .second, .val (.long wn), .second, .val (.long av), .second, .val (.long dv), .second, .val (.long bv), .second, .val (.int (p3 &&& (3 : Int32))), .val (.long xv), .second, .val (.ref b31), .val (.int (1 : Int32)), .val (.int (1 : Int32)), .val (.int (0 : Int32)), .val (.int (1 : Int32)), .unset, .unset] [])) _
              refine XS.iload X42.here hx rfl (hb hby at_200) rfl ?_
              show Steps p.tables e below (T42.setTop (mkF m 202 #[.val (.int p0), .val (.long p1), .second, .val (.long p2), .second, .val (.int p3), .val (.long p4), .second, .val (.long wm), .second, .val (.long wn), .second, .val (.long av), .second, .val (.long dv), .second, .val (.long bv), .second, .val (.int (p3 &&& (3 : Int32))), .val (.long xv), .second, .val (.ref b31), .val (.int (1 : Int32)), .val (.int (1 : Int32)), .val (.int (0 : Int32)), .val (.int (1 : Int32)), .unset, .unset] [(.int (1 : Int32))])) _
              refine XS.ifNo X42.here hx rfl (hb hby at_202) rfl ((if0 _ _).trans (feq (by decide : ¬ (1 : Int32) = (0 : Int32))).1) ?_
              show Steps p.tables e below (T42.setTop (mkF m 205 #[.val (.int p0), .val (.long p1), .second, .val (.long p2), .second, .val (.int p3), .val (.long p4), .second, .val (.long wm), .second, .val (.long wn), .second, .val (.long av), .second, .val (.long dv), .second, .val (.long bv), .second, .val (.int (p3 &&& (3 : Int32))), .val (.long xv), .second, .val (.ref b31), .val (.int (1 : Int32)), .val (.int (1 : Int32)), .val (.int (0 : Int32)), .val (.int (1 : Int32)), .unset, .unset] [])) _
              refine XS.lload X42.here hx rfl (hb hby at_205) rfl ?_
              show Steps p.tables e below (T42.setTop (mkF m 207 #[.val (.int p0), .val (.long p1), .second, .val (.long p2), .second, .val (.int p3), .val (.long p4), .second, .val (.long wm), .second, .val (.long wn), .second, .val (.long av), .second, .val (.long dv), .second, .val (.long bv), .second, .val (.int (p3 &&& (3 : Int32))), .val (.long xv), .second, .val (.ref b31), .val (.int (1 : Int32)), .val (.int (1 : Int32)), .val (.int (0 : Int32)), .val (.int (1 : Int32)), .unset, .unset] [(.long dv)])) _
              refine XS.lconst X42.here hx rfl (hb hby at_207) ?_
              show Steps p.tables e below (T42.setTop (mkF m 208 #[.val (.int p0), .val (.long p1), .second, .val (.long p2), .second, .val (.int p3), .val (.long p4), .second, .val (.long wm), .second, .val (.long wn), .second, .val (.long av), .second, .val (.long dv), .second, .val (.long bv), .second, .val (.int (p3 &&& (3 : Int32))), .val (.long xv), .second, .val (.ref b31), .val (.int (1 : Int32)), .val (.int (1 : Int32)), .val (.int (0 : Int32)), .val (.int (1 : Int32)), .unset, .unset] [(.long (0 : Int64)), (.long dv)])) _
              refine XS.lcmp X42.here hx rfl (hb hby at_208) rfl ?_
              show Steps p.tables e below (T42.setTop (mkF m 209 #[.val (.int p0), .val (.long p1), .second, .val (.long p2), .second, .val (.int p3), .val (.long p4), .second, .val (.long wm), .second, .val (.long wn), .second, .val (.long av), .second, .val (.long dv), .second, .val (.long bv), .second, .val (.int (p3 &&& (3 : Int32))), .val (.long xv), .second, .val (.ref b31), .val (.int (1 : Int32)), .val (.int (1 : Int32)), .val (.int (0 : Int32)), .val (.int (1 : Int32)), .unset, .unset] [(.int (lcmpW dv (0 : Int64)))])) _
              refine XS.ifNo X42.here hx rfl (hb hby at_209) rfl ((if0 _ _).trans (feq (fun q => hy3 ((lw_eq _ _).mp q))).1) ?_
              show Steps p.tables e below (T42.setTop (mkF m 212 #[.val (.int p0), .val (.long p1), .second, .val (.long p2), .second, .val (.int p3), .val (.long p4), .second, .val (.long wm), .second, .val (.long wn), .second, .val (.long av), .second, .val (.long dv), .second, .val (.long bv), .second, .val (.int (p3 &&& (3 : Int32))), .val (.long xv), .second, .val (.ref b31), .val (.int (1 : Int32)), .val (.int (1 : Int32)), .val (.int (0 : Int32)), .val (.int (1 : Int32)), .unset, .unset] [])) _
              refine XS.iconst X42.here hx rfl (hb hby at_212) ?_
              show Steps p.tables e below (T42.setTop (mkF m 213 #[.val (.int p0), .val (.long p1), .second, .val (.long p2), .second, .val (.int p3), .val (.long p4), .second, .val (.long wm), .second, .val (.long wn), .second, .val (.long av), .second, .val (.long dv), .second, .val (.long bv), .second, .val (.int (p3 &&& (3 : Int32))), .val (.long xv), .second, .val (.ref b31), .val (.int (1 : Int32)), .val (.int (1 : Int32)), .val (.int (0 : Int32)), .val (.int (1 : Int32)), .unset, .unset] [(.int (1 : Int32))])) _
              refine XS.goto X42.here hx rfl (pc0 := 213) (pc' := 217) rfl (hb hby at_213) (by decide) (by decide) ?_
              show Steps p.tables e below (T42.setTop (mkF m 217 #[.val (.int p0), .val (.long p1), .second, .val (.long p2), .second, .val (.int p3), .val (.long p4), .second, .val (.long wm), .second, .val (.long wn), .second, .val (.long av), .second, .val (.long dv), .second, .val (.long bv), .second, .val (.int (p3 &&& (3 : Int32))), .val (.long xv), .second, .val (.ref b31), .val (.int (1 : Int32)), .val (.int (1 : Int32)), .val (.int (0 : Int32)), .val (.int (1 : Int32)), .unset, .unset] [(.int (1 : Int32))])) _
              refine XS.istore X42.here hx rfl (hb hby at_217) rfl (l' := #[.val (.int p0), .val (.long p1), .second, .val (.long p2), .second, .val (.int p3), .val (.long p4), .second, .val (.long wm), .second, .val (.long wn), .second, .val (.long av), .second, .val (.long dv), .second, .val (.long bv), .second, .val (.int (p3 &&& (3 : Int32))), .val (.long xv), .second, .val (.ref b31), .val (.int (1 : Int32)), .val (.int (1 : Int32)), .val (.int (0 : Int32)), .val (.int (1 : Int32)), .val (.int (1 : Int32)), .unset]) rfl ?_
              show Steps p.tables e below (T42.setTop (mkF m 219 #[.val (.int p0), .val (.long p1), .second, .val (.long p2), .second, .val (.int p3), .val (.long p4), .second, .val (.long wm), .second, .val (.long wn), .second, .val (.long av), .second, .val (.long dv), .second, .val (.long bv), .second, .val (.int (p3 &&& (3 : Int32))), .val (.long xv), .second, .val (.ref b31), .val (.int (1 : Int32)), .val (.int (1 : Int32)), .val (.int (0 : Int32)), .val (.int (1 : Int32)), .val (.int (1 : Int32)), .unset] [])) _
              refine XS.iload X42.here hx rfl (hb hby at_219) rfl ?_
              show Steps p.tables e below (T42.setTop (mkF m 221 #[.val (.int p0), .val (.long p1), .second, .val (.long p2), .second, .val (.int p3), .val (.long p4), .second, .val (.long wm), .second, .val (.long wn), .second, .val (.long av), .second, .val (.long dv), .second, .val (.long bv), .second, .val (.int (p3 &&& (3 : Int32))), .val (.long xv), .second, .val (.ref b31), .val (.int (1 : Int32)), .val (.int (1 : Int32)), .val (.int (0 : Int32)), .val (.int (1 : Int32)), .val (.int (1 : Int32)), .unset] [(.int (1 : Int32))])) _
              refine XS.ifNo X42.here hx rfl (hb hby at_221) rfl ((if0 _ _).trans (feq (by decide : ¬ (1 : Int32) = (0 : Int32))).1) ?_
              show Steps p.tables e below (T42.setTop (mkF m 224 #[.val (.int p0), .val (.long p1), .second, .val (.long p2), .second, .val (.int p3), .val (.long p4), .second, .val (.long wm), .second, .val (.long wn), .second, .val (.long av), .second, .val (.long dv), .second, .val (.long bv), .second, .val (.int (p3 &&& (3 : Int32))), .val (.long xv), .second, .val (.ref b31), .val (.int (1 : Int32)), .val (.int (1 : Int32)), .val (.int (0 : Int32)), .val (.int (1 : Int32)), .val (.int (1 : Int32)), .unset] [])) _
              refine XS.lload X42.here hx rfl (hb hby at_224) rfl ?_
              show Steps p.tables e below (T42.setTop (mkF m 226 #[.val (.int p0), .val (.long p1), .second, .val (.long p2), .second, .val (.int p3), .val (.long p4), .second, .val (.long wm), .second, .val (.long wn), .second, .val (.long av), .second, .val (.long dv), .second, .val (.long bv), .second, .val (.int (p3 &&& (3 : Int32))), .val (.long xv), .second, .val (.ref b31), .val (.int (1 : Int32)), .val (.int (1 : Int32)), .val (.int (0 : Int32)), .val (.int (1 : Int32)), .val (.int (1 : Int32)), .unset] [(.long dv)])) _
              refine XS.lconst X42.here hx rfl (hb hby at_226) ?_
              show Steps p.tables e below (T42.setTop (mkF m 227 #[.val (.int p0), .val (.long p1), .second, .val (.long p2), .second, .val (.int p3), .val (.long p4), .second, .val (.long wm), .second, .val (.long wn), .second, .val (.long av), .second, .val (.long dv), .second, .val (.long bv), .second, .val (.int (p3 &&& (3 : Int32))), .val (.long xv), .second, .val (.ref b31), .val (.int (1 : Int32)), .val (.int (1 : Int32)), .val (.int (0 : Int32)), .val (.int (1 : Int32)), .val (.int (1 : Int32)), .unset] [(.long (0 : Int64)), (.long dv)])) _
              refine XS.lcmp X42.here hx rfl (hb hby at_227) rfl ?_
              show Steps p.tables e below (T42.setTop (mkF m 228 #[.val (.int p0), .val (.long p1), .second, .val (.long p2), .second, .val (.int p3), .val (.long p4), .second, .val (.long wm), .second, .val (.long wn), .second, .val (.long av), .second, .val (.long dv), .second, .val (.long bv), .second, .val (.int (p3 &&& (3 : Int32))), .val (.long xv), .second, .val (.ref b31), .val (.int (1 : Int32)), .val (.int (1 : Int32)), .val (.int (0 : Int32)), .val (.int (1 : Int32)), .val (.int (1 : Int32)), .unset] [(.int (lcmpW dv (0 : Int64)))])) _
              refine XS.ifYes X42.here hx rfl (pc0 := 228) (pc' := 235) rfl (hb hby at_228) rfl ((if0 _ _).trans (feq (fun q => hy3 ((lw_eq _ _).mp q))).2) (by decide) (by decide) ?_
              show Steps p.tables e below (T42.setTop (mkF m 235 #[.val (.int p0), .val (.long p1), .second, .val (.long p2), .second, .val (.int p3), .val (.long p4), .second, .val (.long wm), .second, .val (.long wn), .second, .val (.long av), .second, .val (.long dv), .second, .val (.long bv), .second, .val (.int (p3 &&& (3 : Int32))), .val (.long xv), .second, .val (.ref b31), .val (.int (1 : Int32)), .val (.int (1 : Int32)), .val (.int (0 : Int32)), .val (.int (1 : Int32)), .val (.int (1 : Int32)), .unset] [])) _
              refine XS.iconst X42.here hx rfl (hb hby at_235) ?_
              show Steps p.tables e below (T42.setTop (mkF m 236 #[.val (.int p0), .val (.long p1), .second, .val (.long p2), .second, .val (.int p3), .val (.long p4), .second, .val (.long wm), .second, .val (.long wn), .second, .val (.long av), .second, .val (.long dv), .second, .val (.long bv), .second, .val (.int (p3 &&& (3 : Int32))), .val (.long xv), .second, .val (.ref b31), .val (.int (1 : Int32)), .val (.int (1 : Int32)), .val (.int (0 : Int32)), .val (.int (1 : Int32)), .val (.int (1 : Int32)), .unset] [(.int (1 : Int32))])) _
              refine XS.istore X42.here hx rfl (hb hby at_236) rfl (l' := #[.val (.int p0), .val (.long p1), .second, .val (.long p2), .second, .val (.int p3), .val (.long p4), .second, .val (.long wm), .second, .val (.long wn), .second, .val (.long av), .second, .val (.long dv), .second, .val (.long bv), .second, .val (.int (p3 &&& (3 : Int32))), .val (.long xv), .second, .val (.ref b31), .val (.int (1 : Int32)), .val (.int (1 : Int32)), .val (.int (0 : Int32)), .val (.int (1 : Int32)), .val (.int (1 : Int32)), .val (.int (1 : Int32))]) rfl ?_
              show Steps p.tables e below (T42.setTop (mkF m 238 #[.val (.int p0), .val (.long p1), .second, .val (.long p2), .second, .val (.int p3), .val (.long p4), .second, .val (.long wm), .second, .val (.long wn), .second, .val (.long av), .second, .val (.long dv), .second, .val (.long bv), .second, .val (.int (p3 &&& (3 : Int32))), .val (.long xv), .second, .val (.ref b31), .val (.int (1 : Int32)), .val (.int (1 : Int32)), .val (.int (0 : Int32)), .val (.int (1 : Int32)), .val (.int (1 : Int32)), .val (.int (1 : Int32))] [])) _
              refine XS.lload X42.here hx rfl (hb hby at_238) rfl ?_
              show Steps p.tables e below (T42.setTop (mkF m 240 #[.val (.int p0), .val (.long p1), .second, .val (.long p2), .second, .val (.int p3), .val (.long p4), .second, .val (.long wm), .second, .val (.long wn), .second, .val (.long av), .second, .val (.long dv), .second, .val (.long bv), .second, .val (.int (p3 &&& (3 : Int32))), .val (.long xv), .second, .val (.ref b31), .val (.int (1 : Int32)), .val (.int (1 : Int32)), .val (.int (0 : Int32)), .val (.int (1 : Int32)), .val (.int (1 : Int32)), .val (.int (1 : Int32))] [(.long xv)])) _
              refine XS.lload X42.here hx rfl (hb hby at_240) rfl ?_
              show Steps p.tables e below (T42.setTop (mkF m 242 #[.val (.int p0), .val (.long p1), .second, .val (.long p2), .second, .val (.int p3), .val (.long p4), .second, .val (.long wm), .second, .val (.long wn), .second, .val (.long av), .second, .val (.long dv), .second, .val (.long bv), .second, .val (.int (p3 &&& (3 : Int32))), .val (.long xv), .second, .val (.ref b31), .val (.int (1 : Int32)), .val (.int (1 : Int32)), .val (.int (0 : Int32)), .val (.int (1 : Int32)), .val (.int (1 : Int32)), .val (.int (1 : Int32))] [(.long bv), (.long xv)])) _
              refine XS.lcmp X42.here hx rfl (hb hby at_242) rfl ?_
              show Steps p.tables e below (T42.setTop (mkF m 243 #[.val (.int p0), .val (.long p1), .second, .val (.long p2), .second, .val (.int p3), .val (.long p4), .second, .val (.long wm), .second, .val (.long wn), .second, .val (.long av), .second, .val (.long dv), .second, .val (.long bv), .second, .val (.int (p3 &&& (3 : Int32))), .val (.long xv), .second, .val (.ref b31), .val (.int (1 : Int32)), .val (.int (1 : Int32)), .val (.int (0 : Int32)), .val (.int (1 : Int32)), .val (.int (1 : Int32)), .val (.int (1 : Int32))] [(.int (lcmpW xv bv))])) _
              refine XS.ifNo X42.here hx rfl (hb hby at_243) rfl ((if0 _ _).trans (teq ((lw_eq _ _).mpr hy30)).2) ?_
              show Steps p.tables e below (T42.setTop (mkF m 246 #[.val (.int p0), .val (.long p1), .second, .val (.long p2), .second, .val (.int p3), .val (.long p4), .second, .val (.long wm), .second, .val (.long wn), .second, .val (.long av), .second, .val (.long dv), .second, .val (.long bv), .second, .val (.int (p3 &&& (3 : Int32))), .val (.long xv), .second, .val (.ref b31), .val (.int (1 : Int32)), .val (.int (1 : Int32)), .val (.int (0 : Int32)), .val (.int (1 : Int32)), .val (.int (1 : Int32)), .val (.int (1 : Int32))] [])) _
              refine XS.iload X42.here hx rfl (hb hby at_246) rfl ?_
              show Steps p.tables e below (T42.setTop (mkF m 248 #[.val (.int p0), .val (.long p1), .second, .val (.long p2), .second, .val (.int p3), .val (.long p4), .second, .val (.long wm), .second, .val (.long wn), .second, .val (.long av), .second, .val (.long dv), .second, .val (.long bv), .second, .val (.int (p3 &&& (3 : Int32))), .val (.long xv), .second, .val (.ref b31), .val (.int (1 : Int32)), .val (.int (1 : Int32)), .val (.int (0 : Int32)), .val (.int (1 : Int32)), .val (.int (1 : Int32)), .val (.int (1 : Int32))] [(.int (1 : Int32))])) _
              refine XS.iconst X42.here hx rfl (hb hby at_248) ?_
              show Steps p.tables e below (T42.setTop (mkF m 249 #[.val (.int p0), .val (.long p1), .second, .val (.long p2), .second, .val (.int p3), .val (.long p4), .second, .val (.long wm), .second, .val (.long wn), .second, .val (.long av), .second, .val (.long dv), .second, .val (.long bv), .second, .val (.int (p3 &&& (3 : Int32))), .val (.long xv), .second, .val (.ref b31), .val (.int (1 : Int32)), .val (.int (1 : Int32)), .val (.int (0 : Int32)), .val (.int (1 : Int32)), .val (.int (1 : Int32)), .val (.int (1 : Int32))] [(.int (1 : Int32)), (.int (1 : Int32))])) _
              refine XS.isub X42.here hx rfl (hb hby at_249) rfl ?_
              show Steps p.tables e below (T42.setTop (mkF m 250 #[.val (.int p0), .val (.long p1), .second, .val (.long p2), .second, .val (.int p3), .val (.long p4), .second, .val (.long wm), .second, .val (.long wn), .second, .val (.long av), .second, .val (.long dv), .second, .val (.long bv), .second, .val (.int (p3 &&& (3 : Int32))), .val (.long xv), .second, .val (.ref b31), .val (.int (1 : Int32)), .val (.int (1 : Int32)), .val (.int (0 : Int32)), .val (.int (1 : Int32)), .val (.int (1 : Int32)), .val (.int (1 : Int32))] [(.int (0 : Int32))])) _
              refine XS.istore X42.here hx rfl (hb hby at_250) rfl (l' := #[.val (.int p0), .val (.long p1), .second, .val (.long p2), .second, .val (.int p3), .val (.long p4), .second, .val (.long wm), .second, .val (.long wn), .second, .val (.long av), .second, .val (.long dv), .second, .val (.long bv), .second, .val (.int (p3 &&& (3 : Int32))), .val (.long xv), .second, .val (.ref b31), .val (.int (1 : Int32)), .val (.int (1 : Int32)), .val (.int (0 : Int32)), .val (.int (1 : Int32)), .val (.int (1 : Int32)), .val (.int (0 : Int32))]) rfl ?_
              show Steps p.tables e below (T42.setTop (mkF m 252 #[.val (.int p0), .val (.long p1), .second, .val (.long p2), .second, .val (.int p3), .val (.long p4), .second, .val (.long wm), .second, .val (.long wn), .second, .val (.long av), .second, .val (.long dv), .second, .val (.long bv), .second, .val (.int (p3 &&& (3 : Int32))), .val (.long xv), .second, .val (.ref b31), .val (.int (1 : Int32)), .val (.int (1 : Int32)), .val (.int (0 : Int32)), .val (.int (1 : Int32)), .val (.int (1 : Int32)), .val (.int (0 : Int32))] [])) _
              refine XS.goto X42.here hx rfl (pc0 := 252) (pc' := 272) rfl (hb hby at_252) (by decide) (by decide) ?_
              show Steps p.tables e below (T42.setTop (mkF m 272 #[.val (.int p0), .val (.long p1), .second, .val (.long p2), .second, .val (.int p3), .val (.long p4), .second, .val (.long wm), .second, .val (.long wn), .second, .val (.long av), .second, .val (.long dv), .second, .val (.long bv), .second, .val (.int (p3 &&& (3 : Int32))), .val (.long xv), .second, .val (.ref b31), .val (.int (1 : Int32)), .val (.int (1 : Int32)), .val (.int (0 : Int32)), .val (.int (1 : Int32)), .val (.int (1 : Int32)), .val (.int (0 : Int32))] [])) _
              refine XS.iload X42.here hx rfl (hb hby at_272) rfl ?_
              show Steps p.tables e below (T42.setTop (mkF m 274 #[.val (.int p0), .val (.long p1), .second, .val (.long p2), .second, .val (.int p3), .val (.long p4), .second, .val (.long wm), .second, .val (.long wn), .second, .val (.long av), .second, .val (.long dv), .second, .val (.long bv), .second, .val (.int (p3 &&& (3 : Int32))), .val (.long xv), .second, .val (.ref b31), .val (.int (1 : Int32)), .val (.int (1 : Int32)), .val (.int (0 : Int32)), .val (.int (1 : Int32)), .val (.int (1 : Int32)), .val (.int (0 : Int32))] [(.int (1 : Int32))])) _
              refine XS.ifNo X42.here hx rfl (hb hby at_274) rfl ((if0 _ _).trans (feq (by decide : ¬ (1 : Int32) = (0 : Int32))).1) ?_
              show Steps p.tables e below (T42.setTop (mkF m 277 #[.val (.int p0), .val (.long p1), .second, .val (.long p2), .second, .val (.int p3), .val (.long p4), .second, .val (.long wm), .second, .val (.long wn), .second, .val (.long av), .second, .val (.long dv), .second, .val (.long bv), .second, .val (.int (p3 &&& (3 : Int32))), .val (.long xv), .second, .val (.ref b31), .val (.int (1 : Int32)), .val (.int (1 : Int32)), .val (.int (0 : Int32)), .val (.int (1 : Int32)), .val (.int (1 : Int32)), .val (.int (0 : Int32))] [])) _
              refine XS.iload X42.here hx rfl (hb hby at_277) rfl ?_
              show Steps p.tables e below (T42.setTop (mkF m 279 #[.val (.int p0), .val (.long p1), .second, .val (.long p2), .second, .val (.int p3), .val (.long p4), .second, .val (.long wm), .second, .val (.long wn), .second, .val (.long av), .second, .val (.long dv), .second, .val (.long bv), .second, .val (.int (p3 &&& (3 : Int32))), .val (.long xv), .second, .val (.ref b31), .val (.int (1 : Int32)), .val (.int (1 : Int32)), .val (.int (0 : Int32)), .val (.int (1 : Int32)), .val (.int (1 : Int32)), .val (.int (0 : Int32))] [(.int (1 : Int32))])) _
              refine XS.iload X42.here hx rfl (hb hby at_279) rfl ?_
              show Steps p.tables e below (T42.setTop (mkF m 281 #[.val (.int p0), .val (.long p1), .second, .val (.long p2), .second, .val (.int p3), .val (.long p4), .second, .val (.long wm), .second, .val (.long wn), .second, .val (.long av), .second, .val (.long dv), .second, .val (.long bv), .second, .val (.int (p3 &&& (3 : Int32))), .val (.long xv), .second, .val (.ref b31), .val (.int (1 : Int32)), .val (.int (1 : Int32)), .val (.int (0 : Int32)), .val (.int (1 : Int32)), .val (.int (1 : Int32)), .val (.int (0 : Int32))] [(.int (1 : Int32)), (.int (1 : Int32))])) _
              refine XS.iload X42.here hx rfl (hb hby at_281) rfl ?_
              show Steps p.tables e below (T42.setTop (mkF m 283 #[.val (.int p0), .val (.long p1), .second, .val (.long p2), .second, .val (.int p3), .val (.long p4), .second, .val (.long wm), .second, .val (.long wn), .second, .val (.long av), .second, .val (.long dv), .second, .val (.long bv), .second, .val (.int (p3 &&& (3 : Int32))), .val (.long xv), .second, .val (.ref b31), .val (.int (1 : Int32)), .val (.int (1 : Int32)), .val (.int (0 : Int32)), .val (.int (1 : Int32)), .val (.int (1 : Int32)), .val (.int (0 : Int32))] [(.int (0 : Int32)), (.int (1 : Int32)), (.int (1 : Int32))])) _
              refine XS.iadd X42.here hx rfl (hb hby at_283) rfl ?_
              show Steps p.tables e below (T42.setTop (mkF m 284 #[.val (.int p0), .val (.long p1), .second, .val (.long p2), .second, .val (.int p3), .val (.long p4), .second, .val (.long wm), .second, .val (.long wn), .second, .val (.long av), .second, .val (.long dv), .second, .val (.long bv), .second, .val (.int (p3 &&& (3 : Int32))), .val (.long xv), .second, .val (.ref b31), .val (.int (1 : Int32)), .val (.int (1 : Int32)), .val (.int (0 : Int32)), .val (.int (1 : Int32)), .val (.int (1 : Int32)), .val (.int (0 : Int32))] [(.int (1 : Int32)), (.int (1 : Int32))])) _
              refine XS.icmpNo X42.here hx rfl (hb hby at_284) rfl (teq (by decide : (1 : Int32) = (1 : Int32))).2 ?_
              show Steps p.tables e below (T42.setTop (mkF m 287 #[.val (.int p0), .val (.long p1), .second, .val (.long p2), .second, .val (.int p3), .val (.long p4), .second, .val (.long wm), .second, .val (.long wn), .second, .val (.long av), .second, .val (.long dv), .second, .val (.long bv), .second, .val (.int (p3 &&& (3 : Int32))), .val (.long xv), .second, .val (.ref b31), .val (.int (1 : Int32)), .val (.int (1 : Int32)), .val (.int (0 : Int32)), .val (.int (1 : Int32)), .val (.int (1 : Int32)), .val (.int (0 : Int32))] [])) _
              refine XS.iload X42.here hx rfl (hb hby at_287) rfl ?_
              show Steps p.tables e below (T42.setTop (mkF m 289 #[.val (.int p0), .val (.long p1), .second, .val (.long p2), .second, .val (.int p3), .val (.long p4), .second, .val (.long wm), .second, .val (.long wn), .second, .val (.long av), .second, .val (.long dv), .second, .val (.long bv), .second, .val (.int (p3 &&& (3 : Int32))), .val (.long xv), .second, .val (.ref b31), .val (.int (1 : Int32)), .val (.int (1 : Int32)), .val (.int (0 : Int32)), .val (.int (1 : Int32)), .val (.int (1 : Int32)), .val (.int (0 : Int32))] [(.int (0 : Int32))])) _
              refine XS.iload X42.here hx rfl (hb hby at_289) rfl ?_
              show Steps p.tables e below (T42.setTop (mkF m 291 #[.val (.int p0), .val (.long p1), .second, .val (.long p2), .second, .val (.int p3), .val (.long p4), .second, .val (.long wm), .second, .val (.long wn), .second, .val (.long av), .second, .val (.long dv), .second, .val (.long bv), .second, .val (.int (p3 &&& (3 : Int32))), .val (.long xv), .second, .val (.ref b31), .val (.int (1 : Int32)), .val (.int (1 : Int32)), .val (.int (0 : Int32)), .val (.int (1 : Int32)), .val (.int (1 : Int32)), .val (.int (0 : Int32))] [(.int (0 : Int32)), (.int (0 : Int32))])) _
              refine XS.icmpNo X42.here hx rfl (hb hby at_291) rfl (teq (by decide : (0 : Int32) = (0 : Int32))).2 ?_
              show Steps p.tables e below (T42.setTop (mkF m 294 #[.val (.int p0), .val (.long p1), .second, .val (.long p2), .second, .val (.int p3), .val (.long p4), .second, .val (.long wm), .second, .val (.long wn), .second, .val (.long av), .second, .val (.long dv), .second, .val (.long bv), .second, .val (.int (p3 &&& (3 : Int32))), .val (.long xv), .second, .val (.ref b31), .val (.int (1 : Int32)), .val (.int (1 : Int32)), .val (.int (0 : Int32)), .val (.int (1 : Int32)), .val (.int (1 : Int32)), .val (.int (0 : Int32))] [])) _
              refine XS.iconst X42.here hx rfl (hb hby at_294) ?_
              show Steps p.tables e below (T42.setTop (mkF m 295 #[.val (.int p0), .val (.long p1), .second, .val (.long p2), .second, .val (.int p3), .val (.long p4), .second, .val (.long wm), .second, .val (.long wn), .second, .val (.long av), .second, .val (.long dv), .second, .val (.long bv), .second, .val (.int (p3 &&& (3 : Int32))), .val (.long xv), .second, .val (.ref b31), .val (.int (1 : Int32)), .val (.int (1 : Int32)), .val (.int (0 : Int32)), .val (.int (1 : Int32)), .val (.int (1 : Int32)), .val (.int (0 : Int32))] [(.int (1 : Int32))])) _
              refine XS.goto X42.here hx rfl (pc0 := 295) (pc' := 299) rfl (hb hby at_295) (by decide) (by decide) ?_
              exact k
            refine Go.retZ X42 hx hlk hret (Or.inr rfl) (hb hby at_299) (by decide) (by decide) e42 ?_
            exact ⟨rfl, N42⟩
          · skip
            by_cases hy43 : xv = av
            · skip
              refine Go.newO X0 hx hZ hown (wd hw 3 rfl) (wd hw 4 rfl) (wd hw 5 rfl) e0 (hb hby at_103) (by decide) (by decide) ?_
              intro T44 h44 b44 X44 e44 E44 g44 A44 D44
              have lb44 := Nat.le_of_eq g44.symm
              have g_b44 : n0 ≤ b44 := Nat.le_trans (OwnKit.Old.le O) lb44
              replace O := O.ext E44
              have E_b44 := A44
              have F_b44_times : Fld Z h44 b44 "com/example/breakwater/breakwater/OrderRateWindow" "times" "[J" .null := D44 (Or.inl (wd hw 26 rfl)) (ty := (.array .long)) (by decide)
              have F_b44_now : Fld Z h44 b44 "com/example/breakwater/breakwater/OrderRateWindow" "now" "J" (.long (0 : Int64)) := D44 (Or.inl (wd hw 29 rfl)) (ty := .long) (by decide)
              have F_b44_rate : Fld Z h44 b44 "com/example/breakwater/breakwater/OrderRateWindow" "rate" "Lcom/example/breakwater/breakwater/OrderRate;" .null := D44 (Or.inr (wd hw 31 rfl)) (ty := (.object "com/example/breakwater/breakwater/OrderRate")) (by decide)
              have F_b44_windowNanos : Fld Z h44 b44 "com/example/breakwater/breakwater/OrderRateWindow" "windowNanos" "J" (.long (0 : Int64)) := D44 (Or.inr (wd hw 49 rfl)) (ty := .long) (by decide)
              have F_b44_count : Fld Z h44 b44 "com/example/breakwater/breakwater/OrderRateWindow" "count" "I" (.int (0 : Int32)) := D44 (Or.inl (wd hw 56 rfl)) (ty := .int) (by decide)
              have F_b44_head : Fld Z h44 b44 "com/example/breakwater/breakwater/OrderRateWindow" "head" "I" (.int (0 : Int32)) := D44 (Or.inl (wd hw 63 rfl)) (ty := .int) (by decide)
              show Go p e below _ T44 (mkF m 106 #[.val (.int p0), .val (.long p1), .second, .val (.long p2), .second, .val (.int p3), .val (.long p4), .second, .val (.long wm), .second, .val (.long wn), .second, .val (.long av), .second, .val (.long dv), .second, .val (.long bv), .second, .val (.int (p3 &&& (3 : Int32))), .val (.long xv), .second, .unset, .unset, .unset, .unset, .unset, .unset, .unset] [(.ref b44)])
              refine Go.by (T' := T44) (g' := (mkF m 107 #[.val (.int p0), .val (.long p1), .second, .val (.long p2), .second, .val (.int p3), .val (.long p4), .second, .val (.long wm), .second, .val (.long wn), .second, .val (.long av), .second, .val (.long dv), .second, .val (.long bv), .second, .val (.int (p3 &&& (3 : Int32))), .val (.long xv), .second, .unset, .unset, .unset, .unset, .unset, .unset, .unset] [(.ref b44), (.ref b44)])) (fun t k => ?_) ?_
              · show Steps p.tables e below (T44.setTop (mkF m 106 #[.val (.int p0), .val (.long p1), .second, .val (.long p2), .second, .val (.int p3), .val (.long p4), .second, .val (.long wm), .second, .val (.long wn), .second, .val (.long av), .second, .val (.long dv), .second, .val (.long bv), .second, .val (.int (p3 &&& (3 : Int32))), .val (.long xv), .second, .unset, .unset, .unset, .unset, .unset, .unset, .unset] [(.ref b44)])) _
                refine XS.dup X44.here hx rfl (hb hby at_106) rfl rfl ?_
                exact k
              refine Go.newO X44 hx hZ hown (wd hw 6 rfl) (wd hw 7 rfl) (wd hw 8 rfl) e44 (hb hby at_107) (by decide) (by decide) ?_
              intro T45 h45 b45 X45 e45 E45 g45 A45 D45
              have lb45 := Nat.le_of_eq g45.symm
              have ne_b44_b45 : b44 ≠ b45 := Nat.ne_of_lt (Nat.lt_of_lt_of_le E_b44.lt lb45)
              have g_b45 : n0 ≤ b45 := Nat.le_trans (OwnKit.Old.le O) lb45
              replace E_b44 := E_b44.ext E45
              replace F_b44_times := F_b44_times.ext E45
              replace F_b44_now := F_b44_now.ext E45
              replace F_b44_rate := F_b44_rate.ext E45
              replace F_b44_windowNanos := F_b44_windowNanos.ext E45
              replace F_b44_count := F_b44_count.ext E45
              replace F_b44_head := F_b44_head.ext E45
              replace O := O.ext E45
              have E_b45 := A45
              have F_b45_maxOrders : Fld Z h45 b45 "com/example/breakwater/breakwater/OrderRate" "maxOrders" "J" (.long (0 : Int64)) := D45 (Or.inr (wd hw 17 rfl)) (ty := .long) (by decide)
              have F_b45_windowMillis : Fld Z h45 b45 "com/example/breakwater/breakwater/OrderRate" "windowMillis" "J" (.long (0 : Int64)) := D45 (Or.inr (wd hw 19 rfl)) (ty := .long) (by decide)
              show Go p e below _ T45 (mkF m 110 #[.val (.int p0), .val (.long p1), .second, .val (.long p2), .second, .val (.int p3), .val (.long p4), .second, .val (.long wm), .second, .val (.long wn), .second, .val (.long av), .second, .val (.long dv), .second, .val (.long bv), .second, .val (.int (p3 &&& (3 : Int32))), .val (.long xv), .second, .unset, .unset, .unset, .unset, .unset, .unset, .unset] [(.ref b45), (.ref b44), (.ref b44)])
              refine Go.by (T' := T45) (g' := (mkF m 116 #[.val (.int p0), .val (.long p1), .second, .val (.long p2), .second, .val (.int p3), .val (.long p4), .second, .val (.long wm), .second, .val (.long wn), .second, .val (.long av), .second, .val (.long dv), .second, .val (.long bv), .second, .val (.int (p3 &&& (3 : Int32))), .val (.long xv), .second, .unset, .unset, .unset, .unset, .unset, .unset, .unset] [(.long wm), (.long (5 : Int64)), (.ref b45), (.ref b45), (.ref b44), (.ref b44)])) (fun t k => ?_) ?_
              · show Steps p.tables e below (T45.setTop (mkF m 110 #[.val (.int p0), .val (.long p1), .second, .val (.long p2), .second, .val (.int p3), .val (.long p4), .second, .val (.long wm), .second, .val (.long wn), .second, .val (.long av), .second, .val (.long dv), .second, .val (.long bv), .second, .val (.int (p3 &&& (3 : Int32))), .val (.long xv), .second, .unset, .unset, .unset, .unset, .unset, .unset, .unset] [(.ref b45), (.ref b44), (.ref b44)])) _
                refine XS.dup X45.here hx rfl (hb hby at_110) rfl rfl ?_
                show Steps p.tables e below (T45.setTop (mkF m 111 #[.val (.int p0), .val (.long p1), .second, .val (.long p2), .second, .val (.int p3), .val (.long p4), .second, .val (.long wm), .second, .val (.long wn), .second, .val (.long av), .second, .val (.long dv), .second, .val (.long bv), .second, .val (.int (p3 &&& (3 : Int32))), .val (.long xv), .second, .unset, .unset, .unset, .unset, .unset, .unset, .unset] [(.ref b45), (.ref b45), (.ref b44), (.ref b44)])) _
                refine X45.ldc2Long hx hown (mvT hZ (wd hw 9 rfl)) (g := (mkF m 111 #[.val (.int p0), .val (.long p1), .second, .val (.long p2), .second, .val (.int p3), .val (.long p4), .second, .val (.long wm), .second, .val (.long wn), .second, .val (.long av), .second, .val (.long dv), .second, .val (.long bv), .second, .val (.int (p3 &&& (3 : Int32))), .val (.long xv), .second, .unset, .unset, .unset, .unset, .unset, .unset, .unset] [(.ref b45), (.ref b45), (.ref b44), (.ref b44)])) rfl (hb hby at_111) _ ?_
                show Steps p.tables e below (T45.setTop (mkF m 114 #[.val (.int p0), .val (.long p1), .second, .val (.long p2), .second, .val (.int p3), .val (.long p4), .second, .val (.long wm), .second, .val (.long wn), .second, .val (.long av), .second, .val (.long dv), .second, .val (.long bv), .second, .val (.int (p3 &&& (3 : Int32))), .val (.long xv), .second, .unset, .unset, .unset, .unset, .unset, .unset, .unset] [(.long (5 : Int64)), (.ref b45), (.ref b45), (.ref b44), (.ref b44)])) _
                refine XS.lload X45.here hx rfl (hb hby at_114) rfl ?_
                exact k
              refine Go.callC X45 hx hZ (W := 3) (argsL := [(.long (5 : Int64)), (.long wm)]) (rest := [(.ref b45), (.ref b44), (.ref b44)]) hown rfl (wd hw 10 rfl) (wd hw 11 rfl) (wd hw 8 rfl) (wd hw 12 rfl) (by decide) (ct_rinit l Z a0 hw w_MS S_MS E_MS F_MS1 F_MS2 b45 (5 : Int64) wm h45 n0 O E_b45 F_b45_maxOrders F_b45_windowMillis g_b45) e45 (by rw [hml]; rfl) (lenOf pd__JJ_V_1185 rfl) rfl rfl (hb hby at_116) (by decide) (by decide) (by decide) (by decide) ?_
              intro v46 T46 h46 L46 X46 e46 q46
              obtain ⟨rfl, N46, K46, F0_46, F1_46⟩ := q46
              replace N46 := Fr.app N0 N46
              replace E_b44 := E_b44.keep K46
              replace F_b44_times := F_b44_times.keep K46 (ninS ne_b44_b45 nin0)
              replace F_b44_now := F_b44_now.keep K46 (ninS ne_b44_b45 nin0)
              replace F_b44_rate := F_b44_rate.keep K46 (ninS ne_b44_b45 nin0)
              replace F_b44_windowNanos := F_b44_windowNanos.keep K46 (ninS ne_b44_b45 nin0)
              replace F_b44_count := F_b44_count.keep K46 (ninS ne_b44_b45 nin0)
              replace F_b44_head := F_b44_head.keep K46 (ninS ne_b44_b45 nin0)
              replace E_b45 := E_b45.keep K46
              clear F_b45_maxOrders
              clear F_b45_windowMillis
              replace O := O.keep K46 (allS g_b45 all0)
              show Go p e below _ T46 (mkF m 119 #[.val (.int p0), .val (.long p1), .second, .val (.long p2), .second, .val (.int p3), .val (.long p4), .second, .val (.long wm), .second, .val (.long wn), .second, .val (.long av), .second, .val (.long dv), .second, .val (.long bv), .second, .val (.int (p3 &&& (3 : Int32))), .val (.long xv), .second, .unset, .unset, .unset, .unset, .unset, .unset, .unset] [(.ref b45), (.ref b44), (.ref b44)])
              refine Go.callC X46 hx hZ (W := 1) (argsL := [(.ref b45)]) (rest := [(.ref b44)]) hown rfl (wd hw 20 rfl) (wd hw 21 rfl) (wd hw 5 rfl) (wd hw 22 rfl) (by decide) (ct_winit l Z a0 hw w_MS S_MS E_MS F_MS1 F_MS2 b44 b45 wm h46 n0 O E_b44 F_b44_rate F_b44_windowNanos F_b44_times F_b44_head F_b44_count F_b44_now g_b44 E_b45 F1_46 ne_b44_b45 hz1 hz2) e46 (by rw [hml]; rfl) (lenOf pd__Lcom_example_breakwater_breakwater_Orde_4493 rfl) rfl rfl (hb hby at_119) (by decide) (by decide) (by decide) (by decide) ?_
              intro v47 T47 h47 L47 X47 e47 q47
              obtain ⟨ar, kA, rfl, N47, K47, lb47, Fi0, Fi1, Fi2, Fi3, Fi4, V_ar⟩ := q47
              replace N47 := Fr.app N46 N47
              have ne_b44_ar : b44 ≠ ar := Nat.ne_of_lt (Nat.lt_of_lt_of_le E_b44.lt lb47)
              have ne_b45_ar : b45 ≠ ar := Nat.ne_of_lt (Nat.lt_of_lt_of_le E_b45.lt lb47)
              have g_ar : n0 ≤ ar := Nat.le_trans (OwnKit.Old.le O) lb47
              replace E_b44 := E_b44.keep K47
              clear F_b44_times
              clear F_b44_now
              clear F_b44_rate
              clear F_b44_windowNanos
              clear F_b44_count
              clear F_b44_head
              replace E_b45 := E_b45.keep K47
              replace F0_46 := F0_46.keep K47 (ninS (Ne.symm ne_b44_b45) nin0)
              replace F1_46 := F1_46.keep K47 (ninS (Ne.symm ne_b44_b45) nin0)
              replace O := O.keep K47 (allS g_b44 all0)
              replace V_ar : Arv Z h47 ar kA .long (16 : Int32) [(.long (0 : Int64)), (.long (0 : Int64)), (.long (0 : Int64))] (.long (0 : Int64)) := V_ar.pad (pad_rep3 _)
              rw [← hwn] at Fi0
              show Go p e below _ T47 (mkF m 122 #[.val (.int p0), .val (.long p1), .second, .val (.long p2), .second, .val (.int p3), .val (.long p4), .second, .val (.long wm), .second, .val (.long wn), .second, .val (.long av), .second, .val (.long dv), .second, .val (.long bv), .second, .val (.int (p3 &&& (3 : Int32))), .val (.long xv), .second, .unset, .unset, .unset, .unset, .unset, .unset, .unset] [(.ref b44)])
              refine Go.by (T' := T47) (g' := (mkF m 128 #[.val (.int p0), .val (.long p1), .second, .val (.long p2), .second, .val (.int p3), .val (.long p4), .second, .val (.long wm), .second, .val (.long wn), .second, .val (.long av), .second, .val (.long dv), .second, .val (.long bv), .second, .val (.int (p3 &&& (3 : Int32))), .val (.long xv), .second, .val (.ref b44), .unset, .unset, .unset, .unset, .unset, .unset] [(.long av), (.ref b44)])) (fun t k => ?_) ?_
              · show Steps p.tables e below (T47.setTop (mkF m 122 #[.val (.int p0), .val (.long p1), .second, .val (.long p2), .second, .val (.int p3), .val (.long p4), .second, .val (.long wm), .second, .val (.long wn), .second, .val (.long av), .second, .val (.long dv), .second, .val (.long bv), .second, .val (.int (p3 &&& (3 : Int32))), .val (.long xv), .second, .unset, .unset, .unset, .unset, .unset, .unset, .unset] [(.ref b44)])) _
                refine XS.astore X47.here hx rfl (hb hby at_122) rfl rfl (l' := #[.val (.int p0), .val (.long p1), .second, .val (.long p2), .second, .val (.int p3), .val (.long p4), .second, .val (.long wm), .second, .val (.long wn), .second, .val (.long av), .second, .val (.long dv), .second, .val (.long bv), .second, .val (.int (p3 &&& (3 : Int32))), .val (.long xv), .second, .val (.ref b44), .unset, .unset, .unset, .unset, .unset, .unset]) rfl ?_
                show Steps p.tables e below (T47.setTop (mkF m 124 #[.val (.int p0), .val (.long p1), .second, .val (.long p2), .second, .val (.int p3), .val (.long p4), .second, .val (.long wm), .second, .val (.long wn), .second, .val (.long av), .second, .val (.long dv), .second, .val (.long bv), .second, .val (.int (p3 &&& (3 : Int32))), .val (.long xv), .second, .val (.ref b44), .unset, .unset, .unset, .unset, .unset, .unset] [])) _
                refine XS.aload X47.here hx rfl (hb hby at_124) rfl rfl ?_
                show Steps p.tables e below (T47.setTop (mkF m 126 #[.val (.int p0), .val (.long p1), .second, .val (.long p2), .second, .val (.int p3), .val (.long p4), .second, .val (.long wm), .second, .val (.long wn), .second, .val (.long av), .second, .val (.long dv), .second, .val (.long bv), .second, .val (.int (p3 &&& (3 : Int32))), .val (.long xv), .second, .val (.ref b44), .unset, .unset, .unset, .unset, .unset, .unset] [(.ref b44)])) _
                refine XS.lload X47.here hx rfl (hb hby at_126) rfl ?_
                exact k
              refine Go.callV X47 hx hZ (W := 0) (argsL := [(.long av)]) (rest := []) hown (wd hw 50 rfl) (wd hw 51 rfl) (notFace_of_selects (args := #[]) (mvT hZ (wd hw 53 rfl))) (wd hw 53 rfl) (wd hw 52 rfl) (wd hw 5 rfl) (wd hw 54 rfl) (by decide) E_b44 (ct_move_0_0_0 l Z a0 hw w_MS S_MS E_MS F_MS1 F_MS2 b44 ar kA wn (-9223372036854775808 : Int64) (0 : Int64) (0 : Int64) (0 : Int64) av h47 n0 O E_b44 Fi0 Fi1 Fi2 Fi3 Fi4 V_ar g_b44 g_ar ne_b44_ar (own_min _)) e47 (by rw [hml]; rfl) (lenOf pd__J_Z_8741 rfl) rfl rfl (hb hby at_128) (by decide) (by decide) (by decide) (by decide) ?_
              intro v48 T48 h48 L48 X48 e48 q48
              obtain ⟨rfl, N48, K48, Fi0_48, Fi1_48, Fi2_48, Fi3_48, Fi4_48, V_a48⟩ := q48
              replace N48 := Fr.app N47 N48
              replace E_b44 := E_b44.keep K48
              replace E_b45 := E_b45.keep K48
              replace F0_46 := F0_46.keep K48 (ninS (Ne.symm ne_b44_b45) (ninS ne_b45_ar nin0))
              replace F1_46 := F1_46.keep K48 (ninS (Ne.symm ne_b44_b45) (ninS ne_b45_ar nin0))
              clear Fi0
              clear Fi1
              clear Fi2
              clear Fi3
              clear Fi4
              clear V_ar
              replace O := O.keep K48 (allS g_b44 (allS g_ar all0))
              have V_ar := V_a48
              show Go p e below _ T48 (mkF m 131 #[.val (.int p0), .val (.long p1), .second, .val (.long p2), .second, .val (.int p3), .val (.long p4), .second, .val (.long wm), .second, .val (.long wn), .second, .val (.long av), .second, .val (.long dv), .second, .val (.long bv), .second, .val (.int (p3 &&& (3 : Int32))), .val (.long xv), .second, .val (.ref b44), .unset, .unset, .unset, .unset, .unset, .unset] [(.int (1 : Int32))])
              refine Go.by (T' := T48) (g' := (mkF m 134 #[.val (.int p0), .val (.long p1), .second, .val (.long p2), .second, .val (.int p3), .val (.long p4), .second, .val (.long wm), .second, .val (.long wn), .second, .val (.long av), .second, .val (.long dv), .second, .val (.long bv), .second, .val (.int (p3 &&& (3 : Int32))), .val (.long xv), .second, .val (.ref b44), .unset, .unset, .unset, .unset, .unset, .unset] [(.ref b44)])) (fun t k => ?_) ?_
              · show Steps p.tables e below (T48.setTop (mkF m 131 #[.val (.int p0), .val (.long p1), .second, .val (.long p2), .second, .val (.int p3), .val (.long p4), .second, .val (.long wm), .second, .val (.long wn), .second, .val (.long av), .second, .val (.long dv), .second, .val (.long bv), .second, .val (.int (p3 &&& (3 : Int32))), .val (.long xv), .second, .val (.ref b44), .unset, .unset, .unset, .unset, .unset, .unset] [(.int (1 : Int32))])) _
                refine XS.pop X48.here hx rfl (hb hby at_131) rfl rfl ?_
                show Steps p.tables e below (T48.setTop (mkF m 132 #[.val (.int p0), .val (.long p1), .second, .val (.long p2), .second, .val (.int p3), .val (.long p4), .second, .val (.long wm), .second, .val (.long wn), .second, .val (.long av), .second, .val (.long dv), .second, .val (.long bv), .second, .val (.int (p3 &&& (3 : Int32))), .val (.long xv), .second, .val (.ref b44), .unset, .unset, .unset, .unset, .unset, .unset] [])) _
                refine XS.aload X48.here hx rfl (hb hby at_132) rfl rfl ?_
                exact k
              refine Go.callV X48 hx hZ (W := 0) (argsL := []) (rest := []) hown (wd hw 57 rfl) (wd hw 58 rfl) (notFace_of_selects (args := #[]) (mvT hZ (wd hw 60 rfl))) (wd hw 60 rfl) (wd hw 59 rfl) (wd hw 5 rfl) (wd hw 61 rfl) (by decide) E_b44 (ct_add_0_0 l Z a0 hw w_MS S_MS E_MS F_MS1 F_MS2 b44 ar kA wn av (0 : Int64) (0 : Int64) (0 : Int64) h48 n0 O E_b44 Fi0_48 Fi1_48 Fi2_48 Fi3_48 Fi4_48 V_ar g_b44 g_ar ne_b44_ar) e48 (by rw [hml]; rfl) (lenOf pd___V_8334 rfl) rfl rfl (hb hby at_134) (by decide) (by decide) (by decide) (by decide) ?_
              intro v49 T49 h49 L49 X49 e49 q49
              obtain ⟨rfl, N49, K49, Fi0_49, Fi1_49, Fi2_49, Fi3_49, Fi4_49, V_a49⟩ := q49
              replace N49 := Fr.app N48 N49
              replace E_b44 := E_b44.keep K49
              replace E_b45 := E_b45.keep K49
              replace F0_46 := F0_46.keep K49 (ninS (Ne.symm ne_b44_b45) (ninS ne_b45_ar nin0))
              replace F1_46 := F1_46.keep K49 (ninS (Ne.symm ne_b44_b45) (ninS ne_b45_ar nin0))
              clear Fi0_48
              clear Fi1_48
              clear Fi2_48
              clear Fi3_48
              clear Fi4_48
              clear V_ar
              replace O := O.keep K49 (allS g_b44 (allS g_ar all0))
              have V_ar := V_a49
              show Go p e below _ T49 (mkF m 137 #[.val (.int p0), .val (.long p1), .second, .val (.long p2), .second, .val (.int p3), .val (.long p4), .second, .val (.long wm), .second, .val (.long wn), .second, .val (.long av), .second, .val (.long dv), .second, .val (.long bv), .second, .val (.int (p3 &&& (3 : Int32))), .val (.long xv), .second, .val (.ref b44), .unset, .unset, .unset, .unset, .unset, .unset] [])
              refine Go.by (T' := T49) (g' := (mkF m 141 #[.val (.int p0), .val (.long p1), .second, .val (.long p2), .second, .val (.int p3), .val (.long p4), .second, .val (.long wm), .second, .val (.long wn), .second, .val (.long av), .second, .val (.long dv), .second, .val (.long bv), .second, .val (.int (p3 &&& (3 : Int32))), .val (.long xv), .second, .val (.ref b44), .unset, .unset, .unset, .unset, .unset, .unset] [(.long bv), (.ref b44)])) (fun t k => ?_) ?_
              · show Steps p.tables e below (T49.setTop (mkF m 137 #[.val (.int p0), .val (.long p1), .second, .val (.long p2), .second, .val (.int p3), .val (.long p4), .second, .val (.long wm), .second, .val (.long wn), .second, .val (.long av), .second, .val (.long dv), .second, .val (.long bv), .second, .val (.int (p3 &&& (3 : Int32))), .val (.long xv), .second, .val (.ref b44), .unset, .unset, .unset, .unset, .unset, .unset] [])) _
                refine XS.aload X49.here hx rfl (hb hby at_137) rfl rfl ?_
                show Steps p.tables e below (T49.setTop (mkF m 139 #[.val (.int p0), .val (.long p1), .second, .val (.long p2), .second, .val (.int p3), .val (.long p4), .second, .val (.long wm), .second, .val (.long wn), .second, .val (.long av), .second, .val (.long dv), .second, .val (.long bv), .second, .val (.int (p3 &&& (3 : Int32))), .val (.long xv), .second, .val (.ref b44), .unset, .unset, .unset, .unset, .unset, .unset] [(.ref b44)])) _
                refine XS.lload X49.here hx rfl (hb hby at_139) rfl ?_
                exact k
              refine Go.callV X49 hx hZ (W := 0) (argsL := [(.long bv)]) (rest := []) hown (wd hw 50 rfl) (wd hw 51 rfl) (notFace_of_selects (args := #[]) (mvT hZ (wd hw 53 rfl))) (wd hw 53 rfl) (wd hw 52 rfl) (wd hw 5 rfl) (wd hw 54 rfl) (by decide) E_b44 (ct_move_0_1_0 l Z a0 hw w_MS S_MS E_MS F_MS1 F_MS2 b44 ar kA wn av av (0 : Int64) (0 : Int64) bv h49 n0 O E_b44 Fi0_49 Fi1_49 Fi2_49 Fi3_49 Fi4_49 V_ar g_b44 g_ar ne_b44_ar (own_ge hbv ha hd) (own_k1 hbv ha hd hy29)) e49 (by rw [hml]; rfl) (lenOf pd__J_Z_8741 rfl) rfl rfl (hb hby at_141) (by decide) (by decide) (by decide) (by decide) ?_
              intro v50 T50 h50 L50 X50 e50 q50
              obtain ⟨rfl, N50, K50, Fi0_50, Fi1_50, Fi2_50, Fi3_50, Fi4_50, V_a50⟩ := q50
              replace N50 := Fr.app N49 N50
              replace E_b44 := E_b44.keep K50
              replace E_b45 := E_b45.keep K50
              replace F0_46 := F0_46.keep K50 (ninS (Ne.symm ne_b44_b45) (ninS ne_b45_ar nin0))
              replace F1_46 := F1_46.keep K50 (ninS (Ne.symm ne_b44_b45) (ninS ne_b45_ar nin0))
              clear Fi0_49
              clear Fi1_49
              clear Fi2_49
              clear Fi3_49
              clear Fi4_49
              clear V_ar
              replace O := O.keep K50 (allS g_b44 (allS g_ar all0))
              have V_ar := V_a50
              show Go p e below _ T50 (mkF m 144 #[.val (.int p0), .val (.long p1), .second, .val (.long p2), .second, .val (.int p3), .val (.long p4), .second, .val (.long wm), .second, .val (.long wn), .second, .val (.long av), .second, .val (.long dv), .second, .val (.long bv), .second, .val (.int (p3 &&& (3 : Int32))), .val (.long xv), .second, .val (.ref b44), .unset, .unset, .unset, .unset, .unset, .unset] [(.int (1 : Int32))])
              refine Go.by (T' := T50) (g' := (mkF m 147 #[.val (.int p0), .val (.long p1), .second, .val (.long p2), .second, .val (.int p3), .val (.long p4), .second, .val (.long wm), .second, .val (.long wn), .second, .val (.long av), .second, .val (.long dv), .second, .val (.long bv), .second, .val (.int (p3 &&& (3 : Int32))), .val (.long xv), .second, .val (.ref b44), .unset, .unset, .unset, .unset, .unset, .unset] [(.ref b44)])) (fun t k => ?_) ?_
              · show Steps p.tables e below (T50.setTop (mkF m 144 #[.val (.int p0), .val (.long p1), .second, .val (.long p2), .second, .val (.int p3), .val (.long p4), .second, .val (.long wm), .second, .val (.long wn), .second, .val (.long av), .second, .val (.long dv), .second, .val (.long bv), .second, .val (.int (p3 &&& (3 : Int32))), .val (.long xv), .second, .val (.ref b44), .unset, .unset, .unset, .unset, .unset, .unset] [(.int (1 : Int32))])) _
                refine XS.pop X50.here hx rfl (hb hby at_144) rfl rfl ?_
                show Steps p.tables e below (T50.setTop (mkF m 145 #[.val (.int p0), .val (.long p1), .second, .val (.long p2), .second, .val (.int p3), .val (.long p4), .second, .val (.long wm), .second, .val (.long wn), .second, .val (.long av), .second, .val (.long dv), .second, .val (.long bv), .second, .val (.int (p3 &&& (3 : Int32))), .val (.long xv), .second, .val (.ref b44), .unset, .unset, .unset, .unset, .unset, .unset] [])) _
                refine XS.aload X50.here hx rfl (hb hby at_145) rfl rfl ?_
                exact k
              refine Go.callV X50 hx hZ (W := 0) (argsL := []) (rest := []) hown (wd hw 57 rfl) (wd hw 58 rfl) (notFace_of_selects (args := #[]) (mvT hZ (wd hw 60 rfl))) (wd hw 60 rfl) (wd hw 59 rfl) (wd hw 5 rfl) (wd hw 61 rfl) (by decide) E_b44 (ct_add_0_1 l Z a0 hw w_MS S_MS E_MS F_MS1 F_MS2 b44 ar kA wn bv av (0 : Int64) (0 : Int64) h50 n0 O E_b44 Fi0_50 Fi1_50 Fi2_50 Fi3_50 Fi4_50 V_ar g_b44 g_ar ne_b44_ar) e50 (by rw [hml]; rfl) (lenOf pd___V_8334 rfl) rfl rfl (hb hby at_147) (by decide) (by decide) (by decide) (by decide) ?_
              intro v51 T51 h51 L51 X51 e51 q51
              obtain ⟨rfl, N51, K51, Fi0_51, Fi1_51, Fi2_51, Fi3_51, Fi4_51, V_a51⟩ := q51
              replace N51 := Fr.app N50 N51
              replace E_b44 := E_b44.keep K51
              replace E_b45 := E_b45.keep K51
              replace F0_46 := F0_46.keep K51 (ninS (Ne.symm ne_b44_b45) (ninS ne_b45_ar nin0))
              replace F1_46 := F1_46.keep K51 (ninS (Ne.symm ne_b44_b45) (ninS ne_b45_ar nin0))
              clear Fi0_50
              clear Fi1_50
              clear Fi2_50
              clear Fi3_50
              clear Fi4_50
              clear V_ar
              replace O := O.keep K51 (allS g_b44 (allS g_ar all0))
              have V_ar := V_a51
              show Go p e below _ T51 (mkF m 150 #[.val (.int p0), .val (.long p1), .second, .val (.long p2), .second, .val (.int p3), .val (.long p4), .second, .val (.long wm), .second, .val (.long wn), .second, .val (.long av), .second, .val (.long dv), .second, .val (.long bv), .second, .val (.int (p3 &&& (3 : Int32))), .val (.long xv), .second, .val (.ref b44), .unset, .unset, .unset, .unset, .unset, .unset] [])
              refine Go.by (T' := T51) (g' := (mkF m 154 #[.val (.int p0), .val (.long p1), .second, .val (.long p2), .second, .val (.int p3), .val (.long p4), .second, .val (.long wm), .second, .val (.long wn), .second, .val (.long av), .second, .val (.long dv), .second, .val (.long bv), .second, .val (.int (p3 &&& (3 : Int32))), .val (.long xv), .second, .val (.ref b44), .unset, .unset, .unset, .unset, .unset, .unset] [(.long xv), (.ref b44)])) (fun t k => ?_) ?_
              · show Steps p.tables e below (T51.setTop (mkF m 150 #[.val (.int p0), .val (.long p1), .second, .val (.long p2), .second, .val (.int p3), .val (.long p4), .second, .val (.long wm), .second, .val (.long wn), .second, .val (.long av), .second, .val (.long dv), .second, .val (.long bv), .second, .val (.int (p3 &&& (3 : Int32))), .val (.long xv), .second, .val (.ref b44), .unset, .unset, .unset, .unset, .unset, .unset] [])) _
                refine XS.aload X51.here hx rfl (hb hby at_150) rfl rfl ?_
                show Steps p.tables e below (T51.setTop (mkF m 152 #[.val (.int p0), .val (.long p1), .second, .val (.long p2), .second, .val (.int p3), .val (.long p4), .second, .val (.long wm), .second, .val (.long wn), .second, .val (.long av), .second, .val (.long dv), .second, .val (.long bv), .second, .val (.int (p3 &&& (3 : Int32))), .val (.long xv), .second, .val (.ref b44), .unset, .unset, .unset, .unset, .unset, .unset] [(.ref b44)])) _
                refine XS.lload X51.here hx rfl (hb hby at_152) rfl ?_
                exact k
              refine Go.callV X51 hx hZ (W := 0) (argsL := [(.long xv)]) (rest := []) hown (wd hw 64 rfl) (wd hw 65 rfl) (notFace_of_selects (args := #[]) (mvT hZ (wd hw 67 rfl))) (wd hw 67 rfl) (wd hw 66 rfl) (wd hw 5 rfl) (wd hw 68 rfl) (by decide) E_b44 (ct_remove_0_2_0 l Z a0 hw w_MS S_MS E_MS F_MS1 F_MS2 b44 ar kA wn bv av bv (0 : Int64) xv h51 n0 O E_b44 Fi0_51 Fi1_51 Fi2_51 Fi3_51 Fi4_51 V_ar g_b44 g_ar ne_b44_ar (Ne.symm hy30) hy43.symm) e51 (by rw [hml]; rfl) (lenOf pd__J_V_8737 rfl) rfl rfl (hb hby at_154) (by decide) (by decide) (by decide) (by decide) ?_
              intro v52 T52 h52 L52 X52 e52 q52
              obtain ⟨rfl, N52, K52, Fi0_52, Fi1_52, Fi2_52, Fi3_52, Fi4_52, V_a52⟩ := q52
              replace N52 := Fr.app N51 N52
              replace E_b44 := E_b44.keep K52
              replace E_b45 := E_b45.keep K52
              replace F0_46 := F0_46.keep K52 (ninS (Ne.symm ne_b44_b45) (ninS ne_b45_ar nin0))
              replace F1_46 := F1_46.keep K52 (ninS (Ne.symm ne_b44_b45) (ninS ne_b45_ar nin0))
              clear Fi0_51
              clear Fi1_51
              clear Fi2_51
              clear Fi3_51
              clear Fi4_51
              clear V_ar
              replace O := O.keep K52 (allS g_b44 (allS g_ar all0))
              have V_ar := V_a52
              show Go p e below _ T52 (mkF m 157 #[.val (.int p0), .val (.long p1), .second, .val (.long p2), .second, .val (.int p3), .val (.long p4), .second, .val (.long wm), .second, .val (.long wn), .second, .val (.long av), .second, .val (.long dv), .second, .val (.long bv), .second, .val (.int (p3 &&& (3 : Int32))), .val (.long xv), .second, .val (.ref b44), .unset, .unset, .unset, .unset, .unset, .unset] [])
              refine Go.by (T' := T52) (g' := (mkF m 159 #[.val (.int p0), .val (.long p1), .second, .val (.long p2), .second, .val (.int p3), .val (.long p4), .second, .val (.long wm), .second, .val (.long wn), .second, .val (.long av), .second, .val (.long dv), .second, .val (.long bv), .second, .val (.int (p3 &&& (3 : Int32))), .val (.long xv), .second, .val (.ref b44), .unset, .unset, .unset, .unset, .unset, .unset] [(.ref b44)])) (fun t k => ?_) ?_
              · show Steps p.tables e below (T52.setTop (mkF m 157 #[.val (.int p0), .val (.long p1), .second, .val (.long p2), .second, .val (.int p3), .val (.long p4), .second, .val (.long wm), .second, .val (.long wn), .second, .val (.long av), .second, .val (.long dv), .second, .val (.long bv), .second, .val (.int (p3 &&& (3 : Int32))), .val (.long xv), .second, .val (.ref b44), .unset, .unset, .unset, .unset, .unset, .unset] [])) _
                refine XS.aload X52.here hx rfl (hb hby at_157) rfl rfl ?_
                exact k
              refine Go.callV X52 hx hZ (W := 0) (argsL := []) (rest := []) hown (wd hw 69 rfl) (wd hw 70 rfl) (notFace_of_selects (args := #[]) (mvT hZ (wd hw 72 rfl))) (wd hw 72 rfl) (wd hw 71 rfl) (wd hw 5 rfl) (wd hw 73 rfl) (by decide) E_b44 (ct_get_count_l_1___Int32__5 l Z a0 hw  b44 h52 n0 O Fi3_52) e52 (by rw [hml]; rfl) (lenOf pd___I_8321 rfl) rfl rfl (hb hby at_159) (by decide) (by decide) (by decide) (by decide) ?_
              intro v53 T53 h53 L53 X53 e53 q53
              obtain ⟨rfl, N53, rfl⟩ := q53
              replace N53 := Fr.app N52 N53
              show Go p e below _ T53 (mkF m 162 #[.val (.int p0), .val (.long p1), .second, .val (.long p2), .second, .val (.int p3), .val (.long p4), .second, .val (.long wm), .second, .val (.long wn), .second, .val (.long av), .second, .val (.long dv), .second, .val (.long bv), .second, .val (.int (p3 &&& (3 : Int32))), .val (.long xv), .second, .val (.ref b44), .unset, .unset, .unset, .unset, .unset, .unset] [(.int (1 : Int32))])
              refine Go.by (T' := T53) (g' := (mkF m 173 #[.val (.int p0), .val (.long p1), .second, .val (.long p2), .second, .val (.int p3), .val (.long p4), .second, .val (.long wm), .second, .val (.long wn), .second, .val (.long av), .second, .val (.long dv), .second, .val (.long bv), .second, .val (.int (p3 &&& (3 : Int32))), .val (.long xv), .second, .val (.ref b44), .val (.int (1 : Int32)), .unset, .unset, .unset, .unset, .unset] [(.long ((bv + wn) - (1 : Int64))), (.ref b44)])) (fun t k => ?_) ?_
              · show Steps p.tables e below (T53.setTop (mkF m 162 #[.val (.int p0), .val (.long p1), .second, .val (.long p2), .second, .val (.int p3), .val (.long p4), .second, .val (.long wm), .second, .val (.long wn), .second, .val (.long av), .second, .val (.long dv), .second, .val (.long bv), .second, .val (.int (p3 &&& (3 : Int32))), .val (.long xv), .second, .val (.ref b44), .unset, .unset, .unset, .unset, .unset, .unset] [(.int (1 : Int32))])) _
                refine XS.istore X53.here hx rfl (hb hby at_162) rfl (l' := #[.val (.int p0), .val (.long p1), .second, .val (.long p2), .second, .val (.int p3), .val (.long p4), .second, .val (.long wm), .second, .val (.long wn), .second, .val (.long av), .second, .val (.long dv), .second, .val (.long bv), .second, .val (.int (p3 &&& (3 : Int32))), .val (.long xv), .second, .val (.ref b44), .val (.int (1 : Int32)), .unset, .unset, .unset, .unset, .unset]) rfl ?_
                show Steps p.tables e below (T53.setTop (mkF m 164 #[.val (.int p0), .val (.long p1), .second, .val (.long p2), .second, .val (.int p3), .val (.long p4), .second, .val (.long wm), .second, .val (.long wn), .second, .val (.long av), .second, .val (.long dv), .second, .val (.long bv), .second, .val (.int (p3 &&& (3 : Int32))), .val (.long xv), .second, .val (.ref b44), .val (.int (1 : Int32)), .unset, .unset, .unset, .unset, .unset] [])) _
                refine XS.aload X53.here hx rfl (hb hby at_164) rfl rfl ?_
                show Steps p.tables e below (T53.setTop (mkF m 166 #[.val (.int p0), .val (.long p1), .second, .val (.long p2), .second, .val (.int p3), .val (.long p4), .second, .val (.long wm), .second, .val (.long wn), .second, .val (.long av), .second, .val (.long dv), .second, .val (.long bv), .second, .val (.int (p3 &&& (3 : Int32))), .val (.long xv), .second, .val (.ref b44), .val (.int (1 : Int32)), .unset, .unset, .unset, .unset, .unset] [(.ref b44)])) _
                refine XS.lload X53.here hx rfl (hb hby at_166) rfl ?_
                show Steps p.tables e below (T53.setTop (mkF m 168 #[.val (.int p0), .val (.long p1), .second, .val (.long p2), .second, .val (.int p3), .val (.long p4), .second, .val (.long wm), .second, .val (.long wn), .second, .val (.long av), .second, .val (.long dv), .second, .val (.long bv), .second, .val (.int (p3 &&& (3 : Int32))), .val (.long xv), .second, .val (.ref b44), .val (.int (1 : Int32)), .unset, .unset, .unset, .unset, .unset] [(.long bv), (.ref b44)])) _
                refine XS.lload X53.here hx rfl (hb hby at_168) rfl ?_
                show Steps p.tables e below (T53.setTop (mkF m 170 #[.val (.int p0), .val (.long p1), .second, .val (.long p2), .second, .val (.int p3), .val (.long p4), .second, .val (.long wm), .second, .val (.long wn), .second, .val (.long av), .second, .val (.long dv), .second, .val (.long bv), .second, .val (.int (p3 &&& (3 : Int32))), .val (.long xv), .second, .val (.ref b44), .val (.int (1 : Int32)), .unset, .unset, .unset, .unset, .unset] [(.long wn), (.long bv), (.ref b44)])) _
                refine XS.ladd X53.here hx rfl (hb hby at_170) rfl ?_
                show Steps p.tables e below (T53.setTop (mkF m 171 #[.val (.int p0), .val (.long p1), .second, .val (.long p2), .second, .val (.int p3), .val (.long p4), .second, .val (.long wm), .second, .val (.long wn), .second, .val (.long av), .second, .val (.long dv), .second, .val (.long bv), .second, .val (.int (p3 &&& (3 : Int32))), .val (.long xv), .second, .val (.ref b44), .val (.int (1 : Int32)), .unset, .unset, .unset, .unset, .unset] [(.long (bv + wn)), (.ref b44)])) _
                refine XS.lconst X53.here hx rfl (hb hby at_171) ?_
                show Steps p.tables e below (T53.setTop (mkF m 172 #[.val (.int p0), .val (.long p1), .second, .val (.long p2), .second, .val (.int p3), .val (.long p4), .second, .val (.long wm), .second, .val (.long wn), .second, .val (.long av), .second, .val (.long dv), .second, .val (.long bv), .second, .val (.int (p3 &&& (3 : Int32))), .val (.long xv), .second, .val (.ref b44), .val (.int (1 : Int32)), .unset, .unset, .unset, .unset, .unset] [(.long (1 : Int64)), (.long (bv + wn)), (.ref b44)])) _
                refine XS.lsub X53.here hx rfl (hb hby at_172) rfl ?_
                exact k
              refine Go.callV X53 hx hZ (W := 0) (argsL := [(.long ((bv + wn) - (1 : Int64)))]) (rest := []) hown (wd hw 50 rfl) (wd hw 51 rfl) (notFace_of_selects (args := #[]) (mvT hZ (wd hw 53 rfl))) (wd hw 53 rfl) (wd hw 52 rfl) (wd hw 5 rfl) (wd hw 54 rfl) (by decide) E_b44 (ct_move_0_1_0 l Z a0 hw w_MS S_MS E_MS F_MS1 F_MS2 b44 ar kA wn bv bv bv (0 : Int64) ((bv + wn) - (1 : Int64)) h52 n0 O E_b44 Fi0_52 Fi1_52 Fi2_52 Fi3_52 Fi4_52 V_ar g_b44 g_ar ne_b44_ar (own_t3 hbv ha hd hwr) (own_s1 hbv ha hd hwr)) e53 (by rw [hml]; rfl) (lenOf pd__J_Z_8741 rfl) rfl rfl (hb hby at_173) (by decide) (by decide) (by decide) (by decide) ?_
              intro v54 T54 h54 L54 X54 e54 q54
              obtain ⟨rfl, N54, K54, Fi0_54, Fi1_54, Fi2_54, Fi3_54, Fi4_54, V_a54⟩ := q54
              replace N54 := Fr.app N53 N54
              replace E_b44 := E_b44.keep K54
              replace E_b45 := E_b45.keep K54
              replace F0_46 := F0_46.keep K54 (ninS (Ne.symm ne_b44_b45) (ninS ne_b45_ar nin0))
              replace F1_46 := F1_46.keep K54 (ninS (Ne.symm ne_b44_b45) (ninS ne_b45_ar nin0))
              clear Fi0_52
              clear Fi1_52
              clear Fi2_52
              clear Fi3_52
              clear Fi4_52
              clear V_ar
              replace O := O.keep K54 (allS g_b44 (allS g_ar all0))
              have V_ar := V_a54
              show Go p e below _ T54 (mkF m 176 #[.val (.int p0), .val (.long p1), .second, .val (.long p2), .second, .val (.int p3), .val (.long p4), .second, .val (.long wm), .second, .val (.long wn), .second, .val (.long av), .second, .val (.long dv), .second, .val (.long bv), .second, .val (.int (p3 &&& (3 : Int32))), .val (.long xv), .second, .val (.ref b44), .val (.int (1 : Int32)), .unset, .unset, .unset, .unset, .unset] [(.int (1 : Int32))])
              refine Go.by (T' := T54) (g' := (mkF m 180 #[.val (.int p0), .val (.long p1), .second, .val (.long p2), .second, .val (.int p3), .val (.long p4), .second, .val (.long wm), .second, .val (.long wn), .second, .val (.long av), .second, .val (.long dv), .second, .val (.long bv), .second, .val (.int (p3 &&& (3 : Int32))), .val (.long xv), .second, .val (.ref b44), .val (.int (1 : Int32)), .val (.int (1 : Int32)), .unset, .unset, .unset, .unset] [(.ref b44)])) (fun t k => ?_) ?_
              · show Steps p.tables e below (T54.setTop (mkF m 176 #[.val (.int p0), .val (.long p1), .second, .val (.long p2), .second, .val (.int p3), .val (.long p4), .second, .val (.long wm), .second, .val (.long wn), .second, .val (.long av), .second, .val (.long dv), .second, .val (.long bv), .second, .val (.int (p3 &&& (3 : Int32))), .val (.long xv), .second, .val (.ref b44), .val (.int (1 : Int32)), .unset, .unset, .unset, .unset, .unset] [(.int (1 : Int32))])) _
                refine XS.istore X54.here hx rfl (hb hby at_176) rfl (l' := #[.val (.int p0), .val (.long p1), .second, .val (.long p2), .second, .val (.int p3), .val (.long p4), .second, .val (.long wm), .second, .val (.long wn), .second, .val (.long av), .second, .val (.long dv), .second, .val (.long bv), .second, .val (.int (p3 &&& (3 : Int32))), .val (.long xv), .second, .val (.ref b44), .val (.int (1 : Int32)), .val (.int (1 : Int32)), .unset, .unset, .unset, .unset]) rfl ?_
                show Steps p.tables e below (T54.setTop (mkF m 178 #[.val (.int p0), .val (.long p1), .second, .val (.long p2), .second, .val (.int p3), .val (.long p4), .second, .val (.long wm), .second, .val (.long wn), .second, .val (.long av), .second, .val (.long dv), .second, .val (.long bv), .second, .val (.int (p3 &&& (3 : Int32))), .val (.long xv), .second, .val (.ref b44), .val (.int (1 : Int32)), .val (.int (1 : Int32)), .unset, .unset, .unset, .unset] [])) _
                refine XS.aload X54.here hx rfl (hb hby at_178) rfl rfl ?_
                exact k
              refine Go.callV X54 hx hZ (W := 0) (argsL := []) (rest := []) hown (wd hw 69 rfl) (wd hw 70 rfl) (notFace_of_selects (args := #[]) (mvT hZ (wd hw 72 rfl))) (wd hw 72 rfl) (wd hw 71 rfl) (wd hw 5 rfl) (wd hw 73 rfl) (by decide) E_b44 (ct_get_count_l_1___Int32__5 l Z a0 hw  b44 h54 n0 O Fi3_54) e54 (by rw [hml]; rfl) (lenOf pd___I_8321 rfl) rfl rfl (hb hby at_180) (by decide) (by decide) (by decide) (by decide) ?_
              intro v55 T55 h55 L55 X55 e55 q55
              obtain ⟨rfl, N55, rfl⟩ := q55
              replace N55 := Fr.app N54 N55
              show Go p e below _ T55 (mkF m 183 #[.val (.int p0), .val (.long p1), .second, .val (.long p2), .second, .val (.int p3), .val (.long p4), .second, .val (.long wm), .second, .val (.long wn), .second, .val (.long av), .second, .val (.long dv), .second, .val (.long bv), .second, .val (.int (p3 &&& (3 : Int32))), .val (.long xv), .second, .val (.ref b44), .val (.int (1 : Int32)), .val (.int (1 : Int32)), .unset, .unset, .unset, .unset] [(.int (1 : Int32))])
              refine Go.by (T' := T55) (g' := (mkF m 299 #[.val (.int p0), .val (.long p1), .second, .val (.long p2), .second, .val (.int p3), .val (.long p4), .second, .val (.long wm), .second, .val (.long wn), .second, .val (.long av), .second, .val (.long dv), .second, .val (.long bv), .second, .val (.int (p3 &&& (3 : Int32))), .val (.long xv), .second, .val (.ref b44), .val (.int (1 : Int32)), .val (.int (1 : Int32)), .val (.int (1 : Int32)), .val (.int (1 : Int32)), .val (.int (0 : Int32)), .val (.int (1 : Int32))] [(.int (1 : Int32))])) (fun t k => ?_) ?_
              · show Steps p.tables e below (T55.setTop (mkF m 183 #[.val (.int p0), .val (.long p1), .second, .val (.long p2), .second, .val (.int p3), .val (.long p4), .second, .val (.long wm), .second, .val (.long wn), .second, .val (.long av), .second, .val (.long dv), .second, .val (.long bv), .second, .val (.int (p3 &&& (3 : Int32))), .val (.long xv), .second, .val (.ref b44), .val (.int (1 : Int32)), .val (.int (1 : Int32)), .unset, .unset, .unset, .unset] [(.int (1 : Int32))])) _
                refine XS.istore X55.here hx rfl (hb hby at_183) rfl (l' := #[.val (.int p0), .val (.long p1), .second, .val (.long p2), .second, .val (.int p3), .val (.long p4), .second, .val (.long wm), .second, .val (.long wn), .second, .val (.long av), .second, .val (.long dv), .second, .val (.long bv), .second, .val (.int (p3 &&& (3 : Int32))), .val (.long xv), .second, .val (.ref b44), .val (.int (1 : Int32)), .val (.int (1 : Int32)), .val (.int (1 : Int32)), .unset, .unset, .unset]) rfl ?_
                show Steps p.tables e below (T55.setTop (mkF m 185 #[.val (.int p0), .val (.long p1), .second, .val (.long p2), .second, .val (.int p3), .val (.long p4), .second, .val (.long wm), .second, .val (.long wn), .second, .val (.long av), .second, .val (.long dv), .second, .val (.long bv), .second, .val (.int (p3 &&& (3 : Int32))), .val (.long xv), .second, .val (.ref b44), .val (.int (1 : Int32)), .val (.int (1 : Int32)), .val (.int (1 : Int32)), .unset, .unset, .unset] [])) _
                refine XS.lload X55.here hx rfl (hb hby at_185) rfl ?_
                show Steps p.tables e below (T55.setTop (mkF m 187 #[.val (.int p0), .val (.long p1), .second, .val (.long p2), .second, .val (.int p3), .val (.long p4), .second, .val (.long wm), .second, .val (.long wn), .second, .val (.long av), .second, .val (.long dv), .second, .val (.long bv), .second, .val (.int (p3 &&& (3 : Int32))), .val (.long xv), .second, .val (.ref b44), .val (.int (1 : Int32)), .val (.int (1 : Int32)), .val (.int (1 : Int32)), .unset, .unset, .unset] [(.long dv)])) _
                refine XS.lload X55.here hx rfl (hb hby at_187) rfl ?_
                show Steps p.tables e below (T55.setTop (mkF m 189 #[.val (.int p0), .val (.long p1), .second, .val (.long p2), .second, .val (.int p3), .val (.long p4), .second, .val (.long wm), .second, .val (.long wn), .second, .val (.long av), .second, .val (.long dv), .second, .val (.long bv), .second, .val (.int (p3 &&& (3 : Int32))), .val (.long xv), .second, .val (.ref b44), .val (.int (1 : Int32)), .val (.int (1 : Int32)), .val (.int (1 : Int32)), .unset, .unset, .unset] [(.long wn), (.long dv)])) _
                refine XS.lcmp X55.here hx rfl (hb hby at_189) rfl ?_
                show Steps p.tables e below (T55.setTop (mkF m 190 #[.val (.int p0), .val (.long p1), .second, .val (.long p2), .second, .val (.int p3), .val (.long p4), .second, .val (.long wm), .second, .val (.long wn), .second, .val (.long av), .second, .val (.long dv), .second, .val (.long bv), .second, .val (.int (p3 &&& (3 : Int32))), .val (.long xv), .second, .val (.ref b44), .val (.int (1 : Int32)), .val (.int (1 : Int32)), .val (.int (1 : Int32)), .unset, .unset, .unset] [(.int (lcmpW dv wn))])) _
                refine XS.ifNo X55.here hx rfl (hb hby at_190) rfl ((if0 _ _).trans (tlt ((lw_lt _ _).mpr hy29)).2.1) ?_
                show Steps p.tables e below (T55.setTop (mkF m 193 #[.val (.int p0), .val (.long p1), .second, .val (.long p2), .second, .val (.int p3), .val (.long p4), .second, .val (.long wm), .second, .val (.long wn), .second, .val (.long av), .second, .val (.long dv), .second, .val (.long bv), .second, .val (.int (p3 &&& (3 : Int32))), .val (.long xv), .second, .val (.ref b44), .val (.int (1 : Int32)), .val (.int (1 : Int32)), .val (.int (1 : Int32)), .unset, .unset, .unset] [])) _
                refine XS.iconst X55.here hx rfl (hb hby at_193) ?_
                show Steps p.tables e below (T55.setTop (mkF m 194 #[.val (.int p0), .val (.long p1), .second, .val (.long p2), .second, .val (.int p3), .val (.long p4), .second, .val (.long wm), .second, .val (.long wn), .second, .val (.long av), .second, .val (.long dv), .second, .val (.long bv), .second, .val (.int (p3 &&& (3 : Int32))), .val (.long xv), .second, .val (.ref b44), .val (.int (1 : Int32)), .val (.int (1 : Int32)), .val (.int (1 : Int32)), .unset, .unset, .unset] [(.int (1 : Int32))])) _
                refine XS.goto X55.here hx rfl (pc0 := 194) (pc' := 198) rfl (hb hby at_194) (by decide) (by decide) ?_
                show Steps p.tables e below (T55.setTop (mkF m 198 #[.val (.int p0), .val (.long p1), .second, .val (.long p2), .second, .val (.int p3), .val (.long p4), .second, .val (.long wm), .second, .val (.long wn), .second, .val (.long av), .second, .val (.long dv), .second, .val (.long bv), .second, .val (.int (p3 &&& (3 : Int32))), .val (.long xv), .second, .val (.ref b44), .val (.int (1 : Int32)), .val (.int (1 : Int32)), .val (.int (1 : Int32)), .unset, .unset, .unset] [(.int (1 : Int32))])) _
                refine XS.istore X55.here hx rfl (hb hby at_198) rfl (l' := #[.val (.int p0), .val (.long p1), .second, .val (.long p2), .second, .val (.int p3), .val (.long p4), .second, .val (.long wm), .second, .val (.long wn), .second, .val (.long av), .second, .val (.long dv), .second, .val (.long bv), .second, .val (.int (p3 &&& (3 : Int32))), .val (.long xv), .second, .val (.ref b44), .val (.int (1 : Int32)), .val (.int (1 : Int32)), .val (.int (1 : Int32)), .val (.int (1 : Int32)), .unset, .unset]) rfl ?_
                show Steps p.tables e below (T55.setTop (mkF m 200 #[.val (.int p0), .val (.long p1), .second, .val (.long p2), .second, .val (.int p3), .val (.long p4), .second, .val (.long wm), .second, .val (.long wn), .second, .val (.long av), .second, .val (.long dv), .second, .val (.long bv), .second, .val (.int (p3 &&& (3 : Int32))), .val (.long xv), .second, .val (.ref b44), .val (.int (1 : Int32)), .val (.int (1 : Int32)), .val (.int (1 : Int32)), .val (.int (1 : Int32)), .unset, .unset] [])) _
                refine XS.iload X55.here hx rfl (hb hby at_200) rfl ?_
                show Steps p.tables e below (T55.setTop (mkF m 202 #[.val (.int p0), .val (.long p1), .second, .val (.long p2), .second, .val (.int p3), .val (.long p4), .second, .val (.long wm), .second, .val (.long wn), .second, .val (.long av), .second, .val (.long dv), .second, .val (.long bv), .second, .val (.int (p3 &&& (3 : Int32))), .val (.long xv), .second, .val (.ref b44), .val (.int (1 : Int32)), .val (.int (1 : Int32)), .val (.int (1 : Int32)), .val (.int (1 : Int32)), .unset, .unset] [(.int (1 : Int32))])) _
                refine XS.ifNo X55.here hx rfl (hb hby at_202) rfl ((if0 _ _).trans (feq (by decide : ¬ (1 : Int32) = (0 : Int32))).1) ?_
                show Steps p.tables e below (T55.setTop (mkF m 205 #[.val (.int p0), .val (.long p1), .second, .val (.long p2), .second, .val (.int p3), .val (.long p4), .second, .val (.long wm), .second, .val (.long wn), .second, .val (.long av), .second, .val (.long dv), .second, .val (.long bv), .second, .val (.int (p3 &&& (3 : Int32))), .val (.long xv), .second, .val (.ref b44), .val (.int (1 : Int32)), .val (.int (1 : Int32)), .val (.int (1 : Int32)), .val (.int (1 : Int32)), .unset, .unset] [])) _
                refine XS.lload X55.here hx rfl (hb hby at_205) rfl ?_
                show Steps p.tables e below (T55.setTop (mkF m 207 #[.val (.int p0), .val (.long p1), .second, .val (.long p2), .second, .val (.int p3), .val (.long p4), .second, .val (.long wm), .second, .val (.long wn), .second, .val (.long av), .second, .val (.long dv), .second, .val (.long bv), .second, .val (.int (p3 &&& (3 : Int32))), .val (.long xv), .second, .val (.ref b44), .val (.int (1 : Int32)), .val (.int (1 : Int32)), .val (.int (1 : Int32)), .val (.int (1 : Int32)), .unset, .unset] [(.long dv)])) _
                refine XS.lconst X55.here hx rfl (hb hby at_207) ?_
                show Steps p.tables e below (T55.setTop (mkF m 208 #[.val (.int p0), .val (.long p1), .second, .val (.long p2), .second, .val (.int p3), .val (.long p4), .second, .val (.long wm), .second, .val (.long wn), .second, .val (.long av), .second, .val (.long dv), .second, .val (.long bv), .second, .val (.int (p3 &&& (3 : Int32))), .val (.long xv), .second, .val (.ref b44), .val (.int (1 : Int32)), .val (.int (1 : Int32)), .val (.int (1 : Int32)), .val (.int (1 : Int32)), .unset, .unset] [(.long (0 : Int64)), (.long dv)])) _
                refine XS.lcmp X55.here hx rfl (hb hby at_208) rfl ?_
                show Steps p.tables e below (T55.setTop (mkF m 209 #[.val (.int p0), .val (.long p1), .second, .val (.long p2), .second, .val (.int p3), .val (.long p4), .second, .val (.long wm), .second, .val (.long wn), .second, .val (.long av), .second, .val (.long dv), .second, .val (.long bv), .second, .val (.int (p3 &&& (3 : Int32))), .val (.long xv), .second, .val (.ref b44), .val (.int (1 : Int32)), .val (.int (1 : Int32)), .val (.int (1 : Int32)), .val (.int (1 : Int32)), .unset, .unset] [(.int (lcmpW dv (0 : Int64)))])) _
                refine XS.ifNo X55.here hx rfl (hb hby at_209) rfl ((if0 _ _).trans (feq (fun q => hy3 ((lw_eq _ _).mp q))).1) ?_
                show Steps p.tables e below (T55.setTop (mkF m 212 #[.val (.int p0), .val (.long p1), .second, .val (.long p2), .second, .val (.int p3), .val (.long p4), .second, .val (.long wm), .second, .val (.long wn), .second, .val (.long av), .second, .val (.long dv), .second, .val (.long bv), .second, .val (.int (p3 &&& (3 : Int32))), .val (.long xv), .second, .val (.ref b44), .val (.int (1 : Int32)), .val (.int (1 : Int32)), .val (.int (1 : Int32)), .val (.int (1 : Int32)), .unset, .unset] [])) _
                refine XS.iconst X55.here hx rfl (hb hby at_212) ?_
                show Steps p.tables e below (T55.setTop (mkF m 213 #[.val (.int p0), .val (.long p1), .second, .val (.long p2), .second, .val (.int p3), .val (.long p4), .second, .val (.long wm), .second, .val (.long wn), .second, .val (.long av), .second, .val (.long dv), .second, .val (.long bv), .second, .val (.int (p3 &&& (3 : Int32))), .val (.long xv), .second, .val (.ref b44), .val (.int (1 : Int32)), .val (.int (1 : Int32)), .val (.int (1 : Int32)), .val (.int (1 : Int32)), .unset, .unset] [(.int (1 : Int32))])) _
                refine XS.goto X55.here hx rfl (pc0 := 213) (pc' := 217) rfl (hb hby at_213) (by decide) (by decide) ?_
                show Steps p.tables e below (T55.setTop (mkF m 217 #[.val (.int p0), .val (.long p1), .second, .val (.long p2), .second, .val (.int p3), .val (.long p4), .second, .val (.long wm), .second, .val (.long wn), .second, .val (.long av), .second, .val (.long dv), .second, .val (.long bv), .second, .val (.int (p3 &&& (3 : Int32))), .val (.long xv), .second, .val (.ref b44), .val (.int (1 : Int32)), .val (.int (1 : Int32)), .val (.int (1 : Int32)), .val (.int (1 : Int32)), .unset, .unset] [(.int (1 : Int32))])) _
                refine XS.istore X55.here hx rfl (hb hby at_217) rfl (l' := #[.val (.int p0), .val (.long p1), .second, .val (.long p2), .second, .val (.int p3), .val (.long p4), .second, .val (.long wm), .second, .val (.long wn), .second, .val (.long av), .second, .val (.long dv), .second, .val (.long bv), .second, .val (.int (p3 &&& (3 : Int32))), .val (.long xv), .second, .val (.ref b44), .val (.int (1 : Int32)), .val (.int (1 : Int32)), .val (.int (1 : Int32)), .val (.int (1 : Int32)), .val (.int (1 : Int32)), .unset]) rfl ?_
                show Steps p.tables e below (T55.setTop (mkF m 219 #[.val (.int p0), .val (.long p1), .second, .val (.long p2), .second, .val (.int p3), .val (.long p4), .second, .val (.long wm), .second, .val (.long wn), .second, .val (.long av), .second, .val (.long dv), .second, .val (.long bv), .second, .val (.int (p3 &&& (3 : Int32))), .val (.long xv), .second, .val (.ref b44), .val (.int (1 : Int32)), .val (.int (1 : Int32)), .val (.int (1 : Int32)), .val (.int (1 : Int32)), .val (.int (1 : Int32)), .unset] [])) _
                refine XS.iload X55.here hx rfl (hb hby at_219) rfl ?_
                show Steps p.tables e below (T55.setTop (mkF m 221 #[.val (.int p0), .val (.long p1), .second, .val (.long p2), .second, .val (.int p3), .val (.long p4), .second, .val (.long wm), .second, .val (.long wn), .second, .val (.long av), .second, .val (.long dv), .second, .val (.long bv), .second, .val (.int (p3 &&& (3 : Int32))), .val (.long xv), .second, .val (.ref b44), .val (.int (1 : Int32)), .val (.int (1 : Int32)), .val (.int (1 : Int32)), .val (.int (1 : Int32)), .val (.int (1 : Int32)), .unset] [(.int (1 : Int32))])) _
                refine XS.ifNo X55.here hx rfl (hb hby at_221) rfl ((if0 _ _).trans (feq (by decide : ¬ (1 : Int32) = (0 : Int32))).1) ?_
                show Steps p.tables e below (T55.setTop (mkF m 224 #[.val (.int p0), .val (.long p1), .second, .val (.long p2), .second, .val (.int p3), .val (.long p4), .second, .val (.long wm), .second, .val (.long wn), .second, .val (.long av), .second, .val (.long dv), .second, .val (.long bv), .second, .val (.int (p3 &&& (3 : Int32))), .val (.long xv), .second, .val (.ref b44), .val (.int (1 : Int32)), .val (.int (1 : Int32)), .val (.int (1 : Int32)), .val (.int (1 : Int32)), .val (.int (1 : Int32)), .unset] [])) _
                refine XS.lload X55.here hx rfl (hb hby at_224) rfl ?_
                show Steps p.tables e below (T55.setTop (mkF m 226 #[.val (.int p0), .val (.long p1), .second, .val (.long p2), .second, .val (.int p3), .val (.long p4), .second, .val (.long wm), .second, .val (.long wn), .second, .val (.long av), .second, .val (.long dv), .second, .val (.long bv), .second, .val (.int (p3 &&& (3 : Int32))), .val (.long xv), .second, .val (.ref b44), .val (.int (1 : Int32)), .val (.int (1 : Int32)), .val (.int (1 : Int32)), .val (.int (1 : Int32)), .val (.int (1 : Int32)), .unset] [(.long dv)])) _
                refine XS.lconst X55.here hx rfl (hb hby at_226) ?_
                show Steps p.tables e below (T55.setTop (mkF m 227 #[.val (.int p0), .val (.long p1), .second, .val (.long p2), .second, .val (.int p3), .val (.long p4), .second, .val (.long wm), .second, .val (.long wn), .second, .val (.long av), .second, .val (.long dv), .second, .val (.long bv), .second, .val (.int (p3 &&& (3 : Int32))), .val (.long xv), .second, .val (.ref b44), .val (.int (1 : Int32)), .val (.int (1 : Int32)), .val (.int (1 : Int32)), .val (.int (1 : Int32)), .val (.int (1 : Int32)), .unset] [(.long (0 : Int64)), (.long dv)])) _
                refine XS.lcmp X55.here hx rfl (hb hby at_227) rfl ?_
                show Steps p.tables e below (T55.setTop (mkF m 228 #[.val (.int p0), .val (.long p1), .second, .val (.long p2), .second, .val (.int p3), .val (.long p4), .second, .val (.long wm), .second, .val (.long wn), .second, .val (.long av), .second, .val (.long dv), .second, .val (.long bv), .second, .val (.int (p3 &&& (3 : Int32))), .val (.long xv), .second, .val (.ref b44), .val (.int (1 : Int32)), .val (.int (1 : Int32)), .val (.int (1 : Int32)), .val (.int (1 : Int32)), .val (.int (1 : Int32)), .unset] [(.int (lcmpW dv (0 : Int64)))])) _
                refine XS.ifYes X55.here hx rfl (pc0 := 228) (pc' := 235) rfl (hb hby at_228) rfl ((if0 _ _).trans (feq (fun q => hy3 ((lw_eq _ _).mp q))).2) (by decide) (by decide) ?_
                show Steps p.tables e below (T55.setTop (mkF m 235 #[.val (.int p0), .val (.long p1), .second, .val (.long p2), .second, .val (.int p3), .val (.long p4), .second, .val (.long wm), .second, .val (.long wn), .second, .val (.long av), .second, .val (.long dv), .second, .val (.long bv), .second, .val (.int (p3 &&& (3 : Int32))), .val (.long xv), .second, .val (.ref b44), .val (.int (1 : Int32)), .val (.int (1 : Int32)), .val (.int (1 : Int32)), .val (.int (1 : Int32)), .val (.int (1 : Int32)), .unset] [])) _
                refine XS.iconst X55.here hx rfl (hb hby at_235) ?_
                show Steps p.tables e below (T55.setTop (mkF m 236 #[.val (.int p0), .val (.long p1), .second, .val (.long p2), .second, .val (.int p3), .val (.long p4), .second, .val (.long wm), .second, .val (.long wn), .second, .val (.long av), .second, .val (.long dv), .second, .val (.long bv), .second, .val (.int (p3 &&& (3 : Int32))), .val (.long xv), .second, .val (.ref b44), .val (.int (1 : Int32)), .val (.int (1 : Int32)), .val (.int (1 : Int32)), .val (.int (1 : Int32)), .val (.int (1 : Int32)), .unset] [(.int (1 : Int32))])) _
                refine XS.istore X55.here hx rfl (hb hby at_236) rfl (l' := #[.val (.int p0), .val (.long p1), .second, .val (.long p2), .second, .val (.int p3), .val (.long p4), .second, .val (.long wm), .second, .val (.long wn), .second, .val (.long av), .second, .val (.long dv), .second, .val (.long bv), .second, .val (.int (p3 &&& (3 : Int32))), .val (.long xv), .second, .val (.ref b44), .val (.int (1 : Int32)), .val (.int (1 : Int32)), .val (.int (1 : Int32)), .val (.int (1 : Int32)), .val (.int (1 : Int32)), .val (.int (1 : Int32))]) rfl ?_
                show Steps p.tables e below (T55.setTop (mkF m 238 #[.val (.int p0), .val (.long p1), .second, .val (.long p2), .second, .val (.int p3), .val (.long p4), .second, .val (.long wm), .second, .val (.long wn), .second, .val (.long av), .second, .val (.long dv), .second, .val (.long bv), .second, .val (.int (p3 &&& (3 : Int32))), .val (.long xv), .second, .val (.ref b44), .val (.int (1 : Int32)), .val (.int (1 : Int32)), .val (.int (1 : Int32)), .val (.int (1 : Int32)), .val (.int (1 : Int32)), .val (.int (1 : Int32))] [])) _
                refine XS.lload X55.here hx rfl (hb hby at_238) rfl ?_
                show Steps p.tables e below (T55.setTop (mkF m 240 #[.val (.int p0), .val (.long p1), .second, .val (.long p2), .second, .val (.int p3), .val (.long p4), .second, .val (.long wm), .second, .val (.long wn), .second, .val (.long av), .second, .val (.long dv), .second, .val (.long bv), .second, .val (.int (p3 &&& (3 : Int32))), .val (.long xv), .second, .val (.ref b44), .val (.int (1 : Int32)), .val (.int (1 : Int32)), .val (.int (1 : Int32)), .val (.int (1 : Int32)), .val (.int (1 : Int32)), .val (.int (1 : Int32))] [(.long xv)])) _
                refine XS.lload X55.here hx rfl (hb hby at_240) rfl ?_
                show Steps p.tables e below (T55.setTop (mkF m 242 #[.val (.int p0), .val (.long p1), .second, .val (.long p2), .second, .val (.int p3), .val (.long p4), .second, .val (.long wm), .second, .val (.long wn), .second, .val (.long av), .second, .val (.long dv), .second, .val (.long bv), .second, .val (.int (p3 &&& (3 : Int32))), .val (.long xv), .second, .val (.ref b44), .val (.int (1 : Int32)), .val (.int (1 : Int32)), .val (.int (1 : Int32)), .val (.int (1 : Int32)), .val (.int (1 : Int32)), .val (.int (1 : Int32))] [(.long bv), (.long xv)])) _
                refine XS.lcmp X55.here hx rfl (hb hby at_242) rfl ?_
                show Steps p.tables e below (T55.setTop (mkF m 243 #[.val (.int p0), .val (.long p1), .second, .val (.long p2), .second, .val (.int p3), .val (.long p4), .second, .val (.long wm), .second, .val (.long wn), .second, .val (.long av), .second, .val (.long dv), .second, .val (.long bv), .second, .val (.int (p3 &&& (3 : Int32))), .val (.long xv), .second, .val (.ref b44), .val (.int (1 : Int32)), .val (.int (1 : Int32)), .val (.int (1 : Int32)), .val (.int (1 : Int32)), .val (.int (1 : Int32)), .val (.int (1 : Int32))] [(.int (lcmpW xv bv))])) _
                refine XS.ifYes X55.here hx rfl (pc0 := 243) (pc' := 255) rfl (hb hby at_243) rfl ((if0 _ _).trans (feq (fun q => hy30 ((lw_eq _ _).mp q))).2) (by decide) (by decide) ?_
                show Steps p.tables e below (T55.setTop (mkF m 255 #[.val (.int p0), .val (.long p1), .second, .val (.long p2), .second, .val (.int p3), .val (.long p4), .second, .val (.long wm), .second, .val (.long wn), .second, .val (.long av), .second, .val (.long dv), .second, .val (.long bv), .second, .val (.int (p3 &&& (3 : Int32))), .val (.long xv), .second, .val (.ref b44), .val (.int (1 : Int32)), .val (.int (1 : Int32)), .val (.int (1 : Int32)), .val (.int (1 : Int32)), .val (.int (1 : Int32)), .val (.int (1 : Int32))] [])) _
                refine XS.lload X55.here hx rfl (hb hby at_255) rfl ?_
                show Steps p.tables e below (T55.setTop (mkF m 257 #[.val (.int p0), .val (.long p1), .second, .val (.long p2), .second, .val (.int p3), .val (.long p4), .second, .val (.long wm), .second, .val (.long wn), .second, .val (.long av), .second, .val (.long dv), .second, .val (.long bv), .second, .val (.int (p3 &&& (3 : Int32))), .val (.long xv), .second, .val (.ref b44), .val (.int (1 : Int32)), .val (.int (1 : Int32)), .val (.int (1 : Int32)), .val (.int (1 : Int32)), .val (.int (1 : Int32)), .val (.int (1 : Int32))] [(.long xv)])) _
                refine XS.lload X55.here hx rfl (hb hby at_257) rfl ?_
                show Steps p.tables e below (T55.setTop (mkF m 259 #[.val (.int p0), .val (.long p1), .second, .val (.long p2), .second, .val (.int p3), .val (.long p4), .second, .val (.long wm), .second, .val (.long wn), .second, .val (.long av), .second, .val (.long dv), .second, .val (.long bv), .second, .val (.int (p3 &&& (3 : Int32))), .val (.long xv), .second, .val (.ref b44), .val (.int (1 : Int32)), .val (.int (1 : Int32)), .val (.int (1 : Int32)), .val (.int (1 : Int32)), .val (.int (1 : Int32)), .val (.int (1 : Int32))] [(.long av), (.long xv)])) _
                refine XS.lcmp X55.here hx rfl (hb hby at_259) rfl ?_
                show Steps p.tables e below (T55.setTop (mkF m 260 #[.val (.int p0), .val (.long p1), .second, .val (.long p2), .second, .val (.int p3), .val (.long p4), .second, .val (.long wm), .second, .val (.long wn), .second, .val (.long av), .second, .val (.long dv), .second, .val (.long bv), .second, .val (.int (p3 &&& (3 : Int32))), .val (.long xv), .second, .val (.ref b44), .val (.int (1 : Int32)), .val (.int (1 : Int32)), .val (.int (1 : Int32)), .val (.int (1 : Int32)), .val (.int (1 : Int32)), .val (.int (1 : Int32))] [(.int (lcmpW xv av))])) _
                refine XS.ifNo X55.here hx rfl (hb hby at_260) rfl ((if0 _ _).trans (teq ((lw_eq _ _).mpr hy43)).2) ?_
                show Steps p.tables e below (T55.setTop (mkF m 263 #[.val (.int p0), .val (.long p1), .second, .val (.long p2), .second, .val (.int p3), .val (.long p4), .second, .val (.long wm), .second, .val (.long wn), .second, .val (.long av), .second, .val (.long dv), .second, .val (.long bv), .second, .val (.int (p3 &&& (3 : Int32))), .val (.long xv), .second, .val (.ref b44), .val (.int (1 : Int32)), .val (.int (1 : Int32)), .val (.int (1 : Int32)), .val (.int (1 : Int32)), .val (.int (1 : Int32)), .val (.int (1 : Int32))] [])) _
                refine XS.iload X55.here hx rfl (hb hby at_263) rfl ?_
                show Steps p.tables e below (T55.setTop (mkF m 265 #[.val (.int p0), .val (.long p1), .second, .val (.long p2), .second, .val (.int p3), .val (.long p4), .second, .val (.long wm), .second, .val (.long wn), .second, .val (.long av), .second, .val (.long dv), .second, .val (.long bv), .second, .val (.int (p3 &&& (3 : Int32))), .val (.long xv), .second, .val (.ref b44), .val (.int (1 : Int32)), .val (.int (1 : Int32)), .val (.int (1 : Int32)), .val (.int (1 : Int32)), .val (.int (1 : Int32)), .val (.int (1 : Int32))] [(.int (1 : Int32))])) _
                refine XS.iconst X55.here hx rfl (hb hby at_265) ?_
                show Steps p.tables e below (T55.setTop (mkF m 266 #[.val (.int p0), .val (.long p1), .second, .val (.long p2), .second, .val (.int p3), .val (.long p4), .second, .val (.long wm), .second, .val (.long wn), .second, .val (.long av), .second, .val (.long dv), .second, .val (.long bv), .second, .val (.int (p3 &&& (3 : Int32))), .val (.long xv), .second, .val (.ref b44), .val (.int (1 : Int32)), .val (.int (1 : Int32)), .val (.int (1 : Int32)), .val (.int (1 : Int32)), .val (.int (1 : Int32)), .val (.int (1 : Int32))] [(.int (1 : Int32)), (.int (1 : Int32))])) _
                refine XS.icmpNo X55.here hx rfl (hb hby at_266) rfl (teq (by decide : (1 : Int32) = (1 : Int32))).2 ?_
                show Steps p.tables e below (T55.setTop (mkF m 269 #[.val (.int p0), .val (.long p1), .second, .val (.long p2), .second, .val (.int p3), .val (.long p4), .second, .val (.long wm), .second, .val (.long wn), .second, .val (.long av), .second, .val (.long dv), .second, .val (.long bv), .second, .val (.int (p3 &&& (3 : Int32))), .val (.long xv), .second, .val (.ref b44), .val (.int (1 : Int32)), .val (.int (1 : Int32)), .val (.int (1 : Int32)), .val (.int (1 : Int32)), .val (.int (1 : Int32)), .val (.int (1 : Int32))] [])) _
                refine XS.iconst X55.here hx rfl (hb hby at_269) ?_
                show Steps p.tables e below (T55.setTop (mkF m 270 #[.val (.int p0), .val (.long p1), .second, .val (.long p2), .second, .val (.int p3), .val (.long p4), .second, .val (.long wm), .second, .val (.long wn), .second, .val (.long av), .second, .val (.long dv), .second, .val (.long bv), .second, .val (.int (p3 &&& (3 : Int32))), .val (.long xv), .second, .val (.ref b44), .val (.int (1 : Int32)), .val (.int (1 : Int32)), .val (.int (1 : Int32)), .val (.int (1 : Int32)), .val (.int (1 : Int32)), .val (.int (1 : Int32))] [(.int (0 : Int32))])) _
                refine XS.istore X55.here hx rfl (hb hby at_270) rfl (l' := #[.val (.int p0), .val (.long p1), .second, .val (.long p2), .second, .val (.int p3), .val (.long p4), .second, .val (.long wm), .second, .val (.long wn), .second, .val (.long av), .second, .val (.long dv), .second, .val (.long bv), .second, .val (.int (p3 &&& (3 : Int32))), .val (.long xv), .second, .val (.ref b44), .val (.int (1 : Int32)), .val (.int (1 : Int32)), .val (.int (1 : Int32)), .val (.int (1 : Int32)), .val (.int (0 : Int32)), .val (.int (1 : Int32))]) rfl ?_
                show Steps p.tables e below (T55.setTop (mkF m 272 #[.val (.int p0), .val (.long p1), .second, .val (.long p2), .second, .val (.int p3), .val (.long p4), .second, .val (.long wm), .second, .val (.long wn), .second, .val (.long av), .second, .val (.long dv), .second, .val (.long bv), .second, .val (.int (p3 &&& (3 : Int32))), .val (.long xv), .second, .val (.ref b44), .val (.int (1 : Int32)), .val (.int (1 : Int32)), .val (.int (1 : Int32)), .val (.int (1 : Int32)), .val (.int (0 : Int32)), .val (.int (1 : Int32))] [])) _
                refine XS.iload X55.here hx rfl (hb hby at_272) rfl ?_
                show Steps p.tables e below (T55.setTop (mkF m 274 #[.val (.int p0), .val (.long p1), .second, .val (.long p2), .second, .val (.int p3), .val (.long p4), .second, .val (.long wm), .second, .val (.long wn), .second, .val (.long av), .second, .val (.long dv), .second, .val (.long bv), .second, .val (.int (p3 &&& (3 : Int32))), .val (.long xv), .second, .val (.ref b44), .val (.int (1 : Int32)), .val (.int (1 : Int32)), .val (.int (1 : Int32)), .val (.int (1 : Int32)), .val (.int (0 : Int32)), .val (.int (1 : Int32))] [(.int (1 : Int32))])) _
                refine XS.ifNo X55.here hx rfl (hb hby at_274) rfl ((if0 _ _).trans (feq (by decide : ¬ (1 : Int32) = (0 : Int32))).1) ?_
                show Steps p.tables e below (T55.setTop (mkF m 277 #[.val (.int p0), .val (.long p1), .second, .val (.long p2), .second, .val (.int p3), .val (.long p4), .second, .val (.long wm), .second, .val (.long wn), .second, .val (.long av), .second, .val (.long dv), .second, .val (.long bv), .second, .val (.int (p3 &&& (3 : Int32))), .val (.long xv), .second, .val (.ref b44), .val (.int (1 : Int32)), .val (.int (1 : Int32)), .val (.int (1 : Int32)), .val (.int (1 : Int32)), .val (.int (0 : Int32)), .val (.int (1 : Int32))] [])) _
                refine XS.iload X55.here hx rfl (hb hby at_277) rfl ?_
                show Steps p.tables e below (T55.setTop (mkF m 279 #[.val (.int p0), .val (.long p1), .second, .val (.long p2), .second, .val (.int p3), .val (.long p4), .second, .val (.long wm), .second, .val (.long wn), .second, .val (.long av), .second, .val (.long dv), .second, .val (.long bv), .second, .val (.int (p3 &&& (3 : Int32))), .val (.long xv), .second, .val (.ref b44), .val (.int (1 : Int32)), .val (.int (1 : Int32)), .val (.int (1 : Int32)), .val (.int (1 : Int32)), .val (.int (0 : Int32)), .val (.int (1 : Int32))] [(.int (1 : Int32))])) _
                refine XS.iload X55.here hx rfl (hb hby at_279) rfl ?_
                show Steps p.tables e below (T55.setTop (mkF m 281 #[.val (.int p0), .val (.long p1), .second, .val (.long p2), .second, .val (.int p3), .val (.long p4), .second, .val (.long wm), .second, .val (.long wn), .second, .val (.long av), .second, .val (.long dv), .second, .val (.long bv), .second, .val (.int (p3 &&& (3 : Int32))), .val (.long xv), .second, .val (.ref b44), .val (.int (1 : Int32)), .val (.int (1 : Int32)), .val (.int (1 : Int32)), .val (.int (1 : Int32)), .val (.int (0 : Int32)), .val (.int (1 : Int32))] [(.int (0 : Int32)), (.int (1 : Int32))])) _
                refine XS.iload X55.here hx rfl (hb hby at_281) rfl ?_
                show Steps p.tables e below (T55.setTop (mkF m 283 #[.val (.int p0), .val (.long p1), .second, .val (.long p2), .second, .val (.int p3), .val (.long p4), .second, .val (.long wm), .second, .val (.long wn), .second, .val (.long av), .second, .val (.long dv), .second, .val (.long bv), .second, .val (.int (p3 &&& (3 : Int32))), .val (.long xv), .second, .val (.ref b44), .val (.int (1 : Int32)), .val (.int (1 : Int32)), .val (.int (1 : Int32)), .val (.int (1 : Int32)), .val (.int (0 : Int32)), .val (.int (1 : Int32))] [(.int (1 : Int32)), (.int (0 : Int32)), (.int (1 : Int32))])) _
                refine XS.iadd X55.here hx rfl (hb hby at_283) rfl ?_
                show Steps p.tables e below (T55.setTop (mkF m 284 #[.val (.int p0), .val (.long p1), .second, .val (.long p2), .second, .val (.int p3), .val (.long p4), .second, .val (.long wm), .second, .val (.long wn), .second, .val (.long av), .second, .val (.long dv), .second, .val (.long bv), .second, .val (.int (p3 &&& (3 : Int32))), .val (.long xv), .second, .val (.ref b44), .val (.int (1 : Int32)), .val (.int (1 : Int32)), .val (.int (1 : Int32)), .val (.int (1 : Int32)), .val (.int (0 : Int32)), .val (.int (1 : Int32))] [(.int (1 : Int32)), (.int (1 : Int32))])) _
                refine XS.icmpNo X55.here hx rfl (hb hby at_284) rfl (teq (by decide : (1 : Int32) = (1 : Int32))).2 ?_
                show Steps p.tables e below (T55.setTop (mkF m 287 #[.val (.int p0), .val (.long p1), .second, .val (.long p2), .second, .val (.int p3), .val (.long p4), .second, .val (.long wm), .second, .val (.long wn), .second, .val (.long av), .second, .val (.long dv), .second, .val (.long bv), .second, .val (.int (p3 &&& (3 : Int32))), .val (.long xv), .second, .val (.ref b44), .val (.int (1 : Int32)), .val (.int (1 : Int32)), .val (.int (1 : Int32)), .val (.int (1 : Int32)), .val (.int (0 : Int32)), .val (.int (1 : Int32))] [])) _
                refine XS.iload X55.here hx rfl (hb hby at_287) rfl ?_
                show Steps p.tables e below (T55.setTop (mkF m 289 #[.val (.int p0), .val (.long p1), .second, .val (.long p2), .second, .val (.int p3), .val (.long p4), .second, .val (.long wm), .second, .val (.long wn), .second, .val (.long av), .second, .val (.long dv), .second, .val (.long bv), .second, .val (.int (p3 &&& (3 : Int32))), .val (.long xv), .second, .val (.ref b44), .val (.int (1 : Int32)), .val (.int (1 : Int32)), .val (.int (1 : Int32)), .val (.int (1 : Int32)), .val (.int (0 : Int32)), .val (.int (1 : Int32))] [(.int (1 : Int32))])) _
                refine XS.iload X55.here hx rfl (hb hby at_289) rfl ?_
                show Steps p.tables e below (T55.setTop (mkF m 291 #[.val (.int p0), .val (.long p1), .second, .val (.long p2), .second, .val (.int p3), .val (.long p4), .second, .val (.long wm), .second, .val (.long wn), .second, .val (.long av), .second, .val (.long dv), .second, .val (.long bv), .second, .val (.int (p3 &&& (3 : Int32))), .val (.long xv), .second, .val (.ref b44), .val (.int (1 : Int32)), .val (.int (1 : Int32)), .val (.int (1 : Int32)), .val (.int (1 : Int32)), .val (.int (0 : Int32)), .val (.int (1 : Int32))] [(.int (1 : Int32)), (.int (1 : Int32))])) _
                refine XS.icmpNo X55.here hx rfl (hb hby at_291) rfl (teq (by decide : (1 : Int32) = (1 : Int32))).2 ?_
                show Steps p.tables e below (T55.setTop (mkF m 294 #[.val (.int p0), .val (.long p1), .second, .val (.long p2), .second, .val (.int p3), .val (.long p4), .second, .val (.long wm), .second, .val (.long wn), .second, .val (.long av), .second, .val (.long dv), .second, .val (.long bv), .second, .val (.int (p3 &&& (3 : Int32))), .val (.long xv), .second, .val (.ref b44), .val (.int (1 : Int32)), .val (.int (1 : Int32)), .val (.int (1 : Int32)), .val (.int (1 : Int32)), .val (.int (0 : Int32)), .val (.int (1 : Int32))] [])) _
                refine XS.iconst X55.here hx rfl (hb hby at_294) ?_
                show Steps p.tables e below (T55.setTop (mkF m 295 #[.val (.int p0), .val (.long p1), .second, .val (.long p2), .second, .val (.int p3), .val (.long p4), .second, .val (.long wm), .second, .val (.long wn), .second, .val (.long av), .second, .val (.long dv), .second, .val (.long bv), .second, .val (.int (p3 &&& (3 : Int32))), .val (.long xv), .second, .val (.ref b44), .val (.int (1 : Int32)), .val (.int (1 : Int32)), .val (.int (1 : Int32)), .val (.int (1 : Int32)), .val (.int (0 : Int32)), .val (.int (1 : Int32))] [(.int (1 : Int32))])) _
                refine XS.goto X55.here hx rfl (pc0 := 295) (pc' := 299) rfl (hb hby at_295) (by decide) (by decide) ?_
                exact k
              refine Go.retZ X55 hx hlk hret (Or.inr rfl) (hb hby at_299) (by decide) (by decide) e55 ?_
              exact ⟨rfl, N55⟩
            · skip
              refine Go.newO X0 hx hZ hown (wd hw 3 rfl) (wd hw 4 rfl) (wd hw 5 rfl) e0 (hb hby at_103) (by decide) (by decide) ?_
              intro T56 h56 b56 X56 e56 E56 g56 A56 D56
              have lb56 := Nat.le_of_eq g56.symm
              have g_b56 : n0 ≤ b56 := Nat.le_trans (OwnKit.Old.le O) lb56
              replace O := O.ext E56
              have E_b56 := A56
              have F_b56_times : Fld Z h56 b56 "com/example/breakwater/breakwater/OrderRateWindow" "times" "[J" .null := D56 (Or.inl (wd hw 26 rfl)) (ty := (.array .long)) (by decide)
              have F_b56_now : Fld Z h56 b56 "com/example/breakwater/breakwater/OrderRateWindow" "now" "J" (.long (0 : Int64)) := D56 (Or.inl (wd hw 29 rfl)) (ty := .long) (by decide)
              have F_b56_rate : Fld Z h56 b56 "com/example/breakwater/breakwater/OrderRateWindow" "rate" "Lcom/example/breakwater/breakwater/OrderRate;" .null := D56 (Or.inr (wd hw 31 rfl)) (ty := (.object "com/example/breakwater/breakwater/OrderRate")) (by decide)
              have F_b56_windowNanos : Fld Z h56 b56 "com/example/breakwater/breakwater/OrderRateWindow" "windowNanos" "J" (.long (0 : Int64)) := D56 (Or.inr (wd hw 49 rfl)) (ty := .long) (by decide)
              have F_b56_count : Fld Z h56 b56 "com/example/breakwater/breakwater/OrderRateWindow" "count" "I" (.int (0 : Int32)) := D56 (Or.inl (wd hw 56 rfl)) (ty := .int) (by decide)
              have F_b56_head : Fld Z h56 b56 "com/example/breakwater/breakwater/OrderRateWindow" "head" "I" (.int (0 : Int32)) := D56 (Or.inl (wd hw 63 rfl)) (ty := .int) (by decide)
              show Go p e below _ T56 (mkF m 106 #[.val (.int p0), .val (.long p1), .second, .val (.long p2), .second, .val (.int p3), .val (.long p4), .second, .val (.long wm), .second, .val (.long wn), .second, .val (.long av), .second, .val (.long dv), .second, .val (.long bv), .second, .val (.int (p3 &&& (3 : Int32))), .val (.long xv), .second, .unset, .unset, .unset, .unset, .unset, .unset, .unset] [(.ref b56)])
              refine Go.by (T' := T56) (g' := (mkF m 107 #[.val (.int p0), .val (.long p1), .second, .val (.long p2), .second, .val (.int p3), .val (.long p4), .second, .val (.long wm), .second, .val (.long wn), .second, .val (.long av), .second, .val (.long dv), .second, .val (.long bv), .second, .val (.int (p3 &&& (3 : Int32))), .val (.long xv), .second, .unset, .unset, .unset, .unset, .unset, .unset, .unset] [(.ref b56), (.ref b56)])) (fun t k => ?_) ?_
              · show Steps p.tables e below (T56.setTop (mkF m 106 #[.val (.int p0), .val (.long p1), .second, .val (.long p2), .second, .val (.int p3), .val (.long p4), .second, .val (.long wm), .second, .val (.long wn), .second, .val (.long av), .second, .val (.long dv), .second, .val (.long bv), .second, .val (.int (p3 &&& (3 : Int32))), .val (.long xv), .second, .unset, .unset, .unset, .unset, .unset, .unset, .unset] [(.ref b56)])) _
                refine XS.dup X56.here hx rfl (hb hby at_106) rfl rfl ?_
                exact k
              refine Go.newO X56 hx hZ hown (wd hw 6 rfl) (wd hw 7 rfl) (wd hw 8 rfl) e56 (hb hby at_107) (by decide) (by decide) ?_
              intro T57 h57 b57 X57 e57 E57 g57 A57 D57
              have lb57 := Nat.le_of_eq g57.symm
              have ne_b56_b57 : b56 ≠ b57 := Nat.ne_of_lt (Nat.lt_of_lt_of_le E_b56.lt lb57)
              have g_b57 : n0 ≤ b57 := Nat.le_trans (OwnKit.Old.le O) lb57
              replace E_b56 := E_b56.ext E57
              replace F_b56_times := F_b56_times.ext E57
              replace F_b56_now := F_b56_now.ext E57
              replace F_b56_rate := F_b56_rate.ext E57
              replace F_b56_windowNanos := F_b56_windowNanos.ext E57
              replace F_b56_count := F_b56_count.ext E57
              replace F_b56_head := F_b56_head.ext E57
              replace O := O.ext E57
              have E_b57 := A57
              have F_b57_maxOrders : Fld Z h57 b57 "com/example/breakwater/breakwater/OrderRate" "maxOrders" "J" (.long (0 : Int64)) := D57 (Or.inr (wd hw 17 rfl)) (ty := .long) (by decide)
              have F_b57_windowMillis : Fld Z h57 b57 "com/example/breakwater/breakwater/OrderRate" "windowMillis" "J" (.long (0 : Int64)) := D57 (Or.inr (wd hw 19 rfl)) (ty := .long) (by decide)
              show Go p e below _ T57 (mkF m 110 #[.val (.int p0), .val (.long p1), .second, .val (.long p2), .second, .val (.int p3), .val (.long p4), .second, .val (.long wm), .second, .val (.long wn), .second, .val (.long av), .second, .val (.long dv), .second, .val (.long bv), .second, .val (.int (p3 &&& (3 : Int32))), .val (.long xv), .second, .unset, .unset, .unset, .unset, .unset, .unset, .unset] [(.ref b57), (.ref b56), (.ref b56)])
              refine Go.by (T' := T57) (g' := (mkF m 116 #[.val (.int p0), .val (.long p1), .second, .val (.long p2), .second, .val (.int p3), .val (.long p4), .second, .val (.long wm), .second, .val (.long wn), .second, .val (.long av), .second, .val (.long dv), .second, .val (.long bv), .second, .val (.int (p3 &&& (3 : Int32))), .val (.long xv), .second, .unset, .unset, .unset, .unset, .unset, .unset, .unset] [(.long wm), (.long (5 : Int64)), (.ref b57), (.ref b57), (.ref b56), (.ref b56)])) (fun t k => ?_) ?_
              · show Steps p.tables e below (T57.setTop (mkF m 110 #[.val (.int p0), .val (.long p1), .second, .val (.long p2), .second, .val (.int p3), .val (.long p4), .second, .val (.long wm), .second, .val (.long wn), .second, .val (.long av), .second, .val (.long dv), .second, .val (.long bv), .second, .val (.int (p3 &&& (3 : Int32))), .val (.long xv), .second, .unset, .unset, .unset, .unset, .unset, .unset, .unset] [(.ref b57), (.ref b56), (.ref b56)])) _
                refine XS.dup X57.here hx rfl (hb hby at_110) rfl rfl ?_
                show Steps p.tables e below (T57.setTop (mkF m 111 #[.val (.int p0), .val (.long p1), .second, .val (.long p2), .second, .val (.int p3), .val (.long p4), .second, .val (.long wm), .second, .val (.long wn), .second, .val (.long av), .second, .val (.long dv), .second, .val (.long bv), .second, .val (.int (p3 &&& (3 : Int32))), .val (.long xv), .second, .unset, .unset, .unset, .unset, .unset, .unset, .unset] [(.ref b57), (.ref b57), (.ref b56), (.ref b56)])) _
                refine X57.ldc2Long hx hown (mvT hZ (wd hw 9 rfl)) (g := (mkF m 111 #[.val (.int p0), .val (.long p1), .second, .val (.long p2), .second, .val (.int p3), .val (.long p4), .second, .val (.long wm), .second, .val (.long wn), .second, .val (.long av), .second, .val (.long dv), .second, .val (.long bv), .second, .val (.int (p3 &&& (3 : Int32))), .val (.long xv), .second, .unset, .unset, .unset, .unset, .unset, .unset, .unset] [(.ref b57), (.ref b57), (.ref b56), (.ref b56)])) rfl (hb hby at_111) _ ?_
                show Steps p.tables e below (T57.setTop (mkF m 114 #[.val (.int p0), .val (.long p1), .second, .val (.long p2), .second, .val (.int p3), .val (.long p4), .second, .val (.long wm), .second, .val (.long wn), .second, .val (.long av), .second, .val (.long dv), .second, .val (.long bv), .second, .val (.int (p3 &&& (3 : Int32))), .val (.long xv), .second, .unset, .unset, .unset, .unset, .unset, .unset, .unset] [(.long (5 : Int64)), (.ref b57), (.ref b57), (.ref b56), (.ref b56)])) _
                refine XS.lload X57.here hx rfl (hb hby at_114) rfl ?_
                exact k
              refine Go.callC X57 hx hZ (W := 3) (argsL := [(.long (5 : Int64)), (.long wm)]) (rest := [(.ref b57), (.ref b56), (.ref b56)]) hown rfl (wd hw 10 rfl) (wd hw 11 rfl) (wd hw 8 rfl) (wd hw 12 rfl) (by decide) (ct_rinit l Z a0 hw w_MS S_MS E_MS F_MS1 F_MS2 b57 (5 : Int64) wm h57 n0 O E_b57 F_b57_maxOrders F_b57_windowMillis g_b57) e57 (by rw [hml]; rfl) (lenOf pd__JJ_V_1185 rfl) rfl rfl (hb hby at_116) (by decide) (by decide) (by decide) (by decide) ?_
              intro v58 T58 h58 L58 X58 e58 q58
              obtain ⟨rfl, N58, K58, F0_58, F1_58⟩ := q58
              replace N58 := Fr.app N0 N58
              replace E_b56 := E_b56.keep K58
              replace F_b56_times := F_b56_times.keep K58 (ninS ne_b56_b57 nin0)
              replace F_b56_now := F_b56_now.keep K58 (ninS ne_b56_b57 nin0)
              replace F_b56_rate := F_b56_rate.keep K58 (ninS ne_b56_b57 nin0)
              replace F_b56_windowNanos := F_b56_windowNanos.keep K58 (ninS ne_b56_b57 nin0)
              replace F_b56_count := F_b56_count.keep K58 (ninS ne_b56_b57 nin0)
              replace F_b56_head := F_b56_head.keep K58 (ninS ne_b56_b57 nin0)
              replace E_b57 := E_b57.keep K58
              clear F_b57_maxOrders
              clear F_b57_windowMillis
              replace O := O.keep K58 (allS g_b57 all0)
              show Go p e below _ T58 (mkF m 119 #[.val (.int p0), .val (.long p1), .second, .val (.long p2), .second, .val (.int p3), .val (.long p4), .second, .val (.long wm), .second, .val (.long wn), .second, .val (.long av), .second, .val (.long dv), .second, .val (.long bv), .second, .val (.int (p3 &&& (3 : Int32))), .val (.long xv), .second, .unset, .unset, .unset, .unset, .unset, .unset, .unset] [(.ref b57), (.ref b56), (.ref b56)])
              refine Go.callC X58 hx hZ (W := 1) (argsL := [(.ref b57)]) (rest := [(.ref b56)]) hown rfl (wd hw 20 rfl) (wd hw 21 rfl) (wd hw 5 rfl) (wd hw 22 rfl) (by decide) (ct_winit l Z a0 hw w_MS S_MS E_MS F_MS1 F_MS2 b56 b57 wm h58 n0 O E_b56 F_b56_rate F_b56_windowNanos F_b56_times F_b56_head F_b56_count F_b56_now g_b56 E_b57 F1_58 ne_b56_b57 hz1 hz2) e58 (by rw [hml]; rfl) (lenOf pd__Lcom_example_breakwater_breakwater_Orde_4493 rfl) rfl rfl (hb hby at_119) (by decide) (by decide) (by decide) (by decide) ?_
              intro v59 T59 h59 L59 X59 e59 q59
              obtain ⟨ar, kA, rfl, N59, K59, lb59, Fi0, Fi1, Fi2, Fi3, Fi4, V_ar⟩ := q59
              replace N59 := Fr.app N58 N59
              have ne_b56_ar : b56 ≠ ar := Nat.ne_of_lt (Nat.lt_of_lt_of_le E_b56.lt lb59)
              have ne_b57_ar : b57 ≠ ar := Nat.ne_of_lt (Nat.lt_of_lt_of_le E_b57.lt lb59)
              have g_ar : n0 ≤ ar := Nat.le_trans (OwnKit.Old.le O) lb59
              replace E_b56 := E_b56.keep K59
              clear F_b56_times
              clear F_b56_now
              clear F_b56_rate
              clear F_b56_windowNanos
              clear F_b56_count
              clear F_b56_head
              replace E_b57 := E_b57.keep K59
              replace F0_58 := F0_58.keep K59 (ninS (Ne.symm ne_b56_b57) nin0)
              replace F1_58 := F1_58.keep K59 (ninS (Ne.symm ne_b56_b57) nin0)
              replace O := O.keep K59 (allS g_b56 all0)
              replace V_ar : Arv Z h59 ar kA .long (16 : Int32) [(.long (0 : Int64)), (.long (0 : Int64)), (.long (0 : Int64))] (.long (0 : Int64)) := V_ar.pad (pad_rep3 _)
              rw [← hwn] at Fi0
              show Go p e below _ T59 (mkF m 122 #[.val (.int p0), .val (.long p1), .second, .val (.long p2), .second, .val (.int p3), .val (.long p4), .second, .val (.long wm), .second, .val (.long wn), .second, .val (.long av), .second, .val (.long dv), .second, .val (.long bv), .second, .val (.int (p3 &&& (3 : Int32))), .val (.long xv), .second, .unset, .unset, .unset, .unset, .unset, .unset, .unset] [(.ref b56)])
              refine Go.by (T' := T59) (g' := (mkF m 128 #[.val (.int p0), .val (.long p1), .second, .val (.long p2), .second, .val (.int p3), .val (.long p4), .second, .val (.long wm), .second, .val (.long wn), .second, .val (.long av), .second, .val (.long dv), .second, .val (.long bv), .second, .val (.int (p3 &&& (3 : Int32))), .val (.long xv), .second, .val (.ref b56), .unset, .unset, .unset, .unset, .unset, .unset] [(.long av), (.ref b56)])) (fun t k => ?_) ?_
              · show Steps p.tables e below (T59.setTop (mkF m 122 #[.val (.int p0), .val (.long p1), .second, .val (.long p2), .second, .val (.int p3), .val (.long p4), .second, .val (.long wm), .second, .val (.long wn), .second, .val (.long av), .second, .val (.long dv), .second, .val (.long bv), .second, .val (.int (p3 &&& (3 : Int32))), .val (.long xv), .second, .unset, .unset, .unset, .unset, .unset, .unset, .unset] [(.ref b56)])) _
                refine XS.astore X59.here hx rfl (hb hby at_122) rfl rfl (l' := #[.val (.int p0), .val (.long p1), .second, .val (.long p2), .second, .val (.int p3), .val (.long p4), .second, .val (.long wm), .second, .val (.long wn), .second, .val (.long av), .second, .val (.long dv), .second, .val (.long bv), .second, .val (.int (p3 &&& (3 : Int32))), .val (.long xv), .second, .val (.ref b56), .unset, .unset, .unset, .unset, .unset, .unset]) rfl ?_
                show Steps p.tables e below (T59.setTop (mkF m 124 #[.val (.int p0), .val (.long p1), .second, .val (.long p2), .second, .val (.int p3), .val (.long p4), .second, .val (.long wm), .second, .val (.long wn), .second, .val (.long av), .second, .val (.long dv), .second, .val (.long bv), .second, .val (.int (p3 &&& (3 : Int32))), .val (.long xv), .second, .val (.ref b56), .unset, .unset, .unset, .unset, .unset, .unset] [])) _
                refine XS.aload X59.here hx rfl (hb hby at_124) rfl rfl ?_
                show Steps p.tables e below (T59.setTop (mkF m 126 #[.val (.int p0), .val (.long p1), .second, .val (.long p2), .second, .val (.int p3), .val (.long p4), .second, .val (.long wm), .second, .val (.long wn), .second, .val (.long av), .second, .val (.long dv), .second, .val (.long bv), .second, .val (.int (p3 &&& (3 : Int32))), .val (.long xv), .second, .val (.ref b56), .unset, .unset, .unset, .unset, .unset, .unset] [(.ref b56)])) _
                refine XS.lload X59.here hx rfl (hb hby at_126) rfl ?_
                exact k
              refine Go.callV X59 hx hZ (W := 0) (argsL := [(.long av)]) (rest := []) hown (wd hw 50 rfl) (wd hw 51 rfl) (notFace_of_selects (args := #[]) (mvT hZ (wd hw 53 rfl))) (wd hw 53 rfl) (wd hw 52 rfl) (wd hw 5 rfl) (wd hw 54 rfl) (by decide) E_b56 (ct_move_0_0_0 l Z a0 hw w_MS S_MS E_MS F_MS1 F_MS2 b56 ar kA wn (-9223372036854775808 : Int64) (0 : Int64) (0 : Int64) (0 : Int64) av h59 n0 O E_b56 Fi0 Fi1 Fi2 Fi3 Fi4 V_ar g_b56 g_ar ne_b56_ar (own_min _)) e59 (by rw [hml]; rfl) (lenOf pd__J_Z_8741 rfl) rfl rfl (hb hby at_128) (by decide) (by decide) (by decide) (by decide) ?_
              intro v60 T60 h60 L60 X60 e60 q60
              obtain ⟨rfl, N60, K60, Fi0_60, Fi1_60, Fi2_60, Fi3_60, Fi4_60, V_a60⟩ := q60
              replace N60 := Fr.app N59 N60
              replace E_b56 := E_b56.keep K60
              replace E_b57 := E_b57.keep K60
              replace F0_58 := F0_58.keep K60 (ninS (Ne.symm ne_b56_b57) (ninS ne_b57_ar nin0))
              replace F1_58 := F1_58.keep K60 (ninS (Ne.symm ne_b56_b57) (ninS ne_b57_ar nin0))
              clear Fi0
              clear Fi1
              clear Fi2
              clear Fi3
              clear Fi4
              clear V_ar
              replace O := O.keep K60 (allS g_b56 (allS g_ar all0))
              have V_ar := V_a60
              show Go p e below _ T60 (mkF m 131 #[.val (.int p0), .val (.long p1), .second, .val (.long p2), .second, .val (.int p3), .val (.long p4), .second, .val (.long wm), .second, .val (.long wn), .second, .val (.long av), .second, .val (.long dv), .second, .val (.long bv), .second, .val (.int (p3 &&& (3 : Int32))), .val (.long xv), .second, .val (.ref b56), .unset, .unset, .unset, .unset, .unset, .unset] [(.int (1 : Int32))])
              refine Go.by (T' := T60) (g' := (mkF m 134 #[.val (.int p0), .val (.long p1), .second, .val (.long p2), .second, .val (.int p3), .val (.long p4), .second, .val (.long wm), .second, .val (.long wn), .second, .val (.long av), .second, .val (.long dv), .second, .val (.long bv), .second, .val (.int (p3 &&& (3 : Int32))), .val (.long xv), .second, .val (.ref b56), .unset, .unset, .unset, .unset, .unset, .unset] [(.ref b56)])) (fun t k => ?_) ?_
              · show Steps p.tables e below (T60.setTop (mkF m 131 #[.val (.int p0), .val (.long p1), .second, .val (.long p2), .second, .val (.int p3), .val (.long p4), .second, .val (.long wm), .second, .val (.long wn), .second, .val (.long av), .second, .val (.long dv), .second, .val (.long bv), .second, .val (.int (p3 &&& (3 : Int32))), .val (.long xv), .second, .val (.ref b56), .unset, .unset, .unset, .unset, .unset, .unset] [(.int (1 : Int32))])) _
                refine XS.pop X60.here hx rfl (hb hby at_131) rfl rfl ?_
                show Steps p.tables e below (T60.setTop (mkF m 132 #[.val (.int p0), .val (.long p1), .second, .val (.long p2), .second, .val (.int p3), .val (.long p4), .second, .val (.long wm), .second, .val (.long wn), .second, .val (.long av), .second, .val (.long dv), .second, .val (.long bv), .second, .val (.int (p3 &&& (3 : Int32))), .val (.long xv), .second, .val (.ref b56), .unset, .unset, .unset, .unset, .unset, .unset] [])) _
                refine XS.aload X60.here hx rfl (hb hby at_132) rfl rfl ?_
                exact k
              refine Go.callV X60 hx hZ (W := 0) (argsL := []) (rest := []) hown (wd hw 57 rfl) (wd hw 58 rfl) (notFace_of_selects (args := #[]) (mvT hZ (wd hw 60 rfl))) (wd hw 60 rfl) (wd hw 59 rfl) (wd hw 5 rfl) (wd hw 61 rfl) (by decide) E_b56 (ct_add_0_0 l Z a0 hw w_MS S_MS E_MS F_MS1 F_MS2 b56 ar kA wn av (0 : Int64) (0 : Int64) (0 : Int64) h60 n0 O E_b56 Fi0_60 Fi1_60 Fi2_60 Fi3_60 Fi4_60 V_ar g_b56 g_ar ne_b56_ar) e60 (by rw [hml]; rfl) (lenOf pd___V_8334 rfl) rfl rfl (hb hby at_134) (by decide) (by decide) (by decide) (by decide) ?_
              intro v61 T61 h61 L61 X61 e61 q61
              obtain ⟨rfl, N61, K61, Fi0_61, Fi1_61, Fi2_61, Fi3_61, Fi4_61, V_a61⟩ := q61
              replace N61 := Fr.app N60 N61
              replace E_b56 := E_b56.keep K61
              replace E_b57 := E_b57.keep K61
              replace F0_58 := F0_58.keep K61 (ninS (Ne.symm ne_b56_b57) (ninS ne_b57_ar nin0))
              replace F1_58 := F1_58.keep K61 (ninS (Ne.symm ne_b56_b57) (ninS ne_b57_ar nin0))
              clear Fi0_60
              clear Fi1_60
              clear Fi2_60
              clear Fi3_60
              clear Fi4_60
              clear V_ar
              replace O := O.keep K61 (allS g_b56 (allS g_ar all0))
              have V_ar := V_a61
              show Go p e below _ T61 (mkF m 137 #[.val (.int p0), .val (.long p1), .second, .val (.long p2), .second, .val (.int p3), .val (.long p4), .second, .val (.long wm), .second, .val (.long wn), .second, .val (.long av), .second, .val (.long dv), .second, .val (.long bv), .second, .val (.int (p3 &&& (3 : Int32))), .val (.long xv), .second, .val (.ref b56), .unset, .unset, .unset, .unset, .unset, .unset] [])
              refine Go.by (T' := T61) (g' := (mkF m 141 #[.val (.int p0), .val (.long p1), .second, .val (.long p2), .second, .val (.int p3), .val (.long p4), .second, .val (.long wm), .second, .val (.long wn), .second, .val (.long av), .second, .val (.long dv), .second, .val (.long bv), .second, .val (.int (p3 &&& (3 : Int32))), .val (.long xv), .second, .val (.ref b56), .unset, .unset, .unset, .unset, .unset, .unset] [(.long bv), (.ref b56)])) (fun t k => ?_) ?_
              · show Steps p.tables e below (T61.setTop (mkF m 137 #[.val (.int p0), .val (.long p1), .second, .val (.long p2), .second, .val (.int p3), .val (.long p4), .second, .val (.long wm), .second, .val (.long wn), .second, .val (.long av), .second, .val (.long dv), .second, .val (.long bv), .second, .val (.int (p3 &&& (3 : Int32))), .val (.long xv), .second, .val (.ref b56), .unset, .unset, .unset, .unset, .unset, .unset] [])) _
                refine XS.aload X61.here hx rfl (hb hby at_137) rfl rfl ?_
                show Steps p.tables e below (T61.setTop (mkF m 139 #[.val (.int p0), .val (.long p1), .second, .val (.long p2), .second, .val (.int p3), .val (.long p4), .second, .val (.long wm), .second, .val (.long wn), .second, .val (.long av), .second, .val (.long dv), .second, .val (.long bv), .second, .val (.int (p3 &&& (3 : Int32))), .val (.long xv), .second, .val (.ref b56), .unset, .unset, .unset, .unset, .unset, .unset] [(.ref b56)])) _
                refine XS.lload X61.here hx rfl (hb hby at_139) rfl ?_
                exact k
              refine Go.callV X61 hx hZ (W := 0) (argsL := [(.long bv)]) (rest := []) hown (wd hw 50 rfl) (wd hw 51 rfl) (notFace_of_selects (args := #[]) (mvT hZ (wd hw 53 rfl))) (wd hw 53 rfl) (wd hw 52 rfl) (wd hw 5 rfl) (wd hw 54 rfl) (by decide) E_b56 (ct_move_0_1_0 l Z a0 hw w_MS S_MS E_MS F_MS1 F_MS2 b56 ar kA wn av av (0 : Int64) (0 : Int64) bv h61 n0 O E_b56 Fi0_61 Fi1_61 Fi2_61 Fi3_61 Fi4_61 V_ar g_b56 g_ar ne_b56_ar (own_ge hbv ha hd) (own_k1 hbv ha hd hy29)) e61 (by rw [hml]; rfl) (lenOf pd__J_Z_8741 rfl) rfl rfl (hb hby at_141) (by decide) (by decide) (by decide) (by decide) ?_
              intro v62 T62 h62 L62 X62 e62 q62
              obtain ⟨rfl, N62, K62, Fi0_62, Fi1_62, Fi2_62, Fi3_62, Fi4_62, V_a62⟩ := q62
              replace N62 := Fr.app N61 N62
              replace E_b56 := E_b56.keep K62
              replace E_b57 := E_b57.keep K62
              replace F0_58 := F0_58.keep K62 (ninS (Ne.symm ne_b56_b57) (ninS ne_b57_ar nin0))
              replace F1_58 := F1_58.keep K62 (ninS (Ne.symm ne_b56_b57) (ninS ne_b57_ar nin0))
              clear Fi0_61
              clear Fi1_61
              clear Fi2_61
              clear Fi3_61
              clear Fi4_61
              clear V_ar
              replace O := O.keep K62 (allS g_b56 (allS g_ar all0))
              have V_ar := V_a62
              show Go p e below _ T62 (mkF m 144 #[.val (.int p0), .val (.long p1), .second, .val (.long p2), .second, .val (.int p3), .val (.long p4), .second, .val (.long wm), .second, .val (.long wn), .second, .val (.long av), .second, .val (.long dv), .second, .val (.long bv), .second, .val (.int (p3 &&& (3 : Int32))), .val (.long xv), .second, .val (.ref b56), .unset, .unset, .unset, .unset, .unset, .unset] [(.int (1 : Int32))])
              refine Go.by (T' := T62) (g' := (mkF m 147 #[.val (.int p0), .val (.long p1), .second, .val (.long p2), .second, .val (.int p3), .val (.long p4), .second, .val (.long wm), .second, .val (.long wn), .second, .val (.long av), .second, .val (.long dv), .second, .val (.long bv), .second, .val (.int (p3 &&& (3 : Int32))), .val (.long xv), .second, .val (.ref b56), .unset, .unset, .unset, .unset, .unset, .unset] [(.ref b56)])) (fun t k => ?_) ?_
              · show Steps p.tables e below (T62.setTop (mkF m 144 #[.val (.int p0), .val (.long p1), .second, .val (.long p2), .second, .val (.int p3), .val (.long p4), .second, .val (.long wm), .second, .val (.long wn), .second, .val (.long av), .second, .val (.long dv), .second, .val (.long bv), .second, .val (.int (p3 &&& (3 : Int32))), .val (.long xv), .second, .val (.ref b56), .unset, .unset, .unset, .unset, .unset, .unset] [(.int (1 : Int32))])) _
                refine XS.pop X62.here hx rfl (hb hby at_144) rfl rfl ?_
                show Steps p.tables e below (T62.setTop (mkF m 145 #[.val (.int p0), .val (.long p1), .second, .val (.long p2), .second, .val (.int p3), .val (.long p4), .second, .val (.long wm), .second, .val (.long wn), .second, .val (.long av), .second, .val (.long dv), .second, .val (.long bv), .second, .val (.int (p3 &&& (3 : Int32))), .val (.long xv), .second, .val (.ref b56), .unset, .unset, .unset, .unset, .unset, .unset] [])) _
                refine XS.aload X62.here hx rfl (hb hby at_145) rfl rfl ?_
                exact k
              refine Go.callV X62 hx hZ (W := 0) (argsL := []) (rest := []) hown (wd hw 57 rfl) (wd hw 58 rfl) (notFace_of_selects (args := #[]) (mvT hZ (wd hw 60 rfl))) (wd hw 60 rfl) (wd hw 59 rfl) (wd hw 5 rfl) (wd hw 61 rfl) (by decide) E_b56 (ct_add_0_1 l Z a0 hw w_MS S_MS E_MS F_MS1 F_MS2 b56 ar kA wn bv av (0 : Int64) (0 : Int64) h62 n0 O E_b56 Fi0_62 Fi1_62 Fi2_62 Fi3_62 Fi4_62 V_ar g_b56 g_ar ne_b56_ar) e62 (by rw [hml]; rfl) (lenOf pd___V_8334 rfl) rfl rfl (hb hby at_147) (by decide) (by decide) (by decide) (by decide) ?_
              intro v63 T63 h63 L63 X63 e63 q63
              obtain ⟨rfl, N63, K63, Fi0_63, Fi1_63, Fi2_63, Fi3_63, Fi4_63, V_a63⟩ := q63
              replace N63 := Fr.app N62 N63
              replace E_b56 := E_b56.keep K63
              replace E_b57 := E_b57.keep K63
              replace F0_58 := F0_58.keep K63 (ninS (Ne.symm ne_b56_b57) (ninS ne_b57_ar nin0))
              replace F1_58 := F1_58.keep K63 (ninS (Ne.symm ne_b56_b57) (ninS ne_b57_ar nin0))
              clear Fi0_62
              clear Fi1_62
              clear Fi2_62
              clear Fi3_62
              clear Fi4_62
              clear V_ar
              replace O := O.keep K63 (allS g_b56 (allS g_ar all0))
              have V_ar := V_a63
              show Go p e below _ T63 (mkF m 150 #[.val (.int p0), .val (.long p1), .second, .val (.long p2), .second, .val (.int p3), .val (.long p4), .second, .val (.long wm), .second, .val (.long wn), .second, .val (.long av), .second, .val (.long dv), .second, .val (.long bv), .second, .val (.int (p3 &&& (3 : Int32))), .val (.long xv), .second, .val (.ref b56), .unset, .unset, .unset, .unset, .unset, .unset] [])
              refine Go.by (T' := T63) (g' := (mkF m 154 #[.val (.int p0), .val (.long p1), .second, .val (.long p2), .second, .val (.int p3), .val (.long p4), .second, .val (.long wm), .second, .val (.long wn), .second, .val (.long av), .second, .val (.long dv), .second, .val (.long bv), .second, .val (.int (p3 &&& (3 : Int32))), .val (.long xv), .second, .val (.ref b56), .unset, .unset, .unset, .unset, .unset, .unset] [(.long xv), (.ref b56)])) (fun t k => ?_) ?_
              · show Steps p.tables e below (T63.setTop (mkF m 150 #[.val (.int p0), .val (.long p1), .second, .val (.long p2), .second, .val (.int p3), .val (.long p4), .second, .val (.long wm), .second, .val (.long wn), .second, .val (.long av), .second, .val (.long dv), .second, .val (.long bv), .second, .val (.int (p3 &&& (3 : Int32))), .val (.long xv), .second, .val (.ref b56), .unset, .unset, .unset, .unset, .unset, .unset] [])) _
                refine XS.aload X63.here hx rfl (hb hby at_150) rfl rfl ?_
                show Steps p.tables e below (T63.setTop (mkF m 152 #[.val (.int p0), .val (.long p1), .second, .val (.long p2), .second, .val (.int p3), .val (.long p4), .second, .val (.long wm), .second, .val (.long wn), .second, .val (.long av), .second, .val (.long dv), .second, .val (.long bv), .second, .val (.int (p3 &&& (3 : Int32))), .val (.long xv), .second, .val (.ref b56), .unset, .unset, .unset, .unset, .unset, .unset] [(.ref b56)])) _
                refine XS.lload X63.here hx rfl (hb hby at_152) rfl ?_
                exact k
              refine Go.callV X63 hx hZ (W := 0) (argsL := [(.long xv)]) (rest := []) hown (wd hw 64 rfl) (wd hw 65 rfl) (notFace_of_selects (args := #[]) (mvT hZ (wd hw 67 rfl))) (wd hw 67 rfl) (wd hw 66 rfl) (wd hw 5 rfl) (wd hw 68 rfl) (by decide) E_b56 (ct_remove_0_2_n l Z a0 hw w_MS S_MS E_MS F_MS1 F_MS2 b56 ar kA wn bv av bv (0 : Int64) xv h63 n0 O E_b56 Fi0_63 Fi1_63 Fi2_63 Fi3_63 Fi4_63 V_ar g_b56 g_ar ne_b56_ar (Ne.symm hy30) (Ne.symm hy43)) e63 (by rw [hml]; rfl) (lenOf pd__J_V_8737 rfl) rfl rfl (hb hby at_154) (by decide) (by decide) (by decide) (by decide) ?_
              intro v64 T64 h64 L64 X64 e64 q64
              obtain ⟨rfl, N64, K64, Fi0_64, Fi1_64, Fi2_64, Fi3_64, Fi4_64, V_a64⟩ := q64
              replace N64 := Fr.app N63 N64
              replace E_b56 := E_b56.keep K64
              replace E_b57 := E_b57.keep K64
              replace F0_58 := F0_58.keep K64 (ninS (Ne.symm ne_b56_b57) (ninS ne_b57_ar nin0))
              replace F1_58 := F1_58.keep K64 (ninS (Ne.symm ne_b56_b57) (ninS ne_b57_ar nin0))
              clear Fi0_63
              clear Fi1_63
              clear Fi2_63
              clear Fi3_63
              clear Fi4_63
              clear V_ar
              replace O := O.keep K64 (allS g_b56 (allS g_ar all0))
              have V_ar := V_a64
              show Go p e below _ T64 (mkF m 157 #[.val (.int p0), .val (.long p1), .second, .val (.long p2), .second, .val (.int p3), .val (.long p4), .second, .val (.long wm), .second, .val (.long wn), .second, .val (.long av), .second, .val (.long dv), .second, .val (.long bv), .second, .val (.int (p3 &&& (3 : Int32))), .val (.long xv), .second, .val (.ref b56), .unset, .unset, .unset, .unset, .unset, .unset] [])
              refine Go.by (T' := T64) (g' := (mkF m 159 #[.val (.int p0), .val (.long p1), .second, .val (.long p2), .second, .val (.int p3), .val (.long p4), .second, .val (.long wm), .second, .val (.long wn), .second, .val (.long av), .second, .val (.long dv), .second, .val (.long bv), .second, .val (.int (p3 &&& (3 : Int32))), .val (.long xv), .second, .val (.ref b56), .unset, .unset, .unset, .unset, .unset, .unset] [(.ref b56)])) (fun t k => ?_) ?_
              · show Steps p.tables e below (T64.setTop (mkF m 157 #[.val (.int p0), .val (.long p1), .second, .val (.long p2), .second, .val (.int p3), .val (.long p4), .second, .val (.long wm), .second, .val (.long wn), .second, .val (.long av), .second, .val (.long dv), .second, .val (.long bv), .second, .val (.int (p3 &&& (3 : Int32))), .val (.long xv), .second, .val (.ref b56), .unset, .unset, .unset, .unset, .unset, .unset] [])) _
                refine XS.aload X64.here hx rfl (hb hby at_157) rfl rfl ?_
                exact k
              refine Go.callV X64 hx hZ (W := 0) (argsL := []) (rest := []) hown (wd hw 69 rfl) (wd hw 70 rfl) (notFace_of_selects (args := #[]) (mvT hZ (wd hw 72 rfl))) (wd hw 72 rfl) (wd hw 71 rfl) (wd hw 5 rfl) (wd hw 73 rfl) (by decide) E_b56 (ct_get_count_l_2___Int32__7 l Z a0 hw  b56 h64 n0 O Fi3_64) e64 (by rw [hml]; rfl) (lenOf pd___I_8321 rfl) rfl rfl (hb hby at_159) (by decide) (by decide) (by decide) (by decide) ?_
              intro v65 T65 h65 L65 X65 e65 q65
              obtain ⟨rfl, N65, rfl⟩ := q65
              replace N65 := Fr.app N64 N65
              show Go p e below _ T65 (mkF m 162 #[.val (.int p0), .val (.long p1), .second, .val (.long p2), .second, .val (.int p3), .val (.long p4), .second, .val (.long wm), .second, .val (.long wn), .second, .val (.long av), .second, .val (.long dv), .second, .val (.long bv), .second, .val (.int (p3 &&& (3 : Int32))), .val (.long xv), .second, .val (.ref b56), .unset, .unset, .unset, .unset, .unset, .unset] [(.int (2 : Int32))])
              refine Go.by (T' := T65) (g' := (mkF m 173 #[.val (.int p0), .val (.long p1), .second, .val (.long p2), .second, .val (.int p3), .val (.long p4), .second, .val (.long wm), .second, .val (.long wn), .second, .val (.long av), .second, .val (.long dv), .second, .val (.long bv), .second, .val (.int (p3 &&& (3 : Int32))), .val (.long xv), .second, .val (.ref b56), .val (.int (2 : Int32)), .unset, .unset, .unset, .unset, .unset] [(.long ((bv + wn) - (1 : Int64))), (.ref b56)])) (fun t k => ?_) ?_
              · show Steps p.tables e below (T65.setTop (mkF m 162 #[.val (.int p0), .val (.long p1), .second, .val (.long p2), .second, .val (.int p3), .val (.long p4), .second, .val (.long wm), .second, .val (.long wn), .second, .val (.long av), .second, .val (.long dv), .second, .val (.long bv), .second, .val (.int (p3 &&& (3 : Int32))), .val (.long xv), .second, .val (.ref b56), .unset, .unset, .unset, .unset, .unset, .unset] [(.int (2 : Int32))])) _
                refine XS.istore X65.here hx rfl (hb hby at_162) rfl (l' := #[.val (.int p0), .val (.long p1), .second, .val (.long p2), .second, .val (.int p3), .val (.long p4), .second, .val (.long wm), .second, .val (.long wn), .second, .val (.long av), .second, .val (.long dv), .second, .val (.long bv), .second, .val (.int (p3 &&& (3 : Int32))), .val (.long xv), .second, .val (.ref b56), .val (.int (2 : Int32)), .unset, .unset, .unset, .unset, .unset]) rfl ?_
                show Steps p.tables e below (T65.setTop (mkF m 164 #[.val (.int p0), .val (.long p1), .second, .val (.long p2), .second, .val (.int p3), .val (.long p4), .second, .val (.long wm), .second, .val (.long wn), .second, .val (.long av), .second, .val (.long dv), .second, .val (.long bv), .second, .val (.int (p3 &&& (3 : Int32))), .val (.long xv), .second, .val (.ref b56), .val (.int (2 : Int32)), .unset, .unset, .unset, .unset, .unset] [])) _
                refine XS.aload X65.here hx rfl (hb hby at_164) rfl rfl ?_
                show Steps p.tables e below (T65.setTop (mkF m 166 #[.val (.int p0), .val (.long p1), .second, .val (.long p2), .second, .val (.int p3), .val (.long p4), .second, .val (.long wm), .second, .val (.long wn), .second, .val (.long av), .second, .val (.long dv), .second, .val (.long bv), .second, .val (.int (p3 &&& (3 : Int32))), .val (.long xv), .second, .val (.ref b56), .val (.int (2 : Int32)), .unset, .unset, .unset, .unset, .unset] [(.ref b56)])) _
                refine XS.lload X65.here hx rfl (hb hby at_166) rfl ?_
                show Steps p.tables e below (T65.setTop (mkF m 168 #[.val (.int p0), .val (.long p1), .second, .val (.long p2), .second, .val (.int p3), .val (.long p4), .second, .val (.long wm), .second, .val (.long wn), .second, .val (.long av), .second, .val (.long dv), .second, .val (.long bv), .second, .val (.int (p3 &&& (3 : Int32))), .val (.long xv), .second, .val (.ref b56), .val (.int (2 : Int32)), .unset, .unset, .unset, .unset, .unset] [(.long bv), (.ref b56)])) _
                refine XS.lload X65.here hx rfl (hb hby at_168) rfl ?_
                show Steps p.tables e below (T65.setTop (mkF m 170 #[.val (.int p0), .val (.long p1), .second, .val (.long p2), .second, .val (.int p3), .val (.long p4), .second, .val (.long wm), .second, .val (.long wn), .second, .val (.long av), .second, .val (.long dv), .second, .val (.long bv), .second, .val (.int (p3 &&& (3 : Int32))), .val (.long xv), .second, .val (.ref b56), .val (.int (2 : Int32)), .unset, .unset, .unset, .unset, .unset] [(.long wn), (.long bv), (.ref b56)])) _
                refine XS.ladd X65.here hx rfl (hb hby at_170) rfl ?_
                show Steps p.tables e below (T65.setTop (mkF m 171 #[.val (.int p0), .val (.long p1), .second, .val (.long p2), .second, .val (.int p3), .val (.long p4), .second, .val (.long wm), .second, .val (.long wn), .second, .val (.long av), .second, .val (.long dv), .second, .val (.long bv), .second, .val (.int (p3 &&& (3 : Int32))), .val (.long xv), .second, .val (.ref b56), .val (.int (2 : Int32)), .unset, .unset, .unset, .unset, .unset] [(.long (bv + wn)), (.ref b56)])) _
                refine XS.lconst X65.here hx rfl (hb hby at_171) ?_
                show Steps p.tables e below (T65.setTop (mkF m 172 #[.val (.int p0), .val (.long p1), .second, .val (.long p2), .second, .val (.int p3), .val (.long p4), .second, .val (.long wm), .second, .val (.long wn), .second, .val (.long av), .second, .val (.long dv), .second, .val (.long bv), .second, .val (.int (p3 &&& (3 : Int32))), .val (.long xv), .second, .val (.ref b56), .val (.int (2 : Int32)), .unset, .unset, .unset, .unset, .unset] [(.long (1 : Int64)), (.long (bv + wn)), (.ref b56)])) _
                refine XS.lsub X65.here hx rfl (hb hby at_172) rfl ?_
                exact k
              refine Go.callV X65 hx hZ (W := 0) (argsL := [(.long ((bv + wn) - (1 : Int64)))]) (rest := []) hown (wd hw 50 rfl) (wd hw 51 rfl) (notFace_of_selects (args := #[]) (mvT hZ (wd hw 53 rfl))) (wd hw 53 rfl) (wd hw 52 rfl) (wd hw 5 rfl) (wd hw 54 rfl) (by decide) E_b56 (ct_move_0_2_1 l Z a0 hw w_MS S_MS E_MS F_MS1 F_MS2 b56 ar kA wn bv av bv (0 : Int64) ((bv + wn) - (1 : Int64)) h64 n0 O E_b56 Fi0_64 Fi1_64 Fi2_64 Fi3_64 Fi4_64 V_ar g_b56 g_ar ne_b56_ar (own_t3 hbv ha hd hwr) (own_s3 hbv ha hd hwr hy3) (own_s1 hbv ha hd hwr)) e65 (by rw [hml]; rfl) (lenOf pd__J_Z_8741 rfl) rfl rfl (hb hby at_173) (by decide) (by decide) (by decide) (by decide) ?_
              intro v66 T66 h66 L66 X66 e66 q66
              obtain ⟨rfl, N66, K66, Fi0_66, Fi1_66, Fi2_66, Fi3_66, Fi4_66, V_a66⟩ := q66
              replace N66 := Fr.app N65 N66
              replace E_b56 := E_b56.keep K66
              replace E_b57 := E_b57.keep K66
              replace F0_58 := F0_58.keep K66 (ninS (Ne.symm ne_b56_b57) (ninS ne_b57_ar nin0))
              replace F1_58 := F1_58.keep K66 (ninS (Ne.symm ne_b56_b57) (ninS ne_b57_ar nin0))
              clear Fi0_64
              clear Fi1_64
              clear Fi2_64
              clear Fi3_64
              clear Fi4_64
              clear V_ar
              replace O := O.keep K66 (allS g_b56 (allS g_ar all0))
              have V_ar := V_a66
              show Go p e below _ T66 (mkF m 176 #[.val (.int p0), .val (.long p1), .second, .val (.long p2), .second, .val (.int p3), .val (.long p4), .second, .val (.long wm), .second, .val (.long wn), .second, .val (.long av), .second, .val (.long dv), .second, .val (.long bv), .second, .val (.int (p3 &&& (3 : Int32))), .val (.long xv), .second, .val (.ref b56), .val (.int (2 : Int32)), .unset, .unset, .unset, .unset, .unset] [(.int (1 : Int32))])
              refine Go.by (T' := T66) (g' := (mkF m 180 #[.val (.int p0), .val (.long p1), .second, .val (.long p2), .second, .val (.int p3), .val (.long p4), .second, .val (.long wm), .second, .val (.long wn), .second, .val (.long av), .second, .val (.long dv), .second, .val (.long bv), .second, .val (.int (p3 &&& (3 : Int32))), .val (.long xv), .second, .val (.ref b56), .val (.int (2 : Int32)), .val (.int (1 : Int32)), .unset, .unset, .unset, .unset] [(.ref b56)])) (fun t k => ?_) ?_
              · show Steps p.tables e below (T66.setTop (mkF m 176 #[.val (.int p0), .val (.long p1), .second, .val (.long p2), .second, .val (.int p3), .val (.long p4), .second, .val (.long wm), .second, .val (.long wn), .second, .val (.long av), .second, .val (.long dv), .second, .val (.long bv), .second, .val (.int (p3 &&& (3 : Int32))), .val (.long xv), .second, .val (.ref b56), .val (.int (2 : Int32)), .unset, .unset, .unset, .unset, .unset] [(.int (1 : Int32))])) _
                refine XS.istore X66.here hx rfl (hb hby at_176) rfl (l' := #[.val (.int p0), .val (.long p1), .second, .val (.long p2), .second, .val (.int p3), .val (.long p4), .second, .val (.long wm), .second, .val (.long wn), .second, .val (.long av), .second, .val (.long dv), .second, .val (.long bv), .second, .val (.int (p3 &&& (3 : Int32))), .val (.long xv), .second, .val (.ref b56), .val (.int (2 : Int32)), .val (.int (1 : Int32)), .unset, .unset, .unset, .unset]) rfl ?_
                show Steps p.tables e below (T66.setTop (mkF m 178 #[.val (.int p0), .val (.long p1), .second, .val (.long p2), .second, .val (.int p3), .val (.long p4), .second, .val (.long wm), .second, .val (.long wn), .second, .val (.long av), .second, .val (.long dv), .second, .val (.long bv), .second, .val (.int (p3 &&& (3 : Int32))), .val (.long xv), .second, .val (.ref b56), .val (.int (2 : Int32)), .val (.int (1 : Int32)), .unset, .unset, .unset, .unset] [])) _
                refine XS.aload X66.here hx rfl (hb hby at_178) rfl rfl ?_
                exact k
              refine Go.callV X66 hx hZ (W := 0) (argsL := []) (rest := []) hown (wd hw 69 rfl) (wd hw 70 rfl) (notFace_of_selects (args := #[]) (mvT hZ (wd hw 72 rfl))) (wd hw 72 rfl) (wd hw 71 rfl) (wd hw 5 rfl) (wd hw 73 rfl) (by decide) E_b56 (ct_get_count_l_1___Int32__5 l Z a0 hw  b56 h66 n0 O Fi3_66) e66 (by rw [hml]; rfl) (lenOf pd___I_8321 rfl) rfl rfl (hb hby at_180) (by decide) (by decide) (by decide) (by decide) ?_
              intro v67 T67 h67 L67 X67 e67 q67
              obtain ⟨rfl, N67, rfl⟩ := q67
              replace N67 := Fr.app N66 N67
              show Go p e below _ T67 (mkF m 183 #[.val (.int p0), .val (.long p1), .second, .val (.long p2), .second, .val (.int p3), .val (.long p4), .second, .val (.long wm), .second, .val (.long wn), .second, .val (.long av), .second, .val (.long dv), .second, .val (.long bv), .second, .val (.int (p3 &&& (3 : Int32))), .val (.long xv), .second, .val (.ref b56), .val (.int (2 : Int32)), .val (.int (1 : Int32)), .unset, .unset, .unset, .unset] [(.int (1 : Int32))])
              refine Go.by (T' := T67) (g' := (mkF m 299 #[.val (.int p0), .val (.long p1), .second, .val (.long p2), .second, .val (.int p3), .val (.long p4), .second, .val (.long wm), .second, .val (.long wn), .second, .val (.long av), .second, .val (.long dv), .second, .val (.long bv), .second, .val (.int (p3 &&& (3 : Int32))), .val (.long xv), .second, .val (.ref b56), .val (.int (2 : Int32)), .val (.int (1 : Int32)), .val (.int (1 : Int32)), .val (.int (1 : Int32)), .val (.int (1 : Int32)), .val (.int (1 : Int32))] [(.int (1 : Int32))])) (fun t k => ?_) ?_
              · show Steps p.tables e below (T67.setTop (mkF m 183 #[.val (.int p0), .val (.long p1), .second, .val (.long p2), .second, .val (.int p3), .val (.long p4), .second, .val (.long wm), .second, .val (.long wn), .second, .val (.long av), .second, .val (.long dv), .second, .val (.long bv), .second, .val (.int (p3 &&& (3 : Int32))), .val (.long xv), .second, .val (.ref b56), .val (.int (2 : Int32)), .val (.int (1 : Int32)), .unset, .unset, .unset, .unset] [(.int (1 : Int32))])) _
                refine XS.istore X67.here hx rfl (hb hby at_183) rfl (l' := #[.val (.int p0), .val (.long p1), .second, .val (.long p2), .second, .val (.int p3), .val (.long p4), .second, .val (.long wm), .second, .val (.long wn), .second, .val (.long av), .second, .val (.long dv), .second, .val (.long bv), .second, .val (.int (p3 &&& (3 : Int32))), .val (.long xv), .second, .val (.ref b56), .val (.int (2 : Int32)), .val (.int (1 : Int32)), .val (.int (1 : Int32)), .unset, .unset, .unset]) rfl ?_
                show Steps p.tables e below (T67.setTop (mkF m 185 #[.val (.int p0), .val (.long p1), .second, .val (.long p2), .second, .val (.int p3), .val (.long p4), .second, .val (.long wm), .second, .val (.long wn), .second, .val (.long av), .second, .val (.long dv), .second, .val (.long bv), .second, .val (.int (p3 &&& (3 : Int32))), .val (.long xv), .second, .val (.ref b56), .val (.int (2 : Int32)), .val (.int (1 : Int32)), .val (.int (1 : Int32)), .unset, .unset, .unset] [])) _
                refine XS.lload X67.here hx rfl (hb hby at_185) rfl ?_
                show Steps p.tables e below (T67.setTop (mkF m 187 #[.val (.int p0), .val (.long p1), .second, .val (.long p2), .second, .val (.int p3), .val (.long p4), .second, .val (.long wm), .second, .val (.long wn), .second, .val (.long av), .second, .val (.long dv), .second, .val (.long bv), .second, .val (.int (p3 &&& (3 : Int32))), .val (.long xv), .second, .val (.ref b56), .val (.int (2 : Int32)), .val (.int (1 : Int32)), .val (.int (1 : Int32)), .unset, .unset, .unset] [(.long dv)])) _
                refine XS.lload X67.here hx rfl (hb hby at_187) rfl ?_
                show Steps p.tables e below (T67.setTop (mkF m 189 #[.val (.int p0), .val (.long p1), .second, .val (.long p2), .second, .val (.int p3), .val (.long p4), .second, .val (.long wm), .second, .val (.long wn), .second, .val (.long av), .second, .val (.long dv), .second, .val (.long bv), .second, .val (.int (p3 &&& (3 : Int32))), .val (.long xv), .second, .val (.ref b56), .val (.int (2 : Int32)), .val (.int (1 : Int32)), .val (.int (1 : Int32)), .unset, .unset, .unset] [(.long wn), (.long dv)])) _
                refine XS.lcmp X67.here hx rfl (hb hby at_189) rfl ?_
                show Steps p.tables e below (T67.setTop (mkF m 190 #[.val (.int p0), .val (.long p1), .second, .val (.long p2), .second, .val (.int p3), .val (.long p4), .second, .val (.long wm), .second, .val (.long wn), .second, .val (.long av), .second, .val (.long dv), .second, .val (.long bv), .second, .val (.int (p3 &&& (3 : Int32))), .val (.long xv), .second, .val (.ref b56), .val (.int (2 : Int32)), .val (.int (1 : Int32)), .val (.int (1 : Int32)), .unset, .unset, .unset] [(.int (lcmpW dv wn))])) _
                refine XS.ifNo X67.here hx rfl (hb hby at_190) rfl ((if0 _ _).trans (tlt ((lw_lt _ _).mpr hy29)).2.1) ?_
                show Steps p.tables e below (T67.setTop (mkF m 193 #[.val (.int p0), .val (.long p1), .second, .val (.long p2), .second, .val (.int p3), .val (.long p4), .second, .val (.long wm), .second, .val (.long wn), .second, .val (.long av), .second, .val (.long dv), .second, .val (.long bv), .second, .val (.int (p3 &&& (3 : Int32))), .val (.long xv), .second, .val (.ref b56), .val (.int (2 : Int32)), .val (.int (1 : Int32)), .val (.int (1 : Int32)), .unset, .unset, .unset] [])) _
                refine XS.iconst X67.here hx rfl (hb hby at_193) ?_
                show Steps p.tables e below (T67.setTop (mkF m 194 #[.val (.int p0), .val (.long p1), .second, .val (.long p2), .second, .val (.int p3), .val (.long p4), .second, .val (.long wm), .second, .val (.long wn), .second, .val (.long av), .second, .val (.long dv), .second, .val (.long bv), .second, .val (.int (p3 &&& (3 : Int32))), .val (.long xv), .second, .val (.ref b56), .val (.int (2 : Int32)), .val (.int (1 : Int32)), .val (.int (1 : Int32)), .unset, .unset, .unset] [(.int (1 : Int32))])) _
                refine XS.goto X67.here hx rfl (pc0 := 194) (pc' := 198) rfl (hb hby at_194) (by decide) (by decide) ?_
                show Steps p.tables e below (T67.setTop (mkF m 198 #[.val (.int p0), .val (.long p1), .second, .val (.long p2), .second, .val (.int p3), .val (.long p4), .second, .val (.long wm), .second, .val (.long wn), .second, .val (.long av), .second, .val (.long dv), .second, .val (.long bv), .second, .val (.int (p3 &&& (3 : Int32))), .val (.long xv), .second, .val (.ref b56), .val (.int (2 : Int32)), .val (.int (1 : Int32)), .val (.int (1 : Int32)), .unset, .unset, .unset] [(.int (1 : Int32))])) _
                refine XS.istore X67.here hx rfl (hb hby at_198) rfl (l' := #[.val (.int p0), .val (.long p1), .second, .val (.long p2), .second, .val (.int p3), .val (.long p4), .second, .val (.long wm), .second, .val (.long wn), .second, .val (.long av), .second, .val (.long dv), .second, .val (.long bv), .second, .val (.int (p3 &&& (3 : Int32))), .val (.long xv), .second, .val (.ref b56), .val (.int (2 : Int32)), .val (.int (1 : Int32)), .val (.int (1 : Int32)), .val (.int (1 : Int32)), .unset, .unset]) rfl ?_
                show Steps p.tables e below (T67.setTop (mkF m 200 #[.val (.int p0), .val (.long p1), .second, .val (.long p2), .second, .val (.int p3), .val (.long p4), .second, .val (.long wm), .second, .val (.long wn), .second, .val (.long av), .second, .val (.long dv), .second, .val (.long bv), .second, .val (.int (p3 &&& (3 : Int32))), .val (.long xv), .second, .val (.ref b56), .val (.int (2 : Int32)), .val (.int (1 : Int32)), .val (.int (1 : Int32)), .val (.int (1 : Int32)), .unset, .unset] [])) _
                refine XS.iload X67.here hx rfl (hb hby at_200) rfl ?_
                show Steps p.tables e below (T67.setTop (mkF m 202 #[.val (.int p0), .val (.long p1), .second, .val (.long p2), .second, .val (.int p3), .val (.long p4), .second, .val (.long wm), .second, .val (.long wn), .second, .val (.long av), .second, .val (.long dv), .second, .val (.long bv), .second, .val (.int (p3 &&& (3 : Int32))), .val (.long xv), .second, .val (.ref b56), .val (.int (2 : Int32)), .val (.int (1 : Int32)), .val (.int (1 : Int32)), .val (.int (1 : Int32)), .unset, .unset] [(.int (1 : Int32))])) _
                refine XS.ifNo X67.here hx rfl (hb hby at_202) rfl ((if0 _ _).trans (feq (by decide : ¬ (1 : Int32) = (0 : Int32))).1) ?_
                show Steps p.tables e below (T67.setTop (mkF m 205 #[.val (.int p0), .val (.long p1), .second, .val (.long p2), .second, .val (.int p3), .val (.long p4), .second, .val (.long wm), .second, .val (.long wn), .second, .val (.long av), .second, .val (.long dv), .second, .val (.long bv), .second, .val (.int (p3 &&& (3 : Int32))), .val (.long xv), .second, .val (.ref b56), .val (.int (2 : Int32)), .val (.int (1 : Int32)), .val (.int (1 : Int32)), .val (.int (1 : Int32)), .unset, .unset] [])) _
                refine XS.lload X67.here hx rfl (hb hby at_205) rfl ?_
                show Steps p.tables e below (T67.setTop (mkF m 207 #[.val (.int p0), .val (.long p1), .second, .val (.long p2), .second, .val (.int p3), .val (.long p4), .second, .val (.long wm), .second, .val (.long wn), .second, .val (.long av), .second, .val (.long dv), .second, .val (.long bv), .second, .val (.int (p3 &&& (3 : Int32))), .val (.long xv), .second, .val (.ref b56), .val (.int (2 : Int32)), .val (.int (1 : Int32)), .val (.int (1 : Int32)), .val (.int (1 : Int32)), .unset, .unset] [(.long dv)])) _
                refine XS.lconst X67.here hx rfl (hb hby at_207) ?_
                show Steps p.tables e below (T67.setTop (mkF m 208 #[.val (.int p0), .val (.long p1), .second, .val (.long p2), .second, .val (.int p3), .val (.long p4), .second, .val (.long wm), .second, .val (.long wn), .second, .val (.long av), .second, .val (.long dv), .second, .val (.long bv), .second, .val (.int (p3 &&& (3 : Int32))), .val (.long xv), .second, .val (.ref b56), .val (.int (2 : Int32)), .val (.int (1 : Int32)), .val (.int (1 : Int32)), .val (.int (1 : Int32)), .unset, .unset] [(.long (0 : Int64)), (.long dv)])) _
                refine XS.lcmp X67.here hx rfl (hb hby at_208) rfl ?_
                show Steps p.tables e below (T67.setTop (mkF m 209 #[.val (.int p0), .val (.long p1), .second, .val (.long p2), .second, .val (.int p3), .val (.long p4), .second, .val (.long wm), .second, .val (.long wn), .second, .val (.long av), .second, .val (.long dv), .second, .val (.long bv), .second, .val (.int (p3 &&& (3 : Int32))), .val (.long xv), .second, .val (.ref b56), .val (.int (2 : Int32)), .val (.int (1 : Int32)), .val (.int (1 : Int32)), .val (.int (1 : Int32)), .unset, .unset] [(.int (lcmpW dv (0 : Int64)))])) _
                refine XS.ifNo X67.here hx rfl (hb hby at_209) rfl ((if0 _ _).trans (feq (fun q => hy3 ((lw_eq _ _).mp q))).1) ?_
                show Steps p.tables e below (T67.setTop (mkF m 212 #[.val (.int p0), .val (.long p1), .second, .val (.long p2), .second, .val (.int p3), .val (.long p4), .second, .val (.long wm), .second, .val (.long wn), .second, .val (.long av), .second, .val (.long dv), .second, .val (.long bv), .second, .val (.int (p3 &&& (3 : Int32))), .val (.long xv), .second, .val (.ref b56), .val (.int (2 : Int32)), .val (.int (1 : Int32)), .val (.int (1 : Int32)), .val (.int (1 : Int32)), .unset, .unset] [])) _
                refine XS.iconst X67.here hx rfl (hb hby at_212) ?_
                show Steps p.tables e below (T67.setTop (mkF m 213 #[.val (.int p0), .val (.long p1), .second, .val (.long p2), .second, .val (.int p3), .val (.long p4), .second, .val (.long wm), .second, .val (.long wn), .second, .val (.long av), .second, .val (.long dv), .second, .val (.long bv), .second, .val (.int (p3 &&& (3 : Int32))), .val (.long xv), .second, .val (.ref b56), .val (.int (2 : Int32)), .val (.int (1 : Int32)), .val (.int (1 : Int32)), .val (.int (1 : Int32)), .unset, .unset] [(.int (1 : Int32))])) _
                refine XS.goto X67.here hx rfl (pc0 := 213) (pc' := 217) rfl (hb hby at_213) (by decide) (by decide) ?_
                show Steps p.tables e below (T67.setTop (mkF m 217 #[.val (.int p0), .val (.long p1), .second, .val (.long p2), .second, .val (.int p3), .val (.long p4), .second, .val (.long wm), .second, .val (.long wn), .second, .val (.long av), .second, .val (.long dv), .second, .val (.long bv), .second, .val (.int (p3 &&& (3 : Int32))), .val (.long xv), .second, .val (.ref b56), .val (.int (2 : Int32)), .val (.int (1 : Int32)), .val (.int (1 : Int32)), .val (.int (1 : Int32)), .unset, .unset] [(.int (1 : Int32))])) _
                refine XS.istore X67.here hx rfl (hb hby at_217) rfl (l' := #[.val (.int p0), .val (.long p1), .second, .val (.long p2), .second, .val (.int p3), .val (.long p4), .second, .val (.long wm), .second, .val (.long wn), .second, .val (.long av), .second, .val (.long dv), .second, .val (.long bv), .second, .val (.int (p3 &&& (3 : Int32))), .val (.long xv), .second, .val (.ref b56), .val (.int (2 : Int32)), .val (.int (1 : Int32)), .val (.int (1 : Int32)), .val (.int (1 : Int32)), .val (.int (1 : Int32)), .unset]) rfl ?_
                show Steps p.tables e below (T67.setTop (mkF m 219 #[.val (.int p0), .val (.long p1), .second, .val (.long p2), .second, .val (.int p3), .val (.long p4), .second, .val (.long wm), .second, .val (.long wn), .second, .val (.long av), .second, .val (.long dv), .second, .val (.long bv), .second, .val (.int (p3 &&& (3 : Int32))), .val (.long xv), .second, .val (.ref b56), .val (.int (2 : Int32)), .val (.int (1 : Int32)), .val (.int (1 : Int32)), .val (.int (1 : Int32)), .val (.int (1 : Int32)), .unset] [])) _
                refine XS.iload X67.here hx rfl (hb hby at_219) rfl ?_
                show Steps p.tables e below (T67.setTop (mkF m 221 #[.val (.int p0), .val (.long p1), .second, .val (.long p2), .second, .val (.int p3), .val (.long p4), .second, .val (.long wm), .second, .val (.long wn), .second, .val (.long av), .second, .val (.long dv), .second, .val (.long bv), .second, .val (.int (p3 &&& (3 : Int32))), .val (.long xv), .second, .val (.ref b56), .val (.int (2 : Int32)), .val (.int (1 : Int32)), .val (.int (1 : Int32)), .val (.int (1 : Int32)), .val (.int (1 : Int32)), .unset] [(.int (1 : Int32))])) _
                refine XS.ifNo X67.here hx rfl (hb hby at_221) rfl ((if0 _ _).trans (feq (by decide : ¬ (1 : Int32) = (0 : Int32))).1) ?_
                show Steps p.tables e below (T67.setTop (mkF m 224 #[.val (.int p0), .val (.long p1), .second, .val (.long p2), .second, .val (.int p3), .val (.long p4), .second, .val (.long wm), .second, .val (.long wn), .second, .val (.long av), .second, .val (.long dv), .second, .val (.long bv), .second, .val (.int (p3 &&& (3 : Int32))), .val (.long xv), .second, .val (.ref b56), .val (.int (2 : Int32)), .val (.int (1 : Int32)), .val (.int (1 : Int32)), .val (.int (1 : Int32)), .val (.int (1 : Int32)), .unset] [])) _
                refine XS.lload X67.here hx rfl (hb hby at_224) rfl ?_
                show Steps p.tables e below (T67.setTop (mkF m 226 #[.val (.int p0), .val (.long p1), .second, .val (.long p2), .second, .val (.int p3), .val (.long p4), .second, .val (.long wm), .second, .val (.long wn), .second, .val (.long av), .second, .val (.long dv), .second, .val (.long bv), .second, .val (.int (p3 &&& (3 : Int32))), .val (.long xv), .second, .val (.ref b56), .val (.int (2 : Int32)), .val (.int (1 : Int32)), .val (.int (1 : Int32)), .val (.int (1 : Int32)), .val (.int (1 : Int32)), .unset] [(.long dv)])) _
                refine XS.lconst X67.here hx rfl (hb hby at_226) ?_
                show Steps p.tables e below (T67.setTop (mkF m 227 #[.val (.int p0), .val (.long p1), .second, .val (.long p2), .second, .val (.int p3), .val (.long p4), .second, .val (.long wm), .second, .val (.long wn), .second, .val (.long av), .second, .val (.long dv), .second, .val (.long bv), .second, .val (.int (p3 &&& (3 : Int32))), .val (.long xv), .second, .val (.ref b56), .val (.int (2 : Int32)), .val (.int (1 : Int32)), .val (.int (1 : Int32)), .val (.int (1 : Int32)), .val (.int (1 : Int32)), .unset] [(.long (0 : Int64)), (.long dv)])) _
                refine XS.lcmp X67.here hx rfl (hb hby at_227) rfl ?_
                show Steps p.tables e below (T67.setTop (mkF m 228 #[.val (.int p0), .val (.long p1), .second, .val (.long p2), .second, .val (.int p3), .val (.long p4), .second, .val (.long wm), .second, .val (.long wn), .second, .val (.long av), .second, .val (.long dv), .second, .val (.long bv), .second, .val (.int (p3 &&& (3 : Int32))), .val (.long xv), .second, .val (.ref b56), .val (.int (2 : Int32)), .val (.int (1 : Int32)), .val (.int (1 : Int32)), .val (.int (1 : Int32)), .val (.int (1 : Int32)), .unset] [(.int (lcmpW dv (0 : Int64)))])) _
                refine XS.ifYes X67.here hx rfl (pc0 := 228) (pc' := 235) rfl (hb hby at_228) rfl ((if0 _ _).trans (feq (fun q => hy3 ((lw_eq _ _).mp q))).2) (by decide) (by decide) ?_
                show Steps p.tables e below (T67.setTop (mkF m 235 #[.val (.int p0), .val (.long p1), .second, .val (.long p2), .second, .val (.int p3), .val (.long p4), .second, .val (.long wm), .second, .val (.long wn), .second, .val (.long av), .second, .val (.long dv), .second, .val (.long bv), .second, .val (.int (p3 &&& (3 : Int32))), .val (.long xv), .second, .val (.ref b56), .val (.int (2 : Int32)), .val (.int (1 : Int32)), .val (.int (1 : Int32)), .val (.int (1 : Int32)), .val (.int (1 : Int32)), .unset] [])) _
                refine XS.iconst X67.here hx rfl (hb hby at_235) ?_
                show Steps p.tables e below (T67.setTop (mkF m 236 #[.val (.int p0), .val (.long p1), .second, .val (.long p2), .second, .val (.int p3), .val (.long p4), .second, .val (.long wm), .second, .val (.long wn), .second, .val (.long av), .second, .val (.long dv), .second, .val (.long bv), .second, .val (.int (p3 &&& (3 : Int32))), .val (.long xv), .second, .val (.ref b56), .val (.int (2 : Int32)), .val (.int (1 : Int32)), .val (.int (1 : Int32)), .val (.int (1 : Int32)), .val (.int (1 : Int32)), .unset] [(.int (1 : Int32))])) _
                refine XS.istore X67.here hx rfl (hb hby at_236) rfl (l' := #[.val (.int p0), .val (.long p1), .second, .val (.long p2), .second, .val (.int p3), .val (.long p4), .second, .val (.long wm), .second, .val (.long wn), .second, .val (.long av), .second, .val (.long dv), .second, .val (.long bv), .second, .val (.int (p3 &&& (3 : Int32))), .val (.long xv), .second, .val (.ref b56), .val (.int (2 : Int32)), .val (.int (1 : Int32)), .val (.int (1 : Int32)), .val (.int (1 : Int32)), .val (.int (1 : Int32)), .val (.int (1 : Int32))]) rfl ?_
                show Steps p.tables e below (T67.setTop (mkF m 238 #[.val (.int p0), .val (.long p1), .second, .val (.long p2), .second, .val (.int p3), .val (.long p4), .second, .val (.long wm), .second, .val (.long wn), .second, .val (.long av), .second, .val (.long dv), .second, .val (.long bv), .second, .val (.int (p3 &&& (3 : Int32))), .val (.long xv), .second, .val (.ref b56), .val (.int (2 : Int32)), .val (.int (1 : Int32)), .val (.int (1 : Int32)), .val (.int (1 : Int32)), .val (.int (1 : Int32)), .val (.int (1 : Int32))] [])) _
                refine XS.lload X67.here hx rfl (hb hby at_238) rfl ?_
                show Steps p.tables e below (T67.setTop (mkF m 240 #[.val (.int p0), .val (.long p1), .second, .val (.long p2), .second, .val (.int p3), .val (.long p4), .second, .val (.long wm), .second, .val (.long wn), .second, .val (.long av), .second, .val (.long dv), .second, .val (.long bv), .second, .val (.int (p3 &&& (3 : Int32))), .val (.long xv), .second, .val (.ref b56), .val (.int (2 : Int32)), .val (.int (1 : Int32)), .val (.int (1 : Int32)), .val (.int (1 : Int32)), .val (.int (1 : Int32)), .val (.int (1 : Int32))] [(.long xv)])) _
                refine XS.lload X67.here hx rfl (hb hby at_240) rfl ?_
                show Steps p.tables e below (T67.setTop (mkF m 242 #[.val (.int p0), .val (.long p1), .second, .val (.long p2), .second, .val (.int p3), .val (.long p4), .second, .val (.long wm), .second, .val (.long wn), .second, .val (.long av), .second, .val (.long dv), .second, .val (.long bv), .second, .val (.int (p3 &&& (3 : Int32))), .val (.long xv), .second, .val (.ref b56), .val (.int (2 : Int32)), .val (.int (1 : Int32)), .val (.int (1 : Int32)), .val (.int (1 : Int32)), .val (.int (1 : Int32)), .val (.int (1 : Int32))] [(.long bv), (.long xv)])) _
                refine XS.lcmp X67.here hx rfl (hb hby at_242) rfl ?_
                show Steps p.tables e below (T67.setTop (mkF m 243 #[.val (.int p0), .val (.long p1), .second, .val (.long p2), .second, .val (.int p3), .val (.long p4), .second, .val (.long wm), .second, .val (.long wn), .second, .val (.long av), .second, .val (.long dv), .second, .val (.long bv), .second, .val (.int (p3 &&& (3 : Int32))), .val (.long xv), .second, .val (.ref b56), .val (.int (2 : Int32)), .val (.int (1 : Int32)), .val (.int (1 : Int32)), .val (.int (1 : Int32)), .val (.int (1 : Int32)), .val (.int (1 : Int32))] [(.int (lcmpW xv bv))])) _
                refine XS.ifYes X67.here hx rfl (pc0 := 243) (pc' := 255) rfl (hb hby at_243) rfl ((if0 _ _).trans (feq (fun q => hy30 ((lw_eq _ _).mp q))).2) (by decide) (by decide) ?_
                show Steps p.tables e below (T67.setTop (mkF m 255 #[.val (.int p0), .val (.long p1), .second, .val (.long p2), .second, .val (.int p3), .val (.long p4), .second, .val (.long wm), .second, .val (.long wn), .second, .val (.long av), .second, .val (.long dv), .second, .val (.long bv), .second, .val (.int (p3 &&& (3 : Int32))), .val (.long xv), .second, .val (.ref b56), .val (.int (2 : Int32)), .val (.int (1 : Int32)), .val (.int (1 : Int32)), .val (.int (1 : Int32)), .val (.int (1 : Int32)), .val (.int (1 : Int32))] [])) _
                refine XS.lload X67.here hx rfl (hb hby at_255) rfl ?_
                show Steps p.tables e below (T67.setTop (mkF m 257 #[.val (.int p0), .val (.long p1), .second, .val (.long p2), .second, .val (.int p3), .val (.long p4), .second, .val (.long wm), .second, .val (.long wn), .second, .val (.long av), .second, .val (.long dv), .second, .val (.long bv), .second, .val (.int (p3 &&& (3 : Int32))), .val (.long xv), .second, .val (.ref b56), .val (.int (2 : Int32)), .val (.int (1 : Int32)), .val (.int (1 : Int32)), .val (.int (1 : Int32)), .val (.int (1 : Int32)), .val (.int (1 : Int32))] [(.long xv)])) _
                refine XS.lload X67.here hx rfl (hb hby at_257) rfl ?_
                show Steps p.tables e below (T67.setTop (mkF m 259 #[.val (.int p0), .val (.long p1), .second, .val (.long p2), .second, .val (.int p3), .val (.long p4), .second, .val (.long wm), .second, .val (.long wn), .second, .val (.long av), .second, .val (.long dv), .second, .val (.long bv), .second, .val (.int (p3 &&& (3 : Int32))), .val (.long xv), .second, .val (.ref b56), .val (.int (2 : Int32)), .val (.int (1 : Int32)), .val (.int (1 : Int32)), .val (.int (1 : Int32)), .val (.int (1 : Int32)), .val (.int (1 : Int32))] [(.long av), (.long xv)])) _
                refine XS.lcmp X67.here hx rfl (hb hby at_259) rfl ?_
                show Steps p.tables e below (T67.setTop (mkF m 260 #[.val (.int p0), .val (.long p1), .second, .val (.long p2), .second, .val (.int p3), .val (.long p4), .second, .val (.long wm), .second, .val (.long wn), .second, .val (.long av), .second, .val (.long dv), .second, .val (.long bv), .second, .val (.int (p3 &&& (3 : Int32))), .val (.long xv), .second, .val (.ref b56), .val (.int (2 : Int32)), .val (.int (1 : Int32)), .val (.int (1 : Int32)), .val (.int (1 : Int32)), .val (.int (1 : Int32)), .val (.int (1 : Int32))] [(.int (lcmpW xv av))])) _
                refine XS.ifYes X67.here hx rfl (pc0 := 260) (pc' := 272) rfl (hb hby at_260) rfl ((if0 _ _).trans (feq (fun q => hy43 ((lw_eq _ _).mp q))).2) (by decide) (by decide) ?_
                show Steps p.tables e below (T67.setTop (mkF m 272 #[.val (.int p0), .val (.long p1), .second, .val (.long p2), .second, .val (.int p3), .val (.long p4), .second, .val (.long wm), .second, .val (.long wn), .second, .val (.long av), .second, .val (.long dv), .second, .val (.long bv), .second, .val (.int (p3 &&& (3 : Int32))), .val (.long xv), .second, .val (.ref b56), .val (.int (2 : Int32)), .val (.int (1 : Int32)), .val (.int (1 : Int32)), .val (.int (1 : Int32)), .val (.int (1 : Int32)), .val (.int (1 : Int32))] [])) _
                refine XS.iload X67.here hx rfl (hb hby at_272) rfl ?_
                show Steps p.tables e below (T67.setTop (mkF m 274 #[.val (.int p0), .val (.long p1), .second, .val (.long p2), .second, .val (.int p3), .val (.long p4), .second, .val (.long wm), .second, .val (.long wn), .second, .val (.long av), .second, .val (.long dv), .second, .val (.long bv), .second, .val (.int (p3 &&& (3 : Int32))), .val (.long xv), .second, .val (.ref b56), .val (.int (2 : Int32)), .val (.int (1 : Int32)), .val (.int (1 : Int32)), .val (.int (1 : Int32)), .val (.int (1 : Int32)), .val (.int (1 : Int32))] [(.int (1 : Int32))])) _
                refine XS.ifNo X67.here hx rfl (hb hby at_274) rfl ((if0 _ _).trans (feq (by decide : ¬ (1 : Int32) = (0 : Int32))).1) ?_
                show Steps p.tables e below (T67.setTop (mkF m 277 #[.val (.int p0), .val (.long p1), .second, .val (.long p2), .second, .val (.int p3), .val (.long p4), .second, .val (.long wm), .second, .val (.long wn), .second, .val (.long av), .second, .val (.long dv), .second, .val (.long bv), .second, .val (.int (p3 &&& (3 : Int32))), .val (.long xv), .second, .val (.ref b56), .val (.int (2 : Int32)), .val (.int (1 : Int32)), .val (.int (1 : Int32)), .val (.int (1 : Int32)), .val (.int (1 : Int32)), .val (.int (1 : Int32))] [])) _
                refine XS.iload X67.here hx rfl (hb hby at_277) rfl ?_
                show Steps p.tables e below (T67.setTop (mkF m 279 #[.val (.int p0), .val (.long p1), .second, .val (.long p2), .second, .val (.int p3), .val (.long p4), .second, .val (.long wm), .second, .val (.long wn), .second, .val (.long av), .second, .val (.long dv), .second, .val (.long bv), .second, .val (.int (p3 &&& (3 : Int32))), .val (.long xv), .second, .val (.ref b56), .val (.int (2 : Int32)), .val (.int (1 : Int32)), .val (.int (1 : Int32)), .val (.int (1 : Int32)), .val (.int (1 : Int32)), .val (.int (1 : Int32))] [(.int (2 : Int32))])) _
                refine XS.iload X67.here hx rfl (hb hby at_279) rfl ?_
                show Steps p.tables e below (T67.setTop (mkF m 281 #[.val (.int p0), .val (.long p1), .second, .val (.long p2), .second, .val (.int p3), .val (.long p4), .second, .val (.long wm), .second, .val (.long wn), .second, .val (.long av), .second, .val (.long dv), .second, .val (.long bv), .second, .val (.int (p3 &&& (3 : Int32))), .val (.long xv), .second, .val (.ref b56), .val (.int (2 : Int32)), .val (.int (1 : Int32)), .val (.int (1 : Int32)), .val (.int (1 : Int32)), .val (.int (1 : Int32)), .val (.int (1 : Int32))] [(.int (1 : Int32)), (.int (2 : Int32))])) _
                refine XS.iload X67.here hx rfl (hb hby at_281) rfl ?_
                show Steps p.tables e below (T67.setTop (mkF m 283 #[.val (.int p0), .val (.long p1), .second, .val (.long p2), .second, .val (.int p3), .val (.long p4), .second, .val (.long wm), .second, .val (.long wn), .second, .val (.long av), .second, .val (.long dv), .second, .val (.long bv), .second, .val (.int (p3 &&& (3 : Int32))), .val (.long xv), .second, .val (.ref b56), .val (.int (2 : Int32)), .val (.int (1 : Int32)), .val (.int (1 : Int32)), .val (.int (1 : Int32)), .val (.int (1 : Int32)), .val (.int (1 : Int32))] [(.int (1 : Int32)), (.int (1 : Int32)), (.int (2 : Int32))])) _
                refine XS.iadd X67.here hx rfl (hb hby at_283) rfl ?_
                show Steps p.tables e below (T67.setTop (mkF m 284 #[.val (.int p0), .val (.long p1), .second, .val (.long p2), .second, .val (.int p3), .val (.long p4), .second, .val (.long wm), .second, .val (.long wn), .second, .val (.long av), .second, .val (.long dv), .second, .val (.long bv), .second, .val (.int (p3 &&& (3 : Int32))), .val (.long xv), .second, .val (.ref b56), .val (.int (2 : Int32)), .val (.int (1 : Int32)), .val (.int (1 : Int32)), .val (.int (1 : Int32)), .val (.int (1 : Int32)), .val (.int (1 : Int32))] [(.int (2 : Int32)), (.int (2 : Int32))])) _
                refine XS.icmpNo X67.here hx rfl (hb hby at_284) rfl (teq (by decide : (2 : Int32) = (2 : Int32))).2 ?_
                show Steps p.tables e below (T67.setTop (mkF m 287 #[.val (.int p0), .val (.long p1), .second, .val (.long p2), .second, .val (.int p3), .val (.long p4), .second, .val (.long wm), .second, .val (.long wn), .second, .val (.long av), .second, .val (.long dv), .second, .val (.long bv), .second, .val (.int (p3 &&& (3 : Int32))), .val (.long xv), .second, .val (.ref b56), .val (.int (2 : Int32)), .val (.int (1 : Int32)), .val (.int (1 : Int32)), .val (.int (1 : Int32)), .val (.int (1 : Int32)), .val (.int (1 : Int32))] [])) _
                refine XS.iload X67.here hx rfl (hb hby at_287) rfl ?_
                show Steps p.tables e below (T67.setTop (mkF m 289 #[.val (.int p0), .val (.long p1), .second, .val (.long p2), .second, .val (.int p3), .val (.long p4), .second, .val (.long wm), .second, .val (.long wn), .second, .val (.long av), .second, .val (.long dv), .second, .val (.long bv), .second, .val (.int (p3 &&& (3 : Int32))), .val (.long xv), .second, .val (.ref b56), .val (.int (2 : Int32)), .val (.int (1 : Int32)), .val (.int (1 : Int32)), .val (.int (1 : Int32)), .val (.int (1 : Int32)), .val (.int (1 : Int32))] [(.int (1 : Int32))])) _
                refine XS.iload X67.here hx rfl (hb hby at_289) rfl ?_
                show Steps p.tables e below (T67.setTop (mkF m 291 #[.val (.int p0), .val (.long p1), .second, .val (.long p2), .second, .val (.int p3), .val (.long p4), .second, .val (.long wm), .second, .val (.long wn), .second, .val (.long av), .second, .val (.long dv), .second, .val (.long bv), .second, .val (.int (p3 &&& (3 : Int32))), .val (.long xv), .second, .val (.ref b56), .val (.int (2 : Int32)), .val (.int (1 : Int32)), .val (.int (1 : Int32)), .val (.int (1 : Int32)), .val (.int (1 : Int32)), .val (.int (1 : Int32))] [(.int (1 : Int32)), (.int (1 : Int32))])) _
                refine XS.icmpNo X67.here hx rfl (hb hby at_291) rfl (teq (by decide : (1 : Int32) = (1 : Int32))).2 ?_
                show Steps p.tables e below (T67.setTop (mkF m 294 #[.val (.int p0), .val (.long p1), .second, .val (.long p2), .second, .val (.int p3), .val (.long p4), .second, .val (.long wm), .second, .val (.long wn), .second, .val (.long av), .second, .val (.long dv), .second, .val (.long bv), .second, .val (.int (p3 &&& (3 : Int32))), .val (.long xv), .second, .val (.ref b56), .val (.int (2 : Int32)), .val (.int (1 : Int32)), .val (.int (1 : Int32)), .val (.int (1 : Int32)), .val (.int (1 : Int32)), .val (.int (1 : Int32))] [])) _
                refine XS.iconst X67.here hx rfl (hb hby at_294) ?_
                show Steps p.tables e below (T67.setTop (mkF m 295 #[.val (.int p0), .val (.long p1), .second, .val (.long p2), .second, .val (.int p3), .val (.long p4), .second, .val (.long wm), .second, .val (.long wn), .second, .val (.long av), .second, .val (.long dv), .second, .val (.long bv), .second, .val (.int (p3 &&& (3 : Int32))), .val (.long xv), .second, .val (.ref b56), .val (.int (2 : Int32)), .val (.int (1 : Int32)), .val (.int (1 : Int32)), .val (.int (1 : Int32)), .val (.int (1 : Int32)), .val (.int (1 : Int32))] [(.int (1 : Int32))])) _
                refine XS.goto X67.here hx rfl (pc0 := 295) (pc' := 299) rfl (hb hby at_295) (by decide) (by decide) ?_
                exact k
              refine Go.retZ X67 hx hlk hret (Or.inr rfl) (hb hby at_299) (by decide) (by decide) e67 ?_
              exact ⟨rfl, N67⟩
        · skip
          by_cases hy68 : xv = bv
          · skip
            refine Go.newO X0 hx hZ hown (wd hw 3 rfl) (wd hw 4 rfl) (wd hw 5 rfl) e0 (hb hby at_103) (by decide) (by decide) ?_
            intro T69 h69 b69 X69 e69 E69 g69 A69 D69
            have lb69 := Nat.le_of_eq g69.symm
            have g_b69 : n0 ≤ b69 := Nat.le_trans (OwnKit.Old.le O) lb69
            replace O := O.ext E69
            have E_b69 := A69
            have F_b69_times : Fld Z h69 b69 "com/example/breakwater/breakwater/OrderRateWindow" "times" "[J" .null := D69 (Or.inl (wd hw 26 rfl)) (ty := (.array .long)) (by decide)
            have F_b69_now : Fld Z h69 b69 "com/example/breakwater/breakwater/OrderRateWindow" "now" "J" (.long (0 : Int64)) := D69 (Or.inl (wd hw 29 rfl)) (ty := .long) (by decide)
            have F_b69_rate : Fld Z h69 b69 "com/example/breakwater/breakwater/OrderRateWindow" "rate" "Lcom/example/breakwater/breakwater/OrderRate;" .null := D69 (Or.inr (wd hw 31 rfl)) (ty := (.object "com/example/breakwater/breakwater/OrderRate")) (by decide)
            have F_b69_windowNanos : Fld Z h69 b69 "com/example/breakwater/breakwater/OrderRateWindow" "windowNanos" "J" (.long (0 : Int64)) := D69 (Or.inr (wd hw 49 rfl)) (ty := .long) (by decide)
            have F_b69_count : Fld Z h69 b69 "com/example/breakwater/breakwater/OrderRateWindow" "count" "I" (.int (0 : Int32)) := D69 (Or.inl (wd hw 56 rfl)) (ty := .int) (by decide)
            have F_b69_head : Fld Z h69 b69 "com/example/breakwater/breakwater/OrderRateWindow" "head" "I" (.int (0 : Int32)) := D69 (Or.inl (wd hw 63 rfl)) (ty := .int) (by decide)
            show Go p e below _ T69 (mkF m 106 #[.val (.int p0), .val (.long p1), .second, .val (.long p2), .second, .val (.int p3), .val (.long p4), .second, .val (.long wm), .second, .val (.long wn), .second, .val (.long av), .second, .val (.long dv), .second, .val (.long bv), .second, .val (.int (p3 &&& (3 : Int32))), .val (.long xv), .second, .unset, .unset, .unset, .unset, .unset, .unset, .unset] [(.ref b69)])
            refine Go.by (T' := T69) (g' := (mkF m 107 #[.val (.int p0), .val (.long p1), .second, .val (.long p2), .second, .val (.int p3), .val (.long p4), .second, .val (.long wm), .second, .val (.long wn), .second, .val (.long av), .second, .val (.long dv), .second, .val (.long bv), .second, .val (.int (p3 &&& (3 : Int32))), .val (.long xv), .second, .unset, .unset, .unset, .unset, .unset, .unset, .unset] [(.ref b69), (.ref b69)])) (fun t k => ?_) ?_
            · show Steps p.tables e below (T69.setTop (mkF m 106 #[.val (.int p0), .val (.long p1), .second, .val (.long p2), .second, .val (.int p3), .val (.long p4), .second, .val (.long wm), .second, .val (.long wn), .second, .val (.long av), .second, .val (.long dv), .second, .val (.long bv), .second, .val (.int (p3 &&& (3 : Int32))), .val (.long xv), .second, .unset, .unset, .unset, .unset, .unset, .unset, .unset] [(.ref b69)])) _
              refine XS.dup X69.here hx rfl (hb hby at_106) rfl rfl ?_
              exact k
            refine Go.newO X69 hx hZ hown (wd hw 6 rfl) (wd hw 7 rfl) (wd hw 8 rfl) e69 (hb hby at_107) (by decide) (by decide) ?_
            intro T70 h70 b70 X70 e70 E70 g70 A70 D70
            have lb70 := Nat.le_of_eq g70.symm
            have ne_b69_b70 : b69 ≠ b70 := Nat.ne_of_lt (Nat.lt_of_lt_of_le E_b69.lt lb70)
            have g_b70 : n0 ≤ b70 := Nat.le_trans (OwnKit.Old.le O) lb70
            replace E_b69 := E_b69.ext E70
            replace F_b69_times := F_b69_times.ext E70
            replace F_b69_now := F_b69_now.ext E70
            replace F_b69_rate := F_b69_rate.ext E70
            replace F_b69_windowNanos := F_b69_windowNanos.ext E70
            replace F_b69_count := F_b69_count.ext E70
            replace F_b69_head := F_b69_head.ext E70
            replace O := O.ext E70
            have E_b70 := A70
            have F_b70_maxOrders : Fld Z h70 b70 "com/example/breakwater/breakwater/OrderRate" "maxOrders" "J" (.long (0 : Int64)) := D70 (Or.inr (wd hw 17 rfl)) (ty := .long) (by decide)
            have F_b70_windowMillis : Fld Z h70 b70 "com/example/breakwater/breakwater/OrderRate" "windowMillis" "J" (.long (0 : Int64)) := D70 (Or.inr (wd hw 19 rfl)) (ty := .long) (by decide)
            show Go p e below _ T70 (mkF m 110 #[.val (.int p0), .val (.long p1), .second, .val (.long p2), .second, .val (.int p3), .val (.long p4), .second, .val (.long wm), .second, .val (.long wn), .second, .val (.long av), .second, .val (.long dv), .second, .val (.long bv), .second, .val (.int (p3 &&& (3 : Int32))), .val (.long xv), .second, .unset, .unset, .unset, .unset, .unset, .unset, .unset] [(.ref b70), (.ref b69), (.ref b69)])
            refine Go.by (T' := T70) (g' := (mkF m 116 #[.val (.int p0), .val (.long p1), .second, .val (.long p2), .second, .val (.int p3), .val (.long p4), .second, .val (.long wm), .second, .val (.long wn), .second, .val (.long av), .second, .val (.long dv), .second, .val (.long bv), .second, .val (.int (p3 &&& (3 : Int32))), .val (.long xv), .second, .unset, .unset, .unset, .unset, .unset, .unset, .unset] [(.long wm), (.long (5 : Int64)), (.ref b70), (.ref b70), (.ref b69), (.ref b69)])) (fun t k => ?_) ?_
            · show Steps p.tables e below (T70.setTop (mkF m 110 #[.val (.int p0), .val (.long p1), .second, .val (.long p2), .second, .val (.int p3), .val (.long p4), .second, .val (.long wm), .second, .val (.long wn), .second, .val (.long av), .second, .val (.long dv), .second, .val (.long bv), .second, .val (.int (p3 &&& (3 : Int32))), .val (.long xv), .second, .unset, .unset, .unset, .unset, .unset, .unset, .unset] [(.ref b70), (.ref b69), (.ref b69)])) _
              refine XS.dup X70.here hx rfl (hb hby at_110) rfl rfl ?_
              show Steps p.tables e below (T70.setTop (mkF m 111 #[.val (.int p0), .val (.long p1), .second, .val (.long p2), .second, .val (.int p3), .val (.long p4), .second, .val (.long wm), .second, .val (.long wn), .second, .val (.long av), .second, .val (.long dv), .second, .val (.long bv), .second, .val (.int (p3 &&& (3 : Int32))), .val (.long xv), .second, .unset, .unset, .unset, .unset, .unset, .unset, .unset] [(.ref b70), (.ref b70), (.ref b69), (.ref b69)])) _
              refine X70.ldc2Long hx hown (mvT hZ (wd hw 9 rfl)) (g := (mkF m 111 #[.val (.int p0), .val (.long p1), .second, .val (.long p2), .second, .val (.int p3), .val (.long p4), .second, .val (.long wm), .second, .val (.long wn), .second, .val (.long av), .second, .val (.long dv), .second, .val (.long bv), .second, .val (.int (p3 &&& (3 : Int32))), .val (.long xv), .second, .unset, .unset, .unset, .unset, .unset, .unset, .unset] [(.ref b70), (.ref b70), (.ref b69), (.ref b69)])) rfl (hb hby at_111) _ ?_
              show Steps p.tables e below (T70.setTop (mkF m 114 #[.val (.int p0), .val (.long p1), .second, .val (.long p2), .second, .val (.int p3), .val (.long p4), .second, .val (.long wm), .second, .val (.long wn), .second, .val (.long av), .second, .val (.long dv), .second, .val (.long bv), .second, .val (.int (p3 &&& (3 : Int32))), .val (.long xv), .second, .unset, .unset, .unset, .unset, .unset, .unset, .unset] [(.long (5 : Int64)), (.ref b70), (.ref b70), (.ref b69), (.ref b69)])) _
              refine XS.lload X70.here hx rfl (hb hby at_114) rfl ?_
              exact k
            refine Go.callC X70 hx hZ (W := 3) (argsL := [(.long (5 : Int64)), (.long wm)]) (rest := [(.ref b70), (.ref b69), (.ref b69)]) hown rfl (wd hw 10 rfl) (wd hw 11 rfl) (wd hw 8 rfl) (wd hw 12 rfl) (by decide) (ct_rinit l Z a0 hw w_MS S_MS E_MS F_MS1 F_MS2 b70 (5 : Int64) wm h70 n0 O E_b70 F_b70_maxOrders F_b70_windowMillis g_b70) e70 (by rw [hml]; rfl) (lenOf pd__JJ_V_1185 rfl) rfl rfl (hb hby at_116) (by decide) (by decide) (by decide) (by decide) ?_
            intro v71 T71 h71 L71 X71 e71 q71
            obtain ⟨rfl, N71, K71, F0_71, F1_71⟩ := q71
            replace N71 := Fr.app N0 N71
            replace E_b69 := E_b69.keep K71
            replace F_b69_times := F_b69_times.keep K71 (ninS ne_b69_b70 nin0)
            replace F_b69_now := F_b69_now.keep K71 (ninS ne_b69_b70 nin0)
            replace F_b69_rate := F_b69_rate.keep K71 (ninS ne_b69_b70 nin0)
            replace F_b69_windowNanos := F_b69_windowNanos.keep K71 (ninS ne_b69_b70 nin0)
            replace F_b69_count := F_b69_count.keep K71 (ninS ne_b69_b70 nin0)
            replace F_b69_head := F_b69_head.keep K71 (ninS ne_b69_b70 nin0)
            replace E_b70 := E_b70.keep K71
            clear F_b70_maxOrders
            clear F_b70_windowMillis
            replace O := O.keep K71 (allS g_b70 all0)
            show Go p e below _ T71 (mkF m 119 #[.val (.int p0), .val (.long p1), .second, .val (.long p2), .second, .val (.int p3), .val (.long p4), .second, .val (.long wm), .second, .val (.long wn), .second, .val (.long av), .second, .val (.long dv), .second, .val (.long bv), .second, .val (.int (p3 &&& (3 : Int32))), .val (.long xv), .second, .unset, .unset, .unset, .unset, .unset, .unset, .unset] [(.ref b70), (.ref b69), (.ref b69)])
            refine Go.callC X71 hx hZ (W := 1) (argsL := [(.ref b70)]) (rest := [(.ref b69)]) hown rfl (wd hw 20 rfl) (wd hw 21 rfl) (wd hw 5 rfl) (wd hw 22 rfl) (by decide) (ct_winit l Z a0 hw w_MS S_MS E_MS F_MS1 F_MS2 b69 b70 wm h71 n0 O E_b69 F_b69_rate F_b69_windowNanos F_b69_times F_b69_head F_b69_count F_b69_now g_b69 E_b70 F1_71 ne_b69_b70 hz1 hz2) e71 (by rw [hml]; rfl) (lenOf pd__Lcom_example_breakwater_breakwater_Orde_4493 rfl) rfl rfl (hb hby at_119) (by decide) (by decide) (by decide) (by decide) ?_
            intro v72 T72 h72 L72 X72 e72 q72
            obtain ⟨ar, kA, rfl, N72, K72, lb72, Fi0, Fi1, Fi2, Fi3, Fi4, V_ar⟩ := q72
            replace N72 := Fr.app N71 N72
            have ne_b69_ar : b69 ≠ ar := Nat.ne_of_lt (Nat.lt_of_lt_of_le E_b69.lt lb72)
            have ne_b70_ar : b70 ≠ ar := Nat.ne_of_lt (Nat.lt_of_lt_of_le E_b70.lt lb72)
            have g_ar : n0 ≤ ar := Nat.le_trans (OwnKit.Old.le O) lb72
            replace E_b69 := E_b69.keep K72
            clear F_b69_times
            clear F_b69_now
            clear F_b69_rate
            clear F_b69_windowNanos
            clear F_b69_count
            clear F_b69_head
            replace E_b70 := E_b70.keep K72
            replace F0_71 := F0_71.keep K72 (ninS (Ne.symm ne_b69_b70) nin0)
            replace F1_71 := F1_71.keep K72 (ninS (Ne.symm ne_b69_b70) nin0)
            replace O := O.keep K72 (allS g_b69 all0)
            replace V_ar : Arv Z h72 ar kA .long (16 : Int32) [(.long (0 : Int64)), (.long (0 : Int64)), (.long (0 : Int64))] (.long (0 : Int64)) := V_ar.pad (pad_rep3 _)
            rw [← hwn] at Fi0
            show Go p e below _ T72 (mkF m 122 #[.val (.int p0), .val (.long p1), .second, .val (.long p2), .second, .val (.int p3), .val (.long p4), .second, .val (.long wm), .second, .val (.long wn), .second, .val (.long av), .second, .val (.long dv), .second, .val (.long bv), .second, .val (.int (p3 &&& (3 : Int32))), .val (.long xv), .second, .unset, .unset, .unset, .unset, .unset, .unset, .unset] [(.ref b69)])
            refine Go.by (T' := T72) (g' := (mkF m 128 #[.val (.int p0), .val (.long p1), .second, .val (.long p2), .second, .val (.int p3), .val (.long p4), .second, .val (.long wm), .second, .val (.long wn), .second, .val (.long av), .second, .val (.long dv), .second, .val (.long bv), .second, .val (.int (p3 &&& (3 : Int32))), .val (.long xv), .second, .val (.ref b69), .unset, .unset, .unset, .unset, .unset, .unset] [(.long av), (.ref b69)])) (fun t k => ?_) ?_
            · show Steps p.tables e below (T72.setTop (mkF m 122 #[.val (.int p0), .val (.long p1), .second, .val (.long p2), .second, .val (.int p3), .val (.long p4), .second, .val (.long wm), .second, .val (.long wn), .second, .val (.long av), .second, .val (.long dv), .second, .val (.long bv), .second, .val (.int (p3 &&& (3 : Int32))), .val (.long xv), .second, .unset, .unset, .unset, .unset, .unset, .unset, .unset] [(.ref b69)])) _
              refine XS.astore X72.here hx rfl (hb hby at_122) rfl rfl (l' := #[.val (.int p0), .val (.long p1), .second, .val (.long p2), .second, .val (.int p3), .val (.long p4), .second, .val (.long wm), .second, .val (.long wn), .second, .val (.long av), .second, .val (.long dv), .second, .val (.long bv), .second, .val (.int (p3 &&& (3 : Int32))), .val (.long xv), .second, .val (.ref b69), .unset, .unset, .unset, .unset, .unset, .unset]) rfl ?_
              show Steps p.tables e below (T72.setTop (mkF m 124 #[.val (.int p0), .val (.long p1), .second, .val (.long p2), .second, .val (.int p3), .val (.long p4), .second, .val (.long wm), .second, .val (.long wn), .second, .val (.long av), .second, .val (.long dv), .second, .val (.long bv), .second, .val (.int (p3 &&& (3 : Int32))), .val (.long xv), .second, .val (.ref b69), .unset, .unset, .unset, .unset, .unset, .unset] [])) _
              refine XS.aload X72.here hx rfl (hb hby at_124) rfl rfl ?_
              show Steps p.tables e below (T72.setTop (mkF m 126 #[.val (.int p0), .val (.long p1), .second, .val (.long p2), .second, .val (.int p3), .val (.long p4), .second, .val (.long wm), .second, .val (.long wn), .second, .val (.long av), .second, .val (.long dv), .second, .val (.long bv), .second, .val (.int (p3 &&& (3 : Int32))), .val (.long xv), .second, .val (.ref b69), .unset, .unset, .unset, .unset, .unset, .unset] [(.ref b69)])) _
              refine XS.lload X72.here hx rfl (hb hby at_126) rfl ?_
              exact k
            refine Go.callV X72 hx hZ (W := 0) (argsL := [(.long av)]) (rest := []) hown (wd hw 50 rfl) (wd hw 51 rfl) (notFace_of_selects (args := #[]) (mvT hZ (wd hw 53 rfl))) (wd hw 53 rfl) (wd hw 52 rfl) (wd hw 5 rfl) (wd hw 54 rfl) (by decide) E_b69 (ct_move_0_0_0 l Z a0 hw w_MS S_MS E_MS F_MS1 F_MS2 b69 ar kA wn (-9223372036854775808 : Int64) (0 : Int64) (0 : Int64) (0 : Int64) av h72 n0 O E_b69 Fi0 Fi1 Fi2 Fi3 Fi4 V_ar g_b69 g_ar ne_b69_ar (own_min _)) e72 (by rw [hml]; rfl) (lenOf pd__J_Z_8741 rfl) rfl rfl (hb hby at_128) (by decide) (by decide) (by decide) (by decide) ?_
            intro v73 T73 h73 L73 X73 e73 q73
            obtain ⟨rfl, N73, K73, Fi0_73, Fi1_73, Fi2_73, Fi3_73, Fi4_73, V_a73⟩ := q73
            replace N73 := Fr.app N72 N73
            replace E_b69 := E_b69.keep K73
            replace E_b70 := E_b70.keep K73
            replace F0_71 := F0_71.keep K73 (ninS (Ne.symm ne_b69_b70) (ninS ne_b70_ar nin0))
            replace F1_71 := F1_71.keep K73 (ninS (Ne.symm ne_b69_b70) (ninS ne_b70_ar nin0))
            clear Fi0
            clear Fi1
            clear Fi2
            clear Fi3
            clear Fi4
            clear V_ar
            replace O := O.keep K73 (allS g_b69 (allS g_ar all0))
            have V_ar := V_a73
            show Go p e below _ T73 (mkF m 131 #[.val (.int p0), .val (.long p1), .second, .val (.long p2), .second, .val (.int p3), .val (.long p4), .second, .val (.long wm), .second, .val (.long wn), .second, .val (.long av), .second, .val (.long dv), .second, .val (.long bv), .second, .val (.int (p3 &&& (3 : Int32))), .val (.long xv), .second, .val (.ref b69), .unset, .unset, .unset, .unset, .unset, .unset] [(.int (1 : Int32))])
            refine Go.by (T' := T73) (g' := (mkF m 134 #[.val (.int p0), .val (.long p1), .second, .val (.long p2), .second, .val (.int p3), .val (.long p4), .second, .val (.long wm), .second, .val (.long wn), .second, .val (.long av), .second, .val (.long dv), .second, .val (.long bv), .second, .val (.int (p3 &&& (3 : Int32))), .val (.long xv), .second, .val (.ref b69), .unset, .unset, .unset, .unset, .unset, .unset] [(.ref b69)])) (fun t k => ?_) ?_
            · show Steps p.tables e below (T73.setTop (mkF m 131 #[.val (.int p0), .val (.long p1), .second, .val (.long p2), .second, .val (.int p3), .val (.long p4), .second, .val (.long wm), .second, .val (.long wn), .second, .val (.long av), .second, .val (.long dv), .second, .val (.long bv), .second, .val (.int (p3 &&& (3 : Int32))), .val (.long xv), .second, .val (.ref b69), .unset, .unset, .unset, .unset, .unset, .unset] [(.int (1 : Int32))])) _
              refine XS.pop X73.here hx rfl (hb hby at_131) rfl rfl ?_
              show Steps p.tables e below (T73.setTop (mkF m 132 #[.val (.int p0), .val (.long p1), .second, .val (.long p2), .second, .val (.int p3), .val (.long p4), .second, .val (.long wm), .second, .val (.long wn), .second, .val (.long av), .second, .val (.long dv), .second, .val (.long bv), .second, .val (.int (p3 &&& (3 : Int32))), .val (.long xv), .second, .val (.ref b69), .unset, .unset, .unset, .unset, .unset, .unset] [])) _
              refine XS.aload X73.here hx rfl (hb hby at_132) rfl rfl ?_
              exact k
            refine Go.callV X73 hx hZ (W := 0) (argsL := []) (rest := []) hown (wd hw 57 rfl) (wd hw 58 rfl) (notFace_of_selects (args := #[]) (mvT hZ (wd hw 60 rfl))) (wd hw 60 rfl) (wd hw 59 rfl) (wd hw 5 rfl) (wd hw 61 rfl) (by decide) E_b69 (ct_add_0_0 l Z a0 hw w_MS S_MS E_MS F_MS1 F_MS2 b69 ar kA wn av (0 : Int64) (0 : Int64) (0 : Int64) h73 n0 O E_b69 Fi0_73 Fi1_73 Fi2_73 Fi3_73 Fi4_73 V_ar g_b69 g_ar ne_b69_ar) e73 (by rw [hml]; rfl) (lenOf pd___V_8334 rfl) rfl rfl (hb hby at_134) (by decide) (by decide) (by decide) (by decide) ?_
            intro v74 T74 h74 L74 X74 e74 q74
            obtain ⟨rfl, N74, K74, Fi0_74, Fi1_74, Fi2_74, Fi3_74, Fi4_74, V_a74⟩ := q74
            replace N74 := Fr.app N73 N74
            replace E_b69 := E_b69.keep K74
            replace E_b70 := E_b70.keep K74
            replace F0_71 := F0_71.keep K74 (ninS (Ne.symm ne_b69_b70) (ninS ne_b70_ar nin0))
            replace F1_71 := F1_71.keep K74 (ninS (Ne.symm ne_b69_b70) (ninS ne_b70_ar nin0))
            clear Fi0_73
            clear Fi1_73
            clear Fi2_73
            clear Fi3_73
            clear Fi4_73
            clear V_ar
            replace O := O.keep K74 (allS g_b69 (allS g_ar all0))
            have V_ar := V_a74
            show Go p e below _ T74 (mkF m 137 #[.val (.int p0), .val (.long p1), .second, .val (.long p2), .second, .val (.int p3), .val (.long p4), .second, .val (.long wm), .second, .val (.long wn), .second, .val (.long av), .second, .val (.long dv), .second, .val (.long bv), .second, .val (.int (p3 &&& (3 : Int32))), .val (.long xv), .second, .val (.ref b69), .unset, .unset, .unset, .unset, .unset, .unset] [])
            refine Go.by (T' := T74) (g' := (mkF m 141 #[.val (.int p0), .val (.long p1), .second, .val (.long p2), .second, .val (.int p3), .val (.long p4), .second, .val (.long wm), .second, .val (.long wn), .second, .val (.long av), .second, .val (.long dv), .second, .val (.long bv), .second, .val (.int (p3 &&& (3 : Int32))), .val (.long xv), .second, .val (.ref b69), .unset, .unset, .unset, .unset, .unset, .unset] [(.long bv), (.ref b69)])) (fun t k => ?_) ?_
            · show Steps p.tables e below (T74.setTop (mkF m 137 #[.val (.int p0), .val (.long p1), .second, .val (.long p2), .second, .val (.int p3), .val (.long p4), .second, .val (.long wm), .second, .val (.long wn), .second, .val (.long av), .second, .val (.long dv), .second, .val (.long bv), .second, .val (.int (p3 &&& (3 : Int32))), .val (.long xv), .second, .val (.ref b69), .unset, .unset, .unset, .unset, .unset, .unset] [])) _
              refine XS.aload X74.here hx rfl (hb hby at_137) rfl rfl ?_
              show Steps p.tables e below (T74.setTop (mkF m 139 #[.val (.int p0), .val (.long p1), .second, .val (.long p2), .second, .val (.int p3), .val (.long p4), .second, .val (.long wm), .second, .val (.long wn), .second, .val (.long av), .second, .val (.long dv), .second, .val (.long bv), .second, .val (.int (p3 &&& (3 : Int32))), .val (.long xv), .second, .val (.ref b69), .unset, .unset, .unset, .unset, .unset, .unset] [(.ref b69)])) _
              refine XS.lload X74.here hx rfl (hb hby at_139) rfl ?_
              exact k
            refine Go.callV X74 hx hZ (W := 0) (argsL := [(.long bv)]) (rest := []) hown (wd hw 50 rfl) (wd hw 51 rfl) (notFace_of_selects (args := #[]) (mvT hZ (wd hw 53 rfl))) (wd hw 53 rfl) (wd hw 52 rfl) (wd hw 5 rfl) (wd hw 54 rfl) (by decide) E_b69 (ct_move_0_1_1 l Z a0 hw w_MS S_MS E_MS F_MS1 F_MS2 b69 ar kA wn av av (0 : Int64) (0 : Int64) bv h74 n0 O E_b69 Fi0_74 Fi1_74 Fi2_74 Fi3_74 Fi4_74 V_ar g_b69 g_ar ne_b69_ar (own_ge hbv ha hd) (own_k2 hbv ha hd hy29)) e74 (by rw [hml]; rfl) (lenOf pd__J_Z_8741 rfl) rfl rfl (hb hby at_141) (by decide) (by decide) (by decide) (by decide) ?_
            intro v75 T75 h75 L75 X75 e75 q75
            obtain ⟨rfl, N75, K75, Fi0_75, Fi1_75, Fi2_75, Fi3_75, Fi4_75, V_a75⟩ := q75
            replace N75 := Fr.app N74 N75
            replace E_b69 := E_b69.keep K75
            replace E_b70 := E_b70.keep K75
            replace F0_71 := F0_71.keep K75 (ninS (Ne.symm ne_b69_b70) (ninS ne_b70_ar nin0))
            replace F1_71 := F1_71.keep K75 (ninS (Ne.symm ne_b69_b70) (ninS ne_b70_ar nin0))
            clear Fi0_74
            clear Fi1_74
            clear Fi2_74
            clear Fi3_74
            clear Fi4_74
            clear V_ar
            replace O := O.keep K75 (allS g_b69 (allS g_ar all0))
            have V_ar := V_a75
            show Go p e below _ T75 (mkF m 144 #[.val (.int p0), .val (.long p1), .second, .val (.long p2), .second, .val (.int p3), .val (.long p4), .second, .val (.long wm), .second, .val (.long wn), .second, .val (.long av), .second, .val (.long dv), .second, .val (.long bv), .second, .val (.int (p3 &&& (3 : Int32))), .val (.long xv), .second, .val (.ref b69), .unset, .unset, .unset, .unset, .unset, .unset] [(.int (1 : Int32))])
            refine Go.by (T' := T75) (g' := (mkF m 147 #[.val (.int p0), .val (.long p1), .second, .val (.long p2), .second, .val (.int p3), .val (.long p4), .second, .val (.long wm), .second, .val (.long wn), .second, .val (.long av), .second, .val (.long dv), .second, .val (.long bv), .second, .val (.int (p3 &&& (3 : Int32))), .val (.long xv), .second, .val (.ref b69), .unset, .unset, .unset, .unset, .unset, .unset] [(.ref b69)])) (fun t k => ?_) ?_
            · show Steps p.tables e below (T75.setTop (mkF m 144 #[.val (.int p0), .val (.long p1), .second, .val (.long p2), .second, .val (.int p3), .val (.long p4), .second, .val (.long wm), .second, .val (.long wn), .second, .val (.long av), .second, .val (.long dv), .second, .val (.long bv), .second, .val (.int (p3 &&& (3 : Int32))), .val (.long xv), .second, .val (.ref b69), .unset, .unset, .unset, .unset, .unset, .unset] [(.int (1 : Int32))])) _
              refine XS.pop X75.here hx rfl (hb hby at_144) rfl rfl ?_
              show Steps p.tables e below (T75.setTop (mkF m 145 #[.val (.int p0), .val (.long p1), .second, .val (.long p2), .second, .val (.int p3), .val (.long p4), .second, .val (.long wm), .second, .val (.long wn), .second, .val (.long av), .second, .val (.long dv), .second, .val (.long bv), .second, .val (.int (p3 &&& (3 : Int32))), .val (.long xv), .second, .val (.ref b69), .unset, .unset, .unset, .unset, .unset, .unset] [])) _
              refine XS.aload X75.here hx rfl (hb hby at_145) rfl rfl ?_
              exact k
            refine Go.callV X75 hx hZ (W := 0) (argsL := []) (rest := []) hown (wd hw 57 rfl) (wd hw 58 rfl) (notFace_of_selects (args := #[]) (mvT hZ (wd hw 60 rfl))) (wd hw 60 rfl) (wd hw 59 rfl) (wd hw 5 rfl) (wd hw 61 rfl) (by decide) E_b69 (ct_add_1_0 l Z a0 hw w_MS S_MS E_MS F_MS1 F_MS2 b69 ar kA wn bv av (0 : Int64) (0 : Int64) h75 n0 O E_b69 Fi0_75 Fi1_75 Fi2_75 Fi3_75 Fi4_75 V_ar g_b69 g_ar ne_b69_ar) e75 (by rw [hml]; rfl) (lenOf pd___V_8334 rfl) rfl rfl (hb hby at_147) (by decide) (by decide) (by decide) (by decide) ?_
            intro v76 T76 h76 L76 X76 e76 q76
            obtain ⟨rfl, N76, K76, Fi0_76, Fi1_76, Fi2_76, Fi3_76, Fi4_76, V_a76⟩ := q76
            replace N76 := Fr.app N75 N76
            replace E_b69 := E_b69.keep K76
            replace E_b70 := E_b70.keep K76
            replace F0_71 := F0_71.keep K76 (ninS (Ne.symm ne_b69_b70) (ninS ne_b70_ar nin0))
            replace F1_71 := F1_71.keep K76 (ninS (Ne.symm ne_b69_b70) (ninS ne_b70_ar nin0))
            clear Fi0_75
            clear Fi1_75
            clear Fi2_75
            clear Fi3_75
            clear Fi4_75
            clear V_ar
            replace O := O.keep K76 (allS g_b69 (allS g_ar all0))
            have V_ar := V_a76
            show Go p e below _ T76 (mkF m 150 #[.val (.int p0), .val (.long p1), .second, .val (.long p2), .second, .val (.int p3), .val (.long p4), .second, .val (.long wm), .second, .val (.long wn), .second, .val (.long av), .second, .val (.long dv), .second, .val (.long bv), .second, .val (.int (p3 &&& (3 : Int32))), .val (.long xv), .second, .val (.ref b69), .unset, .unset, .unset, .unset, .unset, .unset] [])
            refine Go.by (T' := T76) (g' := (mkF m 154 #[.val (.int p0), .val (.long p1), .second, .val (.long p2), .second, .val (.int p3), .val (.long p4), .second, .val (.long wm), .second, .val (.long wn), .second, .val (.long av), .second, .val (.long dv), .second, .val (.long bv), .second, .val (.int (p3 &&& (3 : Int32))), .val (.long xv), .second, .val (.ref b69), .unset, .unset, .unset, .unset, .unset, .unset] [(.long xv), (.ref b69)])) (fun t k => ?_) ?_
            · show Steps p.tables e below (T76.setTop (mkF m 150 #[.val (.int p0), .val (.long p1), .second, .val (.long p2), .second, .val (.int p3), .val (.long p4), .second, .val (.long wm), .second, .val (.long wn), .second, .val (.long av), .second, .val (.long dv), .second, .val (.long bv), .second, .val (.int (p3 &&& (3 : Int32))), .val (.long xv), .second, .val (.ref b69), .unset, .unset, .unset, .unset, .unset, .unset] [])) _
              refine XS.aload X76.here hx rfl (hb hby at_150) rfl rfl ?_
              show Steps p.tables e below (T76.setTop (mkF m 152 #[.val (.int p0), .val (.long p1), .second, .val (.long p2), .second, .val (.int p3), .val (.long p4), .second, .val (.long wm), .second, .val (.long wn), .second, .val (.long av), .second, .val (.long dv), .second, .val (.long bv), .second, .val (.int (p3 &&& (3 : Int32))), .val (.long xv), .second, .val (.ref b69), .unset, .unset, .unset, .unset, .unset, .unset] [(.ref b69)])) _
              refine XS.lload X76.here hx rfl (hb hby at_152) rfl ?_
              exact k
            refine Go.callV X76 hx hZ (W := 0) (argsL := [(.long xv)]) (rest := []) hown (wd hw 64 rfl) (wd hw 65 rfl) (notFace_of_selects (args := #[]) (mvT hZ (wd hw 67 rfl))) (wd hw 67 rfl) (wd hw 66 rfl) (wd hw 5 rfl) (wd hw 68 rfl) (by decide) E_b69 (ct_remove_1_1_0 l Z a0 hw w_MS S_MS E_MS F_MS1 F_MS2 b69 ar kA wn bv av bv (0 : Int64) xv h76 n0 O E_b69 Fi0_76 Fi1_76 Fi2_76 Fi3_76 Fi4_76 V_ar g_b69 g_ar ne_b69_ar hy68.symm) e76 (by rw [hml]; rfl) (lenOf pd__J_V_8737 rfl) rfl rfl (hb hby at_154) (by decide) (by decide) (by decide) (by decide) ?_
            intro v77 T77 h77 L77 X77 e77 q77
            obtain ⟨rfl, N77, K77, Fi0_77, Fi1_77, Fi2_77, Fi3_77, Fi4_77, V_a77⟩ := q77
            replace N77 := Fr.app N76 N77
            replace E_b69 := E_b69.keep K77
            replace E_b70 := E_b70.keep K77
            replace F0_71 := F0_71.keep K77 (ninS (Ne.symm ne_b69_b70) (ninS ne_b70_ar nin0))
            replace F1_71 := F1_71.keep K77 (ninS (Ne.symm ne_b69_b70) (ninS ne_b70_ar nin0))
            clear Fi0_76
            clear Fi1_76
            clear Fi2_76
            clear Fi3_76
            clear Fi4_76
            clear V_ar
            replace O := O.keep K77 (allS g_b69 (allS g_ar all0))
            have V_ar := V_a77
            show Go p e below _ T77 (mkF m 157 #[.val (.int p0), .val (.long p1), .second, .val (.long p2), .second, .val (.int p3), .val (.long p4), .second, .val (.long wm), .second, .val (.long wn), .second, .val (.long av), .second, .val (.long dv), .second, .val (.long bv), .second, .val (.int (p3 &&& (3 : Int32))), .val (.long xv), .second, .val (.ref b69), .unset, .unset, .unset, .unset, .unset, .unset] [])
            refine Go.by (T' := T77) (g' := (mkF m 159 #[.val (.int p0), .val (.long p1), .second, .val (.long p2), .second, .val (.int p3), .val (.long p4), .second, .val (.long wm), .second, .val (.long wn), .second, .val (.long av), .second, .val (.long dv), .second, .val (.long bv), .second, .val (.int (p3 &&& (3 : Int32))), .val (.long xv), .second, .val (.ref b69), .unset, .unset, .unset, .unset, .unset, .unset] [(.ref b69)])) (fun t k => ?_) ?_
            · show Steps p.tables e below (T77.setTop (mkF m 157 #[.val (.int p0), .val (.long p1), .second, .val (.long p2), .second, .val (.int p3), .val (.long p4), .second, .val (.long wm), .second, .val (.long wn), .second, .val (.long av), .second, .val (.long dv), .second, .val (.long bv), .second, .val (.int (p3 &&& (3 : Int32))), .val (.long xv), .second, .val (.ref b69), .unset, .unset, .unset, .unset, .unset, .unset] [])) _
              refine XS.aload X77.here hx rfl (hb hby at_157) rfl rfl ?_
              exact k
            refine Go.callV X77 hx hZ (W := 0) (argsL := []) (rest := []) hown (wd hw 69 rfl) (wd hw 70 rfl) (notFace_of_selects (args := #[]) (mvT hZ (wd hw 72 rfl))) (wd hw 72 rfl) (wd hw 71 rfl) (wd hw 5 rfl) (wd hw 73 rfl) (by decide) E_b69 (ct_get_count_l_0___Int32__10 l Z a0 hw  b69 h77 n0 O Fi3_77) e77 (by rw [hml]; rfl) (lenOf pd___I_8321 rfl) rfl rfl (hb hby at_159) (by decide) (by decide) (by decide) (by decide) ?_
            intro v78 T78 h78 L78 X78 e78 q78
            obtain ⟨rfl, N78, rfl⟩ := q78
            replace N78 := Fr.app N77 N78
            show Go p e below _ T78 (mkF m 162 #[.val (.int p0), .val (.long p1), .second, .val (.long p2), .second, .val (.int p3), .val (.long p4), .second, .val (.long wm), .second, .val (.long wn), .second, .val (.long av), .second, .val (.long dv), .second, .val (.long bv), .second, .val (.int (p3 &&& (3 : Int32))), .val (.long xv), .second, .val (.ref b69), .unset, .unset, .unset, .unset, .unset, .unset] [(.int (0 : Int32))])
            refine Go.by (T' := T78) (g' := (mkF m 173 #[.val (.int p0), .val (.long p1), .second, .val (.long p2), .second, .val (.int p3), .val (.long p4), .second, .val (.long wm), .second, .val (.long wn), .second, .val (.long av), .second, .val (.long dv), .second, .val (.long bv), .second, .val (.int (p3 &&& (3 : Int32))), .val (.long xv), .second, .val (.ref b69), .val (.int (0 : Int32)), .unset, .unset, .unset, .unset, .unset] [(.long ((bv + wn) - (1 : Int64))), (.ref b69)])) (fun t k => ?_) ?_
            · show Steps p.tables e below (T78.setTop (mkF m 162 #[.val (.int p0), .val (.long p1), .second, .val (.long p2), .second, .val (.int p3), .val (.long p4), .second, .val (.long wm), .second, .val (.long wn), .second, .val (.long av), .second, .val (.long dv), .second, .val (.long bv), .second, .val (.int (p3 &&& (3 : Int32))), .val (.long xv), .second, .val (.ref b69), .unset, .unset, .unset, .unset, .unset, .unset] [(.int (0 : Int32))])) _
              refine XS.istore X78.here hx rfl (hb hby at_162) rfl (l' := #[.val (.int p0), .val (.long p1), .second, .val (.long p2), .second, .val (.int p3), .val (.long p4), .second, .val (.long wm), .second, .val (.long wn), .second, .val (.long av), .second, .val (.long dv), .second, .val (.long bv), .second, .val (.int (p3 &&& (3 : Int32))), .val (.long xv), .second, .val (.ref b69), .val (.int (0 : Int32)), .unset, .unset, .unset, .unset, .unset]) rfl ?_
              show Steps p.tables e below (T78.setTop (mkF m 164 #[.val (.int p0), .val (.long p1), .second, .val (.long p2), .second, .val (.int p3), .val (.long p4), .second, .val (.long wm), .second, .val (.long wn), .second, .val (.long av), .second, .val (.long dv), .second, .val (.long bv), .second, .val (.int (p3 &&& (3 : Int32))), .val (.long xv), .second, .val (.ref b69), .val (.int (0 : Int32)), .unset, .unset, .unset, .unset, .unset] [])) _
              refine XS.aload X78.here hx rfl (hb hby at_164) rfl rfl ?_
              show Steps p.tables e below (T78.setTop (mkF m 166 #[.val (.int p0), .val (.long p1), .second, .val (.long p2), .second, .val (.int p3), .val (.long p4), .second, .val (.long wm), .second, .val (.long wn), .second, .val (.long av), .second, .val (.long dv), .second, .val (.long bv), .second, .val (.int (p3 &&& (3 : Int32))), .val (.long xv), .second, .val (.ref b69), .val (.int (0 : Int32)), .unset, .unset, .unset, .unset, .unset] [(.ref b69)])) _
              refine XS.lload X78.here hx rfl (hb hby at_166) rfl ?_
              show Steps p.tables e below (T78.setTop (mkF m 168 #[.val (.int p0), .val (.long p1), .second, .val (.long p2), .second, .val (.int p3), .val (.long p4), .second, .val (.long wm), .second, .val (.long wn), .second, .val (.long av), .second, .val (.long dv), .second, .val (.long bv), .second, .val (.int (p3 &&& (3 : Int32))), .val (.long xv), .second, .val (.ref b69), .val (.int (0 : Int32)), .unset, .unset, .unset, .unset, .unset] [(.long bv), (.ref b69)])) _
              refine XS.lload X78.here hx rfl (hb hby at_168) rfl ?_
              show Steps p.tables e below (T78.setTop (mkF m 170 #[.val (.int p0), .val (.long p1), .second, .val (.long p2), .second, .val (.int p3), .val (.long p4), .second, .val (.long wm), .second, .val (.long wn), .second, .val (.long av), .second, .val (.long dv), .second, .val (.long bv), .second, .val (.int (p3 &&& (3 : Int32))), .val (.long xv), .second, .val (.ref b69), .val (.int (0 : Int32)), .unset, .unset, .unset, .unset, .unset] [(.long wn), (.long bv), (.ref b69)])) _
              refine XS.ladd X78.here hx rfl (hb hby at_170) rfl ?_
              show Steps p.tables e below (T78.setTop (mkF m 171 #[.val (.int p0), .val (.long p1), .second, .val (.long p2), .second, .val (.int p3), .val (.long p4), .second, .val (.long wm), .second, .val (.long wn), .second, .val (.long av), .second, .val (.long dv), .second, .val (.long bv), .second, .val (.int (p3 &&& (3 : Int32))), .val (.long xv), .second, .val (.ref b69), .val (.int (0 : Int32)), .unset, .unset, .unset, .unset, .unset] [(.long (bv + wn)), (.ref b69)])) _
              refine XS.lconst X78.here hx rfl (hb hby at_171) ?_
              show Steps p.tables e below (T78.setTop (mkF m 172 #[.val (.int p0), .val (.long p1), .second, .val (.long p2), .second, .val (.int p3), .val (.long p4), .second, .val (.long wm), .second, .val (.long wn), .second, .val (.long av), .second, .val (.long dv), .second, .val (.long bv), .second, .val (.int (p3 &&& (3 : Int32))), .val (.long xv), .second, .val (.ref b69), .val (.int (0 : Int32)), .unset, .unset, .unset, .unset, .unset] [(.long (1 : Int64)), (.long (bv + wn)), (.ref b69)])) _
              refine XS.lsub X78.here hx rfl (hb hby at_172) rfl ?_
              exact k
            refine Go.callV X78 hx hZ (W := 0) (argsL := [(.long ((bv + wn) - (1 : Int64)))]) (rest := []) hown (wd hw 50 rfl) (wd hw 51 rfl) (notFace_of_selects (args := #[]) (mvT hZ (wd hw 53 rfl))) (wd hw 53 rfl) (wd hw 52 rfl) (wd hw 5 rfl) (wd hw 54 rfl) (by decide) E_b69 (ct_move_1_0_0 l Z a0 hw w_MS S_MS E_MS F_MS1 F_MS2 b69 ar kA wn bv av bv (0 : Int64) ((bv + wn) - (1 : Int64)) h77 n0 O E_b69 Fi0_77 Fi1_77 Fi2_77 Fi3_77 Fi4_77 V_ar g_b69 g_ar ne_b69_ar (own_t3 hbv ha hd hwr)) e78 (by rw [hml]; rfl) (lenOf pd__J_Z_8741 rfl) rfl rfl (hb hby at_173) (by decide) (by decide) (by decide) (by decide) ?_
            intro v79 T79 h79 L79 X79 e79 q79
            obtain ⟨rfl, N79, K79, Fi0_79, Fi1_79, Fi2_79, Fi3_79, Fi4_79, V_a79⟩ := q79
            replace N79 := Fr.app N78 N79
            replace E_b69 := E_b69.keep K79
            replace E_b70 := E_b70.keep K79
            replace F0_71 := F0_71.keep K79 (ninS (Ne.symm ne_b69_b70) (ninS ne_b70_ar nin0))
            replace F1_71 := F1_71.keep K79 (ninS (Ne.symm ne_b69_b70) (ninS ne_b70_ar nin0))
            clear Fi0_77
            clear Fi1_77
            clear Fi2_77
            clear Fi3_77
            clear Fi4_77
            clear V_ar
            replace O := O.keep K79 (allS g_b69 (allS g_ar all0))
            have V_ar := V_a79
            show Go p e below _ T79 (mkF m 176 #[.val (.int p0), .val (.long p1), .second, .val (.long p2), .second, .val (.int p3), .val (.long p4), .second, .val (.long wm), .second, .val (.long wn), .second, .val (.long av), .second, .val (.long dv), .second, .val (.long bv), .second, .val (.int (p3 &&& (3 : Int32))), .val (.long xv), .second, .val (.ref b69), .val (.int (0 : Int32)), .unset, .unset, .unset, .unset, .unset] [(.int (1 : Int32))])
            refine Go.by (T' := T79) (g' := (mkF m 180 #[.val (.int p0), .val (.long p1), .second, .val (.long p2), .second, .val (.int p3), .val (.long p4), .second, .val (.long wm), .second, .val (.long wn), .second, .val (.long av), .second, .val (.long dv), .second, .val (.long bv), .second, .val (.int (p3 &&& (3 : Int32))), .val (.long xv), .second, .val (.ref b69), .val (.int (0 : Int32)), .val (.int (1 : Int32)), .unset, .unset, .unset, .unset] [(.ref b69)])) (fun t k => ?_) ?_
            · show Steps p.tables e below (T79.setTop (mkF m 176 #[.val (.int p0), .val (.long p1), .second, .val (.long p2), .second, .val (.int p3), .val (.long p4), .second, .val (.long wm), .second, .val (.long wn), .second, .val (.long av), .second, .val (.long dv), .second, .val (.long bv), .second, .val (.int (p3 &&& (3 : Int32))), .val (.long xv), .second, .val (.ref b69), .val (.int (0 : Int32)), .unset, .unset, .unset, .unset, .unset] [(.int (1 : Int32))])) _
              refine XS.istore X79.here hx rfl (hb hby at_176) rfl (l' := #[.val (.int p0), .val (.long p1), .second, .val (.long p2), .second, .val (.int p3), .val (.long p4), .second, .val (.long wm), .second, .val (.long wn), .second, .val (.long av), .second, .val (.long dv), .second, .val (.long bv), .second, .val (.int (p3 &&& (3 : Int32))), .val (.long xv), .second, .val (.ref b69), .val (.int (0 : Int32)), .val (.int (1 : Int32)), .unset, .unset, .unset, .unset]) rfl ?_
              show Steps p.tables e below (T79.setTop (mkF m 178 #[.val (.int p0), .val (.long p1), .second, .val (.long p2), .second, .val (.int p3), .val (.long p4), .second, .val (.long wm), .second, .val (.long wn), .second, .val (.long av), .second, .val (.long dv), .second, .val (.long bv), .second, .val (.int (p3 &&& (3 : Int32))), .val (.long xv), .second, .val (.ref b69), .val (.int (0 : Int32)), .val (.int (1 : Int32)), .unset, .unset, .unset, .unset] [])) _
              refine XS.aload X79.here hx rfl (hb hby at_178) rfl rfl ?_
              exact k
            refine Go.callV X79 hx hZ (W := 0) (argsL := []) (rest := []) hown (wd hw 69 rfl) (wd hw 70 rfl) (notFace_of_selects (args := #[]) (mvT hZ (wd hw 72 rfl))) (wd hw 72 rfl) (wd hw 71 rfl) (wd hw 5 rfl) (wd hw 73 rfl) (by decide) E_b69 (ct_get_count_l_0___Int32__10 l Z a0 hw  b69 h79 n0 O Fi3_79) e79 (by rw [hml]; rfl) (lenOf pd___I_8321 rfl) rfl rfl (hb hby at_180) (by decide) (by decide) (by decide) (by decide) ?_
            intro v80 T80 h80 L80 X80 e80 q80
            obtain ⟨rfl, N80, rfl⟩ := q80
            replace N80 := Fr.app N79 N80
            show Go p e below _ T80 (mkF m 183 #[.val (.int p0), .val (.long p1), .second, .val (.long p2), .second, .val (.int p3), .val (.long p4), .second, .val (.long wm), .second, .val (.long wn), .second, .val (.long av), .second, .val (.long dv), .second, .val (.long bv), .second, .val (.int (p3 &&& (3 : Int32))), .val (.long xv), .second, .val (.ref b69), .val (.int (0 : Int32)), .val (.int (1 : Int32)), .unset, .unset, .unset, .unset] [(.int (0 : Int32))])
            refine Go.by (T' := T80) (g' := (mkF m 299 #[.val (.int p0), .val (.long p1), .second, .val (.long p2), .second, .val (.int p3), .val (.long p4), .second, .val (.long wm), .second, .val (.long wn), .second, .val (.long av), .second, .val (.long dv), .second, .val (.long bv), .second, .val (.int (p3 &&& (3 : Int32))), .val (.long xv), .second, .val (.ref b69), .val (.int (0 : Int32)), .val (.int (1 : Int32)), .val (.int (0 : Int32)), .val (.int (0 : Int32)), .val (.int (0 : Int32)), .val (.int (0 : Int32))] [(.int (1 : Int32))])) (fun t k => ?_) ?_
            · show Steps p.tables e below (T80.setTop (mkF m 183 #[.val (.int p0), .val (.long p1), .second, .val (.long p2), .second, .val (.int p3), .val (.long p4), .second, .val (.long wm), .second, .val (.long wn), .second, .val (.long av), .second, .val (.long dv), .second, .val (.long bv), .second, .val (.int (p3 &&& (3 : Int32))), .val (.long xv), .second, .val (.ref b69), .val (.int (0 : Int32)), .val (.int (1 : Int32)), .unset, .unset, .unset, .unset] [(.int (0 : Int32))])) _
              refine XS.istore X80.here hx rfl (hb hby at_183) rfl (l' := #[.val (.int p0), .val (.long p1), .second, .val (.long p2), .second, .val (.int p3), .val (.long p4), .second, .val (.long wm), .second, .val (.long wn), .second, .val (.long av), .second, .val (.long dv), .second, .val (.long bv), .second, .val (.int (p3 &&& (3 : Int32))), .val (.long xv), .second, .val (.ref b69), .val (.int (0 : Int32)), .val (.int (1 : Int32)), .val (.int (0 : Int32)), .unset, .unset, .unset]) rfl ?_
              show Steps p.tables e below (T80.setTop (mkF m 185 #[.val (.int p0), .val (.long p1), .second, .val (.long p2), .second, .val (.int p3), .val (.long p4), .second, .val (.long wm), .second, .val (.long wn), .second, .val (.long av), .second, .val (.long dv), .second, .val (.long bv), .second, .val (.int (p3 &&& (3 : Int32))), .val (.long xv), .second, .val (.ref b69), .val (.int (0 : Int32)), .val (.int (1 : Int32)), .val (.int (0 : Int32)), .unset, .unset, .unset] [])) _
              refine XS.lload X80.here hx rfl (hb hby at_185) rfl ?_
              show Steps p.tables e below (T80.setTop (mkF m 187 #[.val (.int p0), .val (.long p1), .second, .val (.long p2), .second, .val (.int p3), .val (.long p4), .second, .val (.long wm), .second, .val (.long wn), .second, .val (.long av), .second, .val (.long dv), .second, .val (.long bv), .second, .val (.int (p3 &&& (3 : Int32))), .val (.long xv), .second, .val (.ref b69), .val (.int (0 : Int32)), .val (.int (1 : Int32)), .val (.int (0 : Int32)), .unset, .unset, .unset] [(.long dv)])) _
              refine XS.lload X80.here hx rfl (hb hby at_187) rfl ?_
              show Steps p.tables e below (T80.setTop (mkF m 189 #[.val (.int p0), .val (.long p1), .second, .val (.long p2), .second, .val (.int p3), .val (.long p4), .second, .val (.long wm), .second, .val (.long wn), .second, .val (.long av), .second, .val (.long dv), .second, .val (.long bv), .second, .val (.int (p3 &&& (3 : Int32))), .val (.long xv), .second, .val (.ref b69), .val (.int (0 : Int32)), .val (.int (1 : Int32)), .val (.int (0 : Int32)), .unset, .unset, .unset] [(.long wn), (.long dv)])) _
              refine XS.lcmp X80.here hx rfl (hb hby at_189) rfl ?_
              show Steps p.tables e below (T80.setTop (mkF m 190 #[.val (.int p0), .val (.long p1), .second, .val (.long p2), .second, .val (.int p3), .val (.long p4), .second, .val (.long wm), .second, .val (.long wn), .second, .val (.long av), .second, .val (.long dv), .second, .val (.long bv), .second, .val (.int (p3 &&& (3 : Int32))), .val (.long xv), .second, .val (.ref b69), .val (.int (0 : Int32)), .val (.int (1 : Int32)), .val (.int (0 : Int32)), .unset, .unset, .unset] [(.int (lcmpW dv wn))])) _
              refine XS.ifYes X80.here hx rfl (pc0 := 190) (pc' := 197) rfl (hb hby at_190) rfl ((if0 _ _).trans (flt (fun q => hy29 ((lw_lt _ _).mp q))).2.1) (by decide) (by decide) ?_
              show Steps p.tables e below (T80.setTop (mkF m 197 #[.val (.int p0), .val (.long p1), .second, .val (.long p2), .second, .val (.int p3), .val (.long p4), .second, .val (.long wm), .second, .val (.long wn), .second, .val (.long av), .second, .val (.long dv), .second, .val (.long bv), .second, .val (.int (p3 &&& (3 : Int32))), .val (.long xv), .second, .val (.ref b69), .val (.int (0 : Int32)), .val (.int (1 : Int32)), .val (.int (0 : Int32)), .unset, .unset, .unset] [])) _
              refine XS.iconst X80.here hx rfl (hb hby at_197) ?_
              show Steps p.tables e below (T80.setTop (mkF m 198 #[.val (.int p0), .val (.long p1), .second, .val (.long p2), .second, .val (.int p3), .val (.long p4), .second, .val (.long wm), .second, .val (.long wn), .second, .val (.long av), .second, .val (.long dv), .second, .val (.long bv), .second, .val (.int (p3 &&& (3 : Int32))), .val (.long xv), .second, .val (.ref b69), .val (.int (0 : Int32)), .val (.int (1 : Int32)), .val (.int (0 : Int32)), .unset, .unset, .unset] [(.int (0 : Int32))])) _
              refine XS.istore X80.here hx rfl (hb hby at_198) rfl (l' := #[.val (.int p0), .val (.long p1), .second, .val (.long p2), .second, .val (.int p3), .val (.long p4), .second, .val (.long wm), .second, .val (.long wn), .second, .val (.long av), .second, .val (.long dv), .second, .val (.long bv), .second, .val (.int (p3 &&& (3 : Int32))), .val (.long xv), .second, .val (.ref b69), .val (.int (0 : Int32)), .val (.int (1 : Int32)), .val (.int (0 : Int32)), .val (.int (0 : Int32)), .unset, .unset]) rfl ?_
              show Steps p.tables e below (T80.setTop (mkF m 200 #[.val (.int p0), .val (.long p1), .second, .val (.long p2), .second, .val (.int p3), .val (.long p4), .second, .val (.long wm), .second, .val (.long wn), .second, .val (.long av), .second, .val (.long dv), .second, .val (.long bv), .second, .val (.int (p3 &&& (3 : Int32))), .val (.long xv), .second, .val (.ref b69), .val (.int (0 : Int32)), .val (.int (1 : Int32)), .val (.int (0 : Int32)), .val (.int (0 : Int32)), .unset, .unset] [])) _
              refine XS.iload X80.here hx rfl (hb hby at_200) rfl ?_
              show Steps p.tables e below (T80.setTop (mkF m 202 #[.val (.int p0), .val (.long p1), .second, .val (.long p2), .second, .val (.int p3), .val (.long p4), .second, .val (.long wm), .second, .val (.long wn), .second, .val (.long av), .second, .val (.long dv), .second, .val (.long bv), .second, .val (.int (p3 &&& (3 : Int32))), .val (.long xv), .second, .val (.ref b69), .val (.int (0 : Int32)), .val (.int (1 : Int32)), .val (.int (0 : Int32)), .val (.int (0 : Int32)), .unset, .unset] [(.int (0 : Int32))])) _
              refine XS.ifYes X80.here hx rfl (pc0 := 202) (pc' := 216) rfl (hb hby at_202) rfl ((if0 _ _).trans (teq (by decide : (0 : Int32) = (0 : Int32))).1) (by decide) (by decide) ?_
              show Steps p.tables e below (T80.setTop (mkF m 216 #[.val (.int p0), .val (.long p1), .second, .val (.long p2), .second, .val (.int p3), .val (.long p4), .second, .val (.long wm), .second, .val (.long wn), .second, .val (.long av), .second, .val (.long dv), .second, .val (.long bv), .second, .val (.int (p3 &&& (3 : Int32))), .val (.long xv), .second, .val (.ref b69), .val (.int (0 : Int32)), .val (.int (1 : Int32)), .val (.int (0 : Int32)), .val (.int (0 : Int32)), .unset, .unset] [])) _
              refine XS.iconst X80.here hx rfl (hb hby at_216) ?_
              show Steps p.tables e below (T80.setTop (mkF m 217 #[.val (.int p0), .val (.long p1), .second, .val (.long p2), .second, .val (.int p3), .val (.long p4), .second, .val (.long wm), .second, .val (.long wn), .second, .val (.long av), .second, .val (.long dv), .second, .val (.long bv), .second, .val (.int (p3 &&& (3 : Int32))), .val (.long xv), .second, .val (.ref b69), .val (.int (0 : Int32)), .val (.int (1 : Int32)), .val (.int (0 : Int32)), .val (.int (0 : Int32)), .unset, .unset] [(.int (0 : Int32))])) _
              refine XS.istore X80.here hx rfl (hb hby at_217) rfl (l' := #[.val (.int p0), .val (.long p1), .second, .val (.long p2), .second, .val (.int p3), .val (.long p4), .second, .val (.long wm), .second, .val (.long wn), .second, .val (.long av), .second, .val (.long dv), .second, .val (.long bv), .second, .val (.int (p3 &&& (3 : Int32))), .val (.long xv), .second, .val (.ref b69), .val (.int (0 : Int32)), .val (.int (1 : Int32)), .val (.int (0 : Int32)), .val (.int (0 : Int32)), .val (.int (0 : Int32)), .unset]) rfl ?_
              show Steps p.tables e below (T80.setTop (mkF m 219 #[.val (.int p0), .val (.long p1), .second, .val (.long p2), .second, .val (.int p3), .val (.long p4), .second, .val (.long wm), .second, .val (.long wn), .second, .val (.long av), .second, .val (.long dv), .second, .val (.long bv), .second, .val (.int (p3 &&& (3 : Int32))), .val (.long xv), .second, .val (.ref b69), .val (.int (0 : Int32)), .val (.int (1 : Int32)), .val (.int (0 : Int32)), .val (.int (0 : Int32)), .val (.int (0 : Int32)), .unset] [])) _
              refine XS.iload X80.here hx rfl (hb hby at_219) rfl ?_
              show Steps p.tables e below (T80.setTop (mkF m 221 #[.val (.int p0), .val (.long p1), .second, .val (.long p2), .second, .val (.int p3), .val (.long p4), .second, .val (.long wm), .second, .val (.long wn), .second, .val (.long av), .second, .val (.long dv), .second, .val (.long bv), .second, .val (.int (p3 &&& (3 : Int32))), .val (.long xv), .second, .val (.ref b69), .val (.int (0 : Int32)), .val (.int (1 : Int32)), .val (.int (0 : Int32)), .val (.int (0 : Int32)), .val (.int (0 : Int32)), .unset] [(.int (0 : Int32))])) _
              refine XS.ifYes X80.here hx rfl (pc0 := 221) (pc' := 235) rfl (hb hby at_221) rfl ((if0 _ _).trans (teq (by decide : (0 : Int32) = (0 : Int32))).1) (by decide) (by decide) ?_
              show Steps p.tables e below (T80.setTop (mkF m 235 #[.val (.int p0), .val (.long p1), .second, .val (.long p2), .second, .val (.int p3), .val (.long p4), .second, .val (.long wm), .second, .val (.long wn), .second, .val (.long av), .second, .val (.long dv), .second, .val (.long bv), .second, .val (.int (p3 &&& (3 : Int32))), .val (.long xv), .second, .val (.ref b69), .val (.int (0 : Int32)), .val (.int (1 : Int32)), .val (.int (0 : Int32)), .val (.int (0 : Int32)), .val (.int (0 : Int32)), .unset] [])) _
              refine XS.iconst X80.here hx rfl (hb hby at_235) ?_
              show Steps p.tables e below (T80.setTop (mkF m 236 #[.val (.int p0), .val (.long p1), .second, .val (.long p2), .second, .val (.int p3), .val (.long p4), .second, .val (.long wm), .second, .val (.long wn), .second, .val (.long av), .second, .val (.long dv), .second, .val (.long bv), .second, .val (.int (p3 &&& (3 : Int32))), .val (.long xv), .second, .val (.ref b69), .val (.int (0 : Int32)), .val (.int (1 : Int32)), .val (.int (0 : Int32)), .val (.int (0 : Int32)), .val (.int (0 : Int32)), .unset] [(.int (1 : Int32))])) _
              refine XS.istore X80.here hx rfl (hb hby at_236) rfl (l' := #[.val (.int p0), .val (.long p1), .second, .val (.long p2), .second, .val (.int p3), .val (.long p4), .second, .val (.long wm), .second, .val (.long wn), .second, .val (.long av), .second, .val (.long dv), .second, .val (.long bv), .second, .val (.int (p3 &&& (3 : Int32))), .val (.long xv), .second, .val (.ref b69), .val (.int (0 : Int32)), .val (.int (1 : Int32)), .val (.int (0 : Int32)), .val (.int (0 : Int32)), .val (.int (0 : Int32)), .val (.int (1 : Int32))]) rfl ?_
              show Steps p.tables e below (T80.setTop (mkF m 238 #[.val (.int p0), .val (.long p1), .second, .val (.long p2), .second, .val (.int p3), .val (.long p4), .second, .val (.long wm), .second, .val (.long wn), .second, .val (.long av), .second, .val (.long dv), .second, .val (.long bv), .second, .val (.int (p3 &&& (3 : Int32))), .val (.long xv), .second, .val (.ref b69), .val (.int (0 : Int32)), .val (.int (1 : Int32)), .val (.int (0 : Int32)), .val (.int (0 : Int32)), .val (.int (0 : Int32)), .val (.int (1 : Int32))] [])) _
              refine XS.lload X80.here hx rfl (hb hby at_238) rfl ?_
              show Steps p.tables e below (T80.setTop (mkF m 240 #[.val (.int p0), .val (.long p1), .second, .val (.long p2), .second, .val (.int p3), .val (.long p4), .second, .val (.long wm), .second, .val (.long wn), .second, .val (.long av), .second, .val (.long dv), .second, .val (.long bv), .second, .val (.int (p3 &&& (3 : Int32))), .val (.long xv), .second, .val (.ref b69), .val (.int (0 : Int32)), .val (.int (1 : Int32)), .val (.int (0 : Int32)), .val (.int (0 : Int32)), .val (.int (0 : Int32)), .val (.int (1 : Int32))] [(.long xv)])) _
              refine XS.lload X80.here hx rfl (hb hby at_240) rfl ?_
              show Steps p.tables e below (T80.setTop (mkF m 242 #[.val (.int p0), .val (.long p1), .second, .val (.long p2), .second, .val (.int p3), .val (.long p4), .second, .val (.long wm), .second, .val (.long wn), .second, .val (.long av), .second, .val (.long dv), .second, .val (.long bv), .second, .val (.int (p3 &&& (3 : Int32))), .val (.long xv), .second, .val (.ref b69), .val (.int (0 : Int32)), .val (.int (1 : Int32)), .val (.int (0 : Int32)), .val (.int (0 : Int32)), .val (.int (0 : Int32)), .val (.int (1 : Int32))] [(.long bv), (.long xv)])) _
              refine XS.lcmp X80.here hx rfl (hb hby at_242) rfl ?_
              show Steps p.tables e below (T80.setTop (mkF m 243 #[.val (.int p0), .val (.long p1), .second, .val (.long p2), .second, .val (.int p3), .val (.long p4), .second, .val (.long wm), .second, .val (.long wn), .second, .val (.long av), .second, .val (.long dv), .second, .val (.long bv), .second, .val (.int (p3 &&& (3 : Int32))), .val (.long xv), .second, .val (.ref b69), .val (.int (0 : Int32)), .val (.int (1 : Int32)), .val (.int (0 : Int32)), .val (.int (0 : Int32)), .val (.int (0 : Int32)), .val (.int (1 : Int32))] [(.int (lcmpW xv bv))])) _
              refine XS.ifNo X80.here hx rfl (hb hby at_243) rfl ((if0 _ _).trans (teq ((lw_eq _ _).mpr hy68)).2) ?_
              show Steps p.tables e below (T80.setTop (mkF m 246 #[.val (.int p0), .val (.long p1), .second, .val (.long p2), .second, .val (.int p3), .val (.long p4), .second, .val (.long wm), .second, .val (.long wn), .second, .val (.long av), .second, .val (.long dv), .second, .val (.long bv), .second, .val (.int (p3 &&& (3 : Int32))), .val (.long xv), .second, .val (.ref b69), .val (.int (0 : Int32)), .val (.int (1 : Int32)), .val (.int (0 : Int32)), .val (.int (0 : Int32)), .val (.int (0 : Int32)), .val (.int (1 : Int32))] [])) _
              refine XS.iload X80.here hx rfl (hb hby at_246) rfl ?_
              show Steps p.tables e below (T80.setTop (mkF m 248 #[.val (.int p0), .val (.long p1), .second, .val (.long p2), .second, .val (.int p3), .val (.long p4), .second, .val (.long wm), .second, .val (.long wn), .second, .val (.long av), .second, .val (.long dv), .second, .val (.long bv), .second, .val (.int (p3 &&& (3 : Int32))), .val (.long xv), .second, .val (.ref b69), .val (.int (0 : Int32)), .val (.int (1 : Int32)), .val (.int (0 : Int32)), .val (.int (0 : Int32)), .val (.int (0 : Int32)), .val (.int (1 : Int32))] [(.int (1 : Int32))])) _
              refine XS.iconst X80.here hx rfl (hb hby at_248) ?_
              show Steps p.tables e below (T80.setTop (mkF m 249 #[.val (.int p0), .val (.long p1), .second, .val (.long p2), .second, .val (.int p3), .val (.long p4), .second, .val (.long wm), .second, .val (.long wn), .second, .val (.long av), .second, .val (.long dv), .second, .val (.long bv), .second, .val (.int (p3 &&& (3 : Int32))), .val (.long xv), .second, .val (.ref b69), .val (.int (0 : Int32)), .val (.int (1 : Int32)), .val (.int (0 : Int32)), .val (.int (0 : Int32)), .val (.int (0 : Int32)), .val (.int (1 : Int32))] [(.int (1 : Int32)), (.int (1 : Int32))])) _
              refine XS.isub X80.here hx rfl (hb hby at_249) rfl ?_
              show Steps p.tables e below (T80.setTop (mkF m 250 #[.val (.int p0), .val (.long p1), .second, .val (.long p2), .second, .val (.int p3), .val (.long p4), .second, .val (.long wm), .second, .val (.long wn), .second, .val (.long av), .second, .val (.long dv), .second, .val (.long bv), .second, .val (.int (p3 &&& (3 : Int32))), .val (.long xv), .second, .val (.ref b69), .val (.int (0 : Int32)), .val (.int (1 : Int32)), .val (.int (0 : Int32)), .val (.int (0 : Int32)), .val (.int (0 : Int32)), .val (.int (1 : Int32))] [(.int (0 : Int32))])) _
              refine XS.istore X80.here hx rfl (hb hby at_250) rfl (l' := #[.val (.int p0), .val (.long p1), .second, .val (.long p2), .second, .val (.int p3), .val (.long p4), .second, .val (.long wm), .second, .val (.long wn), .second, .val (.long av), .second, .val (.long dv), .second, .val (.long bv), .second, .val (.int (p3 &&& (3 : Int32))), .val (.long xv), .second, .val (.ref b69), .val (.int (0 : Int32)), .val (.int (1 : Int32)), .val (.int (0 : Int32)), .val (.int (0 : Int32)), .val (.int (0 : Int32)), .val (.int (0 : Int32))]) rfl ?_
              show Steps p.tables e below (T80.setTop (mkF m 252 #[.val (.int p0), .val (.long p1), .second, .val (.long p2), .second, .val (.int p3), .val (.long p4), .second, .val (.long wm), .second, .val (.long wn), .second, .val (.long av), .second, .val (.long dv), .second, .val (.long bv), .second, .val (.int (p3 &&& (3 : Int32))), .val (.long xv), .second, .val (.ref b69), .val (.int (0 : Int32)), .val (.int (1 : Int32)), .val (.int (0 : Int32)), .val (.int (0 : Int32)), .val (.int (0 : Int32)), .val (.int (0 : Int32))] [])) _
              refine XS.goto X80.here hx rfl (pc0 := 252) (pc' := 272) rfl (hb hby at_252) (by decide) (by decide) ?_
              show Steps p.tables e below (T80.setTop (mkF m 272 #[.val (.int p0), .val (.long p1), .second, .val (.long p2), .second, .val (.int p3), .val (.long p4), .second, .val (.long wm), .second, .val (.long wn), .second, .val (.long av), .second, .val (.long dv), .second, .val (.long bv), .second, .val (.int (p3 &&& (3 : Int32))), .val (.long xv), .second, .val (.ref b69), .val (.int (0 : Int32)), .val (.int (1 : Int32)), .val (.int (0 : Int32)), .val (.int (0 : Int32)), .val (.int (0 : Int32)), .val (.int (0 : Int32))] [])) _
              refine XS.iload X80.here hx rfl (hb hby at_272) rfl ?_
              show Steps p.tables e below (T80.setTop (mkF m 274 #[.val (.int p0), .val (.long p1), .second, .val (.long p2), .second, .val (.int p3), .val (.long p4), .second, .val (.long wm), .second, .val (.long wn), .second, .val (.long av), .second, .val (.long dv), .second, .val (.long bv), .second, .val (.int (p3 &&& (3 : Int32))), .val (.long xv), .second, .val (.ref b69), .val (.int (0 : Int32)), .val (.int (1 : Int32)), .val (.int (0 : Int32)), .val (.int (0 : Int32)), .val (.int (0 : Int32)), .val (.int (0 : Int32))] [(.int (1 : Int32))])) _
              refine XS.ifNo X80.here hx rfl (hb hby at_274) rfl ((if0 _ _).trans (feq (by decide : ¬ (1 : Int32) = (0 : Int32))).1) ?_
              show Steps p.tables e below (T80.setTop (mkF m 277 #[.val (.int p0), .val (.long p1), .second, .val (.long p2), .second, .val (.int p3), .val (.long p4), .second, .val (.long wm), .second, .val (.long wn), .second, .val (.long av), .second, .val (.long dv), .second, .val (.long bv), .second, .val (.int (p3 &&& (3 : Int32))), .val (.long xv), .second, .val (.ref b69), .val (.int (0 : Int32)), .val (.int (1 : Int32)), .val (.int (0 : Int32)), .val (.int (0 : Int32)), .val (.int (0 : Int32)), .val (.int (0 : Int32))] [])) _
              refine XS.iload X80.here hx rfl (hb hby at_277) rfl ?_
              show Steps p.tables e below (T80.setTop (mkF m 279 #[.val (.int p0), .val (.long p1), .second, .val (.long p2), .second, .val (.int p3), .val (.long p4), .second, .val (.long wm), .second, .val (.long wn), .second, .val (.long av), .second, .val (.long dv), .second, .val (.long bv), .second, .val (.int (p3 &&& (3 : Int32))), .val (.long xv), .second, .val (.ref b69), .val (.int (0 : Int32)), .val (.int (1 : Int32)), .val (.int (0 : Int32)), .val (.int (0 : Int32)), .val (.int (0 : Int32)), .val (.int (0 : Int32))] [(.int (0 : Int32))])) _
              refine XS.iload X80.here hx rfl (hb hby at_279) rfl ?_
              show Steps p.tables e below (T80.setTop (mkF m 281 #[.val (.int p0), .val (.long p1), .second, .val (.long p2), .second, .val (.int p3), .val (.long p4), .second, .val (.long wm), .second, .val (.long wn), .second, .val (.long av), .second, .val (.long dv), .second, .val (.long bv), .second, .val (.int (p3 &&& (3 : Int32))), .val (.long xv), .second, .val (.ref b69), .val (.int (0 : Int32)), .val (.int (1 : Int32)), .val (.int (0 : Int32)), .val (.int (0 : Int32)), .val (.int (0 : Int32)), .val (.int (0 : Int32))] [(.int (0 : Int32)), (.int (0 : Int32))])) _
              refine XS.iload X80.here hx rfl (hb hby at_281) rfl ?_
              show Steps p.tables e below (T80.setTop (mkF m 283 #[.val (.int p0), .val (.long p1), .second, .val (.long p2), .second, .val (.int p3), .val (.long p4), .second, .val (.long wm), .second, .val (.long wn), .second, .val (.long av), .second, .val (.long dv), .second, .val (.long bv), .second, .val (.int (p3 &&& (3 : Int32))), .val (.long xv), .second, .val (.ref b69), .val (.int (0 : Int32)), .val (.int (1 : Int32)), .val (.int (0 : Int32)), .val (.int (0 : Int32)), .val (.int (0 : Int32)), .val (.int (0 : Int32))] [(.int (0 : Int32)), (.int (0 : Int32)), (.int (0 : Int32))])) _
              refine XS.iadd X80.here hx rfl (hb hby at_283) rfl ?_
              show Steps p.tables e below (T80.setTop (mkF m 284 #[.val (.int p0), .val (.long p1), .second, .val (.long p2), .second, .val (.int p3), .val (.long p4), .second, .val (.long wm), .second, .val (.long wn), .second, .val (.long av), .second, .val (.long dv), .second, .val (.long bv), .second, .val (.int (p3 &&& (3 : Int32))), .val (.long xv), .second, .val (.ref b69), .val (.int (0 : Int32)), .val (.int (1 : Int32)), .val (.int (0 : Int32)), .val (.int (0 : Int32)), .val (.int (0 : Int32)), .val (.int (0 : Int32))] [(.int (0 : Int32)), (.int (0 : Int32))])) _
              refine XS.icmpNo X80.here hx rfl (hb hby at_284) rfl (teq (by decide : (0 : Int32) = (0 : Int32))).2 ?_
              show Steps p.tables e below (T80.setTop (mkF m 287 #[.val (.int p0), .val (.long p1), .second, .val (.long p2), .second, .val (.int p3), .val (.long p4), .second, .val (.long wm), .second, .val (.long wn), .second, .val (.long av), .second, .val (.long dv), .second, .val (.long bv), .second, .val (.int (p3 &&& (3 : Int32))), .val (.long xv), .second, .val (.ref b69), .val (.int (0 : Int32)), .val (.int (1 : Int32)), .val (.int (0 : Int32)), .val (.int (0 : Int32)), .val (.int (0 : Int32)), .val (.int (0 : Int32))] [])) _
              refine XS.iload X80.here hx rfl (hb hby at_287) rfl ?_
              show Steps p.tables e below (T80.setTop (mkF m 289 #[.val (.int p0), .val (.long p1), .second, .val (.long p2), .second, .val (.int p3), .val (.long p4), .second, .val (.long wm), .second, .val (.long wn), .second, .val (.long av), .second, .val (.long dv), .second, .val (.long bv), .second, .val (.int (p3 &&& (3 : Int32))), .val (.long xv), .second, .val (.ref b69), .val (.int (0 : Int32)), .val (.int (1 : Int32)), .val (.int (0 : Int32)), .val (.int (0 : Int32)), .val (.int (0 : Int32)), .val (.int (0 : Int32))] [(.int (0 : Int32))])) _
              refine XS.iload X80.here hx rfl (hb hby at_289) rfl ?_
              show Steps p.tables e below (T80.setTop (mkF m 291 #[.val (.int p0), .val (.long p1), .second, .val (.long p2), .second, .val (.int p3), .val (.long p4), .second, .val (.long wm), .second, .val (.long wn), .second, .val (.long av), .second, .val (.long dv), .second, .val (.long bv), .second, .val (.int (p3 &&& (3 : Int32))), .val (.long xv), .second, .val (.ref b69), .val (.int (0 : Int32)), .val (.int (1 : Int32)), .val (.int (0 : Int32)), .val (.int (0 : Int32)), .val (.int (0 : Int32)), .val (.int (0 : Int32))] [(.int (0 : Int32)), (.int (0 : Int32))])) _
              refine XS.icmpNo X80.here hx rfl (hb hby at_291) rfl (teq (by decide : (0 : Int32) = (0 : Int32))).2 ?_
              show Steps p.tables e below (T80.setTop (mkF m 294 #[.val (.int p0), .val (.long p1), .second, .val (.long p2), .second, .val (.int p3), .val (.long p4), .second, .val (.long wm), .second, .val (.long wn), .second, .val (.long av), .second, .val (.long dv), .second, .val (.long bv), .second, .val (.int (p3 &&& (3 : Int32))), .val (.long xv), .second, .val (.ref b69), .val (.int (0 : Int32)), .val (.int (1 : Int32)), .val (.int (0 : Int32)), .val (.int (0 : Int32)), .val (.int (0 : Int32)), .val (.int (0 : Int32))] [])) _
              refine XS.iconst X80.here hx rfl (hb hby at_294) ?_
              show Steps p.tables e below (T80.setTop (mkF m 295 #[.val (.int p0), .val (.long p1), .second, .val (.long p2), .second, .val (.int p3), .val (.long p4), .second, .val (.long wm), .second, .val (.long wn), .second, .val (.long av), .second, .val (.long dv), .second, .val (.long bv), .second, .val (.int (p3 &&& (3 : Int32))), .val (.long xv), .second, .val (.ref b69), .val (.int (0 : Int32)), .val (.int (1 : Int32)), .val (.int (0 : Int32)), .val (.int (0 : Int32)), .val (.int (0 : Int32)), .val (.int (0 : Int32))] [(.int (1 : Int32))])) _
              refine XS.goto X80.here hx rfl (pc0 := 295) (pc' := 299) rfl (hb hby at_295) (by decide) (by decide) ?_
              exact k
            refine Go.retZ X80 hx hlk hret (Or.inr rfl) (hb hby at_299) (by decide) (by decide) e80 ?_
            exact ⟨rfl, N80⟩
          · skip
            refine Go.newO X0 hx hZ hown (wd hw 3 rfl) (wd hw 4 rfl) (wd hw 5 rfl) e0 (hb hby at_103) (by decide) (by decide) ?_
            intro T81 h81 b81 X81 e81 E81 g81 A81 D81
            have lb81 := Nat.le_of_eq g81.symm
            have g_b81 : n0 ≤ b81 := Nat.le_trans (OwnKit.Old.le O) lb81
            replace O := O.ext E81
            have E_b81 := A81
            have F_b81_times : Fld Z h81 b81 "com/example/breakwater/breakwater/OrderRateWindow" "times" "[J" .null := D81 (Or.inl (wd hw 26 rfl)) (ty := (.array .long)) (by decide)
            have F_b81_now : Fld Z h81 b81 "com/example/breakwater/breakwater/OrderRateWindow" "now" "J" (.long (0 : Int64)) := D81 (Or.inl (wd hw 29 rfl)) (ty := .long) (by decide)
            have F_b81_rate : Fld Z h81 b81 "com/example/breakwater/breakwater/OrderRateWindow" "rate" "Lcom/example/breakwater/breakwater/OrderRate;" .null := D81 (Or.inr (wd hw 31 rfl)) (ty := (.object "com/example/breakwater/breakwater/OrderRate")) (by decide)
            have F_b81_windowNanos : Fld Z h81 b81 "com/example/breakwater/breakwater/OrderRateWindow" "windowNanos" "J" (.long (0 : Int64)) := D81 (Or.inr (wd hw 49 rfl)) (ty := .long) (by decide)
            have F_b81_count : Fld Z h81 b81 "com/example/breakwater/breakwater/OrderRateWindow" "count" "I" (.int (0 : Int32)) := D81 (Or.inl (wd hw 56 rfl)) (ty := .int) (by decide)
            have F_b81_head : Fld Z h81 b81 "com/example/breakwater/breakwater/OrderRateWindow" "head" "I" (.int (0 : Int32)) := D81 (Or.inl (wd hw 63 rfl)) (ty := .int) (by decide)
            show Go p e below _ T81 (mkF m 106 #[.val (.int p0), .val (.long p1), .second, .val (.long p2), .second, .val (.int p3), .val (.long p4), .second, .val (.long wm), .second, .val (.long wn), .second, .val (.long av), .second, .val (.long dv), .second, .val (.long bv), .second, .val (.int (p3 &&& (3 : Int32))), .val (.long xv), .second, .unset, .unset, .unset, .unset, .unset, .unset, .unset] [(.ref b81)])
            refine Go.by (T' := T81) (g' := (mkF m 107 #[.val (.int p0), .val (.long p1), .second, .val (.long p2), .second, .val (.int p3), .val (.long p4), .second, .val (.long wm), .second, .val (.long wn), .second, .val (.long av), .second, .val (.long dv), .second, .val (.long bv), .second, .val (.int (p3 &&& (3 : Int32))), .val (.long xv), .second, .unset, .unset, .unset, .unset, .unset, .unset, .unset] [(.ref b81), (.ref b81)])) (fun t k => ?_) ?_
            · show Steps p.tables e below (T81.setTop (mkF m 106 #[.val (.int p0), .val (.long p1), .second, .val (.long p2), .second, .val (.int p3), .val (.long p4), .second, .val (.long wm), .second, .val (.long wn), .second, .val (.long av), .second, .val (.long dv), .second, .val (.long bv), .second, .val (.int (p3 &&& (3 : Int32))), .val (.long xv), .second, .unset, .unset, .unset, .unset, .unset, .unset, .unset] [(.ref b81)])) _
              refine XS.dup X81.here hx rfl (hb hby at_106) rfl rfl ?_
              exact k
            refine Go.newO X81 hx hZ hown (wd hw 6 rfl) (wd hw 7 rfl) (wd hw 8 rfl) e81 (hb hby at_107) (by decide) (by decide) ?_
            intro T82 h82 b82 X82 e82 E82 g82 A82 D82
            have lb82 := Nat.le_of_eq g82.symm
            have ne_b81_b82 : b81 ≠ b82 := Nat.ne_of_lt (Nat.lt_of_lt_of_le E_b81.lt lb82)
            have g_b82 : n0 ≤ b82 := Nat.le_trans (OwnKit.Old.le O) lb82
            replace E_b81 := E_b81.ext E82
            replace F_b81_times := F_b81_times.ext E82
            replace F_b81_now := F_b81_now.ext E82
            replace F_b81_rate := F_b81_rate.ext E82
            replace F_b81_windowNanos := F_b81_windowNanos.ext E82
            replace F_b81_count := F_b81_count.ext E82
            replace F_b81_head := F_b81_head.ext E82
            replace O := O.ext E82
            have E_b82 := A82
            have F_b82_maxOrders : Fld Z h82 b82 "com/example/breakwater/breakwater/OrderRate" "maxOrders" "J" (.long (0 : Int64)) := D82 (Or.inr (wd hw 17 rfl)) (ty := .long) (by decide)
            have F_b82_windowMillis : Fld Z h82 b82 "com/example/breakwater/breakwater/OrderRate" "windowMillis" "J" (.long (0 : Int64)) := D82 (Or.inr (wd hw 19 rfl)) (ty := .long) (by decide)
            show Go p e below _ T82 (mkF m 110 #[.val (.int p0), .val (.long p1), .second, .val (.long p2), .second, .val (.int p3), .val (.long p4), .second, .val (.long wm), .second, .val (.long wn), .second, .val (.long av), .second, .val (.long dv), .second, .val (.long bv), .second, .val (.int (p3 &&& (3 : Int32))), .val (.long xv), .second, .unset, .unset, .unset, .unset, .unset, .unset, .unset] [(.ref b82), (.ref b81), (.ref b81)])
            refine Go.by (T' := T82) (g' := (mkF m 116 #[.val (.int p0), .val (.long p1), .second, .val (.long p2), .second, .val (.int p3), .val (.long p4), .second, .val (.long wm), .second, .val (.long wn), .second, .val (.long av), .second, .val (.long dv), .second, .val (.long bv), .second, .val (.int (p3 &&& (3 : Int32))), .val (.long xv), .second, .unset, .unset, .unset, .unset, .unset, .unset, .unset] [(.long wm), (.long (5 : Int64)), (.ref b82), (.ref b82), (.ref b81), (.ref b81)])) (fun t k => ?_) ?_
            · show Steps p.tables e below (T82.setTop (mkF m 110 #[.val (.int p0), .val (.long p1), .second, .val (.long p2), .second, .val (.int p3), .val (.long p4), .second, .val (.long wm), .second, .val (.long wn), .second, .val (.long av), .second, .val (.long dv), .second, .val (.long bv), .second, .val (.int (p3 &&& (3 : Int32))), .val (.long xv), .second, .unset, .unset, .unset, .unset, .unset, .unset, .unset] [(.ref b82), (.ref b81), (.ref b81)])) _
              refine XS.dup X82.here hx rfl (hb hby at_110) rfl rfl ?_
              show Steps p.tables e below (T82.setTop (mkF m 111 #[.val (.int p0), .val (.long p1), .second, .val (.long p2), .second, .val (.int p3), .val (.long p4), .second, .val (.long wm), .second, .val (.long wn), .second, .val (.long av), .second, .val (.long dv), .second, .val (.long bv), .second, .val (.int (p3 &&& (3 : Int32))), .val (.long xv), .second, .unset, .unset, .unset, .unset, .unset, .unset, .unset] [(.ref b82), (.ref b82), (.ref b81), (.ref b81)])) _
              refine X82.ldc2Long hx hown (mvT hZ (wd hw 9 rfl)) (g := (mkF m 111 #[.val (.int p0), .val (.long p1), .second, .val (.long p2), .second, .val (.int p3), .val (.long p4), .second, .val (.long wm), .second, .val (.long wn), .second, .val (.long av), .second, .val (.long dv), .second, .val (.long bv), .second, .val (.int (p3 &&& (3 : Int32))), .val (.long xv), .second, .unset, .unset, .unset, .unset, .unset, .unset, .unset] [(.ref b82), (.ref b82), (.ref b81), (.ref b81)])) rfl (hb hby at_111) _ ?_
              show Steps p.tables e below (T82.setTop (mkF m 114 #[.val (.int p0), .val (.long p1), .second, .val (.long p2), .second, .val (.int p3), .val (.long p4), .second, .val (.long wm), .second, .val (.long wn), .second, .val (.long av), .second, .val (.long dv), .second, .val (.long bv), .second, .val (.int (p3 &&& (3 : Int32))), .val (.long xv), .second, .unset, .unset, .unset, .unset, .unset, .unset, .unset] [(.long (5 : Int64)), (.ref b82), (.ref b82), (.ref b81), (.ref b81)])) _
              refine XS.lload X82.here hx rfl (hb hby at_114) rfl ?_
              exact k
            refine Go.callC X82 hx hZ (W := 3) (argsL := [(.long (5 : Int64)), (.long wm)]) (rest := [(.ref b82), (.ref b81), (.ref b81)]) hown rfl (wd hw 10 rfl) (wd hw 11 rfl) (wd hw 8 rfl) (wd hw 12 rfl) (by decide) (ct_rinit l Z a0 hw w_MS S_MS E_MS F_MS1 F_MS2 b82 (5 : Int64) wm h82 n0 O E_b82 F_b82_maxOrders F_b82_windowMillis g_b82) e82 (by rw [hml]; rfl) (lenOf pd__JJ_V_1185 rfl) rfl rfl (hb hby at_116) (by decide) (by decide) (by decide) (by decide) ?_
            intro v83 T83 h83 L83 X83 e83 q83
            obtain ⟨rfl, N83, K83, F0_83, F1_83⟩ := q83
            replace N83 := Fr.app N0 N83
            replace E_b81 := E_b81.keep K83
            replace F_b81_times := F_b81_times.keep K83 (ninS ne_b81_b82 nin0)
            replace F_b81_now := F_b81_now.keep K83 (ninS ne_b81_b82 nin0)
            replace F_b81_rate := F_b81_rate.keep K83 (ninS ne_b81_b82 nin0)
            replace F_b81_windowNanos := F_b81_windowNanos.keep K83 (ninS ne_b81_b82 nin0)
            replace F_b81_count := F_b81_count.keep K83 (ninS ne_b81_b82 nin0)
            replace F_b81_head := F_b81_head.keep K83 (ninS ne_b81_b82 nin0)
            replace E_b82 := E_b82.keep K83
            clear F_b82_maxOrders
            clear F_b82_windowMillis
            replace O := O.keep K83 (allS g_b82 all0)
            show Go p e below _ T83 (mkF m 119 #[.val (.int p0), .val (.long p1), .second, .val (.long p2), .second, .val (.int p3), .val (.long p4), .second, .val (.long wm), .second, .val (.long wn), .second, .val (.long av), .second, .val (.long dv), .second, .val (.long bv), .second, .val (.int (p3 &&& (3 : Int32))), .val (.long xv), .second, .unset, .unset, .unset, .unset, .unset, .unset, .unset] [(.ref b82), (.ref b81), (.ref b81)])
            refine Go.callC X83 hx hZ (W := 1) (argsL := [(.ref b82)]) (rest := [(.ref b81)]) hown rfl (wd hw 20 rfl) (wd hw 21 rfl) (wd hw 5 rfl) (wd hw 22 rfl) (by decide) (ct_winit l Z a0 hw w_MS S_MS E_MS F_MS1 F_MS2 b81 b82 wm h83 n0 O E_b81 F_b81_rate F_b81_windowNanos F_b81_times F_b81_head F_b81_count F_b81_now g_b81 E_b82 F1_83 ne_b81_b82 hz1 hz2) e83 (by rw [hml]; rfl) (lenOf pd__Lcom_example_breakwater_breakwater_Orde_4493 rfl) rfl rfl (hb hby at_119) (by decide) (by decide) (by decide) (by decide) ?_
            intro v84 T84 h84 L84 X84 e84 q84
            obtain ⟨ar, kA, rfl, N84, K84, lb84, Fi0, Fi1, Fi2, Fi3, Fi4, V_ar⟩ := q84
            replace N84 := Fr.app N83 N84
            have ne_b81_ar : b81 ≠ ar := Nat.ne_of_lt (Nat.lt_of_lt_of_le E_b81.lt lb84)
            have ne_b82_ar : b82 ≠ ar := Nat.ne_of_lt (Nat.lt_of_lt_of_le E_b82.lt lb84)
            have g_ar : n0 ≤ ar := Nat.le_trans (OwnKit.Old.le O) lb84
            replace E_b81 := E_b81.keep K84
            clear F_b81_times
            clear F_b81_now
            clear F_b81_rate
            clear F_b81_windowNanos
            clear F_b81_count
            clear F_b81_head
            replace E_b82 := E_b82.keep K84
            replace F0_83 := F0_83.keep K84 (ninS (Ne.symm ne_b81_b82) nin0)
            replace F1_83 := F1_83.keep K84 (ninS (Ne.symm ne_b81_b82) nin0)
            replace O := O.keep K84 (allS g_b81 all0)
            replace V_ar : Arv Z h84 ar kA .long (16 : Int32) [(.long (0 : Int64)), (.long (0 : Int64)), (.long (0 : Int64))] (.long (0 : Int64)) := V_ar.pad (pad_rep3 _)
            rw [← hwn] at Fi0
            show Go p e below _ T84 (mkF m 122 #[.val (.int p0), .val (.long p1), .second, .val (.long p2), .second, .val (.int p3), .val (.long p4), .second, .val (.long wm), .second, .val (.long wn), .second, .val (.long av), .second, .val (.long dv), .second, .val (.long bv), .second, .val (.int (p3 &&& (3 : Int32))), .val (.long xv), .second, .unset, .unset, .unset, .unset, .unset, .unset, .unset] [(.ref b81)])
            refine Go.by (T' := T84) (g' := (mkF m 128 #[.val (.int p0), .val (.long p1), .second, .val (.long p2), .second, .val (.int p3), .val (.long p4), .second, .val (.long wm), .second, .val (.long wn), .second, .val (.long av), .second, .val (.long dv), .second, .val (.long bv), .second, .val (.int (p3 &&& (3 : Int32))), .val (.long xv), .second, .val (.ref b81), .unset, .unset, .unset, .unset, .unset, .unset] [(.long av), (.ref b81)])) (fun t k => ?_) ?_
            · show Steps p.tables e below (T84.setTop (mkF m 122 #[.val (.int p0), .val (.long p1), .second, .val (.long p2), .second, .val (.int p3), .val (.long p4), .second, .val (.long wm), .second, .val (.long wn), .second, .val (.long av), .second, .val (.long dv), .second, .val (.long bv), .second, .val (.int (p3 &&& (3 : Int32))), .val (.long xv), .second, .unset, .unset, .unset, .unset, .unset, .unset, .unset] [(.ref b81)])) _
              refine XS.astore X84.here hx rfl (hb hby at_122) rfl rfl (l' := #[.val (.int p0), .val (.long p1), .second, .val (.long p2), .second, .val (.int p3), .val (.long p4), .second, .val (.long wm), .second, .val (.long wn), .second, .val (.long av), .second, .val (.long dv), .second, .val (.long bv), .second, .val (.int (p3 &&& (3 : Int32))), .val (.long xv), .second, .val (.ref b81), .unset, .unset, .unset, .unset, .unset, .unset]) rfl ?_
              show Steps p.tables e below (T84.setTop (mkF m 124 #[.val (.int p0), .val (.long p1), .second, .val (.long p2), .second, .val (.int p3), .val (.long p4), .second, .val (.long wm), .second, .val (.long wn), .second, .val (.long av), .second, .val (.long dv), .second, .val (.long bv), .second, .val (.int (p3 &&& (3 : Int32))), .val (.long xv), .second, .val (.ref b81), .unset, .unset, .unset, .unset, .unset, .unset] [])) _
              refine XS.aload X84.here hx rfl (hb hby at_124) rfl rfl ?_
              show Steps p.tables e below (T84.setTop (mkF m 126 #[.val (.int p0), .val (.long p1), .second, .val (.long p2), .second, .val (.int p3), .val (.long p4), .second, .val (.long wm), .second, .val (.long wn), .second, .val (.long av), .second, .val (.long dv), .second, .val (.long bv), .second, .val (.int (p3 &&& (3 : Int32))), .val (.long xv), .second, .val (.ref b81), .unset, .unset, .unset, .unset, .unset, .unset] [(.ref b81)])) _
              refine XS.lload X84.here hx rfl (hb hby at_126) rfl ?_
              exact k
            refine Go.callV X84 hx hZ (W := 0) (argsL := [(.long av)]) (rest := []) hown (wd hw 50 rfl) (wd hw 51 rfl) (notFace_of_selects (args := #[]) (mvT hZ (wd hw 53 rfl))) (wd hw 53 rfl) (wd hw 52 rfl) (wd hw 5 rfl) (wd hw 54 rfl) (by decide) E_b81 (ct_move_0_0_0 l Z a0 hw w_MS S_MS E_MS F_MS1 F_MS2 b81 ar kA wn (-9223372036854775808 : Int64) (0 : Int64) (0 : Int64) (0 : Int64) av h84 n0 O E_b81 Fi0 Fi1 Fi2 Fi3 Fi4 V_ar g_b81 g_ar ne_b81_ar (own_min _)) e84 (by rw [hml]; rfl) (lenOf pd__J_Z_8741 rfl) rfl rfl (hb hby at_128) (by decide) (by decide) (by decide) (by decide) ?_
            intro v85 T85 h85 L85 X85 e85 q85
            obtain ⟨rfl, N85, K85, Fi0_85, Fi1_85, Fi2_85, Fi3_85, Fi4_85, V_a85⟩ := q85
            replace N85 := Fr.app N84 N85
            replace E_b81 := E_b81.keep K85
            replace E_b82 := E_b82.keep K85
            replace F0_83 := F0_83.keep K85 (ninS (Ne.symm ne_b81_b82) (ninS ne_b82_ar nin0))
            replace F1_83 := F1_83.keep K85 (ninS (Ne.symm ne_b81_b82) (ninS ne_b82_ar nin0))
            clear Fi0
            clear Fi1
            clear Fi2
            clear Fi3
            clear Fi4
            clear V_ar
            replace O := O.keep K85 (allS g_b81 (allS g_ar all0))
            have V_ar := V_a85
            show Go p e below _ T85 (mkF m 131 #[.val (.int p0), .val (.long p1), .second, .val (.long p2), .second, .val (.int p3), .val (.long p4), .second, .val (.long wm), .second, .val (.long wn), .second, .val (.long av), .second, .val (.long dv), .second, .val (.long bv), .second, .val (.int (p3 &&& (3 : Int32))), .val (.long xv), .second, .val (.ref b81), .unset, .unset, .unset, .unset, .unset, .unset] [(.int (1 : Int32))])
            refine Go.by (T' := T85) (g' := (mkF m 134 #[.val (.int p0), .val (.long p1), .second, .val (.long p2), .second, .val (.int p3), .val (.long p4), .second, .val (.long wm), .second, .val (.long wn), .second, .val (.long av), .second, .val (.long dv), .second, .val (.long bv), .second, .val (.int (p3 &&& (3 : Int32))), .val (.long xv), .second, .val (.ref b81), .unset, .unset, .unset, .unset, .unset, .unset] [(.ref b81)])) (fun t k => ?_) ?_
            · show Steps p.tables e below (T85.setTop (mkF m 131 #[.val (.int p0), .val (.long p1), .second, .val (.long p2), .second, .val (.int p3), .val (.long p4), .second, .val (.long wm), .second, .val (.long wn), .second, .val (.long av), .second, .val (.long dv), .second, .val (.long bv), .second, .val (.int (p3 &&& (3 : Int32))), .val (.long xv), .second, .val (.ref b81), .unset, .unset, .unset, .unset, .unset, .unset] [(.int (1 : Int32))])) _
              refine XS.pop X85.here hx rfl (hb hby at_131) rfl rfl ?_
              show Steps p.tables e below (T85.setTop (mkF m 132 #[.val (.int p0), .val (.long p1), .second, .val (.long p2), .second, .val (.int p3), .val (.long p4), .second, .val (.long wm), .second, .val (.long wn), .second, .val (.long av), .second, .val (.long dv), .second, .val (.long bv), .second, .val (.int (p3 &&& (3 : Int32))), .val (.long xv), .second, .val (.ref b81), .unset, .unset, .unset, .unset, .unset, .unset] [])) _
              refine XS.aload X85.here hx rfl (hb hby at_132) rfl rfl ?_
              exact k
            refine Go.callV X85 hx hZ (W := 0) (argsL := []) (rest := []) hown (wd hw 57 rfl) (wd hw 58 rfl) (notFace_of_selects (args := #[]) (mvT hZ (wd hw 60 rfl))) (wd hw 60 rfl) (wd hw 59 rfl) (wd hw 5 rfl) (wd hw 61 rfl) (by decide) E_b81 (ct_add_0_0 l Z a0 hw w_MS S_MS E_MS F_MS1 F_MS2 b81 ar kA wn av (0 : Int64) (0 : Int64) (0 : Int64) h85 n0 O E_b81 Fi0_85 Fi1_85 Fi2_85 Fi3_85 Fi4_85 V_ar g_b81 g_ar ne_b81_ar) e85 (by rw [hml]; rfl) (lenOf pd___V_8334 rfl) rfl rfl (hb hby at_134) (by decide) (by decide) (by decide) (by decide) ?_
            intro v86 T86 h86 L86 X86 e86 q86
            obtain ⟨rfl, N86, K86, Fi0_86, Fi1_86, Fi2_86, Fi3_86, Fi4_86, V_a86⟩ := q86
            replace N86 := Fr.app N85 N86
            replace E_b81 := E_b81.keep K86
            replace E_b82 := E_b82.keep K86
            replace F0_83 := F0_83.keep K86 (ninS (Ne.symm ne_b81_b82) (ninS ne_b82_ar nin0))
            replace F1_83 := F1_83.keep K86 (ninS (Ne.symm ne_b81_b82) (ninS ne_b82_ar nin0))
            clear Fi0_85
            clear Fi1_85
            clear Fi2_85
            clear Fi3_85
            clear Fi4_85
            clear V_ar
            replace O := O.keep K86 (allS g_b81 (allS g_ar all0))
            have V_ar := V_a86
            show Go p e below _ T86 (mkF m 137 #[.val (.int p0), .val (.long p1), .second, .val (.long p2), .second, .val (.int p3), .val (.long p4), .second, .val (.long wm), .second, .val (.long wn), .second, .val (.long av), .second, .val (.long dv), .second, .val (.long bv), .second, .val (.int (p3 &&& (3 : Int32))), .val (.long xv), .second, .val (.ref b81), .unset, .unset, .unset, .unset, .unset, .unset] [])
            refine Go.by (T' := T86) (g' := (mkF m 141 #[.val (.int p0), .val (.long p1), .second, .val (.long p2), .second, .val (.int p3), .val (.long p4), .second, .val (.long wm), .second, .val (.long wn), .second, .val (.long av), .second, .val (.long dv), .second, .val (.long bv), .second, .val (.int (p3 &&& (3 : Int32))), .val (.long xv), .second, .val (.ref b81), .unset, .unset, .unset, .unset, .unset, .unset] [(.long bv), (.ref b81)])) (fun t k => ?_) ?_
            · show Steps p.tables e below (T86.setTop (mkF m 137 #[.val (.int p0), .val (.long p1), .second, .val (.long p2), .second, .val (.int p3), .val (.long p4), .second, .val (.long wm), .second, .val (.long wn), .second, .val (.long av), .second, .val (.long dv), .second, .val (.long bv), .second, .val (.int (p3 &&& (3 : Int32))), .val (.long xv), .second, .val (.ref b81), .unset, .unset, .unset, .unset, .unset, .unset] [])) _
              refine XS.aload X86.here hx rfl (hb hby at_137) rfl rfl ?_
              show Steps p.tables e below (T86.setTop (mkF m 139 #[.val (.int p0), .val (.long p1), .second, .val (.long p2), .second, .val (.int p3), .val (.long p4), .second, .val (.long wm), .second, .val (.long wn), .second, .val (.long av), .second, .val (.long dv), .second, .val (.long bv), .second, .val (.int (p3 &&& (3 : Int32))), .val (.long xv), .second, .val (.ref b81), .unset, .unset, .unset, .unset, .unset, .unset] [(.ref b81)])) _
              refine XS.lload X86.here hx rfl (hb hby at_139) rfl ?_
              exact k
            refine Go.callV X86 hx hZ (W := 0) (argsL := [(.long bv)]) (rest := []) hown (wd hw 50 rfl) (wd hw 51 rfl) (notFace_of_selects (args := #[]) (mvT hZ (wd hw 53 rfl))) (wd hw 53 rfl) (wd hw 52 rfl) (wd hw 5 rfl) (wd hw 54 rfl) (by decide) E_b81 (ct_move_0_1_1 l Z a0 hw w_MS S_MS E_MS F_MS1 F_MS2 b81 ar kA wn av av (0 : Int64) (0 : Int64) bv h86 n0 O E_b81 Fi0_86 Fi1_86 Fi2_86 Fi3_86 Fi4_86 V_ar g_b81 g_ar ne_b81_ar (own_ge hbv ha hd) (own_k2 hbv ha hd hy29)) e86 (by rw [hml]; rfl) (lenOf pd__J_Z_8741 rfl) rfl rfl (hb hby at_141) (by decide) (by decide) (by decide) (by decide) ?_
            intro v87 T87 h87 L87 X87 e87 q87
            obtain ⟨rfl, N87, K87, Fi0_87, Fi1_87, Fi2_87, Fi3_87, Fi4_87, V_a87⟩ := q87
            replace N87 := Fr.app N86 N87
            replace E_b81 := E_b81.keep K87
            replace E_b82 := E_b82.keep K87
            replace F0_83 := F0_83.keep K87 (ninS (Ne.symm ne_b81_b82) (ninS ne_b82_ar nin0))
            replace F1_83 := F1_83.keep K87 (ninS (Ne.symm ne_b81_b82) (ninS ne_b82_ar nin0))
            clear Fi0_86
            clear Fi1_86
            clear Fi2_86
            clear Fi3_86
            clear Fi4_86
            clear V_ar
            replace O := O.keep K87 (allS g_b81 (allS g_ar all0))
            have V_ar := V_a87
            show Go p e below _ T87 (mkF m 144 #[.val (.int p0), .val (.long p1), .second, .val (.long p2), .second, .val (.int p3), .val (.long p4), .second, .val (.long wm), .second, .val (.long wn), .second, .val (.long av), .second, .val (.long dv), .second, .val (.long bv), .second, .val (.int (p3 &&& (3 : Int32))), .val (.long xv), .second, .val (.ref b81), .unset, .unset, .unset, .unset, .unset, .unset] [(.int (1 : Int32))])
            refine Go.by (T' := T87) (g' := (mkF m 147 #[.val (.int p0), .val (.long p1), .second, .val (.long p2), .second, .val (.int p3), .val (.long p4), .second, .val (.long wm), .second, .val (.long wn), .second, .val (.long av), .second, .val (.long dv), .second, .val (.long bv), .second, .val (.int (p3 &&& (3 : Int32))), .val (.long xv), .second, .val (.ref b81), .unset, .unset, .unset, .unset, .unset, .unset] [(.ref b81)])) (fun t k => ?_) ?_
            · show Steps p.tables e below (T87.setTop (mkF m 144 #[.val (.int p0), .val (.long p1), .second, .val (.long p2), .second, .val (.int p3), .val (.long p4), .second, .val (.long wm), .second, .val (.long wn), .second, .val (.long av), .second, .val (.long dv), .second, .val (.long bv), .second, .val (.int (p3 &&& (3 : Int32))), .val (.long xv), .second, .val (.ref b81), .unset, .unset, .unset, .unset, .unset, .unset] [(.int (1 : Int32))])) _
              refine XS.pop X87.here hx rfl (hb hby at_144) rfl rfl ?_
              show Steps p.tables e below (T87.setTop (mkF m 145 #[.val (.int p0), .val (.long p1), .second, .val (.long p2), .second, .val (.int p3), .val (.long p4), .second, .val (.long wm), .second, .val (.long wn), .second, .val (.long av), .second, .val (.long dv), .second, .val (.long bv), .second, .val (.int (p3 &&& (3 : Int32))), .val (.long xv), .second, .val (.ref b81), .unset, .unset, .unset, .unset, .unset, .unset] [])) _
              refine XS.aload X87.here hx rfl (hb hby at_145) rfl rfl ?_
              exact k
            refine Go.callV X87 hx hZ (W := 0) (argsL := []) (rest := []) hown (wd hw 57 rfl) (wd hw 58 rfl) (notFace_of_selects (args := #[]) (mvT hZ (wd hw 60 rfl))) (wd hw 60 rfl) (wd hw 59 rfl) (wd hw 5 rfl) (wd hw 61 rfl) (by decide) E_b81 (ct_add_1_0 l Z a0 hw w_MS S_MS E_MS F_MS1 F_MS2 b81 ar kA wn bv av (0 : Int64) (0 : Int64) h87 n0 O E_b81 Fi0_87 Fi1_87 Fi2_87 Fi3_87 Fi4_87 V_ar g_b81 g_ar ne_b81_ar) e87 (by rw [hml]; rfl) (lenOf pd___V_8334 rfl) rfl rfl (hb hby at_147) (by decide) (by decide) (by decide) (by decide) ?_
            intro v88 T88 h88 L88 X88 e88 q88
            obtain ⟨rfl, N88, K88, Fi0_88, Fi1_88, Fi2_88, Fi3_88, Fi4_88, V_a88⟩ := q88
            replace N88 := Fr.app N87 N88
            replace E_b81 := E_b81.keep K88
            replace E_b82 := E_b82.keep K88
            replace F0_83 := F0_83.keep K88 (ninS (Ne.symm ne_b81_b82) (ninS ne_b82_ar nin0))
            replace F1_83 := F1_83.keep K88 (ninS (Ne.symm ne_b81_b82) (ninS ne_b82_ar nin0))
            clear Fi0_87
            clear Fi1_87
            clear Fi2_87
            clear Fi3_87
            clear Fi4_87
            clear V_ar
            replace O := O.keep K88 (allS g_b81 (allS g_ar all0))
            have V_ar := V_a88
            show Go p e below _ T88 (mkF m 150 #[.val (.int p0), .val (.long p1), .second, .val (.long p2), .second, .val (.int p3), .val (.long p4), .second, .val (.long wm), .second, .val (.long wn), .second, .val (.long av), .second, .val (.long dv), .second, .val (.long bv), .second, .val (.int (p3 &&& (3 : Int32))), .val (.long xv), .second, .val (.ref b81), .unset, .unset, .unset, .unset, .unset, .unset] [])
            refine Go.by (T' := T88) (g' := (mkF m 154 #[.val (.int p0), .val (.long p1), .second, .val (.long p2), .second, .val (.int p3), .val (.long p4), .second, .val (.long wm), .second, .val (.long wn), .second, .val (.long av), .second, .val (.long dv), .second, .val (.long bv), .second, .val (.int (p3 &&& (3 : Int32))), .val (.long xv), .second, .val (.ref b81), .unset, .unset, .unset, .unset, .unset, .unset] [(.long xv), (.ref b81)])) (fun t k => ?_) ?_
            · show Steps p.tables e below (T88.setTop (mkF m 150 #[.val (.int p0), .val (.long p1), .second, .val (.long p2), .second, .val (.int p3), .val (.long p4), .second, .val (.long wm), .second, .val (.long wn), .second, .val (.long av), .second, .val (.long dv), .second, .val (.long bv), .second, .val (.int (p3 &&& (3 : Int32))), .val (.long xv), .second, .val (.ref b81), .unset, .unset, .unset, .unset, .unset, .unset] [])) _
              refine XS.aload X88.here hx rfl (hb hby at_150) rfl rfl ?_
              show Steps p.tables e below (T88.setTop (mkF m 152 #[.val (.int p0), .val (.long p1), .second, .val (.long p2), .second, .val (.int p3), .val (.long p4), .second, .val (.long wm), .second, .val (.long wn), .second, .val (.long av), .second, .val (.long dv), .second, .val (.long bv), .second, .val (.int (p3 &&& (3 : Int32))), .val (.long xv), .second, .val (.ref b81), .unset, .unset, .unset, .unset, .unset, .unset] [(.ref b81)])) _
              refine XS.lload X88.here hx rfl (hb hby at_152) rfl ?_
              exact k
            refine Go.callV X88 hx hZ (W := 0) (argsL := [(.long xv)]) (rest := []) hown (wd hw 64 rfl) (wd hw 65 rfl) (notFace_of_selects (args := #[]) (mvT hZ (wd hw 67 rfl))) (wd hw 67 rfl) (wd hw 66 rfl) (wd hw 5 rfl) (wd hw 68 rfl) (by decide) E_b81 (ct_remove_1_1_n l Z a0 hw w_MS S_MS E_MS F_MS1 F_MS2 b81 ar kA wn bv av bv (0 : Int64) xv h88 n0 O E_b81 Fi0_88 Fi1_88 Fi2_88 Fi3_88 Fi4_88 V_ar g_b81 g_ar ne_b81_ar (Ne.symm hy68)) e88 (by rw [hml]; rfl) (lenOf pd__J_V_8737 rfl) rfl rfl (hb hby at_154) (by decide) (by decide) (by decide) (by decide) ?_
            intro v89 T89 h89 L89 X89 e89 q89
            obtain ⟨rfl, N89, K89, Fi0_89, Fi1_89, Fi2_89, Fi3_89, Fi4_89, V_a89⟩ := q89
            replace N89 := Fr.app N88 N89
            replace E_b81 := E_b81.keep K89
            replace E_b82 := E_b82.keep K89
            replace F0_83 := F0_83.keep K89 (ninS (Ne.symm ne_b81_b82) (ninS ne_b82_ar nin0))
            replace F1_83 := F1_83.keep K89 (ninS (Ne.symm ne_b81_b82) (ninS ne_b82_ar nin0))
            clear Fi0_88
            clear Fi1_88
            clear Fi2_88
            clear Fi3_88
            clear Fi4_88
            clear V_ar
            replace O := O.keep K89 (allS g_b81 (allS g_ar all0))
            have V_ar := V_a89
            show Go p e below _ T89 (mkF m 157 #[.val (.int p0), .val (.long p1), .second, .val (.long p2), .second, .val (.int p3), .val (.long p4), .second, .val (.long wm), .second, .val (.long wn), .second, .val (.long av), .second, .val (.long dv), .second, .val (.long bv), .second, .val (.int (p3 &&& (3 : Int32))), .val (.long xv), .second, .val (.ref b81), .unset, .unset, .unset, .unset, .unset, .unset] [])
            refine Go.by (T' := T89) (g' := (mkF m 159 #[.val (.int p0), .val (.long p1), .second, .val (.long p2), .second, .val (.int p3), .val (.long p4), .second, .val (.long wm), .second, .val (.long wn), .second, .val (.long av), .second, .val (.long dv), .second, .val (.long bv), .second, .val (.int (p3 &&& (3 : Int32))), .val (.long xv), .second, .val (.ref b81), .unset, .unset, .unset, .unset, .unset, .unset] [(.ref b81)])) (fun t k => ?_) ?_
            · show Steps p.tables e below (T89.setTop (mkF m 157 #[.val (.int p0), .val (.long p1), .second, .val (.long p2), .second, .val (.int p3), .val (.long p4), .second, .val (.long wm), .second, .val (.long wn), .second, .val (.long av), .second, .val (.long dv), .second, .val (.long bv), .second, .val (.int (p3 &&& (3 : Int32))), .val (.long xv), .second, .val (.ref b81), .unset, .unset, .unset, .unset, .unset, .unset] [])) _
              refine XS.aload X89.here hx rfl (hb hby at_157) rfl rfl ?_
              exact k
            refine Go.callV X89 hx hZ (W := 0) (argsL := []) (rest := []) hown (wd hw 69 rfl) (wd hw 70 rfl) (notFace_of_selects (args := #[]) (mvT hZ (wd hw 72 rfl))) (wd hw 72 rfl) (wd hw 71 rfl) (wd hw 5 rfl) (wd hw 73 rfl) (by decide) E_b81 (ct_get_count_l_1___Int32__5 l Z a0 hw  b81 h89 n0 O Fi3_89) e89 (by rw [hml]; rfl) (lenOf pd___I_8321 rfl) rfl rfl (hb hby at_159) (by decide) (by decide) (by decide) (by decide) ?_
            intro v90 T90 h90 L90 X90 e90 q90
            obtain ⟨rfl, N90, rfl⟩ := q90
            replace N90 := Fr.app N89 N90
            show Go p e below _ T90 (mkF m 162 #[.val (.int p0), .val (.long p1), .second, .val (.long p2), .second, .val (.int p3), .val (.long p4), .second, .val (.long wm), .second, .val (.long wn), .second, .val (.long av), .second, .val (.long dv), .second, .val (.long bv), .second, .val (.int (p3 &&& (3 : Int32))), .val (.long xv), .second, .val (.ref b81), .unset, .unset, .unset, .unset, .unset, .unset] [(.int (1 : Int32))])
            refine Go.by (T' := T90) (g' := (mkF m 173 #[.val (.int p0), .val (.long p1), .second, .val (.long p2), .second, .val (.int p3), .val (.long p4), .second, .val (.long wm), .second, .val (.long wn), .second, .val (.long av), .second, .val (.long dv), .second, .val (.long bv), .second, .val (.int (p3 &&& (3 : Int32))), .val (.long xv), .second, .val (.ref b81), .val (.int (1 : Int32)), .unset, .unset, .unset, .unset, .unset] [(.long ((bv + wn) - (1 : Int64))), (.ref b81)])) (fun t k => ?_) ?_
            · show Steps p.tables e below (T90.setTop (mkF m 162 #[.val (.int p0), .val (.long p1), .second, .val (.long p2), .second, .val (.int p3), .val (.long p4), .second, .val (.long wm), .second, .val (.long wn), .second, .val (.long av), .second, .val (.long dv), .second, .val (.long bv), .second, .val (.int (p3 &&& (3 : Int32))), .val (.long xv), .second, .val (.ref b81), .unset, .unset, .unset, .unset, .unset, .unset] [(.int (1 : Int32))])) _
              refine XS.istore X90.here hx rfl (hb hby at_162) rfl (l' := #[.val (.int p0), .val (.long p1), .second, .val (.long p2), .second, .val (.int p3), .val (.long p4), .second, .val (.long wm), .second, .val (.long wn), .second, .val (.long av), .second, .val (.long dv), .second, .val (.long bv), .second, .val (.int (p3 &&& (3 : Int32))), .val (.long xv), .second, .val (.ref b81), .val (.int (1 : Int32)), .unset, .unset, .unset, .unset, .unset]) rfl ?_
              show Steps p.tables e below (T90.setTop (mkF m 164 #[.val (.int p0), .val (.long p1), .second, .val (.long p2), .second, .val (.int p3), .val (.long p4), .second, .val (.long wm), .second, .val (.long wn), .second, .val (.long av), .second, .val (.long dv), .second, .val (.long bv), .second, .val (.int (p3 &&& (3 : Int32))), .val (.long xv), .second, .val (.ref b81), .val (.int (1 : Int32)), .unset, .unset, .unset, .unset, .unset] [])) _
              refine XS.aload X90.here hx rfl (hb hby at_164) rfl rfl ?_
              show Steps p.tables e below (T90.setTop (mkF m 166 #[.val (.int p0), .val (.long p1), .second, .val (.long p2), .second, .val (.int p3), .val (.long p4), .second, .val (.long wm), .second, .val (.long wn), .second, .val (.long av), .second, .val (.long dv), .second, .val (.long bv), .second, .val (.int (p3 &&& (3 : Int32))), .val (.long xv), .second, .val (.ref b81), .val (.int (1 : Int32)), .unset, .unset, .unset, .unset, .unset] [(.ref b81)])) _
              refine XS.lload X90.here hx rfl (hb hby at_166) rfl ?_
              show Steps p.tables e below (T90.setTop (mkF m 168 #[.val (.int p0), .val (.long p1), .second, .val (.long p2), .second, .val (.int p3), .val (.long p4), .second, .val (.long wm), .second, .val (.long wn), .second, .val (.long av), .second, .val (.long dv), .second, .val (.long bv), .second, .val (.int (p3 &&& (3 : Int32))), .val (.long xv), .second, .val (.ref b81), .val (.int (1 : Int32)), .unset, .unset, .unset, .unset, .unset] [(.long bv), (.ref b81)])) _
              refine XS.lload X90.here hx rfl (hb hby at_168) rfl ?_
              show Steps p.tables e below (T90.setTop (mkF m 170 #[.val (.int p0), .val (.long p1), .second, .val (.long p2), .second, .val (.int p3), .val (.long p4), .second, .val (.long wm), .second, .val (.long wn), .second, .val (.long av), .second, .val (.long dv), .second, .val (.long bv), .second, .val (.int (p3 &&& (3 : Int32))), .val (.long xv), .second, .val (.ref b81), .val (.int (1 : Int32)), .unset, .unset, .unset, .unset, .unset] [(.long wn), (.long bv), (.ref b81)])) _
              refine XS.ladd X90.here hx rfl (hb hby at_170) rfl ?_
              show Steps p.tables e below (T90.setTop (mkF m 171 #[.val (.int p0), .val (.long p1), .second, .val (.long p2), .second, .val (.int p3), .val (.long p4), .second, .val (.long wm), .second, .val (.long wn), .second, .val (.long av), .second, .val (.long dv), .second, .val (.long bv), .second, .val (.int (p3 &&& (3 : Int32))), .val (.long xv), .second, .val (.ref b81), .val (.int (1 : Int32)), .unset, .unset, .unset, .unset, .unset] [(.long (bv + wn)), (.ref b81)])) _
              refine XS.lconst X90.here hx rfl (hb hby at_171) ?_
              show Steps p.tables e below (T90.setTop (mkF m 172 #[.val (.int p0), .val (.long p1), .second, .val (.long p2), .second, .val (.int p3), .val (.long p4), .second, .val (.long wm), .second, .val (.long wn), .second, .val (.long av), .second, .val (.long dv), .second, .val (.long bv), .second, .val (.int (p3 &&& (3 : Int32))), .val (.long xv), .second, .val (.ref b81), .val (.int (1 : Int32)), .unset, .unset, .unset, .unset, .unset] [(.long (1 : Int64)), (.long (bv + wn)), (.ref b81)])) _
              refine XS.lsub X90.here hx rfl (hb hby at_172) rfl ?_
              exact k
            refine Go.callV X90 hx hZ (W := 0) (argsL := [(.long ((bv + wn) - (1 : Int64)))]) (rest := []) hown (wd hw 50 rfl) (wd hw 51 rfl) (notFace_of_selects (args := #[]) (mvT hZ (wd hw 53 rfl))) (wd hw 53 rfl) (wd hw 52 rfl) (wd hw 5 rfl) (wd hw 54 rfl) (by decide) E_b81 (ct_move_1_1_0 l Z a0 hw w_MS S_MS E_MS F_MS1 F_MS2 b81 ar kA wn bv av bv (0 : Int64) ((bv + wn) - (1 : Int64)) h89 n0 O E_b81 Fi0_89 Fi1_89 Fi2_89 Fi3_89 Fi4_89 V_ar g_b81 g_ar ne_b81_ar (own_t3 hbv ha hd hwr) (own_s1 hbv ha hd hwr)) e90 (by rw [hml]; rfl) (lenOf pd__J_Z_8741 rfl) rfl rfl (hb hby at_173) (by decide) (by decide) (by decide) (by decide) ?_
            intro v91 T91 h91 L91 X91 e91 q91
            obtain ⟨rfl, N91, K91, Fi0_91, Fi1_91, Fi2_91, Fi3_91, Fi4_91, V_a91⟩ := q91
            replace N91 := Fr.app N90 N91
            replace E_b81 := E_b81.keep K91
            replace E_b82 := E_b82.keep K91
            replace F0_83 := F0_83.keep K91 (ninS (Ne.symm ne_b81_b82) (ninS ne_b82_ar nin0))
            replace F1_83 := F1_83.keep K91 (ninS (Ne.symm ne_b81_b82) (ninS ne_b82_ar nin0))
            clear Fi0_89
            clear Fi1_89
            clear Fi2_89
            clear Fi3_89
            clear Fi4_89
            clear V_ar
            replace O := O.keep K91 (allS g_b81 (allS g_ar all0))
            have V_ar := V_a91
            show Go p e below _ T91 (mkF m 176 #[.val (.int p0), .val (.long p1), .second, .val (.long p2), .second, .val (.int p3), .val (.long p4), .second, .val (.long wm), .second, .val (.long wn), .second, .val (.long av), .second, .val (.long dv), .second, .val (.long bv), .second, .val (.int (p3 &&& (3 : Int32))), .val (.long xv), .second, .val (.ref b81), .val (.int (1 : Int32)), .unset, .unset, .unset, .unset, .unset] [(.int (1 : Int32))])
            refine Go.by (T' := T91) (g' := (mkF m 180 #[.val (.int p0), .val (.long p1), .second, .val (.long p2), .second, .val (.int p3), .val (.long p4), .second, .val (.long wm), .second, .val (.long wn), .second, .val (.long av), .second, .val (.long dv), .second, .val (.long bv), .second, .val (.int (p3 &&& (3 : Int32))), .val (.long xv), .second, .val (.ref b81), .val (.int (1 : Int32)), .val (.int (1 : Int32)), .unset, .unset, .unset, .unset] [(.ref b81)])) (fun t k => ?_) ?_
            · show Steps p.tables e below (T91.setTop (mkF m 176 #[.val (.int p0), .val (.long p1), .second, .val (.long p2), .second, .val (.int p3), .val (.long p4), .second, .val (.long wm), .second, .val (.long wn), .second, .val (.long av), .second, .val (.long dv), .second, .val (.long bv), .second, .val (.int (p3 &&& (3 : Int32))), .val (.long xv), .second, .val (.ref b81), .val (.int (1 : Int32)), .unset, .unset, .unset, .unset, .unset] [(.int (1 : Int32))])) _
              refine XS.istore X91.here hx rfl (hb hby at_176) rfl (l' := #[.val (.int p0), .val (.long p1), .second, .val (.long p2), .second, .val (.int p3), .val (.long p4), .second, .val (.long wm), .second, .val (.long wn), .second, .val (.long av), .second, .val (.long dv), .second, .val (.long bv), .second, .val (.int (p3 &&& (3 : Int32))), .val (.long xv), .second, .val (.ref b81), .val (.int (1 : Int32)), .val (.int (1 : Int32)), .unset, .unset, .unset, .unset]) rfl ?_
              show Steps p.tables e below (T91.setTop (mkF m 178 #[.val (.int p0), .val (.long p1), .second, .val (.long p2), .second, .val (.int p3), .val (.long p4), .second, .val (.long wm), .second, .val (.long wn), .second, .val (.long av), .second, .val (.long dv), .second, .val (.long bv), .second, .val (.int (p3 &&& (3 : Int32))), .val (.long xv), .second, .val (.ref b81), .val (.int (1 : Int32)), .val (.int (1 : Int32)), .unset, .unset, .unset, .unset] [])) _
              refine XS.aload X91.here hx rfl (hb hby at_178) rfl rfl ?_
              exact k
            refine Go.callV X91 hx hZ (W := 0) (argsL := []) (rest := []) hown (wd hw 69 rfl) (wd hw 70 rfl) (notFace_of_selects (args := #[]) (mvT hZ (wd hw 72 rfl))) (wd hw 72 rfl) (wd hw 71 rfl) (wd hw 5 rfl) (wd hw 73 rfl) (by decide) E_b81 (ct_get_count_l_1___Int32__5 l Z a0 hw  b81 h91 n0 O Fi3_91) e91 (by rw [hml]; rfl) (lenOf pd___I_8321 rfl) rfl rfl (hb hby at_180) (by decide) (by decide) (by decide) (by decide) ?_
            intro v92 T92 h92 L92 X92 e92 q92
            obtain ⟨rfl, N92, rfl⟩ := q92
            replace N92 := Fr.app N91 N92
            show Go p e below _ T92 (mkF m 183 #[.val (.int p0), .val (.long p1), .second, .val (.long p2), .second, .val (.int p3), .val (.long p4), .second, .val (.long wm), .second, .val (.long wn), .second, .val (.long av), .second, .val (.long dv), .second, .val (.long bv), .second, .val (.int (p3 &&& (3 : Int32))), .val (.long xv), .second, .val (.ref b81), .val (.int (1 : Int32)), .val (.int (1 : Int32)), .unset, .unset, .unset, .unset] [(.int (1 : Int32))])
            refine Go.by (T' := T92) (g' := (mkF m 260 #[.val (.int p0), .val (.long p1), .second, .val (.long p2), .second, .val (.int p3), .val (.long p4), .second, .val (.long wm), .second, .val (.long wn), .second, .val (.long av), .second, .val (.long dv), .second, .val (.long bv), .second, .val (.int (p3 &&& (3 : Int32))), .val (.long xv), .second, .val (.ref b81), .val (.int (1 : Int32)), .val (.int (1 : Int32)), .val (.int (1 : Int32)), .val (.int (0 : Int32)), .val (.int (0 : Int32)), .val (.int (1 : Int32))] [(.int (lcmpW xv av))])) (fun t k => ?_) ?_
            · show Steps p.tables e below (T92.setTop (mkF m 183 #[.val (.int p0), .val (.long p1), .second, .val (.long p2), .second, .val (.int p3), .val (.long p4), .second, .val (.long wm), .second, .val (.long wn), .second, .val (.long av), .second, .val (.long dv), .second, .val (.long bv), .second, .val (.int (p3 &&& (3 : Int32))), .val (.long xv), .second, .val (.ref b81), .val (.int (1 : Int32)), .val (.int (1 : Int32)), .unset, .unset, .unset, .unset] [(.int (1 : Int32))])) _
              refine XS.istore X92.here hx rfl (hb hby at_183) rfl (l' := #[.val (.int p0), .val (.long p1), .second, .val (.long p2), .second, .val (.int p3), .val (.long p4), .second, .val (.long wm), .second, .val (.long wn), .second, .val (.long av), .second, .val (.long dv), .second, .val (.long bv), .second, .val (.int (p3 &&& (3 : Int32))), .val (.long xv), .second, .val (.ref b81), .val (.int (1 : Int32)), .val (.int (1 : Int32)), .val (.int (1 : Int32)), .unset, .unset, .unset]) rfl ?_
              show Steps p.tables e below (T92.setTop (mkF m 185 #[.val (.int p0), .val (.long p1), .second, .val (.long p2), .second, .val (.int p3), .val (.long p4), .second, .val (.long wm), .second, .val (.long wn), .second, .val (.long av), .second, .val (.long dv), .second, .val (.long bv), .second, .val (.int (p3 &&& (3 : Int32))), .val (.long xv), .second, .val (.ref b81), .val (.int (1 : Int32)), .val (.int (1 : Int32)), .val (.int (1 : Int32)), .unset, .unset, .unset] [])) _
              refine XS.lload X92.here hx rfl (hb hby at_185) rfl ?_
              show Steps p.tables e below (T92.setTop (mkF m 187 #[.val (.int p0), .val (.long p1), .second, .val (.long p2), .second, .val (.int p3), .val (.long p4), .second, .val (.long wm), .second, .val (.long wn), .second, .val (.long av), .second, .val (.long dv), .second, .val (.long bv), .second, .val (.int (p3 &&& (3 : Int32))), .val (.long xv), .second, .val (.ref b81), .val (.int (1 : Int32)), .val (.int (1 : Int32)), .val (.int (1 : Int32)), .unset, .unset, .unset] [(.long dv)])) _
              refine XS.lload X92.here hx rfl (hb hby at_187) rfl ?_
              show Steps p.tables e below (T92.setTop (mkF m 189 #[.val (.int p0), .val (.long p1), .second, .val (.long p2), .second, .val (.int p3), .val (.long p4), .second, .val (.long wm), .second, .val (.long wn), .second, .val (.long av), .second, .val (.long dv), .second, .val (.long bv), .second, .val (.int (p3 &&& (3 : Int32))), .val (.long xv), .second, .val (.ref b81), .val (.int (1 : Int32)), .val (.int (1 : Int32)), .val (.int (1 : Int32)), .unset, .unset, .unset] [(.long wn), (.long dv)])) _
              refine XS.lcmp X92.here hx rfl (hb hby at_189) rfl ?_
              show Steps p.tables e below (T92.setTop (mkF m 190 #[.val (.int p0), .val (.long p1), .second, .val (.long p2), .second, .val (.int p3), .val (.long p4), .second, .val (.long wm), .second, .val (.long wn), .second, .val (.long av), .second, .val (.long dv), .second, .val (.long bv), .second, .val (.int (p3 &&& (3 : Int32))), .val (.long xv), .second, .val (.ref b81), .val (.int (1 : Int32)), .val (.int (1 : Int32)), .val (.int (1 : Int32)), .unset, .unset, .unset] [(.int (lcmpW dv wn))])) _
              refine XS.ifYes X92.here hx rfl (pc0 := 190) (pc' := 197) rfl (hb hby at_190) rfl ((if0 _ _).trans (flt (fun q => hy29 ((lw_lt _ _).mp q))).2.1) (by decide) (by decide) ?_
              show Steps p.tables e below (T92.setTop (mkF m 197 #[.val (.int p0), .val (.long p1), .second, .val (.long p2), .second, .val (.int p3), .val (.long p4), .second, .val (.long wm), .second, .val (.long wn), .second, .val (.long av), .second, .val (.long dv), .second, .val (.long bv), .second, .val (.int (p3 &&& (3 : Int32))), .val (.long xv), .second, .val (.ref b81), .val (.int (1 : Int32)), .val (.int (1 : Int32)), .val (.int (1 : Int32)), .unset, .unset, .unset] [])) _
              refine XS.iconst X92.here hx rfl (hb hby at_197) ?_
              show Steps p.tables e below (T92.setTop (mkF m 198 #[.val (.int p0), .val (.long p1), .second, .val (.long p2), .second, .val (.int p3), .val (.long p4), .second, .val (.long wm), .second, .val (.long wn), .second, .val (.long av), .second, .val (.long dv), .second, .val (.long bv), .second, .val (.int (p3 &&& (3 : Int32))), .val (.long xv), .second, .val (.ref b81), .val (.int (1 : Int32)), .val (.int (1 : Int32)), .val (.int (1 : Int32)), .unset, .unset, .unset] [(.int (0 : Int32))])) _
              refine XS.istore X92.here hx rfl (hb hby at_198) rfl (l' := #[.val (.int p0), .val (.long p1), .second, .val (.long p2), .second, .val (.int p3), .val (.long p4), .second, .val (.long wm), .second, .val (.long wn), .second, .val (.long av), .second, .val (.long dv), .second, .val (.long bv), .second, .val (.int (p3 &&& (3 : Int32))), .val (.long xv), .second, .val (.ref b81), .val (.int (1 : Int32)), .val (.int (1 : Int32)), .val (.int (1 : Int32)), .val (.int (0 : Int32)), .unset, .unset]) rfl ?_
              show Steps p.tables e below (T92.setTop (mkF m 200 #[.val (.int p0), .val (.long p1), .second, .val (.long p2), .second, .val (.int p3), .val (.long p4), .second, .val (.long wm), .second, .val (.long wn), .second, .val (.long av), .second, .val (.long dv), .second, .val (.long bv), .second, .val (.int (p3 &&& (3 : Int32))), .val (.long xv), .second, .val (.ref b81), .val (.int (1 : Int32)), .val (.int (1 : Int32)), .val (.int (1 : Int32)), .val (.int (0 : Int32)), .unset, .unset] [])) _
              refine XS.iload X92.here hx rfl (hb hby at_200) rfl ?_
              show Steps p.tables e below (T92.setTop (mkF m 202 #[.val (.int p0), .val (.long p1), .second, .val (.long p2), .second, .val (.int p3), .val (.long p4), .second, .val (.long wm), .second, .val (.long wn), .second, .val (.long av), .second, .val (.long dv), .second, .val (.long bv), .second, .val (.int (p3 &&& (3 : Int32))), .val (.long xv), .second, .val (.ref b81), .val (.int (1 : Int32)), .val (.int (1 : Int32)), .val (.int (1 : Int32)), .val (.int (0 : Int32)), .unset, .unset] [(.int (0 : Int32))])) _
              refine XS.ifYes X92.here hx rfl (pc0 := 202) (pc' := 216) rfl (hb hby at_202) rfl ((if0 _ _).trans (teq (by decide : (0 : Int32) = (0 : Int32))).1) (by decide) (by decide) ?_
              show Steps p.tables e below (T92.setTop (mkF m 216 #[.val (.int p0), .val (.long p1), .second, .val (.long p2), .second, .val (.int p3), .val (.long p4), .second, .val (.long wm), .second, .val (.long wn), .second, .val (.long av), .second, .val (.long dv), .second, .val (.long bv), .second, .val (.int (p3 &&& (3 : Int32))), .val (.long xv), .second, .val (.ref b81), .val (.int (1 : Int32)), .val (.int (1 : Int32)), .val (.int (1 : Int32)), .val (.int (0 : Int32)), .unset, .unset] [])) _
              refine XS.iconst X92.here hx rfl (hb hby at_216) ?_
              show Steps p.tables e below (T92.setTop (mkF m 217 #[.val (.int p0), .val (.long p1), .second, .val (.long p2), .second, .val (.int p3), .val (.long p4), .second, .val (.long wm), .second, .val (.long wn), .second, .val (.long av), .second, .val (.long dv), .second, .val (.long bv), .second, .val (.int (p3 &&& (3 : Int32))), .val (.long xv), .second, .val (.ref b81), .val (.int (1 : Int32)), .val (.int (1 : Int32)), .val (.int (1 : Int32)), .val (.int (0 : Int32)), .unset, .unset] [(.int (0 : Int32))])) _
              refine XS.istore X92.here hx rfl (hb hby at_217) rfl (l' := #[.val (.int p0), .val (.long p1), .second, .val (.long p2), .second, .val (.int p3), .val (.long p4), .second, .val (.long wm), .second, .val (.long wn), .second, .val (.long av), .second, .val (.long dv), .second, .val (.long bv), .second, .val (.int (p3 &&& (3 : Int32))), .val (.long xv), .second, .val (.ref b81), .val (.int (1 : Int32)), .val (.int (1 : Int32)), .val (.int (1 : Int32)), .val (.int (0 : Int32)), .val (.int (0 : Int32)), .unset]) rfl ?_
              show Steps p.tables e below (T92.setTop (mkF m 219 #[.val (.int p0), .val (.long p1), .second, .val (.long p2), .second, .val (.int p3), .val (.long p4), .second, .val (.long wm), .second, .val (.long wn), .second, .val (.long av), .second, .val (.long dv), .second, .val (.long bv), .second, .val (.int (p3 &&& (3 : Int32))), .val (.long xv), .second, .val (.ref b81), .val (.int (1 : Int32)), .val (.int (1 : Int32)), .val (.int (1 : Int32)), .val (.int (0 : Int32)), .val (.int (0 : Int32)), .unset] [])) _
              refine XS.iload X92.here hx rfl (hb hby at_219) rfl ?_
              show Steps p.tables e below (T92.setTop (mkF m 221 #[.val (.int p0), .val (.long p1), .second, .val (.long p2), .second, .val (.int p3), .val (.long p4), .second, .val (.long wm), .second, .val (.long wn), .second, .val (.long av), .second, .val (.long dv), .second, .val (.long bv), .second, .val (.int (p3 &&& (3 : Int32))), .val (.long xv), .second, .val (.ref b81), .val (.int (1 : Int32)), .val (.int (1 : Int32)), .val (.int (1 : Int32)), .val (.int (0 : Int32)), .val (.int (0 : Int32)), .unset] [(.int (0 : Int32))])) _
              refine XS.ifYes X92.here hx rfl (pc0 := 221) (pc' := 235) rfl (hb hby at_221) rfl ((if0 _ _).trans (teq (by decide : (0 : Int32) = (0 : Int32))).1) (by decide) (by decide) ?_
              show Steps p.tables e below (T92.setTop (mkF m 235 #[.val (.int p0), .val (.long p1), .second, .val (.long p2), .second, .val (.int p3), .val (.long p4), .second, .val (.long wm), .second, .val (.long wn), .second, .val (.long av), .second, .val (.long dv), .second, .val (.long bv), .second, .val (.int (p3 &&& (3 : Int32))), .val (.long xv), .second, .val (.ref b81), .val (.int (1 : Int32)), .val (.int (1 : Int32)), .val (.int (1 : Int32)), .val (.int (0 : Int32)), .val (.int (0 : Int32)), .unset] [])) _
              refine XS.iconst X92.here hx rfl (hb hby at_235) ?_
              show Steps p.tables e below (T92.setTop (mkF m 236 #[.val (.int p0), .val (.long p1), .second, .val (.long p2), .second, .val (.int p3), .val (.long p4), .second, .val (.long wm), .second, .val (.long wn), .second, .val (.long av), .second, .val (.long dv), .second, .val (.long bv), .second, .val (.int (p3 &&& (3 : Int32))), .val (.long xv), .second, .val (.ref b81), .val (.int (1 : Int32)), .val (.int (1 : Int32)), .val (.int (1 : Int32)), .val (.int (0 : Int32)), .val (.int (0 : Int32)), .unset] [(.int (1 : Int32))])) _
              refine XS.istore X92.here hx rfl (hb hby at_236) rfl (l' := #[.val (.int p0), .val (.long p1), .second, .val (.long p2), .second, .val (.int p3), .val (.long p4), .second, .val (.long wm), .second, .val (.long wn), .second, .val (.long av), .second, .val (.long dv), .second, .val (.long bv), .second, .val (.int (p3 &&& (3 : Int32))), .val (.long xv), .second, .val (.ref b81), .val (.int (1 : Int32)), .val (.int (1 : Int32)), .val (.int (1 : Int32)), .val (.int (0 : Int32)), .val (.int (0 : Int32)), .val (.int (1 : Int32))]) rfl ?_
              show Steps p.tables e below (T92.setTop (mkF m 238 #[.val (.int p0), .val (.long p1), .second, .val (.long p2), .second, .val (.int p3), .val (.long p4), .second, .val (.long wm), .second, .val (.long wn), .second, .val (.long av), .second, .val (.long dv), .second, .val (.long bv), .second, .val (.int (p3 &&& (3 : Int32))), .val (.long xv), .second, .val (.ref b81), .val (.int (1 : Int32)), .val (.int (1 : Int32)), .val (.int (1 : Int32)), .val (.int (0 : Int32)), .val (.int (0 : Int32)), .val (.int (1 : Int32))] [])) _
              refine XS.lload X92.here hx rfl (hb hby at_238) rfl ?_
              show Steps p.tables e below (T92.setTop (mkF m 240 #[.val (.int p0), .val (.long p1), .second, .val (.long p2), .second, .val (.int p3), .val (.long p4), .second, .val (.long wm), .second, .val (.long wn), .second, .val (.long av), .second, .val (.long dv), .second, .val (.long bv), .second, .val (.int (p3 &&& (3 : Int32))), .val (.long xv), .second, .val (.ref b81), .val (.int (1 : Int32)), .val (.int (1 : Int32)), .val (.int (1 : Int32)), .val (.int (0 : Int32)), .val (.int (0 : Int32)), .val (.int (1 : Int32))] [(.long xv)])) _
              refine XS.lload X92.here hx rfl (hb hby at_240) rfl ?_
              show Steps p.tables e below (T92.setTop (mkF m 242 #[.val (.int p0), .val (.long p1), .second, .val (.long p2), .second, .val (.int p3), .val (.long p4), .second, .val (.long wm), .second, .val (.long wn), .second, .val (.long av), .second, .val (.long dv), .second, .val (.long bv), .second, .val (.int (p3 &&& (3 : Int32))), .val (.long xv), .second, .val (.ref b81), .val (.int (1 : Int32)), .val (.int (1 : Int32)), .val (.int (1 : Int32)), .val (.int (0 : Int32)), .val (.int (0 : Int32)), .val (.int (1 : Int32))] [(.long bv), (.long xv)])) _
              refine XS.lcmp X92.here hx rfl (hb hby at_242) rfl ?_
              show Steps p.tables e below (T92.setTop (mkF m 243 #[.val (.int p0), .val (.long p1), .second, .val (.long p2), .second, .val (.int p3), .val (.long p4), .second, .val (.long wm), .second, .val (.long wn), .second, .val (.long av), .second, .val (.long dv), .second, .val (.long bv), .second, .val (.int (p3 &&& (3 : Int32))), .val (.long xv), .second, .val (.ref b81), .val (.int (1 : Int32)), .val (.int (1 : Int32)), .val (.int (1 : Int32)), .val (.int (0 : Int32)), .val (.int (0 : Int32)), .val (.int (1 : Int32))] [(.int (lcmpW xv bv))])) _
              refine XS.ifYes X92.here hx rfl (pc0 := 243) (pc' := 255) rfl (hb hby at_243) rfl ((if0 _ _).trans (feq (fun q => hy68 ((lw_eq _ _).mp q))).2) (by decide) (by decide) ?_
              show Steps p.tables e below (T92.setTop (mkF m 255 #[.val (.int p0), .val (.long p1), .second, .val (.long p2), .second, .val (.int p3), .val (.long p4), .second, .val (.long wm), .second, .val (.long wn), .second, .val (.long av), .second, .val (.long dv), .second, .val (.long bv), .second, .val (.int (p3 &&& (3 : Int32))), .val (.long xv), .second, .val (.ref b81), .val (.int (1 : Int32)), .val (.int (1 : Int32)), .val (.int (1 : Int32)), .val (.int (0 : Int32)), .val (.int (0 : Int32)), .val (.int (1 : Int32))] [])) _
              refine XS.lload X92.here hx rfl (hb hby at_255) rfl ?_
              show Steps p.tables e below (T92.setTop (mkF m 257 #[.val (.int p0), .val (.long p1), .second, .val (.long p2), .second, .val (.int p3), .val (.long p4), .second, .val (.long wm), .second, .val (.long wn), .second, .val (.long av), .second, .val (.long dv), .second, .val (.long bv), .second, .val (.int (p3 &&& (3 : Int32))), .val (.long xv), .second, .val (.ref b81), .val (.int (1 : Int32)), .val (.int (1 : Int32)), .val (.int (1 : Int32)), .val (.int (0 : Int32)), .val (.int (0 : Int32)), .val (.int (1 : Int32))] [(.long xv)])) _
              refine XS.lload X92.here hx rfl (hb hby at_257) rfl ?_
              show Steps p.tables e below (T92.setTop (mkF m 259 #[.val (.int p0), .val (.long p1), .second, .val (.long p2), .second, .val (.int p3), .val (.long p4), .second, .val (.long wm), .second, .val (.long wn), .second, .val (.long av), .second, .val (.long dv), .second, .val (.long bv), .second, .val (.int (p3 &&& (3 : Int32))), .val (.long xv), .second, .val (.ref b81), .val (.int (1 : Int32)), .val (.int (1 : Int32)), .val (.int (1 : Int32)), .val (.int (0 : Int32)), .val (.int (0 : Int32)), .val (.int (1 : Int32))] [(.long av), (.long xv)])) _
              refine XS.lcmp X92.here hx rfl (hb hby at_259) rfl ?_
              exact k
            by_cases hy93 : xv = av
            · skip
              refine Go.by (T' := T92) (g' := (mkF m 299 #[.val (.int p0), .val (.long p1), .second, .val (.long p2), .second, .val (.int p3), .val (.long p4), .second, .val (.long wm), .second, .val (.long wn), .second, .val (.long av), .second, .val (.long dv), .second, .val (.long bv), .second, .val (.int (p3 &&& (3 : Int32))), .val (.long xv), .second, .val (.ref b81), .val (.int (1 : Int32)), .val (.int (1 : Int32)), .val (.int (1 : Int32)), .val (.int (0 : Int32)), .val (.int (0 : Int32)), .val (.int (1 : Int32))] [(.int (1 : Int32))])) (fun t k => ?_) ?_
              · show Steps p.tables e below (T92.setTop (mkF m 260 #[.val (.int p0), .val (.long p1), .second, .val (.long p2), .second, .val (.int p3), .val (.long p4), .second, .val (.long wm), .second, .val (.long wn), .second, .val (.long av), .second, .val (.long dv), .second, .val (.long bv), .second, .val (.int (p3 &&& (3 : Int32))), .val (.long xv), .second, .val (.ref b81), .val (.int (1 : Int32)), .val (.int (1 : Int32)), .val (.int (1 : Int32)), .val (.int (0 : Int32)), .val (.int (0 : Int32)), .val (.int (1 : Int32))] [(.int (lcmpW xv av))])) _
                refine XS.ifNo X92.here hx rfl (hb hby at_260) rfl ((if0 _ _).trans (teq ((lw_eq _ _).mpr hy93)).2) ?_
                show Steps p.tables e below (T92.setTop (mkF m 263 #[.val (.int p0), .val (.long p1), .second, .val (.long p2), .second, .val (.int p3), .val (.long p4), .second, .val (.long wm), .second, .val (.long wn), .second, .val (.long av), .second, .val (.long dv), .second, .val (.long bv), .second, .val (.int (p3 &&& (3 : Int32))), .val (.long xv), .second, .val (.ref b81), .val (.int (1 : Int32)), .val (.int (1 : Int32)), .val (.int (1 : Int32)), .val (.int (0 : Int32)), .val (.int (0 : Int32)), .val (.int (1 : Int32))] [])) _
                refine XS.iload X92.here hx rfl (hb hby at_263) rfl ?_
                show Steps p.tables e below (T92.setTop (mkF m 265 #[.val (.int p0), .val (.long p1), .second, .val (.long p2), .second, .val (.int p3), .val (.long p4), .second, .val (.long wm), .second, .val (.long wn), .second, .val (.long av), .second, .val (.long dv), .second, .val (.long bv), .second, .val (.int (p3 &&& (3 : Int32))), .val (.long xv), .second, .val (.ref b81), .val (.int (1 : Int32)), .val (.int (1 : Int32)), .val (.int (1 : Int32)), .val (.int (0 : Int32)), .val (.int (0 : Int32)), .val (.int (1 : Int32))] [(.int (0 : Int32))])) _
                refine XS.iconst X92.here hx rfl (hb hby at_265) ?_
                show Steps p.tables e below (T92.setTop (mkF m 266 #[.val (.int p0), .val (.long p1), .second, .val (.long p2), .second, .val (.int p3), .val (.long p4), .second, .val (.long wm), .second, .val (.long wn), .second, .val (.long av), .second, .val (.long dv), .second, .val (.long bv), .second, .val (.int (p3 &&& (3 : Int32))), .val (.long xv), .second, .val (.ref b81), .val (.int (1 : Int32)), .val (.int (1 : Int32)), .val (.int (1 : Int32)), .val (.int (0 : Int32)), .val (.int (0 : Int32)), .val (.int (1 : Int32))] [(.int (1 : Int32)), (.int (0 : Int32))])) _
                refine XS.icmpYes X92.here hx rfl (pc0 := 266) (pc' := 272) rfl (hb hby at_266) rfl (feq (by decide : ¬ (0 : Int32) = (1 : Int32))).2 (by decide) (by decide) ?_
                show Steps p.tables e below (T92.setTop (mkF m 272 #[.val (.int p0), .val (.long p1), .second, .val (.long p2), .second, .val (.int p3), .val (.long p4), .second, .val (.long wm), .second, .val (.long wn), .second, .val (.long av), .second, .val (.long dv), .second, .val (.long bv), .second, .val (.int (p3 &&& (3 : Int32))), .val (.long xv), .second, .val (.ref b81), .val (.int (1 : Int32)), .val (.int (1 : Int32)), .val (.int (1 : Int32)), .val (.int (0 : Int32)), .val (.int (0 : Int32)), .val (.int (1 : Int32))] [])) _
                refine XS.iload X92.here hx rfl (hb hby at_272) rfl ?_
                show Steps p.tables e below (T92.setTop (mkF m 274 #[.val (.int p0), .val (.long p1), .second, .val (.long p2), .second, .val (.int p3), .val (.long p4), .second, .val (.long wm), .second, .val (.long wn), .second, .val (.long av), .second, .val (.long dv), .second, .val (.long bv), .second, .val (.int (p3 &&& (3 : Int32))), .val (.long xv), .second, .val (.ref b81), .val (.int (1 : Int32)), .val (.int (1 : Int32)), .val (.int (1 : Int32)), .val (.int (0 : Int32)), .val (.int (0 : Int32)), .val (.int (1 : Int32))] [(.int (1 : Int32))])) _
                refine XS.ifNo X92.here hx rfl (hb hby at_274) rfl ((if0 _ _).trans (feq (by decide : ¬ (1 : Int32) = (0 : Int32))).1) ?_
                show Steps p.tables e below (T92.setTop (mkF m 277 #[.val (.int p0), .val (.long p1), .second, .val (.long p2), .second, .val (.int p3), .val (.long p4), .second, .val (.long wm), .second, .val (.long wn), .second, .val (.long av), .second, .val (.long dv), .second, .val (.long bv), .second, .val (.int (p3 &&& (3 : Int32))), .val (.long xv), .second, .val (.ref b81), .val (.int (1 : Int32)), .val (.int (1 : Int32)), .val (.int (1 : Int32)), .val (.int (0 : Int32)), .val (.int (0 : Int32)), .val (.int (1 : Int32))] [])) _
                refine XS.iload X92.here hx rfl (hb hby at_277) rfl ?_
                show Steps p.tables e below (T92.setTop (mkF m 279 #[.val (.int p0), .val (.long p1), .second, .val (.long p2), .second, .val (.int p3), .val (.long p4), .second, .val (.long wm), .second, .val (.long wn), .second, .val (.long av), .second, .val (.long dv), .second, .val (.long bv), .second, .val (.int (p3 &&& (3 : Int32))), .val (.long xv), .second, .val (.ref b81), .val (.int (1 : Int32)), .val (.int (1 : Int32)), .val (.int (1 : Int32)), .val (.int (0 : Int32)), .val (.int (0 : Int32)), .val (.int (1 : Int32))] [(.int (1 : Int32))])) _
                refine XS.iload X92.here hx rfl (hb hby at_279) rfl ?_
                show Steps p.tables e below (T92.setTop (mkF m 281 #[.val (.int p0), .val (.long p1), .second, .val (.long p2), .second, .val (.int p3), .val (.long p4), .second, .val (.long wm), .second, .val (.long wn), .second, .val (.long av), .second, .val (.long dv), .second, .val (.long bv), .second, .val (.int (p3 &&& (3 : Int32))), .val (.long xv), .second, .val (.ref b81), .val (.int (1 : Int32)), .val (.int (1 : Int32)), .val (.int (1 : Int32)), .val (.int (0 : Int32)), .val (.int (0 : Int32)), .val (.int (1 : Int32))] [(.int (0 : Int32)), (.int (1 : Int32))])) _
                refine XS.iload X92.here hx rfl (hb hby at_281) rfl ?_
                show Steps p.tables e below (T92.setTop (mkF m 283 #[.val (.int p0), .val (.long p1), .second, .val (.long p2), .second, .val (.int p3), .val (.long p4), .second, .val (.long wm), .second, .val (.long wn), .second, .val (.long av), .second, .val (.long dv), .second, .val (.long bv), .second, .val (.int (p3 &&& (3 : Int32))), .val (.long xv), .second, .val (.ref b81), .val (.int (1 : Int32)), .val (.int (1 : Int32)), .val (.int (1 : Int32)), .val (.int (0 : Int32)), .val (.int (0 : Int32)), .val (.int (1 : Int32))] [(.int (1 : Int32)), (.int (0 : Int32)), (.int (1 : Int32))])) _
                refine XS.iadd X92.here hx rfl (hb hby at_283) rfl ?_
                show Steps p.tables e below (T92.setTop (mkF m 284 #[.val (.int p0), .val (.long p1), .second, .val (.long p2), .second, .val (.int p3), .val (.long p4), .second, .val (.long wm), .second, .val (.long wn), .second, .val (.long av), .second, .val (.long dv), .second, .val (.long bv), .second, .val (.int (p3 &&& (3 : Int32))), .val (.long xv), .second, .val (.ref b81), .val (.int (1 : Int32)), .val (.int (1 : Int32)), .val (.int (1 : Int32)), .val (.int (0 : Int32)), .val (.int (0 : Int32)), .val (.int (1 : Int32))] [(.int (1 : Int32)), (.int (1 : Int32))])) _
                refine XS.icmpNo X92.here hx rfl (hb hby at_284) rfl (teq (by decide : (1 : Int32) = (1 : Int32))).2 ?_
                show Steps p.tables e below (T92.setTop (mkF m 287 #[.val (.int p0), .val (.long p1), .second, .val (.long p2), .second, .val (.int p3), .val (.long p4), .second, .val (.long wm), .second, .val (.long wn), .second, .val (.long av), .second, .val (.long dv), .second, .val (.long bv), .second, .val (.int (p3 &&& (3 : Int32))), .val (.long xv), .second, .val (.ref b81), .val (.int (1 : Int32)), .val (.int (1 : Int32)), .val (.int (1 : Int32)), .val (.int (0 : Int32)), .val (.int (0 : Int32)), .val (.int (1 : Int32))] [])) _
                refine XS.iload X92.here hx rfl (hb hby at_287) rfl ?_
                show Steps p.tables e below (T92.setTop (mkF m 289 #[.val (.int p0), .val (.long p1), .second, .val (.long p2), .second, .val (.int p3), .val (.long p4), .second, .val (.long wm), .second, .val (.long wn), .second, .val (.long av), .second, .val (.long dv), .second, .val (.long bv), .second, .val (.int (p3 &&& (3 : Int32))), .val (.long xv), .second, .val (.ref b81), .val (.int (1 : Int32)), .val (.int (1 : Int32)), .val (.int (1 : Int32)), .val (.int (0 : Int32)), .val (.int (0 : Int32)), .val (.int (1 : Int32))] [(.int (1 : Int32))])) _
                refine XS.iload X92.here hx rfl (hb hby at_289) rfl ?_
                show Steps p.tables e below (T92.setTop (mkF m 291 #[.val (.int p0), .val (.long p1), .second, .val (.long p2), .second, .val (.int p3), .val (.long p4), .second, .val (.long wm), .second, .val (.long wn), .second, .val (.long av), .second, .val (.long dv), .second, .val (.long bv), .second, .val (.int (p3 &&& (3 : Int32))), .val (.long xv), .second, .val (.ref b81), .val (.int (1 : Int32)), .val (.int (1 : Int32)), .val (.int (1 : Int32)), .val (.int (0 : Int32)), .val (.int (0 : Int32)), .val (.int (1 : Int32))] [(.int (1 : Int32)), (.int (1 : Int32))])) _
                refine XS.icmpNo X92.here hx rfl (hb hby at_291) rfl (teq (by decide : (1 : Int32) = (1 : Int32))).2 ?_
                show Steps p.tables e below (T92.setTop (mkF m 294 #[.val (.int p0), .val (.long p1), .second, .val (.long p2), .second, .val (.int p3), .val (.long p4), .second, .val (.long wm), .second, .val (.long wn), .second, .val (.long av), .second, .val (.long dv), .second, .val (.long bv), .second, .val (.int (p3 &&& (3 : Int32))), .val (.long xv), .second, .val (.ref b81), .val (.int (1 : Int32)), .val (.int (1 : Int32)), .val (.int (1 : Int32)), .val (.int (0 : Int32)), .val (.int (0 : Int32)), .val (.int (1 : Int32))] [])) _
                refine XS.iconst X92.here hx rfl (hb hby at_294) ?_
                show Steps p.tables e below (T92.setTop (mkF m 295 #[.val (.int p0), .val (.long p1), .second, .val (.long p2), .second, .val (.int p3), .val (.long p4), .second, .val (.long wm), .second, .val (.long wn), .second, .val (.long av), .second, .val (.long dv), .second, .val (.long bv), .second, .val (.int (p3 &&& (3 : Int32))), .val (.long xv), .second, .val (.ref b81), .val (.int (1 : Int32)), .val (.int (1 : Int32)), .val (.int (1 : Int32)), .val (.int (0 : Int32)), .val (.int (0 : Int32)), .val (.int (1 : Int32))] [(.int (1 : Int32))])) _
                refine XS.goto X92.here hx rfl (pc0 := 295) (pc' := 299) rfl (hb hby at_295) (by decide) (by decide) ?_
                exact k
              refine Go.retZ X92 hx hlk hret (Or.inr rfl) (hb hby at_299) (by decide) (by decide) e92 ?_
              exact ⟨rfl, N92⟩
            · skip
              refine Go.by (T' := T92) (g' := (mkF m 299 #[.val (.int p0), .val (.long p1), .second, .val (.long p2), .second, .val (.int p3), .val (.long p4), .second, .val (.long wm), .second, .val (.long wn), .second, .val (.long av), .second, .val (.long dv), .second, .val (.long bv), .second, .val (.int (p3 &&& (3 : Int32))), .val (.long xv), .second, .val (.ref b81), .val (.int (1 : Int32)), .val (.int (1 : Int32)), .val (.int (1 : Int32)), .val (.int (0 : Int32)), .val (.int (0 : Int32)), .val (.int (1 : Int32))] [(.int (1 : Int32))])) (fun t k => ?_) ?_
              · show Steps p.tables e below (T92.setTop (mkF m 260 #[.val (.int p0), .val (.long p1), .second, .val (.long p2), .second, .val (.int p3), .val (.long p4), .second, .val (.long wm), .second, .val (.long wn), .second, .val (.long av), .second, .val (.long dv), .second, .val (.long bv), .second, .val (.int (p3 &&& (3 : Int32))), .val (.long xv), .second, .val (.ref b81), .val (.int (1 : Int32)), .val (.int (1 : Int32)), .val (.int (1 : Int32)), .val (.int (0 : Int32)), .val (.int (0 : Int32)), .val (.int (1 : Int32))] [(.int (lcmpW xv av))])) _
                refine XS.ifYes X92.here hx rfl (pc0 := 260) (pc' := 272) rfl (hb hby at_260) rfl ((if0 _ _).trans (feq (fun q => hy93 ((lw_eq _ _).mp q))).2) (by decide) (by decide) ?_
                show Steps p.tables e below (T92.setTop (mkF m 272 #[.val (.int p0), .val (.long p1), .second, .val (.long p2), .second, .val (.int p3), .val (.long p4), .second, .val (.long wm), .second, .val (.long wn), .second, .val (.long av), .second, .val (.long dv), .second, .val (.long bv), .second, .val (.int (p3 &&& (3 : Int32))), .val (.long xv), .second, .val (.ref b81), .val (.int (1 : Int32)), .val (.int (1 : Int32)), .val (.int (1 : Int32)), .val (.int (0 : Int32)), .val (.int (0 : Int32)), .val (.int (1 : Int32))] [])) _
                refine XS.iload X92.here hx rfl (hb hby at_272) rfl ?_
                show Steps p.tables e below (T92.setTop (mkF m 274 #[.val (.int p0), .val (.long p1), .second, .val (.long p2), .second, .val (.int p3), .val (.long p4), .second, .val (.long wm), .second, .val (.long wn), .second, .val (.long av), .second, .val (.long dv), .second, .val (.long bv), .second, .val (.int (p3 &&& (3 : Int32))), .val (.long xv), .second, .val (.ref b81), .val (.int (1 : Int32)), .val (.int (1 : Int32)), .val (.int (1 : Int32)), .val (.int (0 : Int32)), .val (.int (0 : Int32)), .val (.int (1 : Int32))] [(.int (1 : Int32))])) _
                refine XS.ifNo X92.here hx rfl (hb hby at_274) rfl ((if0 _ _).trans (feq (by decide : ¬ (1 : Int32) = (0 : Int32))).1) ?_
                show Steps p.tables e below (T92.setTop (mkF m 277 #[.val (.int p0), .val (.long p1), .second, .val (.long p2), .second, .val (.int p3), .val (.long p4), .second, .val (.long wm), .second, .val (.long wn), .second, .val (.long av), .second, .val (.long dv), .second, .val (.long bv), .second, .val (.int (p3 &&& (3 : Int32))), .val (.long xv), .second, .val (.ref b81), .val (.int (1 : Int32)), .val (.int (1 : Int32)), .val (.int (1 : Int32)), .val (.int (0 : Int32)), .val (.int (0 : Int32)), .val (.int (1 : Int32))] [])) _
                refine XS.iload X92.here hx rfl (hb hby at_277) rfl ?_
                show Steps p.tables e below (T92.setTop (mkF m 279 #[.val (.int p0), .val (.long p1), .second, .val (.long p2), .second, .val (.int p3), .val (.long p4), .second, .val (.long wm), .second, .val (.long wn), .second, .val (.long av), .second, .val (.long dv), .second, .val (.long bv), .second, .val (.int (p3 &&& (3 : Int32))), .val (.long xv), .second, .val (.ref b81), .val (.int (1 : Int32)), .val (.int (1 : Int32)), .val (.int (1 : Int32)), .val (.int (0 : Int32)), .val (.int (0 : Int32)), .val (.int (1 : Int32))] [(.int (1 : Int32))])) _
                refine XS.iload X92.here hx rfl (hb hby at_279) rfl ?_
                show Steps p.tables e below (T92.setTop (mkF m 281 #[.val (.int p0), .val (.long p1), .second, .val (.long p2), .second, .val (.int p3), .val (.long p4), .second, .val (.long wm), .second, .val (.long wn), .second, .val (.long av), .second, .val (.long dv), .second, .val (.long bv), .second, .val (.int (p3 &&& (3 : Int32))), .val (.long xv), .second, .val (.ref b81), .val (.int (1 : Int32)), .val (.int (1 : Int32)), .val (.int (1 : Int32)), .val (.int (0 : Int32)), .val (.int (0 : Int32)), .val (.int (1 : Int32))] [(.int (0 : Int32)), (.int (1 : Int32))])) _
                refine XS.iload X92.here hx rfl (hb hby at_281) rfl ?_
                show Steps p.tables e below (T92.setTop (mkF m 283 #[.val (.int p0), .val (.long p1), .second, .val (.long p2), .second, .val (.int p3), .val (.long p4), .second, .val (.long wm), .second, .val (.long wn), .second, .val (.long av), .second, .val (.long dv), .second, .val (.long bv), .second, .val (.int (p3 &&& (3 : Int32))), .val (.long xv), .second, .val (.ref b81), .val (.int (1 : Int32)), .val (.int (1 : Int32)), .val (.int (1 : Int32)), .val (.int (0 : Int32)), .val (.int (0 : Int32)), .val (.int (1 : Int32))] [(.int (1 : Int32)), (.int (0 : Int32)), (.int (1 : Int32))])) _
                refine XS.iadd X92.here hx rfl (hb hby at_283) rfl ?_
                show Steps p.tables e below (T92.setTop (mkF m 284 #[.val (.int p0), .val (.long p1), .second, .val (.long p2), .second, .val (.int p3), .val (.long p4), .second, .val (.long wm), .second, .val (.long wn), .second, .val (.long av), .second, .val (.long dv), .second, .val (.long bv), .second, .val (.int (p3 &&& (3 : Int32))), .val (.long xv), .second, .val (.ref b81), .val (.int (1 : Int32)), .val (.int (1 : Int32)), .val (.int (1 : Int32)), .val (.int (0 : Int32)), .val (.int (0 : Int32)), .val (.int (1 : Int32))] [(.int (1 : Int32)), (.int (1 : Int32))])) _
                refine XS.icmpNo X92.here hx rfl (hb hby at_284) rfl (teq (by decide : (1 : Int32) = (1 : Int32))).2 ?_
                show Steps p.tables e below (T92.setTop (mkF m 287 #[.val (.int p0), .val (.long p1), .second, .val (.long p2), .second, .val (.int p3), .val (.long p4), .second, .val (.long wm), .second, .val (.long wn), .second, .val (.long av), .second, .val (.long dv), .second, .val (.long bv), .second, .val (.int (p3 &&& (3 : Int32))), .val (.long xv), .second, .val (.ref b81), .val (.int (1 : Int32)), .val (.int (1 : Int32)), .val (.int (1 : Int32)), .val (.int (0 : Int32)), .val (.int (0 : Int32)), .val (.int (1 : Int32))] [])) _
                refine XS.iload X92.here hx rfl (hb hby at_287) rfl ?_
                show Steps p.tables e below (T92.setTop (mkF m 289 #[.val (.int p0), .val (.long p1), .second, .val (.long p2), .second, .val (.int p3), .val (.long p4), .second, .val (.long wm), .second, .val (.long wn), .second, .val (.long av), .second, .val (.long dv), .second, .val (.long bv), .second, .val (.int (p3 &&& (3 : Int32))), .val (.long xv), .second, .val (.ref b81), .val (.int (1 : Int32)), .val (.int (1 : Int32)), .val (.int (1 : Int32)), .val (.int (0 : Int32)), .val (.int (0 : Int32)), .val (.int (1 : Int32))] [(.int (1 : Int32))])) _
                refine XS.iload X92.here hx rfl (hb hby at_289) rfl ?_
                show Steps p.tables e below (T92.setTop (mkF m 291 #[.val (.int p0), .val (.long p1), .second, .val (.long p2), .second, .val (.int p3), .val (.long p4), .second, .val (.long wm), .second, .val (.long wn), .second, .val (.long av), .second, .val (.long dv), .second, .val (.long bv), .second, .val (.int (p3 &&& (3 : Int32))), .val (.long xv), .second, .val (.ref b81), .val (.int (1 : Int32)), .val (.int (1 : Int32)), .val (.int (1 : Int32)), .val (.int (0 : Int32)), .val (.int (0 : Int32)), .val (.int (1 : Int32))] [(.int (1 : Int32)), (.int (1 : Int32))])) _
                refine XS.icmpNo X92.here hx rfl (hb hby at_291) rfl (teq (by decide : (1 : Int32) = (1 : Int32))).2 ?_
                show Steps p.tables e below (T92.setTop (mkF m 294 #[.val (.int p0), .val (.long p1), .second, .val (.long p2), .second, .val (.int p3), .val (.long p4), .second, .val (.long wm), .second, .val (.long wn), .second, .val (.long av), .second, .val (.long dv), .second, .val (.long bv), .second, .val (.int (p3 &&& (3 : Int32))), .val (.long xv), .second, .val (.ref b81), .val (.int (1 : Int32)), .val (.int (1 : Int32)), .val (.int (1 : Int32)), .val (.int (0 : Int32)), .val (.int (0 : Int32)), .val (.int (1 : Int32))] [])) _
                refine XS.iconst X92.here hx rfl (hb hby at_294) ?_
                show Steps p.tables e below (T92.setTop (mkF m 295 #[.val (.int p0), .val (.long p1), .second, .val (.long p2), .second, .val (.int p3), .val (.long p4), .second, .val (.long wm), .second, .val (.long wn), .second, .val (.long av), .second, .val (.long dv), .second, .val (.long bv), .second, .val (.int (p3 &&& (3 : Int32))), .val (.long xv), .second, .val (.ref b81), .val (.int (1 : Int32)), .val (.int (1 : Int32)), .val (.int (1 : Int32)), .val (.int (0 : Int32)), .val (.int (0 : Int32)), .val (.int (1 : Int32))] [(.int (1 : Int32))])) _
                refine XS.goto X92.here hx rfl (pc0 := 295) (pc' := 299) rfl (hb hby at_295) (by decide) (by decide) ?_
                exact k
              refine Go.retZ X92 hx hlk hret (Or.inr rfl) (hb hby at_299) (by decide) (by decide) e92 ?_
              exact ⟨rfl, N92⟩
    by_cases hy2 : (p3 &&& (3 : Int32)) = (0 : Int32)
    · skip
      refine Go.by (T' := T0) (g' := (mkF m 103 #[.val (.int p0), .val (.long p1), .second, .val (.long p2), .second, .val (.int p3), .val (.long p4), .second, .val (.long wm), .second, .val (.long wn), .second, .val (.long av), .second, .val (.long dv), .second, .val (.long bv), .second, .val (.int (p3 &&& (3 : Int32))), .val (.long av), .second, .unset, .unset, .unset, .unset, .unset, .unset, .unset] [])) (fun t k => ?_) ?_
      · show Steps p.tables e below (T0.setTop (mkF m 61 #[.val (.int p0), .val (.long p1), .second, .val (.long p2), .second, .val (.int p3), .val (.long p4), .second, .val (.long wm), .second, .val (.long wn), .second, .val (.long av), .second, .val (.long dv), .second, .val (.long bv), .second, .val (.int (p3 &&& (3 : Int32))), .unset, .unset, .unset, .unset, .unset, .unset, .unset, .unset, .unset] [(.int (p3 &&& (3 : Int32)))])) _
        refine XS.ifNo X0.here hx rfl (hb hby at_61) rfl ((if0 _ _).trans (teq hy2).2) ?_
        show Steps p.tables e below (T0.setTop (mkF m 64 #[.val (.int p0), .val (.long p1), .second, .val (.long p2), .second, .val (.int p3), .val (.long p4), .second, .val (.long wm), .second, .val (.long wn), .second, .val (.long av), .second, .val (.long dv), .second, .val (.long bv), .second, .val (.int (p3 &&& (3 : Int32))), .unset, .unset, .unset, .unset, .unset, .unset, .unset, .unset, .unset] [])) _
        refine XS.lload X0.here hx rfl (hb hby at_64) rfl ?_
        show Steps p.tables e below (T0.setTop (mkF m 66 #[.val (.int p0), .val (.long p1), .second, .val (.long p2), .second, .val (.int p3), .val (.long p4), .second, .val (.long wm), .second, .val (.long wn), .second, .val (.long av), .second, .val (.long dv), .second, .val (.long bv), .second, .val (.int (p3 &&& (3 : Int32))), .unset, .unset, .unset, .unset, .unset, .unset, .unset, .unset, .unset] [(.long av)])) _
        refine XS.lstore X0.here hx rfl (hb hby at_66) rfl (l' := #[.val (.int p0), .val (.long p1), .second, .val (.long p2), .second, .val (.int p3), .val (.long p4), .second, .val (.long wm), .second, .val (.long wn), .second, .val (.long av), .second, .val (.long dv), .second, .val (.long bv), .second, .val (.int (p3 &&& (3 : Int32))), .val (.long av), .second, .unset, .unset, .unset, .unset, .unset, .unset, .unset]) rfl ?_
        show Steps p.tables e below (T0.setTop (mkF m 68 #[.val (.int p0), .val (.long p1), .second, .val (.long p2), .second, .val (.int p3), .val (.long p4), .second, .val (.long wm), .second, .val (.long wn), .second, .val (.long av), .second, .val (.long dv), .second, .val (.long bv), .second, .val (.int (p3 &&& (3 : Int32))), .val (.long av), .second, .unset, .unset, .unset, .unset, .unset, .unset, .unset] [])) _
        refine XS.goto X0.here hx rfl (pc0 := 68) (pc' := 103) rfl (hb hby at_68) (by decide) (by decide) ?_
        exact k
      exact J2 av
    · skip
      refine Go.by (T' := T0) (g' := (mkF m 74 #[.val (.int p0), .val (.long p1), .second, .val (.long p2), .second, .val (.int p3), .val (.long p4), .second, .val (.long wm), .second, .val (.long wn), .second, .val (.long av), .second, .val (.long dv), .second, .val (.long bv), .second, .val (.int (p3 &&& (3 : Int32))), .unset, .unset, .unset, .unset, .unset, .unset, .unset, .unset, .unset] [(.int (1 : Int32)), (.int (p3 &&& (3 : Int32)))])) (fun t k => ?_) ?_
      · show Steps p.tables e below (T0.setTop (mkF m 61 #[.val (.int p0), .val (.long p1), .second, .val (.long p2), .second, .val (.int p3), .val (.long p4), .second, .val (.long wm), .second, .val (.long wn), .second, .val (.long av), .second, .val (.long dv), .second, .val (.long bv), .second, .val (.int (p3 &&& (3 : Int32))), .unset, .unset, .unset, .unset, .unset, .unset, .unset, .unset, .unset] [(.int (p3 &&& (3 : Int32)))])) _
        refine XS.ifYes X0.here hx rfl (pc0 := 61) (pc' := 71) rfl (hb hby at_61) rfl ((if0 _ _).trans (feq hy2).2) (by decide) (by decide) ?_
        show Steps p.tables e below (T0.setTop (mkF m 71 #[.val (.int p0), .val (.long p1), .second, .val (.long p2), .second, .val (.int p3), .val (.long p4), .second, .val (.long wm), .second, .val (.long wn), .second, .val (.long av), .second, .val (.long dv), .second, .val (.long bv), .second, .val (.int (p3 &&& (3 : Int32))), .unset, .unset, .unset, .unset, .unset, .unset, .unset, .unset, .unset] [])) _
        refine XS.iload X0.here hx rfl (hb hby at_71) rfl ?_
        show Steps p.tables e below (T0.setTop (mkF m 73 #[.val (.int p0), .val (.long p1), .second, .val (.long p2), .second, .val (.int p3), .val (.long p4), .second, .val (.long wm), .second, .val (.long wn), .second, .val (.long av), .second, .val (.long dv), .second, .val (.long bv), .second, .val (.int (p3 &&& (3 : Int32))), .unset, .unset, .unset, .unset, .unset, .unset, .unset, .unset, .unset] [(.int (p3 &&& (3 : Int32)))])) _
        refine XS.iconst X0.here hx rfl (hb hby at_73) ?_
        exact k
      by_cases hy94 : (p3 &&& (3 : Int32)) = (1 : Int32)
      · skip
        refine Go.by (T' := T0) (g' := (mkF m 103 #[.val (.int p0), .val (.long p1), .second, .val (.long p2), .second, .val (.int p3), .val (.long p4), .second, .val (.long wm), .second, .val (.long wn), .second, .val (.long av), .second, .val (.long dv), .second, .val (.long bv), .second, .val (.int (p3 &&& (3 : Int32))), .val (.long bv), .second, .unset, .unset, .unset, .unset, .unset, .unset, .unset] [])) (fun t k => ?_) ?_
        · show Steps p.tables e below (T0.setTop (mkF m 74 #[.val (.int p0), .val (.long p1), .second, .val (.long p2), .second, .val (.int p3), .val (.long p4), .second, .val (.long wm), .second, .val (.long wn), .second, .val (.long av), .second, .val (.long dv), .second, .val (.long bv), .second, .val (.int (p3 &&& (3 : Int32))), .unset, .unset, .unset, .unset, .unset, .unset, .unset, .unset, .unset] [(.int (1 : Int32)), (.int (p3 &&& (3 : Int32)))])) _
          refine XS.icmpNo X0.here hx rfl (hb hby at_74) rfl (teq hy94).2 ?_
          show Steps p.tables e below (T0.setTop (mkF m 77 #[.val (.int p0), .val (.long p1), .second, .val (.long p2), .second, .val (.int p3), .val (.long p4), .second, .val (.long wm), .second, .val (.long wn), .second, .val (.long av), .second, .val (.long dv), .second, .val (.long bv), .second, .val (.int (p3 &&& (3 : Int32))), .unset, .unset, .unset, .unset, .unset, .unset, .unset, .unset, .unset] [])) _
          refine XS.lload X0.here hx rfl (hb hby at_77) rfl ?_
          show Steps p.tables e below (T0.setTop (mkF m 79 #[.val (.int p0), .val (.long p1), .second, .val (.long p2), .second, .val (.int p3), .val (.long p4), .second, .val (.long wm), .second, .val (.long wn), .second, .val (.long av), .second, .val (.long dv), .second, .val (.long bv), .second, .val (.int (p3 &&& (3 : Int32))), .unset, .unset, .unset, .unset, .unset, .unset, .unset, .unset, .unset] [(.long bv)])) _
          refine XS.lstore X0.here hx rfl (hb hby at_79) rfl (l' := #[.val (.int p0), .val (.long p1), .second, .val (.long p2), .second, .val (.int p3), .val (.long p4), .second, .val (.long wm), .second, .val (.long wn), .second, .val (.long av), .second, .val (.long dv), .second, .val (.long bv), .second, .val (.int (p3 &&& (3 : Int32))), .val (.long bv), .second, .unset, .unset, .unset, .unset, .unset, .unset, .unset]) rfl ?_
          show Steps p.tables e below (T0.setTop (mkF m 81 #[.val (.int p0), .val (.long p1), .second, .val (.long p2), .second, .val (.int p3), .val (.long p4), .second, .val (.long wm), .second, .val (.long wn), .second, .val (.long av), .second, .val (.long dv), .second, .val (.long bv), .second, .val (.int (p3 &&& (3 : Int32))), .val (.long bv), .second, .unset, .unset, .unset, .unset, .unset, .unset, .unset] [])) _
          refine XS.goto X0.here hx rfl (pc0 := 81) (pc' := 103) rfl (hb hby at_81) (by decide) (by decide) ?_
          exact k
        exact J2 bv
      · skip
        refine Go.by (T' := T0) (g' := (mkF m 87 #[.val (.int p0), .val (.long p1), .second, .val (.long p2), .second, .val (.int p3), .val (.long p4), .second, .val (.long wm), .second, .val (.long wn), .second, .val (.long av), .second, .val (.long dv), .second, .val (.long bv), .second, .val (.int (p3 &&& (3 : Int32))), .unset, .unset, .unset, .unset, .unset, .unset, .unset, .unset, .unset] [(.int (2 : Int32)), (.int (p3 &&& (3 : Int32)))])) (fun t k => ?_) ?_
        · show Steps p.tables e below (T0.setTop (mkF m 74 #[.val (.int p0), .val (.long p1), .second, .val (.long p2), .second, .val (.int p3), .val (.long p4), .second, .val (.long wm), .second, .val (.long wn), .second, .val (.long av), .second, .val (.long dv), .second, .val (.long bv), .second, .val (.int (p3 &&& (3 : Int32))), .unset, .unset, .unset, .unset, .unset, .unset, .unset, .unset, .unset] [(.int (1 : Int32)), (.int (p3 &&& (3 : Int32)))])) _
          refine XS.icmpYes X0.here hx rfl (pc0 := 74) (pc' := 84) rfl (hb hby at_74) rfl (feq hy94).2 (by decide) (by decide) ?_
          show Steps p.tables e below (T0.setTop (mkF m 84 #[.val (.int p0), .val (.long p1), .second, .val (.long p2), .second, .val (.int p3), .val (.long p4), .second, .val (.long wm), .second, .val (.long wn), .second, .val (.long av), .second, .val (.long dv), .second, .val (.long bv), .second, .val (.int (p3 &&& (3 : Int32))), .unset, .unset, .unset, .unset, .unset, .unset, .unset, .unset, .unset] [])) _
          refine XS.iload X0.here hx rfl (hb hby at_84) rfl ?_
          show Steps p.tables e below (T0.setTop (mkF m 86 #[.val (.int p0), .val (.long p1), .second, .val (.long p2), .second, .val (.int p3), .val (.long p4), .second, .val (.long wm), .second, .val (.long wn), .second, .val (.long av), .second, .val (.long dv), .second, .val (.long bv), .second, .val (.int (p3 &&& (3 : Int32))), .unset, .unset, .unset, .unset, .unset, .unset, .unset, .unset, .unset] [(.int (p3 &&& (3 : Int32)))])) _
          refine XS.iconst X0.here hx rfl (hb hby at_86) ?_
          exact k
        by_cases hy95 : (p3 &&& (3 : Int32)) = (2 : Int32)
        · skip
          refine Go.by (T' := T0) (g' := (mkF m 103 #[.val (.int p0), .val (.long p1), .second, .val (.long p2), .second, .val (.int p3), .val (.long p4), .second, .val (.long wm), .second, .val (.long wn), .second, .val (.long av), .second, .val (.long dv), .second, .val (.long bv), .second, .val (.int (p3 &&& (3 : Int32))), .val (.long p4), .second, .unset, .unset, .unset, .unset, .unset, .unset, .unset] [])) (fun t k => ?_) ?_
          · show Steps p.tables e below (T0.setTop (mkF m 87 #[.val (.int p0), .val (.long p1), .second, .val (.long p2), .second, .val (.int p3), .val (.long p4), .second, .val (.long wm), .second, .val (.long wn), .second, .val (.long av), .second, .val (.long dv), .second, .val (.long bv), .second, .val (.int (p3 &&& (3 : Int32))), .unset, .unset, .unset, .unset, .unset, .unset, .unset, .unset, .unset] [(.int (2 : Int32)), (.int (p3 &&& (3 : Int32)))])) _
            refine XS.icmpNo X0.here hx rfl (hb hby at_87) rfl (teq hy95).2 ?_
            show Steps p.tables e below (T0.setTop (mkF m 90 #[.val (.int p0), .val (.long p1), .second, .val (.long p2), .second, .val (.int p3), .val (.long p4), .second, .val (.long wm), .second, .val (.long wn), .second, .val (.long av), .second, .val (.long dv), .second, .val (.long bv), .second, .val (.int (p3 &&& (3 : Int32))), .unset, .unset, .unset, .unset, .unset, .unset, .unset, .unset, .unset] [])) _
            refine XS.lload X0.here hx rfl (hb hby at_90) rfl ?_
            show Steps p.tables e below (T0.setTop (mkF m 92 #[.val (.int p0), .val (.long p1), .second, .val (.long p2), .second, .val (.int p3), .val (.long p4), .second, .val (.long wm), .second, .val (.long wn), .second, .val (.long av), .second, .val (.long dv), .second, .val (.long bv), .second, .val (.int (p3 &&& (3 : Int32))), .unset, .unset, .unset, .unset, .unset, .unset, .unset, .unset, .unset] [(.long p4)])) _
            refine XS.lstore X0.here hx rfl (hb hby at_92) rfl (l' := #[.val (.int p0), .val (.long p1), .second, .val (.long p2), .second, .val (.int p3), .val (.long p4), .second, .val (.long wm), .second, .val (.long wn), .second, .val (.long av), .second, .val (.long dv), .second, .val (.long bv), .second, .val (.int (p3 &&& (3 : Int32))), .val (.long p4), .second, .unset, .unset, .unset, .unset, .unset, .unset, .unset]) rfl ?_
            show Steps p.tables e below (T0.setTop (mkF m 94 #[.val (.int p0), .val (.long p1), .second, .val (.long p2), .second, .val (.int p3), .val (.long p4), .second, .val (.long wm), .second, .val (.long wn), .second, .val (.long av), .second, .val (.long dv), .second, .val (.long bv), .second, .val (.int (p3 &&& (3 : Int32))), .val (.long p4), .second, .unset, .unset, .unset, .unset, .unset, .unset, .unset] [])) _
            refine XS.goto X0.here hx rfl (pc0 := 94) (pc' := 103) rfl (hb hby at_94) (by decide) (by decide) ?_
            exact k
          exact J2 p4
        · skip
          refine Go.by (T' := T0) (g' := (mkF m 103 #[.val (.int p0), .val (.long p1), .second, .val (.long p2), .second, .val (.int p3), .val (.long p4), .second, .val (.long wm), .second, .val (.long wn), .second, .val (.long av), .second, .val (.long dv), .second, .val (.long bv), .second, .val (.int (p3 &&& (3 : Int32))), .val (.long (bv - (1 : Int64))), .second, .unset, .unset, .unset, .unset, .unset, .unset, .unset] [])) (fun t k => ?_) ?_
          · show Steps p.tables e below (T0.setTop (mkF m 87 #[.val (.int p0), .val (.long p1), .second, .val (.long p2), .second, .val (.int p3), .val (.long p4), .second, .val (.long wm), .second, .val (.long wn), .second, .val (.long av), .second, .val (.long dv), .second, .val (.long bv), .second, .val (.int (p3 &&& (3 : Int32))), .unset, .unset, .unset, .unset, .unset, .unset, .unset, .unset, .unset] [(.int (2 : Int32)), (.int (p3 &&& (3 : Int32)))])) _
            refine XS.icmpYes X0.here hx rfl (pc0 := 87) (pc' := 97) rfl (hb hby at_87) rfl (feq hy95).2 (by decide) (by decide) ?_
            show Steps p.tables e below (T0.setTop (mkF m 97 #[.val (.int p0), .val (.long p1), .second, .val (.long p2), .second, .val (.int p3), .val (.long p4), .second, .val (.long wm), .second, .val (.long wn), .second, .val (.long av), .second, .val (.long dv), .second, .val (.long bv), .second, .val (.int (p3 &&& (3 : Int32))), .unset, .unset, .unset, .unset, .unset, .unset, .unset, .unset, .unset] [])) _
            refine XS.lload X0.here hx rfl (hb hby at_97) rfl ?_
            show Steps p.tables e below (T0.setTop (mkF m 99 #[.val (.int p0), .val (.long p1), .second, .val (.long p2), .second, .val (.int p3), .val (.long p4), .second, .val (.long wm), .second, .val (.long wn), .second, .val (.long av), .second, .val (.long dv), .second, .val (.long bv), .second, .val (.int (p3 &&& (3 : Int32))), .unset, .unset, .unset, .unset, .unset, .unset, .unset, .unset, .unset] [(.long bv)])) _
            refine XS.lconst X0.here hx rfl (hb hby at_99) ?_
            show Steps p.tables e below (T0.setTop (mkF m 100 #[.val (.int p0), .val (.long p1), .second, .val (.long p2), .second, .val (.int p3), .val (.long p4), .second, .val (.long wm), .second, .val (.long wn), .second, .val (.long av), .second, .val (.long dv), .second, .val (.long bv), .second, .val (.int (p3 &&& (3 : Int32))), .unset, .unset, .unset, .unset, .unset, .unset, .unset, .unset, .unset] [(.long (1 : Int64)), (.long bv)])) _
            refine XS.lsub X0.here hx rfl (hb hby at_100) rfl ?_
            show Steps p.tables e below (T0.setTop (mkF m 101 #[.val (.int p0), .val (.long p1), .second, .val (.long p2), .second, .val (.int p3), .val (.long p4), .second, .val (.long wm), .second, .val (.long wn), .second, .val (.long av), .second, .val (.long dv), .second, .val (.long bv), .second, .val (.int (p3 &&& (3 : Int32))), .unset, .unset, .unset, .unset, .unset, .unset, .unset, .unset, .unset] [(.long (bv - (1 : Int64)))])) _
            refine XS.lstore X0.here hx rfl (hb hby at_101) rfl (l' := #[.val (.int p0), .val (.long p1), .second, .val (.long p2), .second, .val (.int p3), .val (.long p4), .second, .val (.long wm), .second, .val (.long wn), .second, .val (.long av), .second, .val (.long dv), .second, .val (.long bv), .second, .val (.int (p3 &&& (3 : Int32))), .val (.long (bv - (1 : Int64))), .second, .unset, .unset, .unset, .unset, .unset, .unset, .unset]) rfl ?_
            exact k
          exact J2 (bv - (1 : Int64))
  by_cases hy1 : (p2 &&& (3 : Int64)) = (0 : Int64)
  · skip
    refine Go.by (T' := T0) (g' := (mkF m 44 #[.val (.int p0), .val (.long p1), .second, .val (.long p2), .second, .val (.int p3), .val (.long p4), .second, .val (.long wm), .second, .val (.long wn), .second, .val (.long av), .second, .unset, .unset, .unset, .unset, .unset, .unset, .unset, .unset, .unset, .unset, .unset, .unset, .unset, .unset] [(.long (0 : Int64))])) (fun t k => ?_) ?_
    · show Steps p.tables e below (T0.setTop (mkF m 30 #[.val (.int p0), .val (.long p1), .second, .val (.long p2), .second, .val (.int p3), .val (.long p4), .second, .val (.long wm), .second, .val (.long wn), .second, .val (.long av), .second, .unset, .unset, .unset, .unset, .unset, .unset, .unset, .unset, .unset, .unset, .unset, .unset, .unset, .unset] [(.int (lcmpW (p2 &&& (3 : Int64)) (0 : Int64)))])) _
      refine XS.ifNo X0.here hx rfl (hb hby at_30) rfl ((if0 _ _).trans (teq ((lw_eq _ _).mpr hy1)).2) ?_
      show Steps p.tables e below (T0.setTop (mkF m 33 #[.val (.int p0), .val (.long p1), .second, .val (.long p2), .second, .val (.int p3), .val (.long p4), .second, .val (.long wm), .second, .val (.long wn), .second, .val (.long av), .second, .unset, .unset, .unset, .unset, .unset, .unset, .unset, .unset, .unset, .unset, .unset, .unset, .unset, .unset] [])) _
      refine XS.lconst X0.here hx rfl (hb hby at_33) ?_
      show Steps p.tables e below (T0.setTop (mkF m 34 #[.val (.int p0), .val (.long p1), .second, .val (.long p2), .second, .val (.int p3), .val (.long p4), .second, .val (.long wm), .second, .val (.long wn), .second, .val (.long av), .second, .unset, .unset, .unset, .unset, .unset, .unset, .unset, .unset, .unset, .unset, .unset, .unset, .unset, .unset] [(.long (0 : Int64))])) _
      refine XS.goto X0.here hx rfl (pc0 := 34) (pc' := 44) rfl (hb hby at_34) (by decide) (by decide) ?_
      exact k
    exact J1 (0 : Int64) (own_d0)
  · skip
    refine Go.by (T' := T0) (g' := (mkF m 44 #[.val (.int p0), .val (.long p1), .second, .val (.long p2), .second, .val (.int p3), .val (.long p4), .second, .val (.long wm), .second, .val (.long wn), .second, .val (.long av), .second, .unset, .unset, .unset, .unset, .unset, .unset, .unset, .unset, .unset, .unset, .unset, .unset, .unset, .unset] [(.long (((p2.toUInt64 >>> ((2 : Int32) &&& 0x3f).toInt64.toUInt64).toInt64) &&& (1073741823 : Int64)))])) (fun t k => ?_) ?_
    · show Steps p.tables e below (T0.setTop (mkF m 30 #[.val (.int p0), .val (.long p1), .second, .val (.long p2), .second, .val (.int p3), .val (.long p4), .second, .val (.long wm), .second, .val (.long wn), .second, .val (.long av), .second, .unset, .unset, .unset, .unset, .unset, .unset, .unset, .unset, .unset, .unset, .unset, .unset, .unset, .unset] [(.int (lcmpW (p2 &&& (3 : Int64)) (0 : Int64)))])) _
      refine XS.ifYes X0.here hx rfl (pc0 := 30) (pc' := 37) rfl (hb hby at_30) rfl ((if0 _ _).trans (feq (fun q => hy1 ((lw_eq _ _).mp q))).2) (by decide) (by decide) ?_
      show Steps p.tables e below (T0.setTop (mkF m 37 #[.val (.int p0), .val (.long p1), .second, .val (.long p2), .second, .val (.int p3), .val (.long p4), .second, .val (.long wm), .second, .val (.long wn), .second, .val (.long av), .second, .unset, .unset, .unset, .unset, .unset, .unset, .unset, .unset, .unset, .unset, .unset, .unset, .unset, .unset] [])) _
      refine XS.lloadN X0.here hx rfl (hb hby at_37) rfl ?_
      show Steps p.tables e below (T0.setTop (mkF m 38 #[.val (.int p0), .val (.long p1), .second, .val (.long p2), .second, .val (.int p3), .val (.long p4), .second, .val (.long wm), .second, .val (.long wn), .second, .val (.long av), .second, .unset, .unset, .unset, .unset, .unset, .unset, .unset, .unset, .unset, .unset, .unset, .unset, .unset, .unset] [(.long p2)])) _
      refine XS.iconst X0.here hx rfl (hb hby at_38) ?_
      show Steps p.tables e below (T0.setTop (mkF m 39 #[.val (.int p0), .val (.long p1), .second, .val (.long p2), .second, .val (.int p3), .val (.long p4), .second, .val (.long wm), .second, .val (.long wn), .second, .val (.long av), .second, .unset, .unset, .unset, .unset, .unset, .unset, .unset, .unset, .unset, .unset, .unset, .unset, .unset, .unset] [(.int (2 : Int32)), (.long p2)])) _
      refine XS.lushr X0.here hx rfl (hb hby at_39) rfl ?_
      show Steps p.tables e below (T0.setTop (mkF m 40 #[.val (.int p0), .val (.long p1), .second, .val (.long p2), .second, .val (.int p3), .val (.long p4), .second, .val (.long wm), .second, .val (.long wn), .second, .val (.long av), .second, .unset, .unset, .unset, .unset, .unset, .unset, .unset, .unset, .unset, .unset, .unset, .unset, .unset, .unset] [(.long ((p2.toUInt64 >>> ((2 : Int32) &&& 0x3f).toInt64.toUInt64).toInt64))])) _
      refine X0.ldc2Long hx hown (mvT hZ (wd hw 2 rfl)) (g := (mkF m 40 #[.val (.int p0), .val (.long p1), .second, .val (.long p2), .second, .val (.int p3), .val (.long p4), .second, .val (.long wm), .second, .val (.long wn), .second, .val (.long av), .second, .unset, .unset, .unset, .unset, .unset, .unset, .unset, .unset, .unset, .unset, .unset, .unset, .unset, .unset] [(.long ((p2.toUInt64 >>> ((2 : Int32) &&& 0x3f).toInt64.toUInt64).toInt64))])) rfl (hb hby at_40) _ ?_
      show Steps p.tables e below (T0.setTop (mkF m 43 #[.val (.int p0), .val (.long p1), .second, .val (.long p2), .second, .val (.int p3), .val (.long p4), .second, .val (.long wm), .second, .val (.long wn), .second, .val (.long av), .second, .unset, .unset, .unset, .unset, .unset, .unset, .unset, .unset, .unset, .unset, .unset, .unset, .unset, .unset] [(.long (1073741823 : Int64)), (.long ((p2.toUInt64 >>> ((2 : Int32) &&& 0x3f).toInt64.toUInt64).toInt64))])) _
      refine XS.land X0.here hx rfl (hb hby at_43) rfl ?_
      exact k
    exact J1 (((p2.toUInt64 >>> ((2 : Int32) &&& 0x3f).toInt64.toUInt64).toInt64) &&& (1073741823 : Int64)) (own_d1 _)
set_option maxRecDepth 65536 in
set_option maxHeartbeats 40000000 in
theorem comes_1 {Post : Tables → Env → Array Value → State → Outcome → State → Prop} (hpost : ∀ tb e args s v u, (limb_1_1.after args s (.returned v) u = true ∧ limb_1_2.after args s (.returned v) u = true ∧ True) → FrameEnd s (.returned v) u (Jvm.fieldLocs frame_1_writes args s ++ Jvm.arrayLocs frame_1_arrays args s ++ Jvm.staticLocs frame_1_statics s) 16 128 → Post tb e args s (.returned v) u) :
    ArmFor flags0 classFile x code maxLocals ret World_1 tables_1 room_1 Calls_1 rest_1 Pre_1 Post := by
  intro l hfl _ _ p e ha hc hk s m args below hf hA hF happ hP
  obtain ⟨hcalls, hrest, hpre⟩ := hP
  obtain ⟨-, -, -, hnamed, -, -, -, hat⟩ := (Spec.applies_iff hf).mp happ
  obtain ⟨hg, hn⟩ := and_e (Cond.before_iff.mp (show (Jvm.Cond.and given_1 narrow_1).before args s = true from hpre))
  obtain ⟨hcnt, hg⟩ := and_e hg
  obtain ⟨ha0, hg⟩ := and_e hg
  obtain ⟨ha1, hg⟩ := and_e hg
  obtain ⟨ha2, hg⟩ := and_e hg
  obtain ⟨ha3, hg⟩ := and_e hg
  have ha4 := hg
  obtain ⟨u0, u1, u2, u3, u4, rfl⟩ : ∃ u0 u1 u2 u3 u4 : Value, args = #[u0, u1, u2, u3, u4] := by
    have hs : args.size = 5 := by simpa [Cond.value] using hcnt
    obtain ⟨L⟩ := args
    match L, hs with
    | [u0, u1, u2, u3, u4], _ => exact ⟨u0, u1, u2, u3, u4, rfl⟩
  have hw := fun d (hd : d ∈ tables_1) => atoms_spec (ws := Jvm.Cond.code x code maxLocals ret :: tables_1) hat d (List.mem_cons_of_mem _ hd)
  have hfit : Fit s := fun {y c} hc i hi => by
    obtain ⟨ha, rfl⟩ := Array.getElem?_eq_some_iff.mp hc
    have q := List.all_eq_true.mp ((Array.all_eq_true_iff_forall_mem.mp hF) _ (Array.getElem_mem ha)) i (List.mem_range.mpr hi)
    simpa [Array.getElem?_eq_getElem hi] using q
  obtain ⟨hsets, hown0⟩ := atoms_of _ (rest_1_c_eq ▸ (show rest_1_c.before _ s = true from hrest))
  obtain ⟨i0, ei0⟩ := is_v ha0
  obtain rfl : u0 = (.int i0) := Option.some.inj ei0
  obtain ⟨i1, ei1⟩ := isL_v ha1
  obtain rfl : u1 = (.long i1) := Option.some.inj ei1
  obtain ⟨i2, ei2⟩ := isL_v ha2
  obtain rfl : u2 = (.long i2) := Option.some.inj ei2
  obtain ⟨i3, ei3⟩ := is_v ha3
  obtain rfl : u3 = (.int i3) := Option.some.inj ei3
  obtain ⟨i4, ei4⟩ := isL_v ha4
  obtain rfl : u4 = (.long i4) := Option.some.inj ei4
  have k_m := Cond.before_iff.mp (hsets _ (List.mem_of_getElem? (i := 2) rfl))
  obtain ⟨w_MS, ev_MS⟩ := exa_v k_m
  have S_MS := Sta.start ev_MS (Or.inl (hsets _ (List.mem_of_getElem? (i := 1) rfl)))
  have E_MS := Exa.start ev_MS k_m
  have F_MS1 := Fld.start ((fld_at ev_MS).symm.trans (eqv_l (long_at _) (Cond.before_iff.mp (hsets _ (List.mem_of_getElem? (i := 5) rfl)))))
  have F_MS2 := Fld.start ((fld_at ev_MS).symm.trans (eqv_l (long_at _) (Cond.before_iff.mp (hsets _ (List.mem_of_getElem? (i := 6) rfl)))))
  obtain ⟨n, o, h1, h2, h3, _, L, rfl, ⟨rfl, N⟩, hq⟩ := ct_law l s _ hw w_MS S_MS E_MS F_MS1 F_MS2 i0 i1 i2 i3 i4 s.heap s.heap.size (Old.start s)  tables_1 p e ha hc hk s m _ below hf ((Spec.applies_iff_loose hf).mp happ).1 ⟨rfl, State.Warmed39.refl s, rfl⟩ trivial
  refine ⟨n, _, h1, h2, h3, hpost _ _ _ _ _ _ ⟨Cond.after_iff.mpr rfl, Cond.after_iff.mpr (eq_i res_at (Term.int_eval (1)) rfl), trivial⟩ ⟨hq.1, hq.2.1, (hq.2.2.sift fun y hy => Or.inr (N y hy)).mono (by decide) (by decide)⟩⟩
theorem main_1_1 : Claimed_1_1 := comes_1 fun _ _ _ _ _ _ h hF => ⟨h.1, hF⟩
theorem main_1_2 : Claimed_1_2 := comes_1 fun _ _ _ _ _ _ h hF => ⟨h.2.1, hF⟩
end Jvm.Pilot.@@N@@
namespace Jvm.Pilot.@@N@@
open Jvm Jvm.ClassFile Sem Op Lib Jvm.Free Jvm.Stand Jvm.Pilot.@@N@@.Jvm.D
/-! MADE BY PROGRAM (witnessworld.py) out of the Statement's table words and the real class files: 19 classes; the members and pool entries that the words name. The judged class is class 1, her method 1. -/
namespace start1
open Jvm.ClassFile
def u (s : String) : CpInfo := .utf8 (stringToUtf16 s)
/-- a pool by its gaps: so many unusable entries, then the entry; so many at the end -/
def gap : Nat → List CpInfo → List CpInfo
  | 0, r => r
  | n + 1, r => .unusable :: gap n r
def poolList (es : List (Nat × CpInfo)) (last : Nat) : List CpInfo := es.foldr (fun e r => gap e.1 (e.2 :: r)) (gap last [])
def pool (es : List (Nat × CpInfo)) (last : Nat) : Array CpInfo := ⟨poolList es last⟩
def fileOf (pool : Array CpInfo) (this : Nat) (attrs : Array Attribute := #[]) (ms : Array MethodInfo := #[]) (fl : Nat := 33) (sup : Nat := 0) (ifs : Array Nat := #[]) (fds : Array FieldInfo := #[]) : ClassFile where
  minorVersion := 0
  majorVersion := 65
  constantPool := pool
  accessFlags := fl
  thisClass := this
  superClass := sup
  interfaces := ifs
  fields := fds
  methods := ms
  attributes := attrs
def plain (name : String) (sup : Option ClassId) : Class where
  name := name
  kind := .ordinary
  loader := none
  accessFlags := 33
  super := sup
  interfaces := #[]
  cf := none
  fields := #[]
  methods := #[]
  instanceTypes := #[]
  staticTypes := #[]
  resolved := #[]
  callSites := []
  init := .initialized
  statics := none
  mirror := none

def pool0 : Array CpInfo := pool [(5, u "<init>"), (0, u "()V"), (1, .class_ 10), (1, u "java/lang/Object")] 113

def k0c0 : Code := { maxStack := 0, maxLocals := 1, code := object_method_1_code, exceptionTable := #[], attributes := #[] }
def k0m0 : Method := { name := "<init>", desc := "()V", sig := { parameters := [], returnType := none }, accessFlags := 1, code := some k0c0 }
/-- java/lang/Object -/
def k0 : Class := { plain "java/lang/Object" none with
  accessFlags := 33
  interfaces := #[]
  cf := some (fileOf pool0 8 #[] #[{ accessFlags := 1, nameIndex := 5, descriptorIndex := 6, attributes := #[] }] 33 0 #[] #[])
  fields := #[]
  methods := #[k0m0]
  instanceTypes := #[]
  staticTypes := #[]
  resolved := Array.replicate 124 none
  statics := none }

def pool1 : Array CpInfo := pool [(2, .class_ 4), (1, u "java/lang/Object"), (0, u "<init>"), (0, u "()V"), (0, .long 1000000), (1, .long 3), (1, .long 1073741823), (1, .class_ 14), (0, u "com/example/breakwater/breakwater/OrderRateWindow"), (0, .class_ 16), (0, u "com/example/breakwater/breakwater/OrderRate"), (0, .long 5), (1, .methodref 15 20), (0, .nameAndType 5 21), (0, u "(JJ)V"), (0, .methodref 13 23), (0, .nameAndType 5 24), (0, u "(Lcom/example/breakwater/breakwater/OrderRate;)V"), (0, .methodref 13 26), (0, .nameAndType 27 28), (0, u "moveTo"), (0, u "(J)Z"), (0, .methodref 13 30), (0, .nameAndType 31 6), (0, u "add"), (0, .methodref 13 33), (0, .nameAndType 34 35), (0, u "remove"), (0, u "(J)V"), (0, .methodref 13 37), (0, .nameAndType 38 39), (0, u "count"), (0, u "()I"), (0, .class_ 41), (0, u "com/example/breakwater/breakwater/OrderRateWindowRemovePinLaw"), (2, u "law"), (0, u "(IJJIJ)Z")] 3

def k1m0 : Method := { name := "<init>", desc := "()V", sig := { parameters := [], returnType := none }, accessFlags := 1, code := none }
def k1c1 : Code := { maxStack := 8, maxLocals := 28, code := code, exceptionTable := #[], attributes := #[] }
def k1m1 : Method := { name := "law", desc := "(IJJIJ)Z", sig := { parameters := [.int, .long, .long, .int, .long], returnType := some .boolean }, accessFlags := 9, code := some k1c1 }
/-- com/example/breakwater/breakwater/OrderRateWindowRemovePinLaw -/
def k1 : Class := { plain "com/example/breakwater/breakwater/OrderRateWindowRemovePinLaw" (some 0) with
  accessFlags := 49
  interfaces := #[]
  cf := some (fileOf pool1 40 #[] #[{ accessFlags := 1, nameIndex := 5, descriptorIndex := 6, attributes := #[] }, { accessFlags := 9, nameIndex := 44, descriptorIndex := 45, attributes := #[] }] 49 2 #[] #[])
  fields := #[]
  methods := #[k1m0, k1m1]
  instanceTypes := #[]
  staticTypes := #[]
  resolved := Array.replicate 49 none
  statics := none }

def pool2 : Array CpInfo := pool [(1, .methodref 2 3), (0, .class_ 4), (0, .nameAndType 5 6), (0, u "java/lang/Object"), (0, u "<init>"), (0, u "()V"), (0, .class_ 8), (0, u "com/example/breakwater/breakwater/OrderRateWindow"), (0, .fieldref 7 10), (0, .nameAndType 11 12), (0, u "times"), (0, u "[J"), (2, .long 9223372036854775808), (1, .fieldref 7 18), (0, .nameAndType 19 20), (0, u "now"), (0, u "J"), (0, .fieldref 7 22), (0, .nameAndType 23 24), (0, u "rate"), (0, u "Lcom/example/breakwater/breakwater/OrderRate;"), (0, .methodref 26 27), (0, .class_ 28), (0, .nameAndType 29 30), (0, u "com/example/breakwater/breakwater/OrderRate"), (0, u "windowNanos"), (0, u "()J"), (0, .fieldref 7 32), (0, .nameAndType 29 20), (0, .fieldref 7 34), (0, .nameAndType 35 36), (0, u "count"), (0, u "I"), (0, .fieldref 7 38), (0, .nameAndType 39 36), (0, u "head"), (9, u "INITIAL_CAPACITY"), (2, u "(Lcom/example/breakwater/breakwater/OrderRate;)V"), (3, u "moveTo"), (0, u "(J)Z"), (1, u "()I"), (0, u "add"), (0, u "remove"), (0, u "(J)V")] 2

def k2c0 : Code := { maxStack := 3, maxLocals := 2, code := prog_25_method_1_code, exceptionTable := #[], attributes := #[] }
def k2m0 : Method := { name := "<init>", desc := "(Lcom/example/breakwater/breakwater/OrderRate;)V", sig := { parameters := [(.object "com/example/breakwater/breakwater/OrderRate")], returnType := none }, accessFlags := 0, code := some k2c0 }
def k2c1 : Code := { maxStack := 4, maxLocals := 3, code := prog_25_method_3_code, exceptionTable := #[], attributes := #[] }
def k2m1 : Method := { name := "moveTo", desc := "(J)Z", sig := { parameters := [.long], returnType := some .boolean }, accessFlags := 0, code := some k2c1 }
def k2c2 : Code := { maxStack := 1, maxLocals := 1, code := prog_25_method_4_code, exceptionTable := #[], attributes := #[] }
def k2m2 : Method := { name := "count", desc := "()I", sig := { parameters := [], returnType := some .int }, accessFlags := 0, code := some k2c2 }
def k2c3 : Code := { maxStack := 4, maxLocals := 1, code := prog_25_method_5_code, exceptionTable := #[], attributes := #[] }
def k2m3 : Method := { name := "add", desc := "()V", sig := { parameters := [], returnType := none }, accessFlags := 0, code := some k2c3 }
def k2c4 : Code := { maxStack := 5, maxLocals := 5, code := prog_25_method_6_code, exceptionTable := #[], attributes := #[] }
def k2m4 : Method := { name := "remove", desc := "(J)V", sig := { parameters := [.long], returnType := none }, accessFlags := 0, code := some k2c4 }
/-- com/example/breakwater/breakwater/OrderRateWindow -/
def k2 : Class := { plain "com/example/breakwater/breakwater/OrderRateWindow" (some 0) with
  accessFlags := 48
  interfaces := #[]
  cf := some (fileOf pool2 7 #[] #[{ accessFlags := 0, nameIndex := 5, descriptorIndex := 52, attributes := #[] }, { accessFlags := 0, nameIndex := 56, descriptorIndex := 57, attributes := #[] }, { accessFlags := 0, nameIndex := 35, descriptorIndex := 59, attributes := #[] }, { accessFlags := 0, nameIndex := 60, descriptorIndex := 6, attributes := #[] }, { accessFlags := 0, nameIndex := 61, descriptorIndex := 62, attributes := #[] }] 48 2 #[] #[{ accessFlags := 26, nameIndex := 49, descriptorIndex := 36, attributes := #[] }, { accessFlags := 18, nameIndex := 23, descriptorIndex := 24, attributes := #[] }, { accessFlags := 18, nameIndex := 29, descriptorIndex := 20, attributes := #[] }, { accessFlags := 2, nameIndex := 11, descriptorIndex := 12, attributes := #[] }, { accessFlags := 2, nameIndex := 39, descriptorIndex := 36, attributes := #[] }, { accessFlags := 2, nameIndex := 35, descriptorIndex := 36, attributes := #[] }, { accessFlags := 2, nameIndex := 19, descriptorIndex := 20, attributes := #[] }])
  fields := #[{ name := "INITIAL_CAPACITY", type := .int, accessFlags := 26, slot := 0, constantValue := 0 }, { name := "rate", type := (.object "com/example/breakwater/breakwater/OrderRate"), accessFlags := 18, slot := 0, constantValue := 0 }, { name := "windowNanos", type := .long, accessFlags := 18, slot := 1, constantValue := 0 }, { name := "times", type := (.array .long), accessFlags := 2, slot := 2, constantValue := 0 }, { name := "head", type := .int, accessFlags := 2, slot := 3, constantValue := 0 }, { name := "count", type := .int, accessFlags := 2, slot := 4, constantValue := 0 }, { name := "now", type := .long, accessFlags := 2, slot := 5, constantValue := 0 }]
  methods := #[k2m0, k2m1, k2m2, k2m3, k2m4]
  instanceTypes := #[(.object "com/example/breakwater/breakwater/OrderRate"), .long, (.array .long), .int, .int, .long]
  staticTypes := #[.int]
  resolved := Array.replicate 65 none
  statics := none }

def pool3 : Array CpInfo := pool [(1, .methodref 2 3), (0, .class_ 4), (0, .nameAndType 5 6), (0, u "java/lang/Object"), (0, u "<init>"), (0, u "()V"), (0, .fieldref 8 9), (0, .class_ 10), (0, .nameAndType 11 12), (0, u "com/example/breakwater/breakwater/OrderRate"), (0, u "maxOrders"), (0, u "J"), (0, .fieldref 8 14), (0, .nameAndType 15 12), (0, u "windowMillis"), (0, .fieldref 17 18), (0, .class_ 19), (0, .nameAndType 20 21), (0, u "java/util/concurrent/TimeUnit"), (0, u "MILLISECONDS"), (0, u "Ljava/util/concurrent/TimeUnit;"), (0, .methodref 17 23), (0, .nameAndType 24 25), (0, u "toNanos"), (0, u "(J)J"), (16, u "(JJ)V"), (2, u "()J"), (0, u "windowNanos")] 24

def k3c0 : Code := { maxStack := 3, maxLocals := 5, code := prog_24_method_1_code, exceptionTable := #[], attributes := #[] }
def k3m0 : Method := { name := "<init>", desc := "(JJ)V", sig := { parameters := [.long, .long], returnType := none }, accessFlags := 1, code := some k3c0 }
def k3c1 : Code := { maxStack := 3, maxLocals := 1, code := prog_24_method_4_code, exceptionTable := #[], attributes := #[] }
def k3m1 : Method := { name := "windowNanos", desc := "()J", sig := { parameters := [], returnType := some .long }, accessFlags := 0, code := some k3c1 }
/-- com/example/breakwater/breakwater/OrderRate -/
def k3 : Class := { plain "com/example/breakwater/breakwater/OrderRate" (some 0) with
  accessFlags := 49
  interfaces := #[]
  cf := some (fileOf pool3 8 #[] #[{ accessFlags := 1, nameIndex := 5, descriptorIndex := 42, attributes := #[] }, { accessFlags := 0, nameIndex := 46, descriptorIndex := 45, attributes := #[] }] 49 2 #[] #[{ accessFlags := 18, nameIndex := 11, descriptorIndex := 12, attributes := #[] }, { accessFlags := 18, nameIndex := 15, descriptorIndex := 12, attributes := #[] }])
  fields := #[{ name := "maxOrders", type := .long, accessFlags := 18, slot := 0, constantValue := 0 }, { name := "windowMillis", type := .long, accessFlags := 18, slot := 1, constantValue := 0 }]
  methods := #[k3m0, k3m1]
  instanceTypes := #[.long, .long]
  staticTypes := #[]
  resolved := Array.replicate 71 none
  statics := none }

def pool4 : Array CpInfo := pool [(1, .class_ 2), (0, u "java/lang/constant/Constable"), (0, .class_ 4), (0, u "java/lang/Object")] 6

/-- java/lang/constant/Constable -/
def k4 : Class := { plain "java/lang/constant/Constable" (some 0) with
  accessFlags := 1537
  interfaces := #[]
  cf := some (fileOf pool4 1 #[] #[] 1537 3 #[] #[])
  fields := #[]
  methods := #[]
  instanceTypes := #[]
  staticTypes := #[]
  resolved := Array.replicate 11 none
  statics := none }

def pool5 : Array CpInfo := pool [(1, .class_ 2), (0, u "java/lang/Comparable"), (0, .class_ 4), (0, u "java/lang/Object")] 7

/-- java/lang/Comparable -/
def k5 : Class := { plain "java/lang/Comparable" (some 0) with
  accessFlags := 1537
  interfaces := #[]
  cf := some (fileOf pool5 1 #[] #[] 1537 3 #[] #[])
  fields := #[]
  methods := #[]
  instanceTypes := #[]
  staticTypes := #[]
  resolved := Array.replicate 12 none
  statics := none }

def pool6 : Array CpInfo := pool [(1, .class_ 2), (0, u "java/io/Serializable"), (0, .class_ 4), (0, u "java/lang/Object")] 2

/-- java/io/Serializable -/
def k6 : Class := { plain "java/io/Serializable" (some 0) with
  accessFlags := 1537
  interfaces := #[]
  cf := some (fileOf pool6 1 #[] #[] 1537 3 #[] #[])
  fields := #[]
  methods := #[]
  instanceTypes := #[]
  staticTypes := #[]
  resolved := Array.replicate 7 none
  statics := none }

def pool7 : Array CpInfo := pool [(2, .class_ 4), (1, u "java/lang/Enum"), (0, u "name"), (0, u "Ljava/lang/String;"), (2, u "ordinal"), (0, u "I"), (1, .class_ 14), (1, u "java/lang/Object"), (4, u "hash"), (86, .class_ 108), (1, u "java/lang/Enum$EnumDesc"), (2, .class_ 112), (0, u "java/lang/constant/Constable"), (0, .class_ 114), (0, u "java/lang/Comparable"), (0, .class_ 116), (0, u "java/io/Serializable")] 87

/-- java/lang/Enum -/
def k7 : Class := { plain "java/lang/Enum" (some 0) with
  accessFlags := 1057
  interfaces := #[4, 5, 6]
  cf := some (fileOf pool7 2 #[.nestMembers #[106]] #[] 1057 12 #[111, 113, 115] #[{ accessFlags := 18, nameIndex := 5, descriptorIndex := 6, attributes := #[] }, { accessFlags := 18, nameIndex := 9, descriptorIndex := 10, attributes := #[] }, { accessFlags := 2, nameIndex := 19, descriptorIndex := 10, attributes := #[] }])
  fields := #[{ name := "name", type := (.object "java/lang/String"), accessFlags := 18, slot := 0, constantValue := 0 }, { name := "ordinal", type := .int, accessFlags := 18, slot := 1, constantValue := 0 }, { name := "hash", type := .int, accessFlags := 2, slot := 2, constantValue := 0 }]
  methods := #[]
  instanceTypes := #[(.object "java/lang/String"), .int, .int]
  staticTypes := #[]
  resolved := Array.replicate 204 none
  statics := none }

def pool8 : Array CpInfo := pool [(1, .class_ 2), (0, u "java/util/concurrent/TimeUnit"), (2, u "NANOSECONDS"), (0, u "Ljava/util/concurrent/TimeUnit;"), (2, u "MICROSECONDS"), (2, u "MILLISECONDS"), (2, u "SECONDS"), (2, u "MINUTES"), (2, u "HOURS"), (2, u "DAYS"), (2, u "$VALUES"), (0, u "[Ljava/util/concurrent/TimeUnit;"), (6, .class_ 37), (1, u "java/lang/Enum"), (6, .fieldref 1 45), (0, .nameAndType 46 47), (0, u "scale"), (0, u "J"), (4, .fieldref 1 53), (0, .nameAndType 54 47), (0, u "maxNanos"), (4, u "microRatio"), (2, u "maxMicros"), (4, u "milliRatio"), (0, u "I"), (2, u "maxMillis"), (4, u "secRatio"), (2, u "maxSecs"), (8, u "toNanos"), (0, u "(J)J"), (73, .class_ 165), (1, u "java/util/concurrent/TimeUnit$1"), (46, u "NANO_SCALE"), (3, u "MICRO_SCALE"), (0, u "MILLI_SCALE"), (0, u "SECOND_SCALE"), (0, u "MINUTE_SCALE"), (0, u "HOUR_SCALE"), (0, u "DAY_SCALE")] 61

def k8c0 : Code := { maxStack := 6, maxLocals := 7, code := jdk_2799_method_7_code, exceptionTable := #[], attributes := #[] }
def k8m0 : Method := { name := "toNanos", desc := "(J)J", sig := { parameters := [.long], returnType := some .long }, accessFlags := 1, code := some k8c0 }
/-- java/util/concurrent/TimeUnit -/
def k8 : Class := { plain "java/util/concurrent/TimeUnit" (some 7) with
  accessFlags := 16433
  interfaces := #[]
  cf := some (fileOf pool8 1 #[.nestMembers #[163]] #[{ accessFlags := 1, nameIndex := 88, descriptorIndex := 89, attributes := #[] }] 16433 35 #[] #[{ accessFlags := 16409, nameIndex := 5, descriptorIndex := 6, attributes := #[] }, { accessFlags := 16409, nameIndex := 9, descriptorIndex := 6, attributes := #[] }, { accessFlags := 16409, nameIndex := 12, descriptorIndex := 6, attributes := #[] }, { accessFlags := 16409, nameIndex := 15, descriptorIndex := 6, attributes := #[] }, { accessFlags := 16409, nameIndex := 18, descriptorIndex := 6, attributes := #[] }, { accessFlags := 16409, nameIndex := 21, descriptorIndex := 6, attributes := #[] }, { accessFlags := 16409, nameIndex := 24, descriptorIndex := 6, attributes := #[] }, { accessFlags := 26, nameIndex := 212, descriptorIndex := 47, attributes := #[] }, { accessFlags := 26, nameIndex := 216, descriptorIndex := 47, attributes := #[] }, { accessFlags := 26, nameIndex := 217, descriptorIndex := 47, attributes := #[] }, { accessFlags := 26, nameIndex := 218, descriptorIndex := 47, attributes := #[] }, { accessFlags := 26, nameIndex := 219, descriptorIndex := 47, attributes := #[] }, { accessFlags := 26, nameIndex := 220, descriptorIndex := 47, attributes := #[] }, { accessFlags := 26, nameIndex := 221, descriptorIndex := 47, attributes := #[] }, { accessFlags := 18, nameIndex := 46, descriptorIndex := 47, attributes := #[] }, { accessFlags := 18, nameIndex := 54, descriptorIndex := 47, attributes := #[] }, { accessFlags := 18, nameIndex := 62, descriptorIndex := 47, attributes := #[] }, { accessFlags := 18, nameIndex := 71, descriptorIndex := 47, attributes := #[] }, { accessFlags := 18, nameIndex := 79, descriptorIndex := 47, attributes := #[] }, { accessFlags := 18, nameIndex := 59, descriptorIndex := 47, attributes := #[] }, { accessFlags := 18, nameIndex := 67, descriptorIndex := 68, attributes := #[] }, { accessFlags := 18, nameIndex := 76, descriptorIndex := 68, attributes := #[] }, { accessFlags := 4122, nameIndex := 27, descriptorIndex := 28, attributes := #[] }])
  fields := #[{ name := "NANOSECONDS", type := (.object "java/util/concurrent/TimeUnit"), accessFlags := 16409, slot := 0, constantValue := 0 }, { name := "MICROSECONDS", type := (.object "java/util/concurrent/TimeUnit"), accessFlags := 16409, slot := 1, constantValue := 0 }, { name := "MILLISECONDS", type := (.object "java/util/concurrent/TimeUnit"), accessFlags := 16409, slot := 2, constantValue := 0 }, { name := "SECONDS", type := (.object "java/util/concurrent/TimeUnit"), accessFlags := 16409, slot := 3, constantValue := 0 }, { name := "MINUTES", type := (.object "java/util/concurrent/TimeUnit"), accessFlags := 16409, slot := 4, constantValue := 0 }, { name := "HOURS", type := (.object "java/util/concurrent/TimeUnit"), accessFlags := 16409, slot := 5, constantValue := 0 }, { name := "DAYS", type := (.object "java/util/concurrent/TimeUnit"), accessFlags := 16409, slot := 6, constantValue := 0 }, { name := "NANO_SCALE", type := .long, accessFlags := 26, slot := 7, constantValue := 0 }, { name := "MICRO_SCALE", type := .long, accessFlags := 26, slot := 8, constantValue := 0 }, { name := "MILLI_SCALE", type := .long, accessFlags := 26, slot := 9, constantValue := 0 }, { name := "SECOND_SCALE", type := .long, accessFlags := 26, slot := 10, constantValue := 0 }, { name := "MINUTE_SCALE", type := .long, accessFlags := 26, slot := 11, constantValue := 0 }, { name := "HOUR_SCALE", type := .long, accessFlags := 26, slot := 12, constantValue := 0 }, { name := "DAY_SCALE", type := .long, accessFlags := 26, slot := 13, constantValue := 0 }, { name := "scale", type := .long, accessFlags := 18, slot := 3, constantValue := 0 }, { name := "maxNanos", type := .long, accessFlags := 18, slot := 4, constantValue := 0 }, { name := "maxMicros", type := .long, accessFlags := 18, slot := 5, constantValue := 0 }, { name := "maxMillis", type := .long, accessFlags := 18, slot := 6, constantValue := 0 }, { name := "maxSecs", type := .long, accessFlags := 18, slot := 7, constantValue := 0 }, { name := "microRatio", type := .long, accessFlags := 18, slot := 8, constantValue := 0 }, { name := "milliRatio", type := .int, accessFlags := 18, slot := 9, constantValue := 0 }, { name := "secRatio", type := .int, accessFlags := 18, slot := 10, constantValue := 0 }, { name := "$VALUES", type := (.array (.object "java/util/concurrent/TimeUnit")), accessFlags := 4122, slot := 14, constantValue := 0 }]
  methods := #[k8m0]
  instanceTypes := #[(.object "java/lang/String"), .int, .int, .long, .long, .long, .long, .long, .long, .int, .int]
  staticTypes := #[(.object "java/util/concurrent/TimeUnit"), (.object "java/util/concurrent/TimeUnit"), (.object "java/util/concurrent/TimeUnit"), (.object "java/util/concurrent/TimeUnit"), (.object "java/util/concurrent/TimeUnit"), (.object "java/util/concurrent/TimeUnit"), (.object "java/util/concurrent/TimeUnit"), .long, .long, .long, .long, .long, .long, .long, (.array (.object "java/util/concurrent/TimeUnit"))]
  resolved := Array.replicate 283 none
  statics := some 0 }

def pool9 : Array CpInfo := pool [(2, .class_ 4), (1, u "java/lang/CharSequence"), (42, .class_ 48), (0, u "java/lang/CharSequence$1CodePointIterator"), (10, .class_ 60), (0, u "java/lang/CharSequence$1CharIterator"), (5, .class_ 67), (0, u "java/lang/Object")] 63

/-- java/lang/CharSequence -/
def k9 : Class := { plain "java/lang/CharSequence" (some 0) with
  accessFlags := 1537
  interfaces := #[]
  cf := some (fileOf pool9 2 #[.nestMembers #[47, 59]] #[] 1537 66 #[] #[])
  fields := #[]
  methods := #[]
  instanceTypes := #[]
  staticTypes := #[]
  resolved := Array.replicate 131 none
  statics := none }

def pool10 : Array CpInfo := pool [(1, .class_ 2), (0, u "java/lang/constant/ConstantDesc"), (0, .class_ 4), (0, u "java/lang/Object")] 32

/-- java/lang/constant/ConstantDesc -/
def k10 : Class := { plain "java/lang/constant/ConstantDesc" (some 0) with
  accessFlags := 1537
  interfaces := #[]
  cf := some (fileOf pool10 1 #[] #[] 1537 3 #[] #[])
  fields := #[]
  methods := #[]
  instanceTypes := #[]
  staticTypes := #[]
  resolved := Array.replicate 37 none
  statics := none }

def pool11 : Array CpInfo := pool [(2, .class_ 4), (1, u "java/lang/Object"), (0, u "<init>"), (0, u "()V"), (3, .class_ 12), (1, u "java/lang/String"), (0, u "value"), (0, u "[B"), (2, u "coder"), (0, u "B"), (2, u "hash"), (0, u "I"), (2, u "hashIsZero"), (0, u "Z"), (13, u "COMPACT_STRINGS"), (534, .class_ 576), (0, u "java/lang/CharSequence"), (22, u "CASE_INSENSITIVE_ORDER"), (0, u "Ljava/util/Comparator;"), (500, u "serialPersistentFields"), (0, u "[Ljava/io/ObjectStreamField;"), (0, .class_ 1104), (0, u "java/lang/String$CaseInsensitiveComparator"), (1, .class_ 1107), (0, u "java/io/Serializable"), (0, .class_ 1109), (0, u "java/lang/Comparable"), (0, .class_ 1111), (0, u "java/lang/constant/Constable"), (0, .class_ 1113), (0, u "java/lang/constant/ConstantDesc"), (2, u "serialVersionUID"), (0, u "J"), (3, u "REPL"), (0, u "C"), (2, u "LATIN1"), (1, u "UTF16")] 323

def k11m0 : Method := { name := "<init>", desc := "()V", sig := { parameters := [], returnType := none }, accessFlags := 1, code := none }
/-- java/lang/String -/
def k11 : Class := { plain "java/lang/String" (some 0) with
  accessFlags := 49
  interfaces := #[6, 5, 9, 4, 10]
  cf := some (fileOf pool11 10 #[.nestMembers #[1103]] #[{ accessFlags := 1, nameIndex := 5, descriptorIndex := 6, attributes := #[] }] 49 2 #[1106, 1108, 575, 1110, 1112] #[{ accessFlags := 18, nameIndex := 13, descriptorIndex := 14, attributes := #[] }, { accessFlags := 18, nameIndex := 17, descriptorIndex := 18, attributes := #[] }, { accessFlags := 2, nameIndex := 21, descriptorIndex := 22, attributes := #[] }, { accessFlags := 2, nameIndex := 25, descriptorIndex := 26, attributes := #[] }, { accessFlags := 26, nameIndex := 1116, descriptorIndex := 1117, attributes := #[] }, { accessFlags := 24, nameIndex := 40, descriptorIndex := 26, attributes := #[] }, { accessFlags := 26, nameIndex := 1101, descriptorIndex := 1102, attributes := #[] }, { accessFlags := 26, nameIndex := 1121, descriptorIndex := 1122, attributes := #[] }, { accessFlags := 25, nameIndex := 599, descriptorIndex := 600, attributes := #[] }, { accessFlags := 24, nameIndex := 1125, descriptorIndex := 18, attributes := #[] }, { accessFlags := 24, nameIndex := 1127, descriptorIndex := 18, attributes := #[] }])
  fields := #[{ name := "value", type := (.array .byte), accessFlags := 18, slot := 0, constantValue := 0 }, { name := "coder", type := .byte, accessFlags := 18, slot := 1, constantValue := 0 }, { name := "hash", type := .int, accessFlags := 2, slot := 2, constantValue := 0 }, { name := "hashIsZero", type := .boolean, accessFlags := 2, slot := 3, constantValue := 0 }, { name := "serialVersionUID", type := .long, accessFlags := 26, slot := 0, constantValue := 0 }, { name := "COMPACT_STRINGS", type := .boolean, accessFlags := 24, slot := 1, constantValue := 0 }, { name := "serialPersistentFields", type := (.array (.object "java/io/ObjectStreamField")), accessFlags := 26, slot := 2, constantValue := 0 }, { name := "REPL", type := .char, accessFlags := 26, slot := 3, constantValue := 0 }, { name := "CASE_INSENSITIVE_ORDER", type := (.object "java/util/Comparator"), accessFlags := 25, slot := 4, constantValue := 0 }, { name := "LATIN1", type := .byte, accessFlags := 24, slot := 5, constantValue := 0 }, { name := "UTF16", type := .byte, accessFlags := 24, slot := 6, constantValue := 0 }]
  methods := #[k11m0]
  instanceTypes := #[(.array .byte), .byte, .int, .boolean]
  staticTypes := #[.long, .boolean, (.array (.object "java/io/ObjectStreamField")), .char, (.object "java/util/Comparator"), .byte, .byte]
  resolved := Array.replicate 1451 none
  statics := none }

def pool12 : Array CpInfo := pool [(1, u "java/lang/Cloneable"), (0, .class_ 1), (0, u "java/lang/Object"), (0, .class_ 3)] 3

/-- java/lang/Cloneable -/
def k12 : Class := { plain "java/lang/Cloneable" (some 0) with
  accessFlags := 1537
  interfaces := #[]
  cf := some (fileOf pool12 2 #[] #[] 1537 4 #[] #[])
  fields := #[]
  methods := #[]
  instanceTypes := #[]
  staticTypes := #[]
  resolved := Array.replicate 8 none
  statics := none }

/-- the primitive byte -/
def k13 : Class := { plain "byte" none with kind := .primitive 'B', accessFlags := 0x411 }
/-- [B -/
def k14 : Class := { plain "[B" (some 0) with kind := .array 13 .byte, interfaces := #[12, 6], accessFlags := 1041 }

/-- the primitive int -/
def k15 : Class := { plain "int" none with kind := .primitive 'I', accessFlags := 0x411 }
/-- [I -/
def k16 : Class := { plain "[I" (some 0) with kind := .array 15 .int, interfaces := #[12, 6], accessFlags := 1041 }

/-- the primitive long -/
def k17 : Class := { plain "long" none with kind := .primitive 'J', accessFlags := 0x411 }
/-- [J -/
def k18 : Class := { plain "[J" (some 0) with kind := .array 17 .long, interfaces := #[12, 6], accessFlags := 1041 }

def heap : Heap := #[{ cls := 8, slots := #[.null, .null, .ref 2, .null, .null, .null, .null, .long 0, .long 0, .long 0, .long 0, .long 0, .long 0, .long 0, .null], vm := .statics 8 },
  { cls := 11, slots := #[.null, .int 0, .int 0, .int 0], vm := .none },
  { cls := 8, slots := #[.ref 1, .int 2, .int 0, .long 1000000, .long 9223372036854, .long 9223372036854775, .long 9223372036854775807, .long 9223372036854775, .long 1000, .int 1, .int 1000], vm := .none }]
def classes : Array Class := #[k0, k1, k2, k3, k4, k5, k6, k7, k8, k9, k10, k11, k12, k13, k14, k15, k16, k17, k18]
def interned : List (Array UInt16 × Addr) := []
def slotsUsed : Nat := 30
def theMethod : MethodId := ⟨1, 1⟩
def args0 : Array Value := #[.int 5, .long 5, .long 5, .int 1, .long 7]
def aboutOver (below : List Frame) : State where
  vm := { classes := classes, interned := interned.toArray }
  heap := heap
  slotsUsed := slotsUsed
  threads := #[{ frames := .invoking theMethod args0 :: below }]
def below0 : List Frame := [.native { method := ⟨0, 0⟩, args := #[] }]
def about1 : State := aboutOver below0
def p0 : Program := .bare "" "" ""
def e0 : Env := launch0.env 0 0 0
theorem w_frames : about1.frames = Frame.invoking theMethod args0 :: below0 := rfl
set_option maxRecDepth 65536 in
theorem w_args : argsFit about1.vm theMethod args0 = true := by decide +kernel
set_option maxRecDepth 65536 in
theorem w_heap : heapFits about1 = true := by decide +kernel
set_option maxRecDepth 65536 in
theorem w_runnable : about1.curStatus? = some .runnable := by decide +kernel
set_option maxRecDepth 65536 in
theorem w_alone : about1.alone = true := by decide +kernel
set_option maxRecDepth 65536 in
theorem w_named : about1.methodNamed? x = some theMethod := by decide +kernel
set_option maxRecDepth 65536 in
theorem w_hears : about1.hears theMethod below0 = true := by decide +kernel
set_option maxRecDepth 65536 in
theorem w_ripe : about1.ripe theMethod args0 below0 = true := by decide +kernel
theorem w_running : about1.status = .running := rfl
set_option maxRecDepth 65536 in
theorem w_room : about1.hasRoom e0.platform room_1 = true :=
  launch0.hasRoom_least _ room_1 (by decide +kernel) (by decide +kernel) (by decide +kernel) (by decide +kernel) (by decide +kernel) (by decide +kernel)
theorem allAtoms_all (ts : List Jvm.Cond) (a : Array Jvm.Value) (st : Jvm.State) : (allAtoms ts).before a st = ts.all (fun c => c.before a st) := by
  induction ts with
  | nil => rfl
  | cons c t ih =>
    show (Jvm.Cond.and c (allAtoms t)).before a st = _
    rw [Jvm.Cond.before_and, ih, List.all_cons]
def words1 : List Jvm.Cond := Jvm.Cond.code x code maxLocals ret :: tables_1
/-- a 'code' word, met by the world's own term for the bytes: nothing is compared byte by byte -/
theorem code_word {y : MethodName} {bytes : ByteArray} {mx : Nat} {rt : Option FieldType} {a : Array Value} {s : State} {m : MethodId} {meth : Method} {c : Code} (h1 : s.methodNamed? y = some m) (h2 : s.vm.method? m = some meth) (h3 : meth.code = some c) (h4 : c.code = bytes)
    (h5 : (c.maxLocals == mx && c.exceptionTable.isEmpty && decide (c.maxStack ≤ mostOperands) && decide (meth.sig.returnType = rt) && !meth.locks && decide (parseMethodDescriptor y.desc = some meth.sig)) = true) : (Jvm.Cond.code y bytes mx rt).before a s = true := by
  simp only [Bool.and_eq_true, beq_iff_eq, Bool.not_eq_true', decide_eq_true_eq] at h5
  obtain ⟨⟨⟨⟨⟨g1, g2⟩, g3⟩, g4⟩, g5⟩, g6⟩ := h5
  simp [Cond.before, Cond.holds, Cond.value, h1, h2, h3, h4, g1, g2, g3, g4, g5, g6]
def isCode : Jvm.Cond → Bool
  | .code _ _ _ _ => true
  | _ => false
theorem all_split {L : List Jvm.Cond} {P : Jvm.Cond → Bool} (h1 : L.all (fun c => isCode c || P c) = true) (h2 : ∀ c ∈ L.filter isCode, P c = true) : L.all P = true := by
  refine List.all_eq_true.mpr fun c hc => ?_
  have h := List.all_eq_true.mp h1 c hc
  rcases Bool.eq_false_or_eq_true (isCode c) with hi | hi
  · exact h2 c (List.mem_filter.mpr ⟨hc, hi⟩)
  · simpa [hi] using h
set_option maxRecDepth 65536 in
theorem w_c0 : (Jvm.Cond.code x code maxLocals ret).before args0 about1 = true := code_word (m := ⟨1, 1⟩) (meth := k1m1) (c := k1c1) (by decide +kernel) rfl rfl rfl (by decide +kernel)
set_option maxRecDepth 65536 in
theorem w_c1 : (Jvm.Cond.code ({ cls := "com/example/breakwater/breakwater/OrderRate", name := "<init>", desc := "(JJ)V" } : Jvm.MethodName) prog_24_method_1_code (5 : Nat) (Option.none : Option Jvm.ClassFile.FieldType)).before args0 about1 = true := code_word (m := ⟨3, 0⟩) (meth := k3m0) (c := k3c0) (by decide +kernel) rfl rfl rfl (by decide +kernel)
set_option maxRecDepth 65536 in
theorem w_c2 : (Jvm.Cond.code ({ cls := "java/lang/Object", name := "<init>", desc := "()V" } : Jvm.MethodName) object_method_1_code (1 : Nat) (Option.none : Option Jvm.ClassFile.FieldType)).before args0 about1 = true := code_word (m := ⟨0, 0⟩) (meth := k0m0) (c := k0c0) (by decide +kernel) rfl rfl rfl (by decide +kernel)
set_option maxRecDepth 65536 in
theorem w_c3 : (Jvm.Cond.code ({ cls := "com/example/breakwater/breakwater/OrderRateWindow", name := "<init>", desc := "(Lcom/example/breakwater/breakwater/OrderRate;)V" } : Jvm.MethodName) prog_25_method_1_code (2 : Nat) (Option.none : Option Jvm.ClassFile.FieldType)).before args0 about1 = true := code_word (m := ⟨2, 0⟩) (meth := k2m0) (c := k2c0) (by decide +kernel) rfl rfl rfl (by decide +kernel)
set_option maxRecDepth 65536 in
theorem w_c4 : (Jvm.Cond.code ({ cls := "com/example/breakwater/breakwater/OrderRate", name := "windowNanos", desc := "()J" } : Jvm.MethodName) prog_24_method_4_code (1 : Nat) (Option.some Jvm.ClassFile.FieldType.long)).before args0 about1 = true := code_word (m := ⟨3, 1⟩) (meth := k3m1) (c := k3c1) (by decide +kernel) rfl rfl rfl (by decide +kernel)
set_option maxRecDepth 65536 in
theorem w_c5 : (Jvm.Cond.code ({ cls := "java/util/concurrent/TimeUnit", name := "toNanos", desc := "(J)J" } : Jvm.MethodName) jdk_2799_method_7_code (7 : Nat) (Option.some Jvm.ClassFile.FieldType.long)).before args0 about1 = true := code_word (m := ⟨8, 0⟩) (meth := k8m0) (c := k8c0) (by decide +kernel) rfl rfl rfl (by decide +kernel)
set_option maxRecDepth 65536 in
theorem w_c6 : (Jvm.Cond.code ({ cls := "com/example/breakwater/breakwater/OrderRateWindow", name := "moveTo", desc := "(J)Z" } : Jvm.MethodName) prog_25_method_3_code (3 : Nat) (Option.some Jvm.ClassFile.FieldType.boolean)).before args0 about1 = true := code_word (m := ⟨2, 1⟩) (meth := k2m1) (c := k2c1) (by decide +kernel) rfl rfl rfl (by decide +kernel)
set_option maxRecDepth 65536 in
theorem w_c7 : (Jvm.Cond.code ({ cls := "com/example/breakwater/breakwater/OrderRateWindow", name := "add", desc := "()V" } : Jvm.MethodName) prog_25_method_5_code (1 : Nat) (Option.none : Option Jvm.ClassFile.FieldType)).before args0 about1 = true := code_word (m := ⟨2, 3⟩) (meth := k2m3) (c := k2c3) (by decide +kernel) rfl rfl rfl (by decide +kernel)
set_option maxRecDepth 65536 in
theorem w_c8 : (Jvm.Cond.code ({ cls := "com/example/breakwater/breakwater/OrderRateWindow", name := "remove", desc := "(J)V" } : Jvm.MethodName) prog_25_method_6_code (5 : Nat) (Option.none : Option Jvm.ClassFile.FieldType)).before args0 about1 = true := code_word (m := ⟨2, 4⟩) (meth := k2m4) (c := k2c4) (by decide +kernel) rfl rfl rfl (by decide +kernel)
set_option maxRecDepth 65536 in
theorem w_c9 : (Jvm.Cond.code ({ cls := "com/example/breakwater/breakwater/OrderRateWindow", name := "count", desc := "()I" } : Jvm.MethodName) prog_25_method_4_code (1 : Nat) (Option.some Jvm.ClassFile.FieldType.int)).before args0 about1 = true := code_word (m := ⟨2, 2⟩) (meth := k2m2) (c := k2c2) (by decide +kernel) rfl rfl rfl (by decide +kernel)
def codes1 : List Jvm.Cond := [Jvm.Cond.code x code maxLocals ret, Jvm.Cond.code ({ cls := "com/example/breakwater/breakwater/OrderRate", name := "<init>", desc := "(JJ)V" } : Jvm.MethodName) prog_24_method_1_code (5 : Nat) (Option.none : Option Jvm.ClassFile.FieldType), Jvm.Cond.code ({ cls := "java/lang/Object", name := "<init>", desc := "()V" } : Jvm.MethodName) object_method_1_code (1 : Nat) (Option.none : Option Jvm.ClassFile.FieldType), Jvm.Cond.code ({ cls := "com/example/breakwater/breakwater/OrderRateWindow", name := "<init>", desc := "(Lcom/example/breakwater/breakwater/OrderRate;)V" } : Jvm.MethodName) prog_25_method_1_code (2 : Nat) (Option.none : Option Jvm.ClassFile.FieldType), Jvm.Cond.code ({ cls := "com/example/breakwater/breakwater/OrderRate", name := "windowNanos", desc := "()J" } : Jvm.MethodName) prog_24_method_4_code (1 : Nat) (Option.some Jvm.ClassFile.FieldType.long), Jvm.Cond.code ({ cls := "java/util/concurrent/TimeUnit", name := "toNanos", desc := "(J)J" } : Jvm.MethodName) jdk_2799_method_7_code (7 : Nat) (Option.some Jvm.ClassFile.FieldType.long), Jvm.Cond.code ({ cls := "com/example/breakwater/breakwater/OrderRateWindow", name := "moveTo", desc := "(J)Z" } : Jvm.MethodName) prog_25_method_3_code (3 : Nat) (Option.some Jvm.ClassFile.FieldType.boolean), Jvm.Cond.code ({ cls := "com/example/breakwater/breakwater/OrderRateWindow", name := "add", desc := "()V" } : Jvm.MethodName) prog_25_method_5_code (1 : Nat) (Option.none : Option Jvm.ClassFile.FieldType), Jvm.Cond.code ({ cls := "com/example/breakwater/breakwater/OrderRateWindow", name := "remove", desc := "(J)V" } : Jvm.MethodName) prog_25_method_6_code (5 : Nat) (Option.none : Option Jvm.ClassFile.FieldType), Jvm.Cond.code ({ cls := "com/example/breakwater/breakwater/OrderRateWindow", name := "count", desc := "()I" } : Jvm.MethodName) prog_25_method_4_code (1 : Nat) (Option.some Jvm.ClassFile.FieldType.int)]
set_option maxRecDepth 65536 in
theorem codes_eq : words1.filter isCode = codes1 := rfl
theorem w_codes : ∀ c ∈ words1.filter isCode, c.before args0 about1 = true := by
  rw [codes_eq]
  intro c hc
  simp only [codes1, List.mem_cons, List.not_mem_nil, or_false] at hc
  rcases hc with rfl | rfl | rfl | rfl | rfl | rfl | rfl | rfl | rfl | rfl
  · exact w_c0
  · exact w_c1
  · exact w_c2
  · exact w_c3
  · exact w_c4
  · exact w_c5
  · exact w_c6
  · exact w_c7
  · exact w_c8
  · exact w_c9
set_option maxRecDepth 65536 in
theorem w_t1 : (words1.take 24).all (fun c => isCode c || c.before args0 about1) = true := by decide +kernel
set_option maxRecDepth 65536 in
theorem w_t2 : ((words1.drop 24).take 24).all (fun c => isCode c || c.before args0 about1) = true := by decide +kernel
set_option maxRecDepth 65536 in
theorem w_t3 : (((words1.drop 24).drop 24).take 24).all (fun c => isCode c || c.before args0 about1) = true := by decide +kernel
set_option maxRecDepth 65536 in
theorem w_t4 : (((words1.drop 24).drop 24).drop 24).all (fun c => isCode c || c.before args0 about1) = true := by decide +kernel
theorem w_tables : (allAtoms (Jvm.Cond.code x code maxLocals ret :: tables_1)).before args0 about1 = true := by
  rw [allAtoms_all]
  show words1.all (fun c => c.before args0 about1) = true
  refine all_split ?_ w_codes
  rw [← List.take_append_drop 24 words1, List.all_append, w_t1, ← List.take_append_drop 24 (words1.drop 24), List.all_append, w_t2, ← List.take_append_drop 24 ((words1.drop 24).drop 24), List.all_append, w_t3, w_t4]
  rfl
set_option maxRecDepth 65536 in
theorem w_rest : rest_1_c.before args0 about1 = true := by decide +kernel
set_option maxRecDepth 65536 in
theorem w_case : (Jvm.Cond.and given_1 narrow_1).before args0 about1 = true := by decide +kernel
theorem w_applies : (headSpec (Jvm.Cond.code x code maxLocals ret :: tables_1) room_1).applies x e0.platform about1 = true :=
  (Spec.applies_iff w_frames).mpr ⟨w_running, w_runnable, w_alone, w_named, w_hears, w_ripe, w_room, w_tables⟩
theorem atStart : AtStart classFile x code maxLocals ret World_1 tables_1 room_1 Calls_1 rest_1 Pre_1 launch0 p0 e0 about1 theMethod args0 below0 :=
  ⟨lists_1, trivial, launch0.admits_env _ _ _, launch0.least_env, fairChoices_fair.cas, fairChoices_fair.clock, w_frames, w_args, w_heap, w_applies, trivial, w_rest, w_case⟩
end start1
theorem witness_1 : WitnessClaimed_1 := ⟨start1.p0, start1.e0, start1.about1, start1.theMethod, start1.args0, start1.below0, start1.atStart⟩
end Jvm.Pilot.@@N@@
