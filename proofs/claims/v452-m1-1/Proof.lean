import JvmDerived
import JvmDerived.Pilot.@@N@@Statement
import JvmDerived.Pilot.@@N@@Code
set_option linter.unusedVariables false
set_option linter.unusedSimpArgs false
namespace Jvm.OwnKit
open Jvm Sem ClassFile Op Lib Jvm.Stand Jvm.Free Jvm.LawKit Jvm.RoadKit
section K
variable {p : Program} {l : Launch} {e : Env} {R : Room} {s : State} {m : MethodId} {args : Array Value} {below : List Frame} {meth : Method} {c : Code} {T T' : State} {locs : List Loc} {cells slots : Nat} {Z : State} {a0 : Array Value} {h h0 : Heap} {ce sl : Nat} {Q : Option Value → Heap → List Loc → Prop} {P : Option Value → State → List Loc → Prop} {pc : Nat} {Ls : Array Slot} {rest : List Value}
/-- from this state and frame the body runs to its end, and Q holds there -/
def Go (p : Program) (e : Env) (below : List Frame) (P : Option Value → State → List Loc → Prop) (T : State) (g : JFrame) : Prop :=
  ∃ u v L, Steps p.tables e below (T.setTop g) u ∧ u.status = .running ∧ Ended u below (.returned v) ∧ P v u L
/-- the end of a body that interns nothing -/
def EndF (s : State) (ce sl : Nat) (Q : Option Value → Heap → List Loc → Prop) (v : Option Value) (u : State) (L : List Loc) : Prop := Q v u.heap L ∧ FrameEnd s (.returned v) u L ce sl
theorem Go.by {g g' : JFrame} (st : ∀ t, Steps p.tables e below (T'.setTop g') t → Steps p.tables e below (T.setTop g) t) (k : Go p e below P T' g') : Go p e below P T g := by
  obtain ⟨u, v, L, h1, r⟩ := k; exact ⟨u, v, L, st u h1, r⟩
theorem Go.cast {g g' : JFrame} (q : g = g') (k : Go p e below P T g') : Go p e below P T g := q ▸ k
/-- a body's contract at given arguments and a given heap -/
def Ct (l : Launch) (y : MethodName) (bytes : ByteArray) (maxL : Nat) (ret : Option FieldType) (rm : Room) (Z : State) (as' : Array Value) (h0 : Heap) (Q : Option Value → Heap → List Loc → Prop) : Prop :=
  ∀ ws : List Jvm.Cond, MetFree l y (head1 (Jvm.Cond.code y bytes maxL ret :: ws) rm) (fun a U => a = as' ∧ Z.Warmed39 U.vm ∧ U.heap = h0) (fun _ _ _ _ _ => True) (fun _ U o U' => ∃ v L, o = .returned v ∧ Q v U'.heap L ∧ FrameEnd U o U' L rm.cells rm.slots)
theorem Ct.of {y : MethodName} {bytes : ByteArray} {maxL : Nat} {ret : Option FieldType} {rm : Room} {as' : Array Value} (hpl : plainFor y = true)
    (body : ∀ (p : Program) (e : Env) (s : State) (m : MethodId) (below : List Frame) (meth : Method) (c : Code) (T : State), Stand p l e rm s m as' below meth c T [] 0 0 → p.tables.exec = Jvm.exec → c.code = bytes → c.maxLocals = maxL → s.vm.findClass y.cls = some m.cls → meth.name = y.name → meth.sig.returnType = ret → meth.locks = false → Z.Warmed39 s.vm → T.heap = h0 →
      Go p e below (EndF s rm.cells rm.slots Q) T (entryFrame m as' maxL)) : Ct l y bytes maxL ret rm Z as' h0 Q := by
  intro ws
  refine MetFree.of_bodySF hpl hisR ?_
  intro p e s m args below meth c s₁ Bd hml0 hP hK
  obtain ⟨rfl, hZ, hh⟩ := hP
  obtain ⟨u, v, L, h1, h2, h3, r⟩ := body p e s m below meth c s₁ (Stand.of_body Bd) Bd.exec Bd.bytes hml0 (findClass_of_methodNamed Bd.named) (name_of_methodNamed Bd.named Bd.method).1 Bd.returns (BodyLoose.notSynchronized Bd) hZ (by rw [← hh, Bd.state]; rfl)
  exact ⟨u, _, h1, h2, h3, v, L, rfl, r.1, r.2⟩
theorem Ct.mono {y : MethodName} {bytes : ByteArray} {maxL : Nat} {ret : Option FieldType} {rm : Room} {as' : Array Value} {Q' : Option Value → Heap → List Loc → Prop} (k : Ct l y bytes maxL ret rm Z as' h0 Q) (q : ∀ v h L, Q v h L → Q' v h L) : Ct l y bytes maxL ret rm Z as' h0 Q' := by
  intro ws p e ha hc hk s m args below hf happ hP hK
  obtain ⟨n, o, h1, h2, h3, v, L, h4, h5, h6⟩ := k ws p e ha hc hk s m args below hf happ hP hK
  exact ⟨n, o, h1, h2, h3, v, L, h4, q _ _ _ h5, h6⟩
theorem wd {ws : List Jvm.Cond} (hw : ∀ d ∈ ws, d.before a0 Z = true) {d : Jvm.Cond} (i : Nat) (q : ws[i]? = some d) : d.before a0 Z = true := hw _ (List.mem_of_getElem? q)
theorem Go.fin (X : Stand p l e R s m args below meth c T locs cells slots) (hlk : meth.locks = false) {v : Option Value} (hv : meth.sig.returnType = none → v = none) {g : JFrame}
    (st : ∀ fs, (∀ (f : JFrame) (acts : List Action), f.method = m → f.locked = none → f.entered = [] → (doReturn e (T.setTop f) acts v).1 = T.setFrames fs) → Steps p.tables e below (T.setTop g) (T.setFrames fs)) (hc : cells ≤ ce) (hs : slots ≤ sl) (eT : T.heap = h) (q : Q v h locs) : Go p e below (EndF s ce sl Q) T g := by
  obtain ⟨fs, hr, hrun, hended, hW, hsame⟩ := X.leave (v := v) hv hlk
  subst eT
  exact ⟨_, _, _, st fs hr, hrun, hended, q, ⟨_, rfl⟩, hW, hsame.mono hc hs⟩
theorem Go.retI (X : Stand p l e R s m args below meth c T locs cells slots) (hx : p.tables.exec = Jvm.exec) (hlk : meth.locks = false) (hret : meth.sig.returnType = some .int) {z : Int32} (hd : decode c.code pc = .ok (.ireturn, 1)) (hc : cells ≤ ce) (hs : slots ≤ sl) (eT : T.heap = h) (q : Q (some (.int z)) h locs) : Go p e below (EndF s ce sl Q) T (mkF m pc Ls (.int z :: rest)) :=
  Go.fin X hlk (fun h => by rw [hret] at h; cases h) (fun fs hl => retOut X hx hret rfl (Or.inl ⟨rfl, Or.inl rfl, z, rfl⟩) hd hl) hc hs eT q
theorem Go.retZ (X : Stand p l e R s m args below meth c T locs cells slots) (hx : p.tables.exec = Jvm.exec) (hlk : meth.locks = false) (hret : meth.sig.returnType = some .boolean) {z : Int32} (hz : z = 0 ∨ z = 1) (hd : decode c.code pc = .ok (.ireturn, 1)) (hc : cells ≤ ce) (hs : slots ≤ sl) (eT : T.heap = h) (q : Q (some (.int z)) h locs) : Go p e below (EndF s ce sl Q) T (mkF m pc Ls (.int z :: rest)) :=
  Go.fin X hlk (fun h => by rw [hret] at h; cases h) (fun fs hl => retOut X hx hret (by rcases hz with rfl | rfl <;> rfl) (Or.inl ⟨rfl, Or.inr (Or.inl rfl), z, rfl⟩) hd hl) hc hs eT q
theorem Go.retS (X : Stand p l e R s m args below meth c T locs cells slots) (hx : p.tables.exec = Jvm.exec) (hlk : meth.locks = false) {t : FieldType} (hret : meth.sig.returnType = some t) (ht : t = .byte ∨ t = .char ∨ t = .short) {z : Int32} (hz : narrow t (.int z) = .int z) (hd : decode c.code pc = .ok (.ireturn, 1)) (hc : cells ≤ ce) (hs : slots ≤ sl) (eT : T.heap = h) (q : Q (some (.int z)) h locs) : Go p e below (EndF s ce sl Q) T (mkF m pc Ls (.int z :: rest)) :=
  Go.fin X hlk (fun h => by rw [hret] at h; cases h) (fun fs hl => retOut X hx hret hz (Or.inl ⟨rfl, Or.inr (Or.inr ht), z, rfl⟩) hd hl) hc hs eT q
theorem Go.retJ (X : Stand p l e R s m args below meth c T locs cells slots) (hx : p.tables.exec = Jvm.exec) (hlk : meth.locks = false) (hret : meth.sig.returnType = some .long) {z : Int64} (hd : decode c.code pc = .ok (.lreturn, 1)) (hc : cells ≤ ce) (hs : slots ≤ sl) (eT : T.heap = h) (q : Q (some (.long z)) h locs) : Go p e below (EndF s ce sl Q) T (mkF m pc Ls (.long z :: rest)) :=
  Go.fin X hlk (fun h => by rw [hret] at h; cases h) (fun fs hl => retOut X hx hret rfl (Or.inr (Or.inl ⟨rfl, rfl, z, rfl⟩)) hd hl) hc hs eT q
theorem Go.retA (X : Stand p l e R s m args below meth c T locs cells slots) (hx : p.tables.exec = Jvm.exec) (hlk : meth.locks = false) {t : FieldType} (hret : meth.sig.returnType = some t) (ht : t.isReference = true) {v : Value} (hv : v.isRef = true) (hd : decode c.code pc = .ok (.areturn, 1)) (hc : cells ≤ ce) (hs : slots ≤ sl) (eT : T.heap = h) (q : Q (some v) h locs) : Go p e below (EndF s ce sl Q) T (mkF m pc Ls (v :: rest)) :=
  Go.fin X hlk (fun h => by rw [hret] at h; cases h) (fun fs hl => retOut X hx hret (by cases t <;> simp_all [FieldType.isReference, narrow]) (Or.inr (Or.inr (Or.inr (Or.inr ⟨rfl, ht, hv⟩)))) hd hl) hc hs eT q
theorem Go.retV (X : Stand p l e R s m args below meth c T locs cells slots) (hx : p.tables.exec = Jvm.exec) (hlk : meth.locks = false) (hret : meth.sig.returnType = none) (hd : decode c.code pc = .ok (.return_, 1)) (hc : cells ≤ ce) (hs : slots ≤ sl) (eT : T.heap = h) (q : Q none h locs) : Go p e below (EndF s ce sl Q) T (mkF m pc Ls []) :=
  Go.fin X hlk (fun _ => rfl) (fun fs hl => X.returnOut hx hret hd hl) hc hs eT q
/-! one law a step that reads the tables or the heap -/
theorem Go.getF (X : Stand p l e R s m args below meth c T locs cells slots) (hx : p.tables.exec = Jvm.exec) (hZ : Z.Warmed39 s.vm) {own R0 O n d : String} {index : Nat} (hown : s.vm.findClass own = some m.cls) (w : (Jvm.Cond.fieldLink own index R0 n d).before a0 Z = true) (via : Via Z R0 O n d) (eT : T.heap = h) {a : Addr} {v : Value} (F : Fld Z h a O n d v)
    (hd : decode c.code pc = .ok (.getfield index, 3)) (k : ∀ T', Stand p l e R s m args below meth c T' locs cells slots → T'.heap = h → Go p e below P T' (mkF m (pc + 3) Ls (v :: rest))) : Go p e below P T (mkF m pc Ls (.ref a :: rest)) := by
  obtain ⟨T', X', e', st⟩ := RoadKit.getF X hx hZ hown (host := "") (Or.inl w) via eT F (g := mkF m pc Ls (.ref a :: rest)) rfl rfl hd
  exact Go.by st (k T' X' e')
theorem Go.getFN (X : Stand p l e R s m args below meth c T locs cells slots) (hx : p.tables.exec = Jvm.exec) (hZ : Z.Warmed39 s.vm) {own R0 O n d host : String} {index : Nat} (hown : s.vm.findClass own = some m.cls) (w : (Jvm.Cond.fieldLinkNest own index R0 n d host).before a0 Z = true) (via : Via Z R0 O n d) (eT : T.heap = h) {a : Addr} {v : Value} (F : Fld Z h a O n d v)
    (hd : decode c.code pc = .ok (.getfield index, 3)) (k : ∀ T', Stand p l e R s m args below meth c T' locs cells slots → T'.heap = h → Go p e below P T' (mkF m (pc + 3) Ls (v :: rest))) : Go p e below P T (mkF m pc Ls (.ref a :: rest)) := by
  obtain ⟨T', X', e', st⟩ := RoadKit.getF X hx hZ hown (host := host) (Or.inr w) via eT F (g := mkF m pc Ls (.ref a :: rest)) rfl rfl hd
  exact Go.by st (k T' X' e')
theorem Go.putF (X : Stand p l e R s m args below meth c T locs cells slots) (hx : p.tables.exec = Jvm.exec) (hZ : Z.Warmed39 s.vm) {own R0 O n d C : String} {index kk : Nat} {ty : FieldType} (hown : s.vm.findClass own = some m.cls) (w : (Jvm.Cond.fieldLink own index R0 n d).before a0 Z = true) (via : Via Z R0 O n d) (eT : T.heap = h) {a : Addr} {v old : Value} (F : Fld Z h a O n d old) (E : Exa Z h a C)
    (L : (Jvm.Cond.lays C O n d).before a0 Z = true ∨ ((Jvm.Cond.laysFinal C O n d).before a0 Z = true ∧ own = O ∧ meth.name = "<init>")) (wi : (Jvm.Cond.instantiable C kk).before a0 Z = true) (hty : parseFieldDescriptor d = some ty) (hn : narrow ty v = v) (hf : fits ty v = true) (hd : decode c.code pc = .ok (.putfield index, 3))
    (k : ∀ T' h', Stand p l e R s m args below meth c T' (locs ++ [⟨a, RoadKit.slotOf Z O n d⟩]) cells slots → T'.heap = h' → Wr h h' a (RoadKit.slotOf Z O n d) v → Go p e below P T' (mkF m (pc + 3) Ls rest)) : Go p e below P T (mkF m pc Ls (v :: .ref a :: rest)) := by
  obtain ⟨T', h', X', e', W', st⟩ := RoadKit.putF X hx hZ hown (host := "") (Or.inl w) via eT F E L wi hty hn hf (g := mkF m pc Ls (v :: .ref a :: rest)) rfl rfl hd
  exact Go.by st (k T' h' X' e' W')
theorem Go.getS (X : Stand p l e R s m args below meth c T locs cells slots) (hx : p.tables.exec = Jvm.exec) (hZ : Z.Warmed39 s.vm) {own R0 O n d : String} {index : Nat} (hown : s.vm.findClass own = some m.cls) (w : (Jvm.Cond.fieldLink own index R0 n d).before a0 Z = true) (via : Via Z R0 O n d) (eT : T.heap = h) {v : Value} (F : Sta Z h O n d v) {st : List Value}
    (hd : decode c.code pc = .ok (.getstatic index, 3)) (k : ∀ T', Stand p l e R s m args below meth c T' locs cells slots → T'.heap = h → Go p e below P T' (mkF m (pc + 3) Ls (v :: st))) : Go p e below P T (mkF m pc Ls st) := by
  obtain ⟨T', X', e', st'⟩ := RoadKit.getS X hx hZ hown (host := "") w via eT F (g := mkF m pc Ls st) rfl hd
  exact Go.by st' (k T' X' e')
theorem Go.getSN (X : Stand p l e R s m args below meth c T locs cells slots) (hx : p.tables.exec = Jvm.exec) (hZ : Z.Warmed39 s.vm) {own R0 O n d host : String} {index : Nat} (hown : s.vm.findClass own = some m.cls) (w : (Jvm.Cond.fieldLinkNest own index R0 n d host).before a0 Z = true) (via : Via Z R0 O n d) (eT : T.heap = h) {v : Value} (F : Sta Z h O n d v) {st : List Value}
    (hd : decode c.code pc = .ok (.getstatic index, 3)) (k : ∀ T', Stand p l e R s m args below meth c T' locs cells slots → T'.heap = h → Go p e below P T' (mkF m (pc + 3) Ls (v :: st))) : Go p e below P T (mkF m pc Ls st) := by
  obtain ⟨T', X', e', st'⟩ := getS2 X hx hZ hown (Or.inr w) via eT F (g := mkF m pc Ls st) rfl hd
  exact Go.by st' (k T' X' e')
theorem Go.newO (X : Stand p l e R s m args below meth c T locs cells slots) (hx : p.tables.exec = Jvm.exec) (hZ : Z.Warmed39 s.vm) {own C : String} {index n : Nat} (hown : s.vm.findClass own = some m.cls) (w : (Jvm.Cond.classLink own index C).before a0 Z = true) (wi : (Jvm.Cond.instantiable C n).before a0 Z = true) (wz : (Jvm.Cond.initialized C).before a0 Z = true) (eT : T.heap = h) {st : List Value}
    (hd : decode c.code pc = .ok (.new index, 3)) (hc : cells + 1 ≤ R.cells) (hl : slots + n ≤ R.slots)
    (k : ∀ T' h' b, Stand p l e R s m args below meth c T' locs (cells + 1) (slots + n) → T'.heap = h' → Ext h h' → b = h.size → Exa Z h' b C → (∀ {O nm d : String} {ty : FieldType}, Laid Z a0 C O nm d → parseFieldDescriptor d = some ty → Fld Z h' b O nm d (defaultValue ty)) → Go p e below P T' (mkF m (pc + 3) Ls (.ref b :: st))) : Go p e below P T (mkF m pc Ls st) := by
  obtain ⟨T', h', X', e', E', A', D', -, st'⟩ := RoadKit.newO X hx hZ hown w wi wz eT (g := mkF m pc Ls st) rfl hd hc hl
  exact Go.by st' (k T' h' _ X' e' E' rfl A' D')
theorem Go.newP (X : Stand p l e R s m args below meth c T locs cells slots) (hx : p.tables.exec = Jvm.exec) (hZ : Z.Warmed39 s.vm) {aty : ArrayType} (w : (Jvm.Cond.arrayClass (newarray.typeOf aty)).before a0 Z = true) (eT : T.heap = h) {n : Int32} (hd : decode c.code pc = .ok (.newarray aty, 2)) (hn : ¬ n < 0) {cap : Nat} (hcap : n.toNatClampNeg ≤ cap) (hb : cap * 8 ≤ 536870912) (hc : cells + 1 ≤ R.cells) (hl : slots + cap ≤ R.slots)
    (k : ∀ T' h' b kA, Stand p l e R s m args below meth c T' locs (cells + 1) (slots + cap) → T'.heap = h' → Ext h h' → b = h.size → Arv Z h' b kA (newarray.typeOf aty) n [] (defaultValue (newarray.typeOf aty)) → Go p e below P T' (mkF m (pc + 2) Ls (.ref b :: rest))) : Go p e below P T (mkF m pc Ls (.int n :: rest)) := by
  obtain ⟨T', h', kA, X', e', E', A', st'⟩ := RoadKit.newP X hx hZ w eT (g := mkF m pc Ls (.int n :: rest)) rfl hd rfl hn hcap hb hc hl
  exact Go.by st' (k T' h' _ kA X' e' E' rfl (Arv.new A' hn))
theorem Go.initO (X : Stand p l e R s m args below meth c T locs cells slots) (hx : p.tables.exec = Jvm.exec) (hZ : Z.Warmed39 s.vm) {own : String} {idx : Nat} (hown : s.vm.findClass own = some m.cls) (w1 : (Jvm.Cond.methodLink own idx Lib.objectInit).before a0 Z = true) (w2 : (Jvm.Cond.instanceMethod Lib.objectInit).before a0 Z = true) (w3 : (Jvm.Cond.code Lib.objectInit ⟨#[0xb1]⟩ 1 none).before a0 Z = true) (eT : T.heap = h)
    {a : Addr} (hsz : Ls.size = c.maxLocals) (hd : decode c.code pc = .ok (.invokespecial idx, 3)) (hf : 1 ≤ R.frames) {W : Nat} (hW : (rest.map fun v => v.category).sum = W) (hl : W + 12 ≤ R.locals)
    (k : ∀ T', Stand p l e R s m args below meth c T' locs cells slots → T'.heap = h → Go p e below P T' (mkF m (pc + 3) Ls rest)) : Go p e below P T (mkF m pc Ls (.ref a :: rest)) := by
  obtain ⟨T', X', e', st⟩ := RoadKit.initO X hx hZ hown w1 w2 w3 eT (g := mkF m pc Ls (.ref a :: rest)) rfl hsz rfl hd hf (W := W) (by subst hW; show 2 * 0 + _ ≤ _; omega) hl
  exact Go.by st (k T' X' e')
theorem Go.castY (X : Stand p l e R s m args below meth c T locs cells slots) (hx : p.tables.exec = Jvm.exec) (hZ : Z.Warmed39 s.vm) {own K : String} {index : Nat} (hown : s.vm.findClass own = some m.cls) (w : (Jvm.Cond.classLink own index K).before a0 Z = true) (eT : T.heap = h) {a : Addr} (F : Ins Z h a K true) (hd : decode c.code pc = .ok (.checkcast index, 3))
    (k : ∀ T', Stand p l e R s m args below meth c T' locs cells slots → T'.heap = h → Go p e below P T' (mkF m (pc + 3) Ls (.ref a :: rest))) : Go p e below P T (mkF m pc Ls (.ref a :: rest)) := by
  obtain ⟨T', X', e', st⟩ := RoadKit.castY X hx hZ hown w eT F (g := mkF m pc Ls (.ref a :: rest)) rfl rfl hd
  exact Go.by st (k T' X' e')
theorem Go.instY (X : Stand p l e R s m args below meth c T locs cells slots) (hx : p.tables.exec = Jvm.exec) (hZ : Z.Warmed39 s.vm) {own K : String} {index : Nat} (hown : s.vm.findClass own = some m.cls) (w : (Jvm.Cond.classLink own index K).before a0 Z = true) (eT : T.heap = h) {a : Addr} (F : Ins Z h a K true) (hd : decode c.code pc = .ok (.instanceof index, 3))
    (k : ∀ T', Stand p l e R s m args below meth c T' locs cells slots → T'.heap = h → Go p e below P T' (mkF m (pc + 3) Ls (.int 1 :: rest))) : Go p e below P T (mkF m pc Ls (.ref a :: rest)) := by
  obtain ⟨T', X', e', st⟩ := RoadKit.instY X hx hZ hown w eT F (g := mkF m pc Ls (.ref a :: rest)) rfl rfl hd
  exact Go.by st (k T' X' e')
theorem Go.instN (X : Stand p l e R s m args below meth c T locs cells slots) (hx : p.tables.exec = Jvm.exec) (hZ : Z.Warmed39 s.vm) {own K C : String} {index : Nat} (hown : s.vm.findClass own = some m.cls) (w : (Jvm.Cond.classLink own index K).before a0 Z = true) (eT : T.heap = h) {a : Addr} (E : Exa Z h a C) (F : ∃ c t, Z.vm.findClass C = some c ∧ Z.vm.findClass K = some t ∧ Z.vm.assignable c t = false) (hd : decode c.code pc = .ok (.instanceof index, 3))
    (k : ∀ T', Stand p l e R s m args below meth c T' locs cells slots → T'.heap = h → Go p e below P T' (mkF m (pc + 3) Ls (.int 0 :: rest))) : Go p e below P T (mkF m pc Ls (.ref a :: rest)) := by
  obtain ⟨T', X', e', st⟩ := RoadKit.instNo X hx hZ hown w eT E F (g := mkF m pc Ls (.ref a :: rest)) rfl rfl hd
  exact Go.by st (k T' X' e')
theorem Go.aload (X : Stand p l e R s m args below meth c T locs cells slots) (hx : p.tables.exec = Jvm.exec) (hZ : Z.Warmed39 s.vm) (eT : T.heap = h) {a : Addr} {cl : Cell} {ty : FieldType} (A : Arr Z h a cl ty) {j : Int32} {v : Value} (hin : ¬ (j < 0 ∨ cl.slots.size ≤ j.toNatClampNeg)) (hat : cl.slots[j.toNatClampNeg]? = some v) {i : Instr}
    (hi : (i = .iaload ∧ ty = .int) ∨ (i = .laload ∧ ty = .long) ∨ (i = .aaload ∧ ty.isReference = true) ∨ (i = .caload ∧ ty = .char) ∨ (i = .saload ∧ ty = .short) ∨ (i = .baload ∧ ty = .byte)) (hd : decode c.code pc = .ok (i, 1)) (k : Go p e below P T (mkF m (pc + 1) Ls (v :: rest))) : Go p e below P T (mkF m pc Ls (.int j :: .ref a :: rest)) := by
  refine Go.by (fun t kk => ?_) k
  have hc : T.heap[a]? = some cl := by rw [eT]; exact A.1
  have ha := State.isArrayOf_alike hZ.alike A.2.1
  rcases hi with ⟨rfl, rfl⟩ | ⟨rfl, rfl⟩ | ⟨rfl, hr⟩ | ⟨rfl, rfl⟩ | ⟨rfl, rfl⟩ | ⟨rfl, rfl⟩
  · exact X.iaload hx hc ha A.2.2 hin hat (g := mkF m pc Ls (.int j :: .ref a :: rest)) rfl rfl hd _ kk
  · exact X.laload hx hc ha A.2.2 hin hat (g := mkF m pc Ls (.int j :: .ref a :: rest)) rfl rfl hd _ kk
  · exact X.aaload hx hc ha hr A.2.2 hin hat (g := mkF m pc Ls (.int j :: .ref a :: rest)) rfl rfl hd _ kk
  · exact X.caload hx hc ha A.2.2 hin hat (g := mkF m pc Ls (.int j :: .ref a :: rest)) rfl rfl hd _ kk
  · exact X.saload hx hc ha A.2.2 hin hat (g := mkF m pc Ls (.int j :: .ref a :: rest)) rfl rfl hd _ kk
  · exact X.baloadBytes hx hc ha A.2.2 hin hat (g := mkF m pc Ls (.int j :: .ref a :: rest)) rfl rfl hd _ kk
theorem Go.alen (X : Stand p l e R s m args below meth c T locs cells slots) (hx : p.tables.exec = Jvm.exec) (hZ : Z.Warmed39 s.vm) (eT : T.heap = h) {a : Addr} {cl : Cell} {ty : FieldType} (A : Arr Z h a cl ty) {z : Int32} (hz : cl.slots.size.toInt32 = z) (hd : decode c.code pc = .ok (.arraylength, 1)) (k : Go p e below P T (mkF m (pc + 1) Ls (.int z :: rest))) : Go p e below P T (mkF m pc Ls (.ref a :: rest)) := by
  refine Go.by (fun t kk => ?_) k
  subst hz
  exact X.arraylength hx (by rw [eT]; exact A.1) (State.isArrayOf_alike hZ.alike A.2.1) (g := mkF m pc Ls (.ref a :: rest)) rfl rfl hd _ kk
theorem Go.alenV (X : Stand p l e R s m args below meth c T locs cells slots) (hx : p.tables.exec = Jvm.exec) (hZ : Z.Warmed39 s.vm) (eT : T.heap = h) {a : Addr} {k : ClassId} {ty : FieldType} {z : Int32} {vs : List Value} {dv : Value} (F : Arv Z h a k ty z vs dv) (hd : decode c.code pc = .ok (.arraylength, 1)) (kk : Go p e below P T (mkF m (pc + 1) Ls (.int z :: rest))) : Go p e below P T (mkF m pc Ls (.ref a :: rest)) := by
  obtain ⟨cl, A, -, S, q, -, -⟩ := F; exact Go.alen X hx hZ eT A (len_of S q) hd kk
theorem Go.aloadV (X : Stand p l e R s m args below meth c T locs cells slots) (hx : p.tables.exec = Jvm.exec) (hZ : Z.Warmed39 s.vm) (eT : T.heap = h) {a : Addr} {k : ClassId} {ty : FieldType} {z : Int32} {vs : List Value} {dv : Value} (F : Arv Z h a k ty z vs dv) {j : Int32} {v : Value} (hj : ¬ j < 0 ∧ j < z) (hv : vs.getD j.toNatClampNeg dv = v) {i : Instr}
    (hi : (i = .iaload ∧ ty = .int) ∨ (i = .laload ∧ ty = .long) ∨ (i = .aaload ∧ ty.isReference = true) ∨ (i = .caload ∧ ty = .char) ∨ (i = .saload ∧ ty = .short) ∨ (i = .baload ∧ ty = .byte)) (hd : decode c.code pc = .ok (i, 1)) (kk : Go p e below P T (mkF m (pc + 1) Ls (v :: rest))) : Go p e below P T (mkF m pc Ls (.int j :: .ref a :: rest)) := by
  obtain ⟨cl, A, -, S, q, H, -⟩ := F
  have hin := inb_of S hj
  exact Go.aload X hx hZ eT A hin (H.at hin hv) hi hd kk
theorem Go.istV (X : Stand p l e R s m args below meth c T locs cells slots) (hx : p.tables.exec = Jvm.exec) (hZ : Z.Warmed39 s.vm) (eT : T.heap = h) {a : Addr} {k : ClassId} {z : Int32} {vs : List Value} {dv : Value} (F : Arv Z h a k .int z vs dv) {j x : Int32} (hj : ¬ j < 0 ∧ j < z) (i : Nat) (hji : j.toNatClampNeg = i) (hi : i < vs.length) (hd : decode c.code pc = .ok (.iastore, 1))
    (kk : ∀ T' h', Stand p l e R s m args below meth c T' (locs ++ [⟨a, j.toNatClampNeg⟩]) cells slots → T'.heap = h' → Wr h h' a j.toNatClampNeg (.int x) → Arv Z h' a k .int z (vs.set i (.int x)) dv → Go p e below P T' (mkF m (pc + 1) Ls rest)) : Go p e below P T (mkF m pc Ls (.int x :: .int j :: .ref a :: rest)) := by
  obtain ⟨cl, A, q1, S, q3, H, G⟩ := F
  have hin := inb_of S hj
  obtain ⟨T', h', X', e', W', st⟩ := stI X hx hZ eT A (j := j) (x := x) hin (g := mkF m pc Ls (.int x :: .int j :: .ref a :: rest)) rfl rfl hd
  exact Go.by st (kk T' h' X' e' W' (Arv.set A q1 S q3 H G rfl W' i hji hi))
theorem Go.jstV (X : Stand p l e R s m args below meth c T locs cells slots) (hx : p.tables.exec = Jvm.exec) (hZ : Z.Warmed39 s.vm) (eT : T.heap = h) {a : Addr} {k : ClassId} {z : Int32} {vs : List Value} {dv : Value} (F : Arv Z h a k .long z vs dv) {j : Int32} {x : Int64} (hj : ¬ j < 0 ∧ j < z) (i : Nat) (hji : j.toNatClampNeg = i) (hi : i < vs.length) (hd : decode c.code pc = .ok (.lastore, 1))
    (kk : ∀ T' h', Stand p l e R s m args below meth c T' (locs ++ [⟨a, j.toNatClampNeg⟩]) cells slots → T'.heap = h' → Wr h h' a j.toNatClampNeg (.long x) → Arv Z h' a k .long z (vs.set i (.long x)) dv → Go p e below P T' (mkF m (pc + 1) Ls rest)) : Go p e below P T (mkF m pc Ls (.long x :: .int j :: .ref a :: rest)) := by
  obtain ⟨cl, A, q1, S, q3, H, G⟩ := F
  have hin := inb_of S hj
  obtain ⟨T', h', X', e', W', st⟩ := stJ X hx hZ eT A (j := j) (x := x) hin (g := mkF m pc Ls (.long x :: .int j :: .ref a :: rest)) rfl rfl hd
  exact Go.by st (kk T' h' X' e' W' (Arv.set A q1 S q3 H G rfl W' i hji hi))
theorem Go.cloneA (X : Stand p l e R s m args below meth c T locs cells slots) (hx : p.tables.exec = Jvm.exec) (hZ : Z.Warmed39 s.vm) {own ad : String} {index : Nat} (hown : s.vm.findClass own = some m.cls) (w1 : (Jvm.Cond.methodLink own index ⟨ad, "clone", "()Ljava/lang/Object;"⟩).before a0 Z = true) (w2 : (Jvm.Cond.sameMethod ad "java/lang/Object" "clone" "()Ljava/lang/Object;").before a0 Z = true) (w3 : (Jvm.Cond.native ⟨"java/lang/Object", "clone", "()Ljava/lang/Object;"⟩).before a0 Z = true)
    (w4 : (Jvm.Cond.instanceMethod ⟨"java/lang/Object", "clone", "()Ljava/lang/Object;"⟩).before a0 Z = true) (w5 : (Jvm.Cond.selects ad ⟨ad, "clone", "()Ljava/lang/Object;"⟩ ⟨"java/lang/Object", "clone", "()Ljava/lang/Object;"⟩).before a0 Z = true) (w6 : (Jvm.Cond.castable ad "java/lang/Cloneable").before a0 Z = true) (eT : T.heap = h) {a : Addr} {cl : Cell} {ty : FieldType} (A : Arr Z h a cl ty) (E : Exa Z h a ad) (F : FitC Z cl)
    (hsz : Ls.size = c.maxLocals) (hd : decode c.code pc = .ok (.invokevirtual index, 3)) (hf : 1 ≤ R.frames) {W cap : Nat} (hW : (rest.map fun v => v.category).sum = W) (hl : W + 14 ≤ R.locals) (hcap : cl.slots.size ≤ cap) (hc : cells + 1 ≤ R.cells) (hsl : slots + cap ≤ R.slots)
    (k : ∀ T' h' b, Stand p l e R s m args below meth c T' locs (cells + 1) (slots + cap) → T'.heap = h' → Ext h h' → b = h.size → Arr Z h' b (cloneOf cl) ty → Exa Z h' b ad → Go p e below P T' (mkF m (pc + 3) Ls (.ref b :: rest))) : Go p e below P T (mkF m pc Ls (.ref a :: rest)) := by
  obtain ⟨T', h', X', e', E', A', X2, st⟩ := RoadKit.cloneA X hx hZ hown w1 w2 w3 w4 w5 w6 eT A E F (g := mkF m pc Ls (.ref a :: rest)) rfl hsz rfl hd hf (W := W) (cap := cap) (by subst hW; show 2 * 0 + _ ≤ _; omega) hl hcap hc hsl
  exact Go.by st (k T' h' _ X' e' E' rfl A' X2)
/-! calls by the callee's contract -/
section Call
variable {own : String} {index : Nat} {y : MethodName} {bytes : ByteArray} {maxL : Nat} {ret : Option FieldType} {rm : Room} {argsL : List Value} {Q' : Option Value → Heap → List Loc → Prop} {st : List Value} {W : Nat}
theorem Go.callS (X : Stand p l e R s m args below meth c T locs cells slots) (hx : p.tables.exec = Jvm.exec) (hZ : Z.Warmed39 s.vm) (hown : s.vm.findClass own = some m.cls) (w1 : (Jvm.Cond.methodLink own index y).before a0 Z = true) (w2 : (Jvm.Cond.static y).before a0 Z = true) (w3 : (Jvm.Cond.initialized y.cls).before a0 Z = true) (w4 : (Jvm.Cond.code y bytes maxL ret).before a0 Z = true)
    (hy : y.cls ≠ "java/lang/invoke/MethodHandle" ∧ y.cls ≠ "java/lang/invoke/VarHandle") (ct : Ct l y bytes maxL ret rm Z argsL.toArray h Q') (eT : T.heap = h) (hsz : Ls.size = c.maxLocals) (hlen : ∀ sig, parseMethodDescriptor y.desc = some sig → argsL.length = sig.parameters.length) (hst : st = argsL.reverse ++ rest) (hW : (rest.map fun v => v.category).sum = W)
    (hd : decode c.code pc = .ok (.invokestatic index, 3)) (hf : rm.frames + 1 ≤ R.frames) (hl : W + (maxL + 11) + rm.locals ≤ R.locals) (hc : cells + rm.cells ≤ R.cells) (hs : slots + rm.slots ≤ R.slots)
    (k : ∀ v T' h' L, Stand p l e R s m args below meth c T' (locs ++ L) (cells + rm.cells) (slots + rm.slots) → T'.heap = h' → Q' v h' L → Go p e below P T' (mkF m (pc + 3) Ls (v.toList ++ rest))) : Go p e below P T (mkF m pc Ls st) := by
  obtain ⟨v, _, ⟨T', L, k', n'⟩, -, X', ⟨Lc, hQ, hl', hk', hn'⟩, st'⟩ := Jvm.LawKit.callS X hx (y := y) hown (mvT hZ w1) (mvT hZ w2) (mvT hZ w3) (mvT hZ w4) hy (backOf (W := W) (ct []) hZ w4 w3 hf hl) (g := mkF m pc Ls st) rfl hsz (argsL := argsL) (rest := rest) hlen hst (by subst hW; show 2 * 0 + _ ≤ _; omega) hd (fun _ _ => ⟨rfl, eT, hc, hs⟩)
  dsimp only [Pt.U, Pt.locs, Pt.cells, Pt.slots] at X' hl' hk' hn' st' hQ
  subst hl' hk' hn'
  exact Go.by st' (k v T' _ Lc X' rfl hQ)
theorem Go.callC (X : Stand p l e R s m args below meth c T locs cells slots) (hx : p.tables.exec = Jvm.exec) (hZ : Z.Warmed39 s.vm) (hown : s.vm.findClass own = some m.cls) (hy1 : y.name = "<init>") (w1 : (Jvm.Cond.methodLink own index y).before a0 Z = true) (w2 : (Jvm.Cond.instanceMethod y).before a0 Z = true) (w3 : (Jvm.Cond.initialized y.cls).before a0 Z = true) (w4 : (Jvm.Cond.code y bytes maxL none).before a0 Z = true)
    (hy : y.cls ≠ "java/lang/invoke/MethodHandle" ∧ y.cls ≠ "java/lang/invoke/VarHandle") {a : Addr} (ct : Ct l y bytes maxL none rm Z (.ref a :: argsL).toArray h Q') (eT : T.heap = h) (hsz : Ls.size = c.maxLocals) (hlen : ∀ sig, parseMethodDescriptor y.desc = some sig → argsL.length = sig.parameters.length) (hst : st = argsL.reverse ++ .ref a :: rest) (hW : (rest.map fun v => v.category).sum = W)
    (hd : decode c.code pc = .ok (.invokespecial index, 3)) (hf : rm.frames + 1 ≤ R.frames) (hl : W + (maxL + 11) + rm.locals ≤ R.locals) (hc : cells + rm.cells ≤ R.cells) (hs : slots + rm.slots ≤ R.slots)
    (k : ∀ v T' h' L, Stand p l e R s m args below meth c T' (locs ++ L) (cells + rm.cells) (slots + rm.slots) → T'.heap = h' → Q' v h' L → Go p e below P T' (mkF m (pc + 3) Ls (v.toList ++ rest))) : Go p e below P T (mkF m pc Ls st) := by
  obtain ⟨v, _, ⟨T', L, k', n'⟩, -, X', ⟨Lc, hQ, hl', hk', hn'⟩, st'⟩ := X.specialBack hx (y := y) hy1 hown (mvT hZ w1) (mvT hZ w2) (mvT hZ w4) hy (backOf (W := W) (ct []) hZ w4 w3 hf hl) (g := mkF m pc Ls st) rfl hsz (Steps.refl _) (a := a) (argsL := argsL) (rest := rest) hlen hst (by subst hW; show 2 * 0 + _ ≤ _; omega) hd (fun _ _ => ⟨rfl, eT, hc, hs⟩)
  dsimp only [Pt.U, Pt.locs, Pt.cells, Pt.slots] at X' hl' hk' hn' st' hQ
  subst hl' hk' hn'
  exact Go.by (fun _ kk => st'.trans kk) (k v T' _ Lc X' rfl hQ)
theorem Go.callV (X : Stand p l e R s m args below meth c T locs cells slots) (hx : p.tables.exec = Jvm.exec) (hZ : Z.Warmed39 s.vm) (hown : s.vm.findClass own = some m.cls) {C : String} {z : MethodName} (w1 : (Jvm.Cond.methodLink own index y).before a0 Z = true) (w2 : (Jvm.Cond.declares y).before a0 Z = true) (nf : NotFace s y) (w5 : (Jvm.Cond.selects C y z).before a0 Z = true) (w6 : (Jvm.Cond.instanceMethod z).before a0 Z = true) (w3 : (Jvm.Cond.initialized z.cls).before a0 Z = true) (w4 : (Jvm.Cond.code z bytes maxL ret).before a0 Z = true)
    (hy : y.cls ≠ "java/lang/invoke/MethodHandle" ∧ y.cls ≠ "java/lang/invoke/VarHandle") {a : Addr} (E : Exa Z h a C) (ct : Ct l z bytes maxL ret rm Z (.ref a :: argsL).toArray h Q') (eT : T.heap = h) (hsz : Ls.size = c.maxLocals) (hlen : ∀ sig, parseMethodDescriptor y.desc = some sig → argsL.length = sig.parameters.length) (hst : st = argsL.reverse ++ .ref a :: rest) (hW : (rest.map fun v => v.category).sum = W)
    (hd : decode c.code pc = .ok (.invokevirtual index, 3)) (hf : rm.frames + 1 ≤ R.frames) (hl : W + (maxL + 11) + rm.locals ≤ R.locals) (hc : cells + rm.cells ≤ R.cells) (hs : slots + rm.slots ≤ R.slots)
    (k : ∀ v T' h' L, Stand p l e R s m args below meth c T' (locs ++ L) (cells + rm.cells) (slots + rm.slots) → T'.heap = h' → Q' v h' L → Go p e below P T' (mkF m (pc + 3) Ls (v.toList ++ rest))) : Go p e below P T (mkF m pc Ls st) := by
  obtain ⟨cq, kq, qa, qb, qc⟩ := isOf hZ eT E
  obtain ⟨v, _, ⟨T', L, k', n'⟩, -, X', ⟨Lc, hQ, hl', hk', hn'⟩, st'⟩ := X.virtualBack hx (y := y) (z := z) hown (mvT hZ w1) (mvT hZ w2) nf (mvT hZ w5) (mvT hZ w6) hy (backOf (W := W) (ct []) hZ w4 w3 hf hl) qa qc (g := mkF m pc Ls st) rfl hsz (Steps.refl _) (argsL := argsL) (rest := rest) hlen hst (by subst hW; show 2 * 0 + _ ≤ _; omega) hd (fun _ _ => ⟨rfl, eT, hc, hs⟩)
  dsimp only [Pt.U, Pt.locs, Pt.cells, Pt.slots] at X' hl' hk' hn' st' hQ
  subst hl' hk' hn'
  exact Go.by (fun _ kk => st'.trans kk) (k v T' _ Lc X' rfl hQ)
theorem Go.callVU (X : Stand p l e R s m args below meth c T locs cells slots) (hx : p.tables.exec = Jvm.exec) (hZ : Z.Warmed39 s.vm) (hown : s.vm.findClass own = some m.cls) {C owner : String} {z : MethodName} (w1 : (Jvm.Cond.methodLink own index y).before a0 Z = true) (ws : (Jvm.Cond.sameMethod y.cls owner y.name y.desc).before a0 Z = true) (w2 : (Jvm.Cond.declares ⟨owner, y.name, y.desc⟩).before a0 Z = true) (ho : owner ≠ "java/lang/invoke/MethodHandle" ∧ owner ≠ "java/lang/invoke/VarHandle") (w5 : (Jvm.Cond.selects C y z).before a0 Z = true) (w6 : (Jvm.Cond.instanceMethod z).before a0 Z = true) (w3 : (Jvm.Cond.initialized z.cls).before a0 Z = true) (w4 : (Jvm.Cond.code z bytes maxL ret).before a0 Z = true)
    {a : Addr} (E : Exa Z h a C) (ct : Ct l z bytes maxL ret rm Z (.ref a :: argsL).toArray h Q') (eT : T.heap = h) (hsz : Ls.size = c.maxLocals) (hlen : ∀ sig, parseMethodDescriptor y.desc = some sig → argsL.length = sig.parameters.length) (hst : st = argsL.reverse ++ .ref a :: rest) (hW : (rest.map fun v => v.category).sum = W)
    (hd : decode c.code pc = .ok (.invokevirtual index, 3)) (hf : rm.frames + 1 ≤ R.frames) (hl : W + (maxL + 11) + rm.locals ≤ R.locals) (hc : cells + rm.cells ≤ R.cells) (hs : slots + rm.slots ≤ R.slots)
    (k : ∀ v T' h' L, Stand p l e R s m args below meth c T' (locs ++ L) (cells + rm.cells) (slots + rm.slots) → T'.heap = h' → Q' v h' L → Go p e below P T' (mkF m (pc + 3) Ls (v.toList ++ rest))) : Go p e below P T (mkF m pc Ls st) := by
  obtain ⟨cq, kq, qa, qb, qc⟩ := isOf hZ eT E
  obtain ⟨v, _, ⟨T', L, k', n'⟩, -, X', ⟨Lc, hQ, hl', hk', hn'⟩, st'⟩ := X.virtualBackUp hx (x := y) (y := z) (owner := owner) hown (mvT hZ w1) (mvT hZ ws) (mvT hZ w2) ho (mvT hZ w5) (mvT hZ w6) (backOf (W := W) (ct []) hZ w4 w3 hf hl) qa qc (g := mkF m pc Ls st) rfl hsz (Steps.refl _) (argsL := argsL) (rest := rest) hlen hst (by subst hW; show 2 * 0 + _ ≤ _; omega) hd (fun _ _ => ⟨rfl, eT, hc, hs⟩)
  dsimp only [Pt.U, Pt.locs, Pt.cells, Pt.slots] at X' hl' hk' hn' st' hQ
  subst hl' hk' hn'
  exact Go.by (fun _ kk => st'.trans kk) (k v T' _ Lc X' rfl hQ)
end Call
theorem eqI_v {args : Array Value} {first s : State} {o : Option Outcome} {idx : List Nat} {t : Term} {n : Int32} (h : (Jvm.Cond.eq t (.int n)).value args first o s idx = some true) : t.eval args first o idx s = some (.int n) := by
  simp only [Cond.value, Term.eval] at h
  cases ht : t.eval args first o idx s with
  | none => simp [ht] at h
  | some x => cases x <;> simp [ht] at h ⊢; exact h
theorem nsRoot {O K : String} {n : Nat} (w : (Jvm.Cond.noSuperclass O).before a0 Z = true) (wk : (Jvm.Cond.instantiable K n).before a0 Z = true) (hn : O ≠ K) : NS Z O K := by
  obtain ⟨c, k, h1, h2, h3, -, -⟩ := Cond.noSuperclass_spec w
  obtain ⟨t, kt, g1, -⟩ := Cond.instantiable_spec wk
  have ne := ids_ne h1 g1 hn
  refine ⟨c, t, h1, g1, fun fuel => ?_⟩
  cases fuel with
  | zero => rfl
  | succ f => simp [Vm.isSubclassAux, ne, h2, h3]
theorem nsNo {C S K : String} {n : Nat} (w : (Jvm.Cond.superclass C S).before a0 Z = true) (wk : (Jvm.Cond.instantiable K n).before a0 Z = true) (ns : NS Z C K) (hn : C ≠ K) : ∃ c t, Z.vm.findClass C = some c ∧ Z.vm.findClass K = some t ∧ Z.vm.assignable c t = false := by
  obtain ⟨c, t, h0, g0, n3⟩ := ns
  obtain ⟨p, k, kp, h1, h2, h3, h4, h5, -, h7⟩ := Cond.superclass_spec h0 w
  obtain ⟨t', k', g1, g2, g3, g4, -⟩ := Cond.instantiable_spec wk
  cases g0.symm.trans g1
  have ne := ids_ne h0 g0 hn
  have g5 : k'.isInterface = false := by cases hq : k'.isInterface <;> simp [hq] at g4 ⊢
  refine ⟨c, t, h0, g0, ?_⟩
  show Z.vm.assignableAux (255 + 1) c t = false
  simp [Vm.assignableAux, ne, h2, g2, h5, g3, g5, Vm.isSubclass, n3]
theorem lenI_v {args : Array Value} {first s : State} {o : Option Outcome} {idx : List Nat} {t : Term} {a : Addr} {cl : Cell} {n : Int32} (h : (Term.length t).eval args first o idx s = some (.int n)) (ht : t.eval args first o idx s = some (.ref a)) (ha : s.arrayAt? a = some cl) : cl.slots.size < 2 ^ 31 ∧ cl.slots.size.toInt32 = n := by
  simp [Term.eval, ht, ha] at h; exact h
theorem size_le {cl : Cell} {n : Int32} {k : Nat} (q : cl.slots.size < 2 ^ 31 ∧ cl.slots.size.toInt32 = n) (hn : n.toInt = k) : cl.slots.size = k := by
  have := len_toInt q.1; rw [q.2, hn] at this; exact (Int.ofNat.inj this).symm
theorem eqR_v {args : Array Value} {first s : State} {o : Option Outcome} {idx : List Nat} {t u : Term} {w : Addr} (hu : u.eval args first o idx s = some (.ref w)) (h : (Jvm.Cond.eq t u).value args first o s idx = some true) : t.eval args first o idx s = some (.ref w) := by
  simp only [Cond.value, hu] at h
  cases ht : t.eval args first o idx s with
  | none => simp [ht] at h
  | some x => cases x <;> simp [ht] at h ⊢; exact h
theorem Old.le {n0 : Nat} (O : Old Z n0 h) : n0 ≤ h.size := O.1 ▸ O.2.1
end K
end Jvm.OwnKit
namespace Jvm.Pilot.@@N@@
open Jvm Jvm.ClassFile Sem Op Lib Jvm.Free Jvm.Stand Jvm.LawKit Jvm.RoadKit Jvm.OwnKit Bundle Jvm.Pilot.@@N@@.Jvm.D
theorem own_idxJ {cl : Cell} {z : Int64} (S : cl.slots.size = (256 : Int32).toNatClampNeg) (h1 : ¬ z < (-128 : Int64)) (h2 : ¬ (127 : Int64) < z) : ¬ (z.toInt32 + (128 : Int32) < 0 ∨ cl.slots.size ≤ (z.toInt32 + (128 : Int32)).toNatClampNeg) := by
  rw [Int64.lt_iff_toInt_lt] at h1 h2
  have e1 : (-128 : Int64).toInt = -128 := rfl
  have e2 : (127 : Int64).toInt = 127 := rfl
  have e3 : (128 : Int32).toInt = 128 := rfl
  have q1 := c_l2i z
  have q2 := c_iadd z.toInt32 (128 : Int32)
  have r1 := rng32 z.toInt32
  have r2 := rng32 (z.toInt32 + (128 : Int32))
  refine inb_of S ⟨?_, ?_⟩ <;> rw [Int32.lt_iff_toInt_lt]
  · have e0 : (0 : Int32).toInt = 0 := rfl
    omega
  · have e0 : (256 : Int32).toInt = 256 := rfl
    omega
theorem own_boxJ {z : Int64} (h1 : ¬ z < (-128 : Int64)) (h2 : ¬ (127 : Int64) < z) : (z.toInt32 + (128 : Int32) - 128).toInt64 = z := by
  rw [Int64.lt_iff_toInt_lt] at h1 h2
  have e1 : (-128 : Int64).toInt = -128 := rfl
  have e2 : (127 : Int64).toInt = 127 := rfl
  have q1 := c_l2i z
  have r1 := rng32 z.toInt32
  have e : z.toInt32 + (128 : Int32) - 128 = z.toInt32 := by
    apply Int32.toInt_inj.mp
    have e3 : (128 : Int32).toInt = 128 := rfl
    have q2 := c_iadd z.toInt32 (128 : Int32)
    have q3 := c_isub (z.toInt32 + (128 : Int32)) (128 : Int32)
    have r2 := rng32 (z.toInt32 + (128 : Int32))
    have r3 := rng32 (z.toInt32 + (128 : Int32) - 128)
    omega
  rw [e]
  apply Int64.toInt_inj.mp
  rw [c_i2l]
  omega
theorem d_p10_m1_0 : decode prog_10_method_1_code 0 = .ok (.aload_n 0, 1) := by decide +kernel
theorem d_p10_m1_1 : decode prog_10_method_1_code 1 = .ok (.invokespecial 1, 3) := by decide +kernel
theorem d_p10_m1_4 : decode prog_10_method_1_code 4 = .ok (.aload_n 0, 1) := by decide +kernel
theorem d_p10_m1_5 : decode prog_10_method_1_code 5 = .ok (.lload_n 1, 1) := by decide +kernel
theorem d_p10_m1_6 : decode prog_10_method_1_code 6 = .ok (.putfield 7, 3) := by decide +kernel
theorem d_p10_m1_9 : decode prog_10_method_1_code 9 = .ok (.aload_n 0, 1) := by decide +kernel
theorem d_p10_m1_10 : decode prog_10_method_1_code 10 = .ok (.lload_n 3, 1) := by decide +kernel
theorem d_p10_m1_11 : decode prog_10_method_1_code 11 = .ok (.putfield 13, 3) := by decide +kernel
theorem d_p10_m1_14 : decode prog_10_method_1_code 14 = .ok (.aload_n 0, 1) := by decide +kernel
theorem d_p10_m1_15 : decode prog_10_method_1_code 15 = .ok (.lload 5, 2) := by decide +kernel
theorem d_p10_m1_17 : decode prog_10_method_1_code 17 = .ok (.putfield 16, 3) := by decide +kernel
theorem d_p10_m1_20 : decode prog_10_method_1_code 20 = .ok (.aload_n 0, 1) := by decide +kernel
theorem d_p10_m1_21 : decode prog_10_method_1_code 21 = .ok (.lload 7, 2) := by decide +kernel
theorem d_p10_m1_23 : decode prog_10_method_1_code 23 = .ok (.putfield 19, 3) := by decide +kernel
theorem d_p10_m1_26 : decode prog_10_method_1_code 26 = .ok (.return_, 1) := by decide +kernel
theorem pn_StateCounts_626 : plainName "com/example/long_fuse/longfuse/StateCounts" = true := by first | (simp [plainName, overriddenIn]; done) | decide +kernel
theorem d_p10_m6_0 : decode prog_10_method_6_code 0 = .ok (.aload_n 1, 1) := by decide +kernel
theorem d_p10_m6_1 : decode prog_10_method_6_code 1 = .ok (.instanceof 8, 3) := by decide +kernel
theorem d_p10_m6_4 : decode prog_10_method_6_code 4 = .ok (.ifCond .ne 5, 3) := by decide +kernel
theorem d_p10_m6_9 : decode prog_10_method_6_code 9 = .ok (.aload_n 1, 1) := by decide +kernel
theorem d_p10_m6_10 : decode prog_10_method_6_code 10 = .ok (.checkcast 8, 3) := by decide +kernel
theorem d_p10_m6_13 : decode prog_10_method_6_code 13 = .ok (.astore_n 2, 1) := by decide +kernel
theorem d_p10_m6_14 : decode prog_10_method_6_code 14 = .ok (.aload_n 0, 1) := by decide +kernel
theorem d_p10_m6_15 : decode prog_10_method_6_code 15 = .ok (.getfield 7, 3) := by decide +kernel
theorem d_p10_m6_18 : decode prog_10_method_6_code 18 = .ok (.aload_n 2, 1) := by decide +kernel
theorem d_p10_m6_19 : decode prog_10_method_6_code 19 = .ok (.getfield 7, 3) := by decide +kernel
theorem d_p10_m6_22 : decode prog_10_method_6_code 22 = .ok (.lcmp, 1) := by decide +kernel
theorem d_p10_m6_23 : decode prog_10_method_6_code 23 = .ok (.ifCond .ne 43, 3) := by decide +kernel
theorem d_p10_m6_26 : decode prog_10_method_6_code 26 = .ok (.aload_n 0, 1) := by decide +kernel
theorem d_p10_m6_27 : decode prog_10_method_6_code 27 = .ok (.getfield 13, 3) := by decide +kernel
theorem d_p10_m6_30 : decode prog_10_method_6_code 30 = .ok (.aload_n 2, 1) := by decide +kernel
theorem d_p10_m6_31 : decode prog_10_method_6_code 31 = .ok (.getfield 13, 3) := by decide +kernel
theorem d_p10_m6_34 : decode prog_10_method_6_code 34 = .ok (.lcmp, 1) := by decide +kernel
theorem d_p10_m6_35 : decode prog_10_method_6_code 35 = .ok (.ifCond .ne 31, 3) := by decide +kernel
theorem d_p10_m6_38 : decode prog_10_method_6_code 38 = .ok (.aload_n 0, 1) := by decide +kernel
theorem d_p10_m6_39 : decode prog_10_method_6_code 39 = .ok (.getfield 16, 3) := by decide +kernel
theorem d_p10_m6_42 : decode prog_10_method_6_code 42 = .ok (.aload_n 2, 1) := by decide +kernel
theorem d_p10_m6_43 : decode prog_10_method_6_code 43 = .ok (.getfield 16, 3) := by decide +kernel
theorem d_p10_m6_46 : decode prog_10_method_6_code 46 = .ok (.lcmp, 1) := by decide +kernel
theorem d_p10_m6_47 : decode prog_10_method_6_code 47 = .ok (.ifCond .ne 19, 3) := by decide +kernel
theorem d_p10_m6_50 : decode prog_10_method_6_code 50 = .ok (.aload_n 0, 1) := by decide +kernel
theorem d_p10_m6_51 : decode prog_10_method_6_code 51 = .ok (.getfield 19, 3) := by decide +kernel
theorem d_p10_m6_54 : decode prog_10_method_6_code 54 = .ok (.aload_n 2, 1) := by decide +kernel
theorem d_p10_m6_55 : decode prog_10_method_6_code 55 = .ok (.getfield 19, 3) := by decide +kernel
theorem d_p10_m6_58 : decode prog_10_method_6_code 58 = .ok (.lcmp, 1) := by decide +kernel
theorem d_p10_m6_59 : decode prog_10_method_6_code 59 = .ok (.ifCond .ne 7, 3) := by decide +kernel
theorem d_p10_m6_62 : decode prog_10_method_6_code 62 = .ok (.iconst 1, 1) := by decide +kernel
theorem d_p10_m6_63 : decode prog_10_method_6_code 63 = .ok (.goto 4, 3) := by decide +kernel
theorem d_p10_m6_67 : decode prog_10_method_6_code 67 = .ok (.ireturn, 1) := by decide +kernel
theorem d_p10_m6_66 : decode prog_10_method_6_code 66 = .ok (.iconst 0, 1) := by decide +kernel
theorem d_p10_m6_7 : decode prog_10_method_6_code 7 = .ok (.iconst 0, 1) := by decide +kernel
theorem d_p10_m6_8 : decode prog_10_method_6_code 8 = .ok (.ireturn, 1) := by decide +kernel
theorem d_j18_m1_0 : decode jdk_18_method_1_code 0 = .ok (.aload_n 0, 1) := by decide +kernel
theorem d_j18_m1_1 : decode jdk_18_method_1_code 1 = .ok (.invokespecial 1, 3) := by decide +kernel
theorem d_j18_m1_4 : decode jdk_18_method_1_code 4 = .ok (.return_, 1) := by decide +kernel
theorem pn_Number_79 : plainName "java/lang/Number" = true := by first | (simp [plainName, overriddenIn]; done) | decide +kernel
theorem d_j35_m26_0 : decode jdk_35_method_26_code 0 = .ok (.aload_n 0, 1) := by decide +kernel
theorem pd___V_8334 : parseMethodDescriptor "()V" = some ⟨[], none⟩ := by decide +kernel
theorem d_j35_m26_1 : decode jdk_35_method_26_code 1 = .ok (.invokespecial 270, 3) := by decide +kernel
theorem d_j35_m26_4 : decode jdk_35_method_26_code 4 = .ok (.aload_n 0, 1) := by decide +kernel
theorem d_j35_m26_5 : decode jdk_35_method_26_code 5 = .ok (.lload_n 1, 1) := by decide +kernel
theorem d_j35_m26_6 : decode jdk_35_method_26_code 6 = .ok (.putfield 273, 3) := by decide +kernel
theorem d_j35_m26_9 : decode jdk_35_method_26_code 9 = .ok (.return_, 1) := by decide +kernel
theorem pn_Long_626 : plainName "java/lang/Long" = true := by first | (simp [plainName, overriddenIn]; done) | decide +kernel
theorem d_j35_m24_0 : decode jdk_35_method_24_code 0 = .ok (.sipush 128, 3) := by decide +kernel
theorem d_j35_m24_3 : decode jdk_35_method_24_code 3 = .ok (.istore_n 2, 1) := by decide +kernel
theorem d_j35_m24_4 : decode jdk_35_method_24_code 4 = .ok (.lload_n 0, 1) := by decide +kernel
theorem d_j35_m24_5 : decode jdk_35_method_24_code 5 = .ok (.ldc2_w 230, 3) := by decide +kernel
theorem d_j35_m24_8 : decode jdk_35_method_24_code 8 = .ok (.lcmp, 1) := by decide +kernel
theorem d_j35_m24_9 : decode jdk_35_method_24_code 9 = .ok (.ifCond .lt 22, 3) := by decide +kernel
theorem d_j35_m24_31 : decode jdk_35_method_24_code 31 = .ok (.new 1, 3) := by decide +kernel
theorem d_j35_m24_34 : decode jdk_35_method_24_code 34 = .ok (.dup, 1) := by decide +kernel
theorem d_j35_m24_35 : decode jdk_35_method_24_code 35 = .ok (.lload_n 0, 1) := by decide +kernel
theorem pd__J_V_8737 : parseMethodDescriptor "(J)V" = some ⟨[.long], none⟩ := by decide +kernel
theorem d_j35_m24_36 : decode jdk_35_method_24_code 36 = .ok (.invokespecial 240, 3) := by decide +kernel
theorem d_j35_m24_39 : decode jdk_35_method_24_code 39 = .ok (.areturn, 1) := by decide +kernel
theorem d_j35_m24_12 : decode jdk_35_method_24_code 12 = .ok (.lload_n 0, 1) := by decide +kernel
theorem d_j35_m24_13 : decode jdk_35_method_24_code 13 = .ok (.ldc2_w 232, 3) := by decide +kernel
theorem d_j35_m24_16 : decode jdk_35_method_24_code 16 = .ok (.lcmp, 1) := by decide +kernel
theorem d_j35_m24_17 : decode jdk_35_method_24_code 17 = .ok (.ifCond .gt 14, 3) := by decide +kernel
theorem d_j35_m24_20 : decode jdk_35_method_24_code 20 = .ok (.getstatic 234, 3) := by decide +kernel
theorem d_j35_m24_23 : decode jdk_35_method_24_code 23 = .ok (.lload_n 0, 1) := by decide +kernel
theorem d_j35_m24_24 : decode jdk_35_method_24_code 24 = .ok (.l2i, 1) := by decide +kernel
theorem d_j35_m24_25 : decode jdk_35_method_24_code 25 = .ok (.sipush 128, 3) := by decide +kernel
theorem d_j35_m24_28 : decode jdk_35_method_24_code 28 = .ok (.iadd, 1) := by decide +kernel
theorem d_j35_m24_29 : decode jdk_35_method_24_code 29 = .ok (.aaload, 1) := by decide +kernel
theorem d_j35_m24_30 : decode jdk_35_method_24_code 30 = .ok (.areturn, 1) := by decide +kernel
theorem pd__JJJJ_V_9922 : parseMethodDescriptor "(JJJJ)V" = some ⟨[.long, .long, .long, .long], none⟩ := by decide +kernel
theorem pd__Ljava_lang_Object__Z_1715 : parseMethodDescriptor "(Ljava/lang/Object;)Z" = some ⟨[(.object "java/lang/Object")], some .boolean⟩ := by decide +kernel
theorem pd__J_Ljava_lang_Long__7715 : parseMethodDescriptor "(J)Ljava/lang/Long;" = some ⟨[.long], some (.object "java/lang/Long")⟩ := by decide +kernel
theorem pn_StateCountsEqualsPinLaw_458 : plainName "com/example/long_fuse/longfuse/StateCountsEqualsPinLaw" = true := by first | (simp [plainName, overriddenIn]; done) | decide +kernel
set_option maxRecDepth 65536 in
set_option maxHeartbeats 40000000 in
theorem ct_init (l : Launch) (Z : State) (a0 : Array Value) (hw : ∀ d ∈ tables_1, d.before a0 Z = true) (a1 : Addr) (x0 : Int64) (x1 : Int64) (x2 : Int64) (x3 : Int64) (h0 : Heap) (n0 : Nat) (O : Old Z n0 h0) (E_a1 : Exa Z h0 a1 "com/example/long_fuse/longfuse/StateCounts") (F_a1_waiting : Fld Z h0 a1 "com/example/long_fuse/longfuse/StateCounts" "waiting" "J" (.long (0 : Int64))) (F_a1_running : Fld Z h0 a1 "com/example/long_fuse/longfuse/StateCounts" "running" "J" (.long (0 : Int64))) (F_a1_done : Fld Z h0 a1 "com/example/long_fuse/longfuse/StateCounts" "done" "J" (.long (0 : Int64))) (F_a1_dead : Fld Z h0 a1 "com/example/long_fuse/longfuse/StateCounts" "dead" "J" (.long (0 : Int64))) (g_a1 : n0 ≤ a1) :
    Ct l (⟨"com/example/long_fuse/longfuse/StateCounts", "<init>", "(JJJJ)V"⟩ : MethodName) prog_10_method_1_code 9 none ({ frames := 1, cells := 0, slots := 0, locals := 12 } : Room) Z #[(.ref a1), (.long x0), (.long x1), (.long x2), (.long x3)] h0 (fun v h L => v = none ∧ Fr n0 L ∧ Keep h0 h [a1] ∧ Fld Z h a1 "com/example/long_fuse/longfuse/StateCounts" "waiting" "J" (.long x0) ∧ Fld Z h a1 "com/example/long_fuse/longfuse/StateCounts" "running" "J" (.long x1) ∧ Fld Z h a1 "com/example/long_fuse/longfuse/StateCounts" "done" "J" (.long x2) ∧ Fld Z h a1 "com/example/long_fuse/longfuse/StateCounts" "dead" "J" (.long x3)) := by
  refine Ct.of (plainFor_of_name pn_StateCounts_626) ?_
  intro p e s m below meth c T0 X0 hx hby hml hown hnm hret hlk hZ e0
  have hown : s.vm.findClass "com/example/long_fuse/longfuse/StateCounts" = some m.cls := hown
  have hml : c.maxLocals = 9 := hml
  have N0 := Fr.nil n0
  refine Go.cast (g' := mkF m 0 #[.val (.ref a1), .val (.long x0), .second, .val (.long x1), .second, .val (.long x2), .second, .val (.long x3), .second] []) (by first | (simp [entryFrame, mkF, argsToLocals, Value.category]; done) | rfl) ?_
  have K : Keep h0 h0 [a1] := Keep.refl _ _
  refine Go.by (T' := T0) (g' := (mkF m 1 #[.val (.ref a1), .val (.long x0), .second, .val (.long x1), .second, .val (.long x2), .second, .val (.long x3), .second] [(.ref a1)])) (fun t k => ?_) ?_
  · show Steps p.tables e below (T0.setTop (mkF m 0 #[.val (.ref a1), .val (.long x0), .second, .val (.long x1), .second, .val (.long x2), .second, .val (.long x3), .second] [])) _
    refine XS.aloadN X0.here hx rfl (hb hby d_p10_m1_0) rfl rfl ?_
    exact k
  refine Go.initO X0 hx hZ hown (wd hw 6 rfl) (wd hw 7 rfl) (wd hw 8 rfl) e0 (by rw [hml]; rfl) (hb hby d_p10_m1_1) (by decide) (W := 0) rfl (by decide) ?_
  intro T1 X1 e1
  show Go p e below _ T1 (mkF m 4 #[.val (.ref a1), .val (.long x0), .second, .val (.long x1), .second, .val (.long x2), .second, .val (.long x3), .second] [])
  refine Go.by (T' := T1) (g' := (mkF m 6 #[.val (.ref a1), .val (.long x0), .second, .val (.long x1), .second, .val (.long x2), .second, .val (.long x3), .second] [(.long x0), (.ref a1)])) (fun t k => ?_) ?_
  · show Steps p.tables e below (T1.setTop (mkF m 4 #[.val (.ref a1), .val (.long x0), .second, .val (.long x1), .second, .val (.long x2), .second, .val (.long x3), .second] [])) _
    refine XS.aloadN X1.here hx rfl (hb hby d_p10_m1_4) rfl rfl ?_
    show Steps p.tables e below (T1.setTop (mkF m 5 #[.val (.ref a1), .val (.long x0), .second, .val (.long x1), .second, .val (.long x2), .second, .val (.long x3), .second] [(.ref a1)])) _
    refine XS.lloadN X1.here hx rfl (hb hby d_p10_m1_5) rfl ?_
    exact k
  refine Go.putF X1 hx hZ hown (wd hw 9 rfl) Via.refl e1 F_a1_waiting E_a1 (Or.inr ⟨(wd hw 10 rfl), rfl, hnm⟩) (wd hw 1 rfl) (ty := .long) (by decide) rfl rfl (hb hby d_p10_m1_6) ?_
  intro T2 h2 X2 e2 W2
  replace E_a1 := E_a1.wr W2
  replace F_a1_waiting := F_a1_waiting.same W2
  replace F_a1_running := F_a1_running.other W2 (Or.inr (slot_ne (a0 := a0) (Or.inr (wd hw 12 rfl)) (Or.inr (wd hw 10 rfl)) (by decide) (t := .long) (t' := .long) (by decide) (by decide)))
  replace F_a1_done := F_a1_done.other W2 (Or.inr (slot_ne (a0 := a0) (Or.inr (wd hw 14 rfl)) (Or.inr (wd hw 10 rfl)) (by decide) (t := .long) (t' := .long) (by decide) (by decide)))
  replace F_a1_dead := F_a1_dead.other W2 (Or.inr (slot_ne (a0 := a0) (Or.inr (wd hw 16 rfl)) (Or.inr (wd hw 10 rfl)) (by decide) (t := .long) (t' := .long) (by decide) (by decide)))
  replace O := O.wr W2 g_a1
  have N2 := Fr.snoc X2 N0 g_a1
  replace K := K.wr W2 (Or.inl (List.mem_of_getElem? (i := 0) rfl))
  show Go p e below _ T2 (mkF m 9 #[.val (.ref a1), .val (.long x0), .second, .val (.long x1), .second, .val (.long x2), .second, .val (.long x3), .second] [])
  refine Go.by (T' := T2) (g' := (mkF m 11 #[.val (.ref a1), .val (.long x0), .second, .val (.long x1), .second, .val (.long x2), .second, .val (.long x3), .second] [(.long x1), (.ref a1)])) (fun t k => ?_) ?_
  · show Steps p.tables e below (T2.setTop (mkF m 9 #[.val (.ref a1), .val (.long x0), .second, .val (.long x1), .second, .val (.long x2), .second, .val (.long x3), .second] [])) _
    refine XS.aloadN X2.here hx rfl (hb hby d_p10_m1_9) rfl rfl ?_
    show Steps p.tables e below (T2.setTop (mkF m 10 #[.val (.ref a1), .val (.long x0), .second, .val (.long x1), .second, .val (.long x2), .second, .val (.long x3), .second] [(.ref a1)])) _
    refine XS.lloadN X2.here hx rfl (hb hby d_p10_m1_10) rfl ?_
    exact k
  refine Go.putF X2 hx hZ hown (wd hw 11 rfl) Via.refl e2 F_a1_running E_a1 (Or.inr ⟨(wd hw 12 rfl), rfl, hnm⟩) (wd hw 1 rfl) (ty := .long) (by decide) rfl rfl (hb hby d_p10_m1_11) ?_
  intro T3 h3 X3 e3 W3
  replace E_a1 := E_a1.wr W3
  replace F_a1_waiting := F_a1_waiting.other W3 (Or.inr (slot_ne (a0 := a0) (Or.inr (wd hw 10 rfl)) (Or.inr (wd hw 12 rfl)) (by decide) (t := .long) (t' := .long) (by decide) (by decide)))
  replace F_a1_running := F_a1_running.same W3
  replace F_a1_done := F_a1_done.other W3 (Or.inr (slot_ne (a0 := a0) (Or.inr (wd hw 14 rfl)) (Or.inr (wd hw 12 rfl)) (by decide) (t := .long) (t' := .long) (by decide) (by decide)))
  replace F_a1_dead := F_a1_dead.other W3 (Or.inr (slot_ne (a0 := a0) (Or.inr (wd hw 16 rfl)) (Or.inr (wd hw 12 rfl)) (by decide) (t := .long) (t' := .long) (by decide) (by decide)))
  replace O := O.wr W3 g_a1
  have N3 := Fr.snoc X3 N2 g_a1
  replace K := K.wr W3 (Or.inl (List.mem_of_getElem? (i := 0) rfl))
  show Go p e below _ T3 (mkF m 14 #[.val (.ref a1), .val (.long x0), .second, .val (.long x1), .second, .val (.long x2), .second, .val (.long x3), .second] [])
  refine Go.by (T' := T3) (g' := (mkF m 17 #[.val (.ref a1), .val (.long x0), .second, .val (.long x1), .second, .val (.long x2), .second, .val (.long x3), .second] [(.long x2), (.ref a1)])) (fun t k => ?_) ?_
  · show Steps p.tables e below (T3.setTop (mkF m 14 #[.val (.ref a1), .val (.long x0), .second, .val (.long x1), .second, .val (.long x2), .second, .val (.long x3), .second] [])) _
    refine XS.aloadN X3.here hx rfl (hb hby d_p10_m1_14) rfl rfl ?_
    show Steps p.tables e below (T3.setTop (mkF m 15 #[.val (.ref a1), .val (.long x0), .second, .val (.long x1), .second, .val (.long x2), .second, .val (.long x3), .second] [(.ref a1)])) _
    refine XS.lload X3.here hx rfl (hb hby d_p10_m1_15) rfl ?_
    exact k
  refine Go.putF X3 hx hZ hown (wd hw 13 rfl) Via.refl e3 F_a1_done E_a1 (Or.inr ⟨(wd hw 14 rfl), rfl, hnm⟩) (wd hw 1 rfl) (ty := .long) (by decide) rfl rfl (hb hby d_p10_m1_17) ?_
  intro T4 h4 X4 e4 W4
  replace E_a1 := E_a1.wr W4
  replace F_a1_waiting := F_a1_waiting.other W4 (Or.inr (slot_ne (a0 := a0) (Or.inr (wd hw 10 rfl)) (Or.inr (wd hw 14 rfl)) (by decide) (t := .long) (t' := .long) (by decide) (by decide)))
  replace F_a1_running := F_a1_running.other W4 (Or.inr (slot_ne (a0 := a0) (Or.inr (wd hw 12 rfl)) (Or.inr (wd hw 14 rfl)) (by decide) (t := .long) (t' := .long) (by decide) (by decide)))
  replace F_a1_done := F_a1_done.same W4
  replace F_a1_dead := F_a1_dead.other W4 (Or.inr (slot_ne (a0 := a0) (Or.inr (wd hw 16 rfl)) (Or.inr (wd hw 14 rfl)) (by decide) (t := .long) (t' := .long) (by decide) (by decide)))
  replace O := O.wr W4 g_a1
  have N4 := Fr.snoc X4 N3 g_a1
  replace K := K.wr W4 (Or.inl (List.mem_of_getElem? (i := 0) rfl))
  show Go p e below _ T4 (mkF m 20 #[.val (.ref a1), .val (.long x0), .second, .val (.long x1), .second, .val (.long x2), .second, .val (.long x3), .second] [])
  refine Go.by (T' := T4) (g' := (mkF m 23 #[.val (.ref a1), .val (.long x0), .second, .val (.long x1), .second, .val (.long x2), .second, .val (.long x3), .second] [(.long x3), (.ref a1)])) (fun t k => ?_) ?_
  · show Steps p.tables e below (T4.setTop (mkF m 20 #[.val (.ref a1), .val (.long x0), .second, .val (.long x1), .second, .val (.long x2), .second, .val (.long x3), .second] [])) _
    refine XS.aloadN X4.here hx rfl (hb hby d_p10_m1_20) rfl rfl ?_
    show Steps p.tables e below (T4.setTop (mkF m 21 #[.val (.ref a1), .val (.long x0), .second, .val (.long x1), .second, .val (.long x2), .second, .val (.long x3), .second] [(.ref a1)])) _
    refine XS.lload X4.here hx rfl (hb hby d_p10_m1_21) rfl ?_
    exact k
  refine Go.putF X4 hx hZ hown (wd hw 15 rfl) Via.refl e4 F_a1_dead E_a1 (Or.inr ⟨(wd hw 16 rfl), rfl, hnm⟩) (wd hw 1 rfl) (ty := .long) (by decide) rfl rfl (hb hby d_p10_m1_23) ?_
  intro T5 h5 X5 e5 W5
  replace E_a1 := E_a1.wr W5
  replace F_a1_waiting := F_a1_waiting.other W5 (Or.inr (slot_ne (a0 := a0) (Or.inr (wd hw 10 rfl)) (Or.inr (wd hw 16 rfl)) (by decide) (t := .long) (t' := .long) (by decide) (by decide)))
  replace F_a1_running := F_a1_running.other W5 (Or.inr (slot_ne (a0 := a0) (Or.inr (wd hw 12 rfl)) (Or.inr (wd hw 16 rfl)) (by decide) (t := .long) (t' := .long) (by decide) (by decide)))
  replace F_a1_done := F_a1_done.other W5 (Or.inr (slot_ne (a0 := a0) (Or.inr (wd hw 14 rfl)) (Or.inr (wd hw 16 rfl)) (by decide) (t := .long) (t' := .long) (by decide) (by decide)))
  replace F_a1_dead := F_a1_dead.same W5
  replace O := O.wr W5 g_a1
  have N5 := Fr.snoc X5 N4 g_a1
  replace K := K.wr W5 (Or.inl (List.mem_of_getElem? (i := 0) rfl))
  show Go p e below _ T5 (mkF m 26 #[.val (.ref a1), .val (.long x0), .second, .val (.long x1), .second, .val (.long x2), .second, .val (.long x3), .second] [])
  refine Go.retV X5 hx hlk hret (hb hby d_p10_m1_26) (by decide) (by decide) e5 ?_
  exact ⟨rfl, N5, K, F_a1_waiting, F_a1_running, F_a1_done, F_a1_dead⟩
set_option maxRecDepth 65536 in
set_option maxHeartbeats 40000000 in
theorem ct_eqo (l : Launch) (Z : State) (a0 : Array Value) (hw : ∀ d ∈ tables_1, d.before a0 Z = true) (a1 : Addr) (a2 : Addr) (x0 : Int64) (x1 : Int64) (x2 : Int64) (x3 : Int64) (y0 : Int64) (y1 : Int64) (y2 : Int64) (y3 : Int64) (r : Int32) (h0 : Heap) (n0 : Nat) (O : Old Z n0 h0) (F_a1_waiting : Fld Z h0 a1 "com/example/long_fuse/longfuse/StateCounts" "waiting" "J" (.long x0)) (F_a1_running : Fld Z h0 a1 "com/example/long_fuse/longfuse/StateCounts" "running" "J" (.long x1)) (F_a1_done : Fld Z h0 a1 "com/example/long_fuse/longfuse/StateCounts" "done" "J" (.long x2)) (F_a1_dead : Fld Z h0 a1 "com/example/long_fuse/longfuse/StateCounts" "dead" "J" (.long x3)) (E_a2 : Exa Z h0 a2 "com/example/long_fuse/longfuse/StateCounts") (F_a2_waiting : Fld Z h0 a2 "com/example/long_fuse/longfuse/StateCounts" "waiting" "J" (.long y0)) (F_a2_running : Fld Z h0 a2 "com/example/long_fuse/longfuse/StateCounts" "running" "J" (.long y1)) (F_a2_done : Fld Z h0 a2 "com/example/long_fuse/longfuse/StateCounts" "done" "J" (.long y2)) (F_a2_dead : Fld Z h0 a2 "com/example/long_fuse/longfuse/StateCounts" "dead" "J" (.long y3)) (ne : a1 ≠ a2) (hr : r = if x0 = y0 ∧ x1 = y1 ∧ x2 = y2 ∧ x3 = y3 then 1 else 0) :
    Ct l (⟨"com/example/long_fuse/longfuse/StateCounts", "equals", "(Ljava/lang/Object;)Z"⟩ : MethodName) prog_10_method_6_code 3 (some .boolean) ({ frames := 0, cells := 0, slots := 0, locals := 0 } : Room) Z #[(.ref a1), (.ref a2)] h0 (fun v h L => v = some (.int r) ∧ Fr n0 L ∧ h0 = h) := by
  refine Ct.of (plainFor_of_name pn_StateCounts_626) ?_
  intro p e s m below meth c T0 X0 hx hby hml hown hnm hret hlk hZ e0
  have hown : s.vm.findClass "com/example/long_fuse/longfuse/StateCounts" = some m.cls := hown
  have hml : c.maxLocals = 3 := hml
  have N0 := Fr.nil n0
  refine Go.cast (g' := mkF m 0 #[.val (.ref a1), .val (.ref a2), .unset] []) (by first | (simp [entryFrame, mkF, argsToLocals, Value.category]; done) | rfl) ?_
  refine Go.by (T' := T0) (g' := (mkF m 1 #[.val (.ref a1), .val (.ref a2), .unset] [(.ref a2)])) (fun t k => ?_) ?_
  · show Steps p.tables e below (T0.setTop (mkF m 0 #[.val (.ref a1), .val (.ref a2), .unset] [])) _
    refine XS.aloadN X0.here hx rfl (hb hby d_p10_m6_0) rfl rfl ?_
    exact k
  refine Go.instY X0 hx hZ hown (wd hw 22 rfl) e0 (Ins.self E_a2) (hb hby d_p10_m6_1) ?_
  intro T1 X1 e1
  show Go p e below _ T1 (mkF m 4 #[.val (.ref a1), .val (.ref a2), .unset] [(.int (1 : Int32))])
  refine Go.by (T' := T1) (g' := (mkF m 10 #[.val (.ref a1), .val (.ref a2), .unset] [(.ref a2)])) (fun t k => ?_) ?_
  · show Steps p.tables e below (T1.setTop (mkF m 4 #[.val (.ref a1), .val (.ref a2), .unset] [(.int (1 : Int32))])) _
    refine XS.ifYes X1.here hx rfl (pc0 := 4) (pc' := 9) rfl (hb hby d_p10_m6_4) rfl ((if0 _ _).trans (feq (by decide : ¬ (1 : Int32) = (0 : Int32))).2) (by decide) (by decide) ?_
    show Steps p.tables e below (T1.setTop (mkF m 9 #[.val (.ref a1), .val (.ref a2), .unset] [])) _
    refine XS.aloadN X1.here hx rfl (hb hby d_p10_m6_9) rfl rfl ?_
    exact k
  refine Go.castY X1 hx hZ hown (wd hw 22 rfl) e1 (Ins.self E_a2) (hb hby d_p10_m6_10) ?_
  intro T2 X2 e2
  show Go p e below _ T2 (mkF m 13 #[.val (.ref a1), .val (.ref a2), .unset] [(.ref a2)])
  refine Go.by (T' := T2) (g' := (mkF m 15 #[.val (.ref a1), .val (.ref a2), .val (.ref a2)] [(.ref a1)])) (fun t k => ?_) ?_
  · show Steps p.tables e below (T2.setTop (mkF m 13 #[.val (.ref a1), .val (.ref a2), .unset] [(.ref a2)])) _
    refine XS.astoreN X2.here hx rfl (hb hby d_p10_m6_13) rfl rfl (l' := #[.val (.ref a1), .val (.ref a2), .val (.ref a2)]) rfl ?_
    show Steps p.tables e below (T2.setTop (mkF m 14 #[.val (.ref a1), .val (.ref a2), .val (.ref a2)] [])) _
    refine XS.aloadN X2.here hx rfl (hb hby d_p10_m6_14) rfl rfl ?_
    exact k
  refine Go.getF X2 hx hZ hown (wd hw 9 rfl) Via.refl e2 F_a1_waiting (hb hby d_p10_m6_15) ?_
  intro T3 X3 e3
  show Go p e below _ T3 (mkF m 18 #[.val (.ref a1), .val (.ref a2), .val (.ref a2)] [(.long x0)])
  refine Go.by (T' := T3) (g' := (mkF m 19 #[.val (.ref a1), .val (.ref a2), .val (.ref a2)] [(.ref a2), (.long x0)])) (fun t k => ?_) ?_
  · show Steps p.tables e below (T3.setTop (mkF m 18 #[.val (.ref a1), .val (.ref a2), .val (.ref a2)] [(.long x0)])) _
    refine XS.aloadN X3.here hx rfl (hb hby d_p10_m6_18) rfl rfl ?_
    exact k
  refine Go.getF X3 hx hZ hown (wd hw 9 rfl) Via.refl e3 F_a2_waiting (hb hby d_p10_m6_19) ?_
  intro T4 X4 e4
  show Go p e below _ T4 (mkF m 22 #[.val (.ref a1), .val (.ref a2), .val (.ref a2)] [(.long y0), (.long x0)])
  refine Go.by (T' := T4) (g' := (mkF m 23 #[.val (.ref a1), .val (.ref a2), .val (.ref a2)] [(.int (lcmpW x0 y0))])) (fun t k => ?_) ?_
  · show Steps p.tables e below (T4.setTop (mkF m 22 #[.val (.ref a1), .val (.ref a2), .val (.ref a2)] [(.long y0), (.long x0)])) _
    refine XS.lcmp X4.here hx rfl (hb hby d_p10_m6_22) rfl ?_
    exact k
  by_cases hy5 : x0 = y0
  · skip
    refine Go.by (T' := T4) (g' := (mkF m 27 #[.val (.ref a1), .val (.ref a2), .val (.ref a2)] [(.ref a1)])) (fun t k => ?_) ?_
    · show Steps p.tables e below (T4.setTop (mkF m 23 #[.val (.ref a1), .val (.ref a2), .val (.ref a2)] [(.int (lcmpW x0 y0))])) _
      refine XS.ifNo X4.here hx rfl (hb hby d_p10_m6_23) rfl ((if0 _ _).trans (teq ((lw_eq _ _).mpr hy5)).2) ?_
      show Steps p.tables e below (T4.setTop (mkF m 26 #[.val (.ref a1), .val (.ref a2), .val (.ref a2)] [])) _
      refine XS.aloadN X4.here hx rfl (hb hby d_p10_m6_26) rfl rfl ?_
      exact k
    refine Go.getF X4 hx hZ hown (wd hw 11 rfl) Via.refl e4 F_a1_running (hb hby d_p10_m6_27) ?_
    intro T6 X6 e6
    show Go p e below _ T6 (mkF m 30 #[.val (.ref a1), .val (.ref a2), .val (.ref a2)] [(.long x1)])
    refine Go.by (T' := T6) (g' := (mkF m 31 #[.val (.ref a1), .val (.ref a2), .val (.ref a2)] [(.ref a2), (.long x1)])) (fun t k => ?_) ?_
    · show Steps p.tables e below (T6.setTop (mkF m 30 #[.val (.ref a1), .val (.ref a2), .val (.ref a2)] [(.long x1)])) _
      refine XS.aloadN X6.here hx rfl (hb hby d_p10_m6_30) rfl rfl ?_
      exact k
    refine Go.getF X6 hx hZ hown (wd hw 11 rfl) Via.refl e6 F_a2_running (hb hby d_p10_m6_31) ?_
    intro T7 X7 e7
    show Go p e below _ T7 (mkF m 34 #[.val (.ref a1), .val (.ref a2), .val (.ref a2)] [(.long y1), (.long x1)])
    refine Go.by (T' := T7) (g' := (mkF m 35 #[.val (.ref a1), .val (.ref a2), .val (.ref a2)] [(.int (lcmpW x1 y1))])) (fun t k => ?_) ?_
    · show Steps p.tables e below (T7.setTop (mkF m 34 #[.val (.ref a1), .val (.ref a2), .val (.ref a2)] [(.long y1), (.long x1)])) _
      refine XS.lcmp X7.here hx rfl (hb hby d_p10_m6_34) rfl ?_
      exact k
    by_cases hy8 : x1 = y1
    · skip
      refine Go.by (T' := T7) (g' := (mkF m 39 #[.val (.ref a1), .val (.ref a2), .val (.ref a2)] [(.ref a1)])) (fun t k => ?_) ?_
      · show Steps p.tables e below (T7.setTop (mkF m 35 #[.val (.ref a1), .val (.ref a2), .val (.ref a2)] [(.int (lcmpW x1 y1))])) _
        refine XS.ifNo X7.here hx rfl (hb hby d_p10_m6_35) rfl ((if0 _ _).trans (teq ((lw_eq _ _).mpr hy8)).2) ?_
        show Steps p.tables e below (T7.setTop (mkF m 38 #[.val (.ref a1), .val (.ref a2), .val (.ref a2)] [])) _
        refine XS.aloadN X7.here hx rfl (hb hby d_p10_m6_38) rfl rfl ?_
        exact k
      refine Go.getF X7 hx hZ hown (wd hw 13 rfl) Via.refl e7 F_a1_done (hb hby d_p10_m6_39) ?_
      intro T9 X9 e9
      show Go p e below _ T9 (mkF m 42 #[.val (.ref a1), .val (.ref a2), .val (.ref a2)] [(.long x2)])
      refine Go.by (T' := T9) (g' := (mkF m 43 #[.val (.ref a1), .val (.ref a2), .val (.ref a2)] [(.ref a2), (.long x2)])) (fun t k => ?_) ?_
      · show Steps p.tables e below (T9.setTop (mkF m 42 #[.val (.ref a1), .val (.ref a2), .val (.ref a2)] [(.long x2)])) _
        refine XS.aloadN X9.here hx rfl (hb hby d_p10_m6_42) rfl rfl ?_
        exact k
      refine Go.getF X9 hx hZ hown (wd hw 13 rfl) Via.refl e9 F_a2_done (hb hby d_p10_m6_43) ?_
      intro T10 X10 e10
      show Go p e below _ T10 (mkF m 46 #[.val (.ref a1), .val (.ref a2), .val (.ref a2)] [(.long y2), (.long x2)])
      refine Go.by (T' := T10) (g' := (mkF m 47 #[.val (.ref a1), .val (.ref a2), .val (.ref a2)] [(.int (lcmpW x2 y2))])) (fun t k => ?_) ?_
      · show Steps p.tables e below (T10.setTop (mkF m 46 #[.val (.ref a1), .val (.ref a2), .val (.ref a2)] [(.long y2), (.long x2)])) _
        refine XS.lcmp X10.here hx rfl (hb hby d_p10_m6_46) rfl ?_
        exact k
      by_cases hy11 : x2 = y2
      · skip
        refine Go.by (T' := T10) (g' := (mkF m 51 #[.val (.ref a1), .val (.ref a2), .val (.ref a2)] [(.ref a1)])) (fun t k => ?_) ?_
        · show Steps p.tables e below (T10.setTop (mkF m 47 #[.val (.ref a1), .val (.ref a2), .val (.ref a2)] [(.int (lcmpW x2 y2))])) _
          refine XS.ifNo X10.here hx rfl (hb hby d_p10_m6_47) rfl ((if0 _ _).trans (teq ((lw_eq _ _).mpr hy11)).2) ?_
          show Steps p.tables e below (T10.setTop (mkF m 50 #[.val (.ref a1), .val (.ref a2), .val (.ref a2)] [])) _
          refine XS.aloadN X10.here hx rfl (hb hby d_p10_m6_50) rfl rfl ?_
          exact k
        refine Go.getF X10 hx hZ hown (wd hw 15 rfl) Via.refl e10 F_a1_dead (hb hby d_p10_m6_51) ?_
        intro T12 X12 e12
        show Go p e below _ T12 (mkF m 54 #[.val (.ref a1), .val (.ref a2), .val (.ref a2)] [(.long x3)])
        refine Go.by (T' := T12) (g' := (mkF m 55 #[.val (.ref a1), .val (.ref a2), .val (.ref a2)] [(.ref a2), (.long x3)])) (fun t k => ?_) ?_
        · show Steps p.tables e below (T12.setTop (mkF m 54 #[.val (.ref a1), .val (.ref a2), .val (.ref a2)] [(.long x3)])) _
          refine XS.aloadN X12.here hx rfl (hb hby d_p10_m6_54) rfl rfl ?_
          exact k
        refine Go.getF X12 hx hZ hown (wd hw 15 rfl) Via.refl e12 F_a2_dead (hb hby d_p10_m6_55) ?_
        intro T13 X13 e13
        show Go p e below _ T13 (mkF m 58 #[.val (.ref a1), .val (.ref a2), .val (.ref a2)] [(.long y3), (.long x3)])
        refine Go.by (T' := T13) (g' := (mkF m 59 #[.val (.ref a1), .val (.ref a2), .val (.ref a2)] [(.int (lcmpW x3 y3))])) (fun t k => ?_) ?_
        · show Steps p.tables e below (T13.setTop (mkF m 58 #[.val (.ref a1), .val (.ref a2), .val (.ref a2)] [(.long y3), (.long x3)])) _
          refine XS.lcmp X13.here hx rfl (hb hby d_p10_m6_58) rfl ?_
          exact k
        by_cases hy14 : x3 = y3
        · skip
          refine Go.by (T' := T13) (g' := (mkF m 67 #[.val (.ref a1), .val (.ref a2), .val (.ref a2)] [(.int (1 : Int32))])) (fun t k => ?_) ?_
          · show Steps p.tables e below (T13.setTop (mkF m 59 #[.val (.ref a1), .val (.ref a2), .val (.ref a2)] [(.int (lcmpW x3 y3))])) _
            refine XS.ifNo X13.here hx rfl (hb hby d_p10_m6_59) rfl ((if0 _ _).trans (teq ((lw_eq _ _).mpr hy14)).2) ?_
            show Steps p.tables e below (T13.setTop (mkF m 62 #[.val (.ref a1), .val (.ref a2), .val (.ref a2)] [])) _
            refine XS.iconst X13.here hx rfl (hb hby d_p10_m6_62) ?_
            show Steps p.tables e below (T13.setTop (mkF m 63 #[.val (.ref a1), .val (.ref a2), .val (.ref a2)] [(.int (1 : Int32))])) _
            refine XS.goto X13.here hx rfl (pc0 := 63) (pc' := 67) rfl (hb hby d_p10_m6_63) (by decide) (by decide) ?_
            exact k
          refine Go.retZ X13 hx hlk hret (Or.inr rfl) (hb hby d_p10_m6_67) (by decide) (by decide) e13 ?_
          exact ⟨by simp [hr, hy5, hy8, hy11, hy14], N0, rfl⟩
        · skip
          refine Go.by (T' := T13) (g' := (mkF m 67 #[.val (.ref a1), .val (.ref a2), .val (.ref a2)] [(.int (0 : Int32))])) (fun t k => ?_) ?_
          · show Steps p.tables e below (T13.setTop (mkF m 59 #[.val (.ref a1), .val (.ref a2), .val (.ref a2)] [(.int (lcmpW x3 y3))])) _
            refine XS.ifYes X13.here hx rfl (pc0 := 59) (pc' := 66) rfl (hb hby d_p10_m6_59) rfl ((if0 _ _).trans (feq (fun q => hy14 ((lw_eq _ _).mp q))).2) (by decide) (by decide) ?_
            show Steps p.tables e below (T13.setTop (mkF m 66 #[.val (.ref a1), .val (.ref a2), .val (.ref a2)] [])) _
            refine XS.iconst X13.here hx rfl (hb hby d_p10_m6_66) ?_
            exact k
          refine Go.retZ X13 hx hlk hret (Or.inl rfl) (hb hby d_p10_m6_67) (by decide) (by decide) e13 ?_
          exact ⟨by simp [hr, hy5, hy8, hy11, hy14], N0, rfl⟩
      · skip
        refine Go.by (T' := T10) (g' := (mkF m 67 #[.val (.ref a1), .val (.ref a2), .val (.ref a2)] [(.int (0 : Int32))])) (fun t k => ?_) ?_
        · show Steps p.tables e below (T10.setTop (mkF m 47 #[.val (.ref a1), .val (.ref a2), .val (.ref a2)] [(.int (lcmpW x2 y2))])) _
          refine XS.ifYes X10.here hx rfl (pc0 := 47) (pc' := 66) rfl (hb hby d_p10_m6_47) rfl ((if0 _ _).trans (feq (fun q => hy11 ((lw_eq _ _).mp q))).2) (by decide) (by decide) ?_
          show Steps p.tables e below (T10.setTop (mkF m 66 #[.val (.ref a1), .val (.ref a2), .val (.ref a2)] [])) _
          refine XS.iconst X10.here hx rfl (hb hby d_p10_m6_66) ?_
          exact k
        refine Go.retZ X10 hx hlk hret (Or.inl rfl) (hb hby d_p10_m6_67) (by decide) (by decide) e10 ?_
        exact ⟨by simp [hr, hy5, hy8, hy11], N0, rfl⟩
    · skip
      refine Go.by (T' := T7) (g' := (mkF m 67 #[.val (.ref a1), .val (.ref a2), .val (.ref a2)] [(.int (0 : Int32))])) (fun t k => ?_) ?_
      · show Steps p.tables e below (T7.setTop (mkF m 35 #[.val (.ref a1), .val (.ref a2), .val (.ref a2)] [(.int (lcmpW x1 y1))])) _
        refine XS.ifYes X7.here hx rfl (pc0 := 35) (pc' := 66) rfl (hb hby d_p10_m6_35) rfl ((if0 _ _).trans (feq (fun q => hy8 ((lw_eq _ _).mp q))).2) (by decide) (by decide) ?_
        show Steps p.tables e below (T7.setTop (mkF m 66 #[.val (.ref a1), .val (.ref a2), .val (.ref a2)] [])) _
        refine XS.iconst X7.here hx rfl (hb hby d_p10_m6_66) ?_
        exact k
      refine Go.retZ X7 hx hlk hret (Or.inl rfl) (hb hby d_p10_m6_67) (by decide) (by decide) e7 ?_
      exact ⟨by simp [hr, hy5, hy8], N0, rfl⟩
  · skip
    refine Go.by (T' := T4) (g' := (mkF m 67 #[.val (.ref a1), .val (.ref a2), .val (.ref a2)] [(.int (0 : Int32))])) (fun t k => ?_) ?_
    · show Steps p.tables e below (T4.setTop (mkF m 23 #[.val (.ref a1), .val (.ref a2), .val (.ref a2)] [(.int (lcmpW x0 y0))])) _
      refine XS.ifYes X4.here hx rfl (pc0 := 23) (pc' := 66) rfl (hb hby d_p10_m6_23) rfl ((if0 _ _).trans (feq (fun q => hy5 ((lw_eq _ _).mp q))).2) (by decide) (by decide) ?_
      show Steps p.tables e below (T4.setTop (mkF m 66 #[.val (.ref a1), .val (.ref a2), .val (.ref a2)] [])) _
      refine XS.iconst X4.here hx rfl (hb hby d_p10_m6_66) ?_
      exact k
    refine Go.retZ X4 hx hlk hret (Or.inl rfl) (hb hby d_p10_m6_67) (by decide) (by decide) e4 ?_
    exact ⟨by simp [hr, hy5], N0, rfl⟩
set_option maxRecDepth 65536 in
set_option maxHeartbeats 40000000 in
theorem ct_eqn (l : Launch) (Z : State) (a0 : Array Value) (hw : ∀ d ∈ tables_1, d.before a0 Z = true) (a1 : Addr) (h0 : Heap) (n0 : Nat) (O : Old Z n0 h0)  :
    Ct l (⟨"com/example/long_fuse/longfuse/StateCounts", "equals", "(Ljava/lang/Object;)Z"⟩ : MethodName) prog_10_method_6_code 3 (some .boolean) ({ frames := 0, cells := 0, slots := 0, locals := 0 } : Room) Z #[(.ref a1), .null] h0 (fun v h L => v = some (.int 0) ∧ Fr n0 L ∧ h0 = h) := by
  refine Ct.of (plainFor_of_name pn_StateCounts_626) ?_
  intro p e s m below meth c T0 X0 hx hby hml hown hnm hret hlk hZ e0
  have hown : s.vm.findClass "com/example/long_fuse/longfuse/StateCounts" = some m.cls := hown
  have hml : c.maxLocals = 3 := hml
  have N0 := Fr.nil n0
  refine Go.cast (g' := mkF m 0 #[.val (.ref a1), .val .null, .unset] []) (by first | (simp [entryFrame, mkF, argsToLocals, Value.category]; done) | rfl) ?_
  refine Go.by (T' := T0) (g' := (mkF m 8 #[.val (.ref a1), .val .null, .unset] [(.int (0 : Int32))])) (fun t k => ?_) ?_
  · show Steps p.tables e below (T0.setTop (mkF m 0 #[.val (.ref a1), .val .null, .unset] [])) _
    refine XS.aloadN X0.here hx rfl (hb hby d_p10_m6_0) rfl rfl ?_
    show Steps p.tables e below (T0.setTop (mkF m 1 #[.val (.ref a1), .val .null, .unset] [.null])) _
    refine X0.instanceofNull hx (g := (mkF m 1 #[.val (.ref a1), .val .null, .unset] [.null])) rfl rfl (hb hby d_p10_m6_1) _ ?_
    show Steps p.tables e below (T0.setTop (mkF m 4 #[.val (.ref a1), .val .null, .unset] [(.int (0 : Int32))])) _
    refine XS.ifNo X0.here hx rfl (hb hby d_p10_m6_4) rfl ((if0 _ _).trans (teq (by decide : (0 : Int32) = (0 : Int32))).2) ?_
    show Steps p.tables e below (T0.setTop (mkF m 7 #[.val (.ref a1), .val .null, .unset] [])) _
    refine XS.iconst X0.here hx rfl (hb hby d_p10_m6_7) ?_
    exact k
  refine Go.retZ X0 hx hlk hret (Or.inl rfl) (hb hby d_p10_m6_8) (by decide) (by decide) e0 ?_
  exact ⟨rfl, N0, rfl⟩
set_option maxRecDepth 65536 in
set_option maxHeartbeats 40000000 in
theorem ct_eqx (l : Launch) (Z : State) (a0 : Array Value) (hw : ∀ d ∈ tables_1, d.before a0 Z = true) (a1 : Addr) (a2 : Addr) (h0 : Heap) (n0 : Nat) (O : Old Z n0 h0) (E_a2 : Exa Z h0 a2 "java/lang/Long") (ne : a1 ≠ a2) :
    Ct l (⟨"com/example/long_fuse/longfuse/StateCounts", "equals", "(Ljava/lang/Object;)Z"⟩ : MethodName) prog_10_method_6_code 3 (some .boolean) ({ frames := 0, cells := 0, slots := 0, locals := 0 } : Room) Z #[(.ref a1), (.ref a2)] h0 (fun v h L => v = some (.int 0) ∧ Fr n0 L ∧ h0 = h) := by
  refine Ct.of (plainFor_of_name pn_StateCounts_626) ?_
  intro p e s m below meth c T0 X0 hx hby hml hown hnm hret hlk hZ e0
  have hown : s.vm.findClass "com/example/long_fuse/longfuse/StateCounts" = some m.cls := hown
  have hml : c.maxLocals = 3 := hml
  have N0 := Fr.nil n0
  refine Go.cast (g' := mkF m 0 #[.val (.ref a1), .val (.ref a2), .unset] []) (by first | (simp [entryFrame, mkF, argsToLocals, Value.category]; done) | rfl) ?_
  refine Go.by (T' := T0) (g' := (mkF m 1 #[.val (.ref a1), .val (.ref a2), .unset] [(.ref a2)])) (fun t k => ?_) ?_
  · show Steps p.tables e below (T0.setTop (mkF m 0 #[.val (.ref a1), .val (.ref a2), .unset] [])) _
    refine XS.aloadN X0.here hx rfl (hb hby d_p10_m6_0) rfl rfl ?_
    exact k
  refine Go.instN X0 hx hZ hown (wd hw 22 rfl) e0 E_a2 (nsNo (a0 := a0) (wd hw 32 rfl) (wd hw 1 rfl) (NS.step (wd hw 32 rfl) (NS.step (wd hw 33 rfl) (nsRoot (wd hw 34 rfl) (wd hw 1 rfl) (by decide)) (by decide)) (by decide)) (by decide)) (hb hby d_p10_m6_1) ?_
  intro T1 X1 e1
  show Go p e below _ T1 (mkF m 4 #[.val (.ref a1), .val (.ref a2), .unset] [(.int (0 : Int32))])
  refine Go.by (T' := T1) (g' := (mkF m 8 #[.val (.ref a1), .val (.ref a2), .unset] [(.int (0 : Int32))])) (fun t k => ?_) ?_
  · show Steps p.tables e below (T1.setTop (mkF m 4 #[.val (.ref a1), .val (.ref a2), .unset] [(.int (0 : Int32))])) _
    refine XS.ifNo X1.here hx rfl (hb hby d_p10_m6_4) rfl ((if0 _ _).trans (teq (by decide : (0 : Int32) = (0 : Int32))).2) ?_
    show Steps p.tables e below (T1.setTop (mkF m 7 #[.val (.ref a1), .val (.ref a2), .unset] [])) _
    refine XS.iconst X1.here hx rfl (hb hby d_p10_m6_7) ?_
    exact k
  refine Go.retZ X1 hx hlk hret (Or.inl rfl) (hb hby d_p10_m6_8) (by decide) (by decide) e1 ?_
  exact ⟨rfl, N0, rfl⟩
set_option maxRecDepth 65536 in
set_option maxHeartbeats 40000000 in
theorem ct_num_init (l : Launch) (Z : State) (a0 : Array Value) (hw : ∀ d ∈ tables_1, d.before a0 Z = true) (a1 : Addr) (h0 : Heap) (n0 : Nat) (O : Old Z n0 h0)  :
    Ct l (⟨"java/lang/Number", "<init>", "()V"⟩ : MethodName) jdk_18_method_1_code 1 none ({ frames := 1, cells := 0, slots := 0, locals := 12 } : Room) Z #[(.ref a1)] h0 (fun v h L => v = none ∧ Fr n0 L ∧ h0 = h) := by
  refine Ct.of (plainFor_of_name pn_Number_79) ?_
  intro p e s m below meth c T0 X0 hx hby hml hown hnm hret hlk hZ e0
  have hown : s.vm.findClass "java/lang/Number" = some m.cls := hown
  have hml : c.maxLocals = 1 := hml
  have N0 := Fr.nil n0
  refine Go.cast (g' := mkF m 0 #[.val (.ref a1)] []) (by first | (simp [entryFrame, mkF, argsToLocals, Value.category]; done) | rfl) ?_
  refine Go.by (T' := T0) (g' := (mkF m 1 #[.val (.ref a1)] [(.ref a1)])) (fun t k => ?_) ?_
  · show Steps p.tables e below (T0.setTop (mkF m 0 #[.val (.ref a1)] [])) _
    refine XS.aloadN X0.here hx rfl (hb hby d_j18_m1_0) rfl rfl ?_
    exact k
  refine Go.initO X0 hx hZ hown (wd hw 47 rfl) (wd hw 7 rfl) (wd hw 8 rfl) e0 (by rw [hml]; rfl) (hb hby d_j18_m1_1) (by decide) (W := 0) rfl (by decide) ?_
  intro T1 X1 e1
  show Go p e below _ T1 (mkF m 4 #[.val (.ref a1)] [])
  refine Go.retV X1 hx hlk hret (hb hby d_j18_m1_4) (by decide) (by decide) e1 ?_
  exact ⟨rfl, N0, rfl⟩
set_option maxRecDepth 65536 in
set_option maxHeartbeats 40000000 in
theorem ct_box_init (l : Launch) (Z : State) (a0 : Array Value) (hw : ∀ d ∈ tables_1, d.before a0 Z = true) (a1 : Addr) (z1 : Int64) (h0 : Heap) (n0 : Nat) (O : Old Z n0 h0) (E_a1 : Exa Z h0 a1 "java/lang/Long") (F_a1_value : Fld Z h0 a1 "java/lang/Long" "value" "J" (.long (0 : Int64))) (g_a1 : n0 ≤ a1) :
    Ct l (⟨"java/lang/Long", "<init>", "(J)V"⟩ : MethodName) jdk_35_method_26_code 3 none ({ frames := 2, cells := 0, slots := 0, locals := 24 } : Room) Z #[(.ref a1), (.long z1)] h0 (fun v h L => v = none ∧ Fr n0 L ∧ Keep h0 h [a1] ∧ Fld Z h a1 "java/lang/Long" "value" "J" (.long z1)) := by
  refine Ct.of (plainFor_of_name pn_Long_626) ?_
  intro p e s m below meth c T0 X0 hx hby hml hown hnm hret hlk hZ e0
  have hown : s.vm.findClass "java/lang/Long" = some m.cls := hown
  have hml : c.maxLocals = 3 := hml
  have N0 := Fr.nil n0
  refine Go.cast (g' := mkF m 0 #[.val (.ref a1), .val (.long z1), .second] []) (by first | (simp [entryFrame, mkF, argsToLocals, Value.category]; done) | rfl) ?_
  have K : Keep h0 h0 [a1] := Keep.refl _ _
  refine Go.by (T' := T0) (g' := (mkF m 1 #[.val (.ref a1), .val (.long z1), .second] [(.ref a1)])) (fun t k => ?_) ?_
  · show Steps p.tables e below (T0.setTop (mkF m 0 #[.val (.ref a1), .val (.long z1), .second] [])) _
    refine XS.aloadN X0.here hx rfl (hb hby d_j35_m26_0) rfl rfl ?_
    exact k
  refine Go.callC X0 hx hZ (W := 0) (argsL := []) (rest := []) hown rfl (wd hw 41 rfl) (wd hw 42 rfl) (wd hw 45 rfl) (wd hw 46 rfl) (by decide) (ct_num_init l Z a0 hw  a1 h0 n0 O ) e0 (by rw [hml]; rfl) (lenOf pd___V_8334 rfl) rfl rfl (hb hby d_j35_m26_1) (by decide) (by decide) (by decide) (by decide) ?_
  intro v1 T1 h1 L1 X1 e1 q1
  obtain ⟨rfl, N1, rfl⟩ := q1
  replace N1 := Fr.app N0 N1
  show Go p e below _ T1 (mkF m 4 #[.val (.ref a1), .val (.long z1), .second] [])
  refine Go.by (T' := T1) (g' := (mkF m 6 #[.val (.ref a1), .val (.long z1), .second] [(.long z1), (.ref a1)])) (fun t k => ?_) ?_
  · show Steps p.tables e below (T1.setTop (mkF m 4 #[.val (.ref a1), .val (.long z1), .second] [])) _
    refine XS.aloadN X1.here hx rfl (hb hby d_j35_m26_4) rfl rfl ?_
    show Steps p.tables e below (T1.setTop (mkF m 5 #[.val (.ref a1), .val (.long z1), .second] [(.ref a1)])) _
    refine XS.lloadN X1.here hx rfl (hb hby d_j35_m26_5) rfl ?_
    exact k
  refine Go.putF X1 hx hZ hown (wd hw 48 rfl) Via.refl e1 F_a1_value E_a1 (Or.inr ⟨(wd hw 49 rfl), rfl, hnm⟩) (wd hw 36 rfl) (ty := .long) (by decide) rfl rfl (hb hby d_j35_m26_6) ?_
  intro T2 h2 X2 e2 W2
  replace E_a1 := E_a1.wr W2
  replace F_a1_value := F_a1_value.same W2
  replace O := O.wr W2 g_a1
  have N2 := Fr.snoc X2 N1 g_a1
  replace K := K.wr W2 (Or.inl (List.mem_of_getElem? (i := 0) rfl))
  show Go p e below _ T2 (mkF m 9 #[.val (.ref a1), .val (.long z1), .second] [])
  refine Go.retV X2 hx hlk hret (hb hby d_j35_m26_9) (by decide) (by decide) e2 ?_
  exact ⟨rfl, N2, K, F_a1_value⟩
set_option maxRecDepth 65536 in
set_option maxHeartbeats 40000000 in
theorem ct_valueOf (l : Launch) (Z : State) (a0 : Array Value) (hw : ∀ d ∈ tables_1, d.before a0 Z = true) (w_cache : Addr) (cl_cache : Cell) (S_cache : Sta Z Z.heap "java/lang/Long$LongCache" "cache" "[Ljava/lang/Long;" (.ref w_cache)) (B_cache : Bxs Z w_cache cl_cache "java/lang/Long" "J" (256 : Int32) (fun j => .long (j - 128).toInt64)) (z1 : Int64) (h0 : Heap) (n0 : Nat) (O : Old Z n0 h0)  :
    Ct l (⟨"java/lang/Long", "valueOf", "(J)Ljava/lang/Long;"⟩ : MethodName) jdk_35_method_24_code 3 (some (.object "java/lang/Long")) ({ frames := 3, cells := 1, slots := 1, locals := 39 } : Room) Z #[(.long z1)] h0 (fun v h L => ∃ b, v = some (.ref b) ∧ Fr n0 L ∧ Keep h0 h [] ∧ Exa Z h b "java/lang/Long" ∧ Fld Z h b "java/lang/Long" "value" "J" (.long z1) ∧ (b < Z.heap.size ∨ h0.size ≤ b)) := by
  refine Ct.of (plainFor_of_name pn_Long_626) ?_
  intro p e s m below meth c T0 X0 hx hby hml hown hnm hret hlk hZ e0
  have hown : s.vm.findClass "java/lang/Long" = some m.cls := hown
  have hml : c.maxLocals = 3 := hml
  have N0 := Fr.nil n0
  refine Go.cast (g' := mkF m 0 #[.val (.long z1), .second, .unset] []) (by first | (simp [entryFrame, mkF, argsToLocals, Value.category]; done) | rfl) ?_
  have K : Keep h0 h0 [] := Keep.refl _ _
  refine Go.by (T' := T0) (g' := (mkF m 9 #[.val (.long z1), .second, .val (.int (128 : Int32))] [(.int (lcmpW z1 (-128 : Int64)))])) (fun t k => ?_) ?_
  · show Steps p.tables e below (T0.setTop (mkF m 0 #[.val (.long z1), .second, .unset] [])) _
    refine XS.sipush X0.here hx rfl (hb hby d_j35_m24_0) ?_
    show Steps p.tables e below (T0.setTop (mkF m 3 #[.val (.long z1), .second, .unset] [(.int (128 : Int32))])) _
    refine XS.istoreN X0.here hx rfl (hb hby d_j35_m24_3) rfl (l' := #[.val (.long z1), .second, .val (.int (128 : Int32))]) rfl ?_
    show Steps p.tables e below (T0.setTop (mkF m 4 #[.val (.long z1), .second, .val (.int (128 : Int32))] [])) _
    refine XS.lloadN X0.here hx rfl (hb hby d_j35_m24_4) rfl ?_
    show Steps p.tables e below (T0.setTop (mkF m 5 #[.val (.long z1), .second, .val (.int (128 : Int32))] [(.long z1)])) _
    refine X0.ldc2Long hx hown (mvT hZ (wd hw 28 rfl)) (g := (mkF m 5 #[.val (.long z1), .second, .val (.int (128 : Int32))] [(.long z1)])) rfl (hb hby d_j35_m24_5) _ ?_
    show Steps p.tables e below (T0.setTop (mkF m 8 #[.val (.long z1), .second, .val (.int (128 : Int32))] [(.long (-128 : Int64)), (.long z1)])) _
    refine XS.lcmp X0.here hx rfl (hb hby d_j35_m24_8) rfl ?_
    exact k
  by_cases hy1 : z1 < (-128 : Int64)
  · skip
    refine Go.by (T' := T0) (g' := (mkF m 31 #[.val (.long z1), .second, .val (.int (128 : Int32))] [])) (fun t k => ?_) ?_
    · show Steps p.tables e below (T0.setTop (mkF m 9 #[.val (.long z1), .second, .val (.int (128 : Int32))] [(.int (lcmpW z1 (-128 : Int64)))])) _
      refine XS.ifYes X0.here hx rfl (pc0 := 9) (pc' := 31) rfl (hb hby d_j35_m24_9) rfl ((if0 _ _).trans (tlt ((lw_lt _ _).mpr hy1)).1) (by decide) (by decide) ?_
      exact k
    refine Go.newO X0 hx hZ hown (wd hw 35 rfl) (wd hw 36 rfl) (wd hw 26 rfl) e0 (hb hby d_j35_m24_31) (by decide) (by decide) ?_
    intro T2 h2 b2 X2 e2 E2 g2 A2 D2
    have lb2 := Nat.le_of_eq g2.symm
    have g_b2 : n0 ≤ b2 := Nat.le_trans (OwnKit.Old.le O) lb2
    have sz_b2 : h0.size ≤ b2 := Nat.le_trans K.1 lb2
    replace O := O.ext E2
    replace K := K.ext E2
    have E_b2 := A2
    have F_b2_value : Fld Z h2 b2 "java/lang/Long" "value" "J" (.long (0 : Int64)) := D2 (Or.inr (wd hw 49 rfl)) (ty := .long) (by decide)
    show Go p e below _ T2 (mkF m 34 #[.val (.long z1), .second, .val (.int (128 : Int32))] [(.ref b2)])
    refine Go.by (T' := T2) (g' := (mkF m 36 #[.val (.long z1), .second, .val (.int (128 : Int32))] [(.long z1), (.ref b2), (.ref b2)])) (fun t k => ?_) ?_
    · show Steps p.tables e below (T2.setTop (mkF m 34 #[.val (.long z1), .second, .val (.int (128 : Int32))] [(.ref b2)])) _
      refine XS.dup X2.here hx rfl (hb hby d_j35_m24_34) rfl rfl ?_
      show Steps p.tables e below (T2.setTop (mkF m 35 #[.val (.long z1), .second, .val (.int (128 : Int32))] [(.ref b2), (.ref b2)])) _
      refine XS.lloadN X2.here hx rfl (hb hby d_j35_m24_35) rfl ?_
      exact k
    refine Go.callC X2 hx hZ (W := 1) (argsL := [(.long z1)]) (rest := [(.ref b2)]) hown rfl (wd hw 37 rfl) (wd hw 38 rfl) (wd hw 26 rfl) (wd hw 40 rfl) (by decide) (ct_box_init l Z a0 hw  b2 z1 h2 n0 O E_b2 F_b2_value g_b2) e2 (by rw [hml]; rfl) (lenOf pd__J_V_8737 rfl) rfl rfl (hb hby d_j35_m24_36) (by decide) (by decide) (by decide) (by decide) ?_
    intro v3 T3 h3 L3 X3 e3 q3
    obtain ⟨rfl, N3, K3, F_v3⟩ := q3
    replace N3 := Fr.app N0 N3
    replace E_b2 := E_b2.keep K3
    clear F_b2_value
    replace O := O.keep K3 (allS g_b2 all0)
    replace K := K.trans K3 (allS (Or.inr sz_b2) all0)
    show Go p e below _ T3 (mkF m 39 #[.val (.long z1), .second, .val (.int (128 : Int32))] [(.ref b2)])
    refine Go.retA X3 hx hlk hret rfl rfl (hb hby d_j35_m24_39) (by decide) (by decide) e3 ?_
    exact ⟨b2, rfl, N3, K, E_b2, F_v3, Or.inr sz_b2⟩
  · skip
    refine Go.by (T' := T0) (g' := (mkF m 17 #[.val (.long z1), .second, .val (.int (128 : Int32))] [(.int (lcmpW z1 (127 : Int64)))])) (fun t k => ?_) ?_
    · show Steps p.tables e below (T0.setTop (mkF m 9 #[.val (.long z1), .second, .val (.int (128 : Int32))] [(.int (lcmpW z1 (-128 : Int64)))])) _
      refine XS.ifNo X0.here hx rfl (hb hby d_j35_m24_9) rfl ((if0 _ _).trans (flt (fun q => hy1 ((lw_lt _ _).mp q))).1) ?_
      show Steps p.tables e below (T0.setTop (mkF m 12 #[.val (.long z1), .second, .val (.int (128 : Int32))] [])) _
      refine XS.lloadN X0.here hx rfl (hb hby d_j35_m24_12) rfl ?_
      show Steps p.tables e below (T0.setTop (mkF m 13 #[.val (.long z1), .second, .val (.int (128 : Int32))] [(.long z1)])) _
      refine X0.ldc2Long hx hown (mvT hZ (wd hw 29 rfl)) (g := (mkF m 13 #[.val (.long z1), .second, .val (.int (128 : Int32))] [(.long z1)])) rfl (hb hby d_j35_m24_13) _ ?_
      show Steps p.tables e below (T0.setTop (mkF m 16 #[.val (.long z1), .second, .val (.int (128 : Int32))] [(.long (127 : Int64)), (.long z1)])) _
      refine XS.lcmp X0.here hx rfl (hb hby d_j35_m24_16) rfl ?_
      exact k
    by_cases hy4 : (127 : Int64) < z1
    · skip
      refine Go.by (T' := T0) (g' := (mkF m 31 #[.val (.long z1), .second, .val (.int (128 : Int32))] [])) (fun t k => ?_) ?_
      · show Steps p.tables e below (T0.setTop (mkF m 17 #[.val (.long z1), .second, .val (.int (128 : Int32))] [(.int (lcmpW z1 (127 : Int64)))])) _
        refine XS.ifYes X0.here hx rfl (pc0 := 17) (pc' := 31) rfl (hb hby d_j35_m24_17) rfl ((if0 _ _).trans (tlt ((lw_gt _ _).mpr hy4)).2.2.1) (by decide) (by decide) ?_
        exact k
      refine Go.newO X0 hx hZ hown (wd hw 35 rfl) (wd hw 36 rfl) (wd hw 26 rfl) e0 (hb hby d_j35_m24_31) (by decide) (by decide) ?_
      intro T5 h5 b5 X5 e5 E5 g5 A5 D5
      have lb5 := Nat.le_of_eq g5.symm
      have g_b5 : n0 ≤ b5 := Nat.le_trans (OwnKit.Old.le O) lb5
      have sz_b5 : h0.size ≤ b5 := Nat.le_trans K.1 lb5
      replace O := O.ext E5
      replace K := K.ext E5
      have E_b5 := A5
      have F_b5_value : Fld Z h5 b5 "java/lang/Long" "value" "J" (.long (0 : Int64)) := D5 (Or.inr (wd hw 49 rfl)) (ty := .long) (by decide)
      show Go p e below _ T5 (mkF m 34 #[.val (.long z1), .second, .val (.int (128 : Int32))] [(.ref b5)])
      refine Go.by (T' := T5) (g' := (mkF m 36 #[.val (.long z1), .second, .val (.int (128 : Int32))] [(.long z1), (.ref b5), (.ref b5)])) (fun t k => ?_) ?_
      · show Steps p.tables e below (T5.setTop (mkF m 34 #[.val (.long z1), .second, .val (.int (128 : Int32))] [(.ref b5)])) _
        refine XS.dup X5.here hx rfl (hb hby d_j35_m24_34) rfl rfl ?_
        show Steps p.tables e below (T5.setTop (mkF m 35 #[.val (.long z1), .second, .val (.int (128 : Int32))] [(.ref b5), (.ref b5)])) _
        refine XS.lloadN X5.here hx rfl (hb hby d_j35_m24_35) rfl ?_
        exact k
      refine Go.callC X5 hx hZ (W := 1) (argsL := [(.long z1)]) (rest := [(.ref b5)]) hown rfl (wd hw 37 rfl) (wd hw 38 rfl) (wd hw 26 rfl) (wd hw 40 rfl) (by decide) (ct_box_init l Z a0 hw  b5 z1 h5 n0 O E_b5 F_b5_value g_b5) e5 (by rw [hml]; rfl) (lenOf pd__J_V_8737 rfl) rfl rfl (hb hby d_j35_m24_36) (by decide) (by decide) (by decide) (by decide) ?_
      intro v6 T6 h6 L6 X6 e6 q6
      obtain ⟨rfl, N6, K6, F_v6⟩ := q6
      replace N6 := Fr.app N0 N6
      replace E_b5 := E_b5.keep K6
      clear F_b5_value
      replace O := O.keep K6 (allS g_b5 all0)
      replace K := K.trans K6 (allS (Or.inr sz_b5) all0)
      show Go p e below _ T6 (mkF m 39 #[.val (.long z1), .second, .val (.int (128 : Int32))] [(.ref b5)])
      refine Go.retA X6 hx hlk hret rfl rfl (hb hby d_j35_m24_39) (by decide) (by decide) e6 ?_
      exact ⟨b5, rfl, N6, K, E_b5, F_v6, Or.inr sz_b5⟩
    · skip
      refine Go.by (T' := T0) (g' := (mkF m 20 #[.val (.long z1), .second, .val (.int (128 : Int32))] [])) (fun t k => ?_) ?_
      · show Steps p.tables e below (T0.setTop (mkF m 17 #[.val (.long z1), .second, .val (.int (128 : Int32))] [(.int (lcmpW z1 (127 : Int64)))])) _
        refine XS.ifNo X0.here hx rfl (hb hby d_j35_m24_17) rfl ((if0 _ _).trans (flt (fun q => hy4 ((lw_gt _ _).mp q))).2.2.1) ?_
        exact k
      refine Go.getS X0 hx hZ hown (wd hw 30 rfl) Via.refl e0 (S_cache.ext O.2) (hb hby d_j35_m24_20) ?_
      intro T7 X7 e7
      show Go p e below _ T7 (mkF m 23 #[.val (.long z1), .second, .val (.int (128 : Int32))] [(.ref w_cache)])
      refine Go.by (T' := T7) (g' := (mkF m 29 #[.val (.long z1), .second, .val (.int (128 : Int32))] [(.int ((z1.toInt32) + (128 : Int32))), (.ref w_cache)])) (fun t k => ?_) ?_
      · show Steps p.tables e below (T7.setTop (mkF m 23 #[.val (.long z1), .second, .val (.int (128 : Int32))] [(.ref w_cache)])) _
        refine XS.lloadN X7.here hx rfl (hb hby d_j35_m24_23) rfl ?_
        show Steps p.tables e below (T7.setTop (mkF m 24 #[.val (.long z1), .second, .val (.int (128 : Int32))] [(.long z1), (.ref w_cache)])) _
        refine XS.l2i X7.here hx rfl (hb hby d_j35_m24_24) rfl ?_
        show Steps p.tables e below (T7.setTop (mkF m 25 #[.val (.long z1), .second, .val (.int (128 : Int32))] [(.int (z1.toInt32)), (.ref w_cache)])) _
        refine XS.sipush X7.here hx rfl (hb hby d_j35_m24_25) ?_
        show Steps p.tables e below (T7.setTop (mkF m 28 #[.val (.long z1), .second, .val (.int (128 : Int32))] [(.int (128 : Int32)), (.int (z1.toInt32)), (.ref w_cache)])) _
        refine XS.iadd X7.here hx rfl (hb hby d_j35_m24_28) rfl ?_
        exact k
      have hin := own_idxJ B_cache.2.1 hy1 hy4
      obtain ⟨bx, hat, E_bx, F_bx⟩ := B_cache.2.2.2 _ hin
      refine Go.aload X7 hx hZ e7 (B_cache.1.ext O.2) hin hat (Or.inr (Or.inr (Or.inl ⟨rfl, rfl⟩))) (hb hby d_j35_m24_29) ?_
      show Go p e below _ T7 (mkF m 30 #[.val (.long z1), .second, .val (.int (128 : Int32))] [(.ref bx)])
      refine Go.retA X7 hx hlk hret rfl rfl (hb hby d_j35_m24_30) (by decide) (by decide) e7 ?_
      exact ⟨bx, rfl, N0, K, E_bx.ext O.2, by have e := own_boxJ hy1 hy4; dsimp only at F_bx; rw [e] at F_bx; exact F_bx.ext O.2, Or.inl E_bx.lt⟩
set_option maxRecDepth 65536 in
set_option maxHeartbeats 40000000 in
theorem ct_law (l : Launch) (Z : State) (a0 : Array Value) (hw : ∀ d ∈ tables_1, d.before a0 Z = true) (w_cache : Addr) (cl_cache : Cell) (S_cache : Sta Z Z.heap "java/lang/Long$LongCache" "cache" "[Ljava/lang/Long;" (.ref w_cache)) (B_cache : Bxs Z w_cache cl_cache "java/lang/Long" "J" (256 : Int32) (fun j => .long (j - 128).toInt64)) (p0 : Int64) (p1 : Int64) (p2 : Int64) (p3 : Int64) (p4 : Int32) (p5 : Int64) (h0 : Heap) (n0 : Nat) (O : Old Z n0 h0)  :
    Ct l x code maxLocals ret room_1 Z #[(.long p0), (.long p1), (.long p2), (.long p3), (.int p4), (.long p5)] h0 (fun v h L => v = some (.int 1) ∧ Fr n0 L) := by
  refine Ct.of (plainFor_of_name pn_StateCountsEqualsPinLaw_458) ?_
  intro p e s m below meth c T0 X0 hx hby hml hown hnm hret hlk hZ e0
  have hown : s.vm.findClass "com/example/long_fuse/longfuse/StateCountsEqualsPinLaw" = some m.cls := hown
  have hml : c.maxLocals = 27 := hml
  have N0 := Fr.nil n0
  refine Go.cast (g' := mkF m 0 #[.val (.long p0), .second, .val (.long p1), .second, .val (.long p2), .second, .val (.long p3), .second, .val (.int p4), .val (.long p5), .second, .unset, .unset, .unset, .unset, .unset, .unset, .unset, .unset, .unset, .unset, .unset, .unset, .unset, .unset, .unset, .unset] []) (by first | (simp [entryFrame, mkF, argsToLocals, Value.category, maxLocals]; done) | rfl) ?_
  refine Go.by (T' := T0) (g' := (mkF m 11 #[.val (.long p0), .second, .val (.long p1), .second, .val (.long p2), .second, .val (.long p3), .second, .val (.int p4), .val (.long p5), .second, .val (.int (p4 &&& (15 : Int32))), .unset, .unset, .unset, .unset, .unset, .unset, .unset, .unset, .unset, .unset, .unset, .unset, .unset, .unset, .unset] [(.int ((p4 &&& (15 : Int32)) &&& (1 : Int32)))])) (fun t k => ?_) ?_
  · show Steps p.tables e below (T0.setTop (mkF m 0 #[.val (.long p0), .second, .val (.long p1), .second, .val (.long p2), .second, .val (.long p3), .second, .val (.int p4), .val (.long p5), .second, .unset, .unset, .unset, .unset, .unset, .unset, .unset, .unset, .unset, .unset, .unset, .unset, .unset, .unset, .unset, .unset] [])) _
    refine XS.iload X0.here hx rfl (hb hby at_0) rfl ?_
    show Steps p.tables e below (T0.setTop (mkF m 2 #[.val (.long p0), .second, .val (.long p1), .second, .val (.long p2), .second, .val (.long p3), .second, .val (.int p4), .val (.long p5), .second, .unset, .unset, .unset, .unset, .unset, .unset, .unset, .unset, .unset, .unset, .unset, .unset, .unset, .unset, .unset, .unset] [(.int p4)])) _
    refine XS.bipush X0.here hx rfl (hb hby at_2) ?_
    show Steps p.tables e below (T0.setTop (mkF m 4 #[.val (.long p0), .second, .val (.long p1), .second, .val (.long p2), .second, .val (.long p3), .second, .val (.int p4), .val (.long p5), .second, .unset, .unset, .unset, .unset, .unset, .unset, .unset, .unset, .unset, .unset, .unset, .unset, .unset, .unset, .unset, .unset] [(.int (15 : Int32)), (.int p4)])) _
    refine XS.iand X0.here hx rfl (hb hby at_4) rfl ?_
    show Steps p.tables e below (T0.setTop (mkF m 5 #[.val (.long p0), .second, .val (.long p1), .second, .val (.long p2), .second, .val (.long p3), .second, .val (.int p4), .val (.long p5), .second, .unset, .unset, .unset, .unset, .unset, .unset, .unset, .unset, .unset, .unset, .unset, .unset, .unset, .unset, .unset, .unset] [(.int (p4 &&& (15 : Int32)))])) _
    refine XS.istore X0.here hx rfl (hb hby at_5) rfl (l' := #[.val (.long p0), .second, .val (.long p1), .second, .val (.long p2), .second, .val (.long p3), .second, .val (.int p4), .val (.long p5), .second, .val (.int (p4 &&& (15 : Int32))), .unset, .unset, .unset, .unset, .unset, .unset, .unset, .unset, .unset, .unset, .unset, .unset, .unset, .unset, .unset]) rfl ?_
    show Steps p.tables e below (T0.setTop (mkF m 7 #[.val (.long p0), .second, .val (.long p1), .second, .val (.long p2), .second, .val (.long p3), .second, .val (.int p4), .val (.long p5), .second, .val (.int (p4 &&& (15 : Int32))), .unset, .unset, .unset, .unset, .unset, .unset, .unset, .unset, .unset, .unset, .unset, .unset, .unset, .unset, .unset] [])) _
    refine XS.iload X0.here hx rfl (hb hby at_7) rfl ?_
    show Steps p.tables e below (T0.setTop (mkF m 9 #[.val (.long p0), .second, .val (.long p1), .second, .val (.long p2), .second, .val (.long p3), .second, .val (.int p4), .val (.long p5), .second, .val (.int (p4 &&& (15 : Int32))), .unset, .unset, .unset, .unset, .unset, .unset, .unset, .unset, .unset, .unset, .unset, .unset, .unset, .unset, .unset] [(.int (p4 &&& (15 : Int32)))])) _
    refine XS.iconst X0.here hx rfl (hb hby at_9) ?_
    show Steps p.tables e below (T0.setTop (mkF m 10 #[.val (.long p0), .second, .val (.long p1), .second, .val (.long p2), .second, .val (.long p3), .second, .val (.int p4), .val (.long p5), .second, .val (.int (p4 &&& (15 : Int32))), .unset, .unset, .unset, .unset, .unset, .unset, .unset, .unset, .unset, .unset, .unset, .unset, .unset, .unset, .unset] [(.int (1 : Int32)), (.int (p4 &&& (15 : Int32)))])) _
    refine XS.iand X0.here hx rfl (hb hby at_10) rfl ?_
    exact k
  have J1 : ∀ (m1 : Int64), Go p e below (EndF s room_1.cells room_1.slots (fun v h L => v = some (.int 1) ∧ Fr n0 L)) T0 (mkF m 22 #[.val (.long p0), .second, .val (.long p1), .second, .val (.long p2), .second, .val (.long p3), .second, .val (.int p4), .val (.long p5), .second, .val (.int (p4 &&& (15 : Int32))), .unset, .unset, .unset, .unset, .unset, .unset, .unset, .unset, .unset, .unset, .unset, .unset, .unset, .unset, .unset] [(.long m1)]) := by
    intro m1
    refine Go.by (T' := T0) (g' := (mkF m 28 #[.val (.long p0), .second, .val (.long p1), .second, .val (.long p2), .second, .val (.long p3), .second, .val (.int p4), .val (.long p5), .second, .val (.int (p4 &&& (15 : Int32))), .val (.long m1), .second, .unset, .unset, .unset, .unset, .unset, .unset, .unset, .unset, .unset, .unset, .unset, .unset, .unset] [(.int ((p4 &&& (15 : Int32)) &&& (2 : Int32)))])) (fun t k => ?_) ?_
    · show Steps p.tables e below (T0.setTop (mkF m 22 #[.val (.long p0), .second, .val (.long p1), .second, .val (.long p2), .second, .val (.long p3), .second, .val (.int p4), .val (.long p5), .second, .val (.int (p4 &&& (15 : Int32))), .unset, .unset, .unset, .unset, .unset, .unset, .unset, .unset, .unset, .unset, .unset, .unset, .unset, .unset, .unset] [(.long m1)])) _
      refine XS.lstore X0.here hx rfl (hb hby at_22) rfl (l' := #[.val (.long p0), .second, .val (.long p1), .second, .val (.long p2), .second, .val (.long p3), .second, .val (.int p4), .val (.long p5), .second, .val (.int (p4 &&& (15 : Int32))), .val (.long m1), .second, .unset, .unset, .unset, .unset, .unset, .unset, .unset, .unset, .unset, .unset, .unset, .unset, .unset]) rfl ?_
      show Steps p.tables e below (T0.setTop (mkF m 24 #[.val (.long p0), .second, .val (.long p1), .second, .val (.long p2), .second, .val (.long p3), .second, .val (.int p4), .val (.long p5), .second, .val (.int (p4 &&& (15 : Int32))), .val (.long m1), .second, .unset, .unset, .unset, .unset, .unset, .unset, .unset, .unset, .unset, .unset, .unset, .unset, .unset] [])) _
      refine XS.iload X0.here hx rfl (hb hby at_24) rfl ?_
      show Steps p.tables e below (T0.setTop (mkF m 26 #[.val (.long p0), .second, .val (.long p1), .second, .val (.long p2), .second, .val (.long p3), .second, .val (.int p4), .val (.long p5), .second, .val (.int (p4 &&& (15 : Int32))), .val (.long m1), .second, .unset, .unset, .unset, .unset, .unset, .unset, .unset, .unset, .unset, .unset, .unset, .unset, .unset] [(.int (p4 &&& (15 : Int32)))])) _
      refine XS.iconst X0.here hx rfl (hb hby at_26) ?_
      show Steps p.tables e below (T0.setTop (mkF m 27 #[.val (.long p0), .second, .val (.long p1), .second, .val (.long p2), .second, .val (.long p3), .second, .val (.int p4), .val (.long p5), .second, .val (.int (p4 &&& (15 : Int32))), .val (.long m1), .second, .unset, .unset, .unset, .unset, .unset, .unset, .unset, .unset, .unset, .unset, .unset, .unset, .unset] [(.int (2 : Int32)), (.int (p4 &&& (15 : Int32)))])) _
      refine XS.iand X0.here hx rfl (hb hby at_27) rfl ?_
      exact k
    have J2 : ∀ (m2 : Int64), Go p e below (EndF s room_1.cells room_1.slots (fun v h L => v = some (.int 1) ∧ Fr n0 L)) T0 (mkF m 39 #[.val (.long p0), .second, .val (.long p1), .second, .val (.long p2), .second, .val (.long p3), .second, .val (.int p4), .val (.long p5), .second, .val (.int (p4 &&& (15 : Int32))), .val (.long m1), .second, .unset, .unset, .unset, .unset, .unset, .unset, .unset, .unset, .unset, .unset, .unset, .unset, .unset] [(.long m2)]) := by
      intro m2
      refine Go.by (T' := T0) (g' := (mkF m 45 #[.val (.long p0), .second, .val (.long p1), .second, .val (.long p2), .second, .val (.long p3), .second, .val (.int p4), .val (.long p5), .second, .val (.int (p4 &&& (15 : Int32))), .val (.long m1), .second, .val (.long m2), .second, .unset, .unset, .unset, .unset, .unset, .unset, .unset, .unset, .unset, .unset, .unset] [(.int ((p4 &&& (15 : Int32)) &&& (4 : Int32)))])) (fun t k => ?_) ?_
      · show Steps p.tables e below (T0.setTop (mkF m 39 #[.val (.long p0), .second, .val (.long p1), .second, .val (.long p2), .second, .val (.long p3), .second, .val (.int p4), .val (.long p5), .second, .val (.int (p4 &&& (15 : Int32))), .val (.long m1), .second, .unset, .unset, .unset, .unset, .unset, .unset, .unset, .unset, .unset, .unset, .unset, .unset, .unset] [(.long m2)])) _
        refine XS.lstore X0.here hx rfl (hb hby at_39) rfl (l' := #[.val (.long p0), .second, .val (.long p1), .second, .val (.long p2), .second, .val (.long p3), .second, .val (.int p4), .val (.long p5), .second, .val (.int (p4 &&& (15 : Int32))), .val (.long m1), .second, .val (.long m2), .second, .unset, .unset, .unset, .unset, .unset, .unset, .unset, .unset, .unset, .unset, .unset]) rfl ?_
        show Steps p.tables e below (T0.setTop (mkF m 41 #[.val (.long p0), .second, .val (.long p1), .second, .val (.long p2), .second, .val (.long p3), .second, .val (.int p4), .val (.long p5), .second, .val (.int (p4 &&& (15 : Int32))), .val (.long m1), .second, .val (.long m2), .second, .unset, .unset, .unset, .unset, .unset, .unset, .unset, .unset, .unset, .unset, .unset] [])) _
        refine XS.iload X0.here hx rfl (hb hby at_41) rfl ?_
        show Steps p.tables e below (T0.setTop (mkF m 43 #[.val (.long p0), .second, .val (.long p1), .second, .val (.long p2), .second, .val (.long p3), .second, .val (.int p4), .val (.long p5), .second, .val (.int (p4 &&& (15 : Int32))), .val (.long m1), .second, .val (.long m2), .second, .unset, .unset, .unset, .unset, .unset, .unset, .unset, .unset, .unset, .unset, .unset] [(.int (p4 &&& (15 : Int32)))])) _
        refine XS.iconst X0.here hx rfl (hb hby at_43) ?_
        show Steps p.tables e below (T0.setTop (mkF m 44 #[.val (.long p0), .second, .val (.long p1), .second, .val (.long p2), .second, .val (.long p3), .second, .val (.int p4), .val (.long p5), .second, .val (.int (p4 &&& (15 : Int32))), .val (.long m1), .second, .val (.long m2), .second, .unset, .unset, .unset, .unset, .unset, .unset, .unset, .unset, .unset, .unset, .unset] [(.int (4 : Int32)), (.int (p4 &&& (15 : Int32)))])) _
        refine XS.iand X0.here hx rfl (hb hby at_44) rfl ?_
        exact k
      have J3 : ∀ (m3 : Int64), Go p e below (EndF s room_1.cells room_1.slots (fun v h L => v = some (.int 1) ∧ Fr n0 L)) T0 (mkF m 58 #[.val (.long p0), .second, .val (.long p1), .second, .val (.long p2), .second, .val (.long p3), .second, .val (.int p4), .val (.long p5), .second, .val (.int (p4 &&& (15 : Int32))), .val (.long m1), .second, .val (.long m2), .second, .unset, .unset, .unset, .unset, .unset, .unset, .unset, .unset, .unset, .unset, .unset] [(.long m3)]) := by
        intro m3
        refine Go.by (T' := T0) (g' := (mkF m 65 #[.val (.long p0), .second, .val (.long p1), .second, .val (.long p2), .second, .val (.long p3), .second, .val (.int p4), .val (.long p5), .second, .val (.int (p4 &&& (15 : Int32))), .val (.long m1), .second, .val (.long m2), .second, .val (.long m3), .second, .unset, .unset, .unset, .unset, .unset, .unset, .unset, .unset, .unset] [(.int ((p4 &&& (15 : Int32)) &&& (8 : Int32)))])) (fun t k => ?_) ?_
        · show Steps p.tables e below (T0.setTop (mkF m 58 #[.val (.long p0), .second, .val (.long p1), .second, .val (.long p2), .second, .val (.long p3), .second, .val (.int p4), .val (.long p5), .second, .val (.int (p4 &&& (15 : Int32))), .val (.long m1), .second, .val (.long m2), .second, .unset, .unset, .unset, .unset, .unset, .unset, .unset, .unset, .unset, .unset, .unset] [(.long m3)])) _
          refine XS.lstore X0.here hx rfl (hb hby at_58) rfl (l' := #[.val (.long p0), .second, .val (.long p1), .second, .val (.long p2), .second, .val (.long p3), .second, .val (.int p4), .val (.long p5), .second, .val (.int (p4 &&& (15 : Int32))), .val (.long m1), .second, .val (.long m2), .second, .val (.long m3), .second, .unset, .unset, .unset, .unset, .unset, .unset, .unset, .unset, .unset]) rfl ?_
          show Steps p.tables e below (T0.setTop (mkF m 60 #[.val (.long p0), .second, .val (.long p1), .second, .val (.long p2), .second, .val (.long p3), .second, .val (.int p4), .val (.long p5), .second, .val (.int (p4 &&& (15 : Int32))), .val (.long m1), .second, .val (.long m2), .second, .val (.long m3), .second, .unset, .unset, .unset, .unset, .unset, .unset, .unset, .unset, .unset] [])) _
          refine XS.iload X0.here hx rfl (hb hby at_60) rfl ?_
          show Steps p.tables e below (T0.setTop (mkF m 62 #[.val (.long p0), .second, .val (.long p1), .second, .val (.long p2), .second, .val (.long p3), .second, .val (.int p4), .val (.long p5), .second, .val (.int (p4 &&& (15 : Int32))), .val (.long m1), .second, .val (.long m2), .second, .val (.long m3), .second, .unset, .unset, .unset, .unset, .unset, .unset, .unset, .unset, .unset] [(.int (p4 &&& (15 : Int32)))])) _
          refine XS.bipush X0.here hx rfl (hb hby at_62) ?_
          show Steps p.tables e below (T0.setTop (mkF m 64 #[.val (.long p0), .second, .val (.long p1), .second, .val (.long p2), .second, .val (.long p3), .second, .val (.int p4), .val (.long p5), .second, .val (.int (p4 &&& (15 : Int32))), .val (.long m1), .second, .val (.long m2), .second, .val (.long m3), .second, .unset, .unset, .unset, .unset, .unset, .unset, .unset, .unset, .unset] [(.int (8 : Int32)), (.int (p4 &&& (15 : Int32)))])) _
          refine XS.iand X0.here hx rfl (hb hby at_64) rfl ?_
          exact k
        have J4 : ∀ (m4 : Int64), Go p e below (EndF s room_1.cells room_1.slots (fun v h L => v = some (.int 1) ∧ Fr n0 L)) T0 (mkF m 78 #[.val (.long p0), .second, .val (.long p1), .second, .val (.long p2), .second, .val (.long p3), .second, .val (.int p4), .val (.long p5), .second, .val (.int (p4 &&& (15 : Int32))), .val (.long m1), .second, .val (.long m2), .second, .val (.long m3), .second, .unset, .unset, .unset, .unset, .unset, .unset, .unset, .unset, .unset] [(.long m4)]) := by
          intro m4
          refine Go.by (T' := T0) (g' := (mkF m 80 #[.val (.long p0), .second, .val (.long p1), .second, .val (.long p2), .second, .val (.long p3), .second, .val (.int p4), .val (.long p5), .second, .val (.int (p4 &&& (15 : Int32))), .val (.long m1), .second, .val (.long m2), .second, .val (.long m3), .second, .val (.long m4), .second, .unset, .unset, .unset, .unset, .unset, .unset, .unset] [])) (fun t k => ?_) ?_
          · show Steps p.tables e below (T0.setTop (mkF m 78 #[.val (.long p0), .second, .val (.long p1), .second, .val (.long p2), .second, .val (.long p3), .second, .val (.int p4), .val (.long p5), .second, .val (.int (p4 &&& (15 : Int32))), .val (.long m1), .second, .val (.long m2), .second, .val (.long m3), .second, .unset, .unset, .unset, .unset, .unset, .unset, .unset, .unset, .unset] [(.long m4)])) _
            refine XS.lstore X0.here hx rfl (hb hby at_78) rfl (l' := #[.val (.long p0), .second, .val (.long p1), .second, .val (.long p2), .second, .val (.long p3), .second, .val (.int p4), .val (.long p5), .second, .val (.int (p4 &&& (15 : Int32))), .val (.long m1), .second, .val (.long m2), .second, .val (.long m3), .second, .val (.long m4), .second, .unset, .unset, .unset, .unset, .unset, .unset, .unset]) rfl ?_
            exact k
          refine Go.newO X0 hx hZ hown (wd hw 0 rfl) (wd hw 1 rfl) (wd hw 2 rfl) e0 (hb hby at_80) (by decide) (by decide) ?_
          intro T5 h5 b5 X5 e5 E5 g5 A5 D5
          have lb5 := Nat.le_of_eq g5.symm
          have g_b5 : n0 ≤ b5 := Nat.le_trans (OwnKit.Old.le O) lb5
          replace O := O.ext E5
          have E_b5 := A5
          have F_b5_waiting : Fld Z h5 b5 "com/example/long_fuse/longfuse/StateCounts" "waiting" "J" (.long (0 : Int64)) := D5 (Or.inr (wd hw 10 rfl)) (ty := .long) (by decide)
          have F_b5_running : Fld Z h5 b5 "com/example/long_fuse/longfuse/StateCounts" "running" "J" (.long (0 : Int64)) := D5 (Or.inr (wd hw 12 rfl)) (ty := .long) (by decide)
          have F_b5_done : Fld Z h5 b5 "com/example/long_fuse/longfuse/StateCounts" "done" "J" (.long (0 : Int64)) := D5 (Or.inr (wd hw 14 rfl)) (ty := .long) (by decide)
          have F_b5_dead : Fld Z h5 b5 "com/example/long_fuse/longfuse/StateCounts" "dead" "J" (.long (0 : Int64)) := D5 (Or.inr (wd hw 16 rfl)) (ty := .long) (by decide)
          show Go p e below _ T5 (mkF m 83 #[.val (.long p0), .second, .val (.long p1), .second, .val (.long p2), .second, .val (.long p3), .second, .val (.int p4), .val (.long p5), .second, .val (.int (p4 &&& (15 : Int32))), .val (.long m1), .second, .val (.long m2), .second, .val (.long m3), .second, .val (.long m4), .second, .unset, .unset, .unset, .unset, .unset, .unset, .unset] [(.ref b5)])
          refine Go.by (T' := T5) (g' := (mkF m 90 #[.val (.long p0), .second, .val (.long p1), .second, .val (.long p2), .second, .val (.long p3), .second, .val (.int p4), .val (.long p5), .second, .val (.int (p4 &&& (15 : Int32))), .val (.long m1), .second, .val (.long m2), .second, .val (.long m3), .second, .val (.long m4), .second, .unset, .unset, .unset, .unset, .unset, .unset, .unset] [(.long p3), (.long p2), (.long p1), (.long p0), (.ref b5), (.ref b5)])) (fun t k => ?_) ?_
          · show Steps p.tables e below (T5.setTop (mkF m 83 #[.val (.long p0), .second, .val (.long p1), .second, .val (.long p2), .second, .val (.long p3), .second, .val (.int p4), .val (.long p5), .second, .val (.int (p4 &&& (15 : Int32))), .val (.long m1), .second, .val (.long m2), .second, .val (.long m3), .second, .val (.long m4), .second, .unset, .unset, .unset, .unset, .unset, .unset, .unset] [(.ref b5)])) _
            refine XS.dup X5.here hx rfl (hb hby at_83) rfl rfl ?_
            show Steps p.tables e below (T5.setTop (mkF m 84 #[.val (.long p0), .second, .val (.long p1), .second, .val (.long p2), .second, .val (.long p3), .second, .val (.int p4), .val (.long p5), .second, .val (.int (p4 &&& (15 : Int32))), .val (.long m1), .second, .val (.long m2), .second, .val (.long m3), .second, .val (.long m4), .second, .unset, .unset, .unset, .unset, .unset, .unset, .unset] [(.ref b5), (.ref b5)])) _
            refine XS.lloadN X5.here hx rfl (hb hby at_84) rfl ?_
            show Steps p.tables e below (T5.setTop (mkF m 85 #[.val (.long p0), .second, .val (.long p1), .second, .val (.long p2), .second, .val (.long p3), .second, .val (.int p4), .val (.long p5), .second, .val (.int (p4 &&& (15 : Int32))), .val (.long m1), .second, .val (.long m2), .second, .val (.long m3), .second, .val (.long m4), .second, .unset, .unset, .unset, .unset, .unset, .unset, .unset] [(.long p0), (.ref b5), (.ref b5)])) _
            refine XS.lloadN X5.here hx rfl (hb hby at_85) rfl ?_
            show Steps p.tables e below (T5.setTop (mkF m 86 #[.val (.long p0), .second, .val (.long p1), .second, .val (.long p2), .second, .val (.long p3), .second, .val (.int p4), .val (.long p5), .second, .val (.int (p4 &&& (15 : Int32))), .val (.long m1), .second, .val (.long m2), .second, .val (.long m3), .second, .val (.long m4), .second, .unset, .unset, .unset, .unset, .unset, .unset, .unset] [(.long p1), (.long p0), (.ref b5), (.ref b5)])) _
            refine XS.lload X5.here hx rfl (hb hby at_86) rfl ?_
            show Steps p.tables e below (T5.setTop (mkF m 88 #[.val (.long p0), .second, .val (.long p1), .second, .val (.long p2), .second, .val (.long p3), .second, .val (.int p4), .val (.long p5), .second, .val (.int (p4 &&& (15 : Int32))), .val (.long m1), .second, .val (.long m2), .second, .val (.long m3), .second, .val (.long m4), .second, .unset, .unset, .unset, .unset, .unset, .unset, .unset] [(.long p2), (.long p1), (.long p0), (.ref b5), (.ref b5)])) _
            refine XS.lload X5.here hx rfl (hb hby at_88) rfl ?_
            exact k
          refine Go.callC X5 hx hZ (W := 1) (argsL := [(.long p0), (.long p1), (.long p2), (.long p3)]) (rest := [(.ref b5)]) hown rfl (wd hw 3 rfl) (wd hw 4 rfl) (wd hw 2 rfl) (wd hw 5 rfl) (by decide) (ct_init l Z a0 hw  b5 p0 p1 p2 p3 h5 n0 O E_b5 F_b5_waiting F_b5_running F_b5_done F_b5_dead g_b5) e5 (by rw [hml]; rfl) (lenOf pd__JJJJ_V_9922 rfl) rfl rfl (hb hby at_90) (by decide) (by decide) (by decide) (by decide) ?_
          intro v6 T6 h6 L6 X6 e6 q6
          obtain ⟨rfl, N6, K6, F0_6, F1_6, F2_6, F3_6⟩ := q6
          replace N6 := Fr.app N0 N6
          replace E_b5 := E_b5.keep K6
          clear F_b5_waiting
          clear F_b5_running
          clear F_b5_done
          clear F_b5_dead
          replace O := O.keep K6 (allS g_b5 all0)
          show Go p e below _ T6 (mkF m 93 #[.val (.long p0), .second, .val (.long p1), .second, .val (.long p2), .second, .val (.long p3), .second, .val (.int p4), .val (.long p5), .second, .val (.int (p4 &&& (15 : Int32))), .val (.long m1), .second, .val (.long m2), .second, .val (.long m3), .second, .val (.long m4), .second, .unset, .unset, .unset, .unset, .unset, .unset, .unset] [(.ref b5)])
          refine Go.by (T' := T6) (g' := (mkF m 95 #[.val (.long p0), .second, .val (.long p1), .second, .val (.long p2), .second, .val (.long p3), .second, .val (.int p4), .val (.long p5), .second, .val (.int (p4 &&& (15 : Int32))), .val (.long m1), .second, .val (.long m2), .second, .val (.long m3), .second, .val (.long m4), .second, .val (.ref b5), .unset, .unset, .unset, .unset, .unset, .unset] [])) (fun t k => ?_) ?_
          · show Steps p.tables e below (T6.setTop (mkF m 93 #[.val (.long p0), .second, .val (.long p1), .second, .val (.long p2), .second, .val (.long p3), .second, .val (.int p4), .val (.long p5), .second, .val (.int (p4 &&& (15 : Int32))), .val (.long m1), .second, .val (.long m2), .second, .val (.long m3), .second, .val (.long m4), .second, .unset, .unset, .unset, .unset, .unset, .unset, .unset] [(.ref b5)])) _
            refine XS.astore X6.here hx rfl (hb hby at_93) rfl rfl (l' := #[.val (.long p0), .second, .val (.long p1), .second, .val (.long p2), .second, .val (.long p3), .second, .val (.int p4), .val (.long p5), .second, .val (.int (p4 &&& (15 : Int32))), .val (.long m1), .second, .val (.long m2), .second, .val (.long m3), .second, .val (.long m4), .second, .val (.ref b5), .unset, .unset, .unset, .unset, .unset, .unset]) rfl ?_
            exact k
          refine Go.newO X6 hx hZ hown (wd hw 0 rfl) (wd hw 1 rfl) (wd hw 2 rfl) e6 (hb hby at_95) (by decide) (by decide) ?_
          intro T7 h7 b7 X7 e7 E7 g7 A7 D7
          have lb7 := Nat.le_of_eq g7.symm
          have ne_b5_b7 : b5 ≠ b7 := Nat.ne_of_lt (Nat.lt_of_lt_of_le E_b5.lt lb7)
          have g_b7 : n0 ≤ b7 := Nat.le_trans (OwnKit.Old.le O) lb7
          replace E_b5 := E_b5.ext E7
          replace F0_6 := F0_6.ext E7
          replace F1_6 := F1_6.ext E7
          replace F2_6 := F2_6.ext E7
          replace F3_6 := F3_6.ext E7
          replace O := O.ext E7
          have E_b7 := A7
          have F_b7_waiting : Fld Z h7 b7 "com/example/long_fuse/longfuse/StateCounts" "waiting" "J" (.long (0 : Int64)) := D7 (Or.inr (wd hw 10 rfl)) (ty := .long) (by decide)
          have F_b7_running : Fld Z h7 b7 "com/example/long_fuse/longfuse/StateCounts" "running" "J" (.long (0 : Int64)) := D7 (Or.inr (wd hw 12 rfl)) (ty := .long) (by decide)
          have F_b7_done : Fld Z h7 b7 "com/example/long_fuse/longfuse/StateCounts" "done" "J" (.long (0 : Int64)) := D7 (Or.inr (wd hw 14 rfl)) (ty := .long) (by decide)
          have F_b7_dead : Fld Z h7 b7 "com/example/long_fuse/longfuse/StateCounts" "dead" "J" (.long (0 : Int64)) := D7 (Or.inr (wd hw 16 rfl)) (ty := .long) (by decide)
          show Go p e below _ T7 (mkF m 98 #[.val (.long p0), .second, .val (.long p1), .second, .val (.long p2), .second, .val (.long p3), .second, .val (.int p4), .val (.long p5), .second, .val (.int (p4 &&& (15 : Int32))), .val (.long m1), .second, .val (.long m2), .second, .val (.long m3), .second, .val (.long m4), .second, .val (.ref b5), .unset, .unset, .unset, .unset, .unset, .unset] [(.ref b7)])
          refine Go.by (T' := T7) (g' := (mkF m 107 #[.val (.long p0), .second, .val (.long p1), .second, .val (.long p2), .second, .val (.long p3), .second, .val (.int p4), .val (.long p5), .second, .val (.int (p4 &&& (15 : Int32))), .val (.long m1), .second, .val (.long m2), .second, .val (.long m3), .second, .val (.long m4), .second, .val (.ref b5), .unset, .unset, .unset, .unset, .unset, .unset] [(.long m4), (.long m3), (.long m2), (.long m1), (.ref b7), (.ref b7)])) (fun t k => ?_) ?_
          · show Steps p.tables e below (T7.setTop (mkF m 98 #[.val (.long p0), .second, .val (.long p1), .second, .val (.long p2), .second, .val (.long p3), .second, .val (.int p4), .val (.long p5), .second, .val (.int (p4 &&& (15 : Int32))), .val (.long m1), .second, .val (.long m2), .second, .val (.long m3), .second, .val (.long m4), .second, .val (.ref b5), .unset, .unset, .unset, .unset, .unset, .unset] [(.ref b7)])) _
            refine XS.dup X7.here hx rfl (hb hby at_98) rfl rfl ?_
            show Steps p.tables e below (T7.setTop (mkF m 99 #[.val (.long p0), .second, .val (.long p1), .second, .val (.long p2), .second, .val (.long p3), .second, .val (.int p4), .val (.long p5), .second, .val (.int (p4 &&& (15 : Int32))), .val (.long m1), .second, .val (.long m2), .second, .val (.long m3), .second, .val (.long m4), .second, .val (.ref b5), .unset, .unset, .unset, .unset, .unset, .unset] [(.ref b7), (.ref b7)])) _
            refine XS.lload X7.here hx rfl (hb hby at_99) rfl ?_
            show Steps p.tables e below (T7.setTop (mkF m 101 #[.val (.long p0), .second, .val (.long p1), .second, .val (.long p2), .second, .val (.long p3), .second, .val (.int p4), .val (.long p5), .second, .val (.int (p4 &&& (15 : Int32))), .val (.long m1), .second, .val (.long m2), .second, .val (.long m3), .second, .val (.long m4), .second, .val (.ref b5), .unset, .unset, .unset, .unset, .unset, .unset] [(.long m1), (.ref b7), (.ref b7)])) _
            refine XS.lload X7.here hx rfl (hb hby at_101) rfl ?_
            show Steps p.tables e below (T7.setTop (mkF m 103 #[.val (.long p0), .second, .val (.long p1), .second, .val (.long p2), .second, .val (.long p3), .second, .val (.int p4), .val (.long p5), .second, .val (.int (p4 &&& (15 : Int32))), .val (.long m1), .second, .val (.long m2), .second, .val (.long m3), .second, .val (.long m4), .second, .val (.ref b5), .unset, .unset, .unset, .unset, .unset, .unset] [(.long m2), (.long m1), (.ref b7), (.ref b7)])) _
            refine XS.lload X7.here hx rfl (hb hby at_103) rfl ?_
            show Steps p.tables e below (T7.setTop (mkF m 105 #[.val (.long p0), .second, .val (.long p1), .second, .val (.long p2), .second, .val (.long p3), .second, .val (.int p4), .val (.long p5), .second, .val (.int (p4 &&& (15 : Int32))), .val (.long m1), .second, .val (.long m2), .second, .val (.long m3), .second, .val (.long m4), .second, .val (.ref b5), .unset, .unset, .unset, .unset, .unset, .unset] [(.long m3), (.long m2), (.long m1), (.ref b7), (.ref b7)])) _
            refine XS.lload X7.here hx rfl (hb hby at_105) rfl ?_
            exact k
          refine Go.callC X7 hx hZ (W := 1) (argsL := [(.long m1), (.long m2), (.long m3), (.long m4)]) (rest := [(.ref b7)]) hown rfl (wd hw 3 rfl) (wd hw 4 rfl) (wd hw 2 rfl) (wd hw 5 rfl) (by decide) (ct_init l Z a0 hw  b7 m1 m2 m3 m4 h7 n0 O E_b7 F_b7_waiting F_b7_running F_b7_done F_b7_dead g_b7) e7 (by rw [hml]; rfl) (lenOf pd__JJJJ_V_9922 rfl) rfl rfl (hb hby at_107) (by decide) (by decide) (by decide) (by decide) ?_
          intro v8 T8 h8 L8 X8 e8 q8
          obtain ⟨rfl, N8, K8, F0_8, F1_8, F2_8, F3_8⟩ := q8
          replace N8 := Fr.app N6 N8
          replace E_b5 := E_b5.keep K8
          replace F0_6 := F0_6.keep K8 (ninS ne_b5_b7 nin0)
          replace F1_6 := F1_6.keep K8 (ninS ne_b5_b7 nin0)
          replace F2_6 := F2_6.keep K8 (ninS ne_b5_b7 nin0)
          replace F3_6 := F3_6.keep K8 (ninS ne_b5_b7 nin0)
          replace E_b7 := E_b7.keep K8
          clear F_b7_waiting
          clear F_b7_running
          clear F_b7_done
          clear F_b7_dead
          replace O := O.keep K8 (allS g_b7 all0)
          show Go p e below _ T8 (mkF m 110 #[.val (.long p0), .second, .val (.long p1), .second, .val (.long p2), .second, .val (.long p3), .second, .val (.int p4), .val (.long p5), .second, .val (.int (p4 &&& (15 : Int32))), .val (.long m1), .second, .val (.long m2), .second, .val (.long m3), .second, .val (.long m4), .second, .val (.ref b5), .unset, .unset, .unset, .unset, .unset, .unset] [(.ref b7)])
          refine Go.by (T' := T8) (g' := (mkF m 116 #[.val (.long p0), .second, .val (.long p1), .second, .val (.long p2), .second, .val (.long p3), .second, .val (.int p4), .val (.long p5), .second, .val (.int (p4 &&& (15 : Int32))), .val (.long m1), .second, .val (.long m2), .second, .val (.long m3), .second, .val (.long m4), .second, .val (.ref b5), .val (.ref b7), .unset, .unset, .unset, .unset, .unset] [(.int (lcmpW p0 m1))])) (fun t k => ?_) ?_
          · show Steps p.tables e below (T8.setTop (mkF m 110 #[.val (.long p0), .second, .val (.long p1), .second, .val (.long p2), .second, .val (.long p3), .second, .val (.int p4), .val (.long p5), .second, .val (.int (p4 &&& (15 : Int32))), .val (.long m1), .second, .val (.long m2), .second, .val (.long m3), .second, .val (.long m4), .second, .val (.ref b5), .unset, .unset, .unset, .unset, .unset, .unset] [(.ref b7)])) _
            refine XS.astore X8.here hx rfl (hb hby at_110) rfl rfl (l' := #[.val (.long p0), .second, .val (.long p1), .second, .val (.long p2), .second, .val (.long p3), .second, .val (.int p4), .val (.long p5), .second, .val (.int (p4 &&& (15 : Int32))), .val (.long m1), .second, .val (.long m2), .second, .val (.long m3), .second, .val (.long m4), .second, .val (.ref b5), .val (.ref b7), .unset, .unset, .unset, .unset, .unset]) rfl ?_
            show Steps p.tables e below (T8.setTop (mkF m 112 #[.val (.long p0), .second, .val (.long p1), .second, .val (.long p2), .second, .val (.long p3), .second, .val (.int p4), .val (.long p5), .second, .val (.int (p4 &&& (15 : Int32))), .val (.long m1), .second, .val (.long m2), .second, .val (.long m3), .second, .val (.long m4), .second, .val (.ref b5), .val (.ref b7), .unset, .unset, .unset, .unset, .unset] [])) _
            refine XS.lloadN X8.here hx rfl (hb hby at_112) rfl ?_
            show Steps p.tables e below (T8.setTop (mkF m 113 #[.val (.long p0), .second, .val (.long p1), .second, .val (.long p2), .second, .val (.long p3), .second, .val (.int p4), .val (.long p5), .second, .val (.int (p4 &&& (15 : Int32))), .val (.long m1), .second, .val (.long m2), .second, .val (.long m3), .second, .val (.long m4), .second, .val (.ref b5), .val (.ref b7), .unset, .unset, .unset, .unset, .unset] [(.long p0)])) _
            refine XS.lload X8.here hx rfl (hb hby at_113) rfl ?_
            show Steps p.tables e below (T8.setTop (mkF m 115 #[.val (.long p0), .second, .val (.long p1), .second, .val (.long p2), .second, .val (.long p3), .second, .val (.int p4), .val (.long p5), .second, .val (.int (p4 &&& (15 : Int32))), .val (.long m1), .second, .val (.long m2), .second, .val (.long m3), .second, .val (.long m4), .second, .val (.ref b5), .val (.ref b7), .unset, .unset, .unset, .unset, .unset] [(.long m1), (.long p0)])) _
            refine XS.lcmp X8.here hx rfl (hb hby at_115) rfl ?_
            exact k
          have J9 : ∀ (be : Int32), (be = if p0 = m1 ∧ p1 = m2 ∧ p2 = m3 ∧ p3 = m4 then 1 else 0) → Go p e below (EndF s room_1.cells room_1.slots (fun v h L => v = some (.int 1) ∧ Fr n0 L)) T8 (mkF m 147 #[.val (.long p0), .second, .val (.long p1), .second, .val (.long p2), .second, .val (.long p3), .second, .val (.int p4), .val (.long p5), .second, .val (.int (p4 &&& (15 : Int32))), .val (.long m1), .second, .val (.long m2), .second, .val (.long m3), .second, .val (.long m4), .second, .val (.ref b5), .val (.ref b7), .unset, .unset, .unset, .unset, .unset] [(.int be)]) := by
            intro be hbe
            refine Go.by (T' := T8) (g' := (mkF m 153 #[.val (.long p0), .second, .val (.long p1), .second, .val (.long p2), .second, .val (.long p3), .second, .val (.int p4), .val (.long p5), .second, .val (.int (p4 &&& (15 : Int32))), .val (.long m1), .second, .val (.long m2), .second, .val (.long m3), .second, .val (.long m4), .second, .val (.ref b5), .val (.ref b7), .val (.int be), .unset, .unset, .unset, .unset] [(.ref b7), (.ref b5)])) (fun t k => ?_) ?_
            · show Steps p.tables e below (T8.setTop (mkF m 147 #[.val (.long p0), .second, .val (.long p1), .second, .val (.long p2), .second, .val (.long p3), .second, .val (.int p4), .val (.long p5), .second, .val (.int (p4 &&& (15 : Int32))), .val (.long m1), .second, .val (.long m2), .second, .val (.long m3), .second, .val (.long m4), .second, .val (.ref b5), .val (.ref b7), .unset, .unset, .unset, .unset, .unset] [(.int be)])) _
              refine XS.istore X8.here hx rfl (hb hby at_147) rfl (l' := #[.val (.long p0), .second, .val (.long p1), .second, .val (.long p2), .second, .val (.long p3), .second, .val (.int p4), .val (.long p5), .second, .val (.int (p4 &&& (15 : Int32))), .val (.long m1), .second, .val (.long m2), .second, .val (.long m3), .second, .val (.long m4), .second, .val (.ref b5), .val (.ref b7), .val (.int be), .unset, .unset, .unset, .unset]) rfl ?_
              show Steps p.tables e below (T8.setTop (mkF m 149 #[.val (.long p0), .second, .val (.long p1), .second, .val (.long p2), .second, .val (.long p3), .second, .val (.int p4), .val (.long p5), .second, .val (.int (p4 &&& (15 : Int32))), .val (.long m1), .second, .val (.long m2), .second, .val (.long m3), .second, .val (.long m4), .second, .val (.ref b5), .val (.ref b7), .val (.int be), .unset, .unset, .unset, .unset] [])) _
              refine XS.aload X8.here hx rfl (hb hby at_149) rfl rfl ?_
              show Steps p.tables e below (T8.setTop (mkF m 151 #[.val (.long p0), .second, .val (.long p1), .second, .val (.long p2), .second, .val (.long p3), .second, .val (.int p4), .val (.long p5), .second, .val (.int (p4 &&& (15 : Int32))), .val (.long m1), .second, .val (.long m2), .second, .val (.long m3), .second, .val (.long m4), .second, .val (.ref b5), .val (.ref b7), .val (.int be), .unset, .unset, .unset, .unset] [(.ref b5)])) _
              refine XS.aload X8.here hx rfl (hb hby at_151) rfl rfl ?_
              exact k
            refine Go.callV X8 hx hZ (W := 0) (argsL := [(.ref b7)]) (rest := []) hown (wd hw 17 rfl) (wd hw 18 rfl) (notFace_of_selects (args := #[]) (mvT hZ (wd hw 20 rfl))) (wd hw 20 rfl) (wd hw 19 rfl) (wd hw 2 rfl) (wd hw 21 rfl) (by decide) E_b5 (ct_eqo l Z a0 hw  b5 b7 p0 p1 p2 p3 m1 m2 m3 m4 be h8 n0 O F0_6 F1_6 F2_6 F3_6 E_b7 F0_8 F1_8 F2_8 F3_8 ne_b5_b7 (by first | exact hbe | (rw [hbe]; simp only [eq_comm]))) e8 (by rw [hml]; rfl) (lenOf pd__Ljava_lang_Object__Z_1715 rfl) rfl rfl (hb hby at_153) (by decide) (by decide) (by decide) (by decide) ?_
            intro v10 T10 h10 L10 X10 e10 q10
            obtain ⟨rfl, N10, rfl⟩ := q10
            replace N10 := Fr.app N8 N10
            show Go p e below _ T10 (mkF m 156 #[.val (.long p0), .second, .val (.long p1), .second, .val (.long p2), .second, .val (.long p3), .second, .val (.int p4), .val (.long p5), .second, .val (.int (p4 &&& (15 : Int32))), .val (.long m1), .second, .val (.long m2), .second, .val (.long m3), .second, .val (.long m4), .second, .val (.ref b5), .val (.ref b7), .val (.int be), .unset, .unset, .unset, .unset] [(.int be)])
            refine Go.by (T' := T10) (g' := (mkF m 162 #[.val (.long p0), .second, .val (.long p1), .second, .val (.long p2), .second, .val (.long p3), .second, .val (.int p4), .val (.long p5), .second, .val (.int (p4 &&& (15 : Int32))), .val (.long m1), .second, .val (.long m2), .second, .val (.long m3), .second, .val (.long m4), .second, .val (.ref b5), .val (.ref b7), .val (.int be), .val (.int be), .unset, .unset, .unset] [(.ref b5), (.ref b7)])) (fun t k => ?_) ?_
            · show Steps p.tables e below (T10.setTop (mkF m 156 #[.val (.long p0), .second, .val (.long p1), .second, .val (.long p2), .second, .val (.long p3), .second, .val (.int p4), .val (.long p5), .second, .val (.int (p4 &&& (15 : Int32))), .val (.long m1), .second, .val (.long m2), .second, .val (.long m3), .second, .val (.long m4), .second, .val (.ref b5), .val (.ref b7), .val (.int be), .unset, .unset, .unset, .unset] [(.int be)])) _
              refine XS.istore X10.here hx rfl (hb hby at_156) rfl (l' := #[.val (.long p0), .second, .val (.long p1), .second, .val (.long p2), .second, .val (.long p3), .second, .val (.int p4), .val (.long p5), .second, .val (.int (p4 &&& (15 : Int32))), .val (.long m1), .second, .val (.long m2), .second, .val (.long m3), .second, .val (.long m4), .second, .val (.ref b5), .val (.ref b7), .val (.int be), .val (.int be), .unset, .unset, .unset]) rfl ?_
              show Steps p.tables e below (T10.setTop (mkF m 158 #[.val (.long p0), .second, .val (.long p1), .second, .val (.long p2), .second, .val (.long p3), .second, .val (.int p4), .val (.long p5), .second, .val (.int (p4 &&& (15 : Int32))), .val (.long m1), .second, .val (.long m2), .second, .val (.long m3), .second, .val (.long m4), .second, .val (.ref b5), .val (.ref b7), .val (.int be), .val (.int be), .unset, .unset, .unset] [])) _
              refine XS.aload X10.here hx rfl (hb hby at_158) rfl rfl ?_
              show Steps p.tables e below (T10.setTop (mkF m 160 #[.val (.long p0), .second, .val (.long p1), .second, .val (.long p2), .second, .val (.long p3), .second, .val (.int p4), .val (.long p5), .second, .val (.int (p4 &&& (15 : Int32))), .val (.long m1), .second, .val (.long m2), .second, .val (.long m3), .second, .val (.long m4), .second, .val (.ref b5), .val (.ref b7), .val (.int be), .val (.int be), .unset, .unset, .unset] [(.ref b7)])) _
              refine XS.aload X10.here hx rfl (hb hby at_160) rfl rfl ?_
              exact k
            refine Go.callV X10 hx hZ (W := 0) (argsL := [(.ref b5)]) (rest := []) hown (wd hw 17 rfl) (wd hw 18 rfl) (notFace_of_selects (args := #[]) (mvT hZ (wd hw 20 rfl))) (wd hw 20 rfl) (wd hw 19 rfl) (wd hw 2 rfl) (wd hw 21 rfl) (by decide) E_b7 (ct_eqo l Z a0 hw  b7 b5 m1 m2 m3 m4 p0 p1 p2 p3 be h8 n0 O F0_8 F1_8 F2_8 F3_8 E_b5 F0_6 F1_6 F2_6 F3_6 (Ne.symm ne_b5_b7) (by first | exact hbe | (rw [hbe]; simp only [eq_comm]))) e10 (by rw [hml]; rfl) (lenOf pd__Ljava_lang_Object__Z_1715 rfl) rfl rfl (hb hby at_162) (by decide) (by decide) (by decide) (by decide) ?_
            intro v11 T11 h11 L11 X11 e11 q11
            obtain ⟨rfl, N11, rfl⟩ := q11
            replace N11 := Fr.app N10 N11
            show Go p e below _ T11 (mkF m 165 #[.val (.long p0), .second, .val (.long p1), .second, .val (.long p2), .second, .val (.long p3), .second, .val (.int p4), .val (.long p5), .second, .val (.int (p4 &&& (15 : Int32))), .val (.long m1), .second, .val (.long m2), .second, .val (.long m3), .second, .val (.long m4), .second, .val (.ref b5), .val (.ref b7), .val (.int be), .val (.int be), .unset, .unset, .unset] [(.int be)])
            refine Go.by (T' := T11) (g' := (mkF m 170 #[.val (.long p0), .second, .val (.long p1), .second, .val (.long p2), .second, .val (.long p3), .second, .val (.int p4), .val (.long p5), .second, .val (.int (p4 &&& (15 : Int32))), .val (.long m1), .second, .val (.long m2), .second, .val (.long m3), .second, .val (.long m4), .second, .val (.ref b5), .val (.ref b7), .val (.int be), .val (.int be), .val (.int be), .unset, .unset] [.null, (.ref b5)])) (fun t k => ?_) ?_
            · show Steps p.tables e below (T11.setTop (mkF m 165 #[.val (.long p0), .second, .val (.long p1), .second, .val (.long p2), .second, .val (.long p3), .second, .val (.int p4), .val (.long p5), .second, .val (.int (p4 &&& (15 : Int32))), .val (.long m1), .second, .val (.long m2), .second, .val (.long m3), .second, .val (.long m4), .second, .val (.ref b5), .val (.ref b7), .val (.int be), .val (.int be), .unset, .unset, .unset] [(.int be)])) _
              refine XS.istore X11.here hx rfl (hb hby at_165) rfl (l' := #[.val (.long p0), .second, .val (.long p1), .second, .val (.long p2), .second, .val (.long p3), .second, .val (.int p4), .val (.long p5), .second, .val (.int (p4 &&& (15 : Int32))), .val (.long m1), .second, .val (.long m2), .second, .val (.long m3), .second, .val (.long m4), .second, .val (.ref b5), .val (.ref b7), .val (.int be), .val (.int be), .val (.int be), .unset, .unset]) rfl ?_
              show Steps p.tables e below (T11.setTop (mkF m 167 #[.val (.long p0), .second, .val (.long p1), .second, .val (.long p2), .second, .val (.long p3), .second, .val (.int p4), .val (.long p5), .second, .val (.int (p4 &&& (15 : Int32))), .val (.long m1), .second, .val (.long m2), .second, .val (.long m3), .second, .val (.long m4), .second, .val (.ref b5), .val (.ref b7), .val (.int be), .val (.int be), .val (.int be), .unset, .unset] [])) _
              refine XS.aload X11.here hx rfl (hb hby at_167) rfl rfl ?_
              show Steps p.tables e below (T11.setTop (mkF m 169 #[.val (.long p0), .second, .val (.long p1), .second, .val (.long p2), .second, .val (.long p3), .second, .val (.int p4), .val (.long p5), .second, .val (.int (p4 &&& (15 : Int32))), .val (.long m1), .second, .val (.long m2), .second, .val (.long m3), .second, .val (.long m4), .second, .val (.ref b5), .val (.ref b7), .val (.int be), .val (.int be), .val (.int be), .unset, .unset] [(.ref b5)])) _
              refine XS.aconstNull X11.here hx rfl (hb hby at_169) ?_
              exact k
            refine Go.callV X11 hx hZ (W := 0) (argsL := [.null]) (rest := []) hown (wd hw 17 rfl) (wd hw 18 rfl) (notFace_of_selects (args := #[]) (mvT hZ (wd hw 20 rfl))) (wd hw 20 rfl) (wd hw 19 rfl) (wd hw 2 rfl) (wd hw 21 rfl) (by decide) E_b5 (ct_eqn l Z a0 hw  b5 h8 n0 O ) e11 (by rw [hml]; rfl) (lenOf pd__Ljava_lang_Object__Z_1715 rfl) rfl rfl (hb hby at_170) (by decide) (by decide) (by decide) (by decide) ?_
            intro v12 T12 h12 L12 X12 e12 q12
            obtain ⟨rfl, N12, rfl⟩ := q12
            replace N12 := Fr.app N11 N12
            show Go p e below _ T12 (mkF m 173 #[.val (.long p0), .second, .val (.long p1), .second, .val (.long p2), .second, .val (.long p3), .second, .val (.int p4), .val (.long p5), .second, .val (.int (p4 &&& (15 : Int32))), .val (.long m1), .second, .val (.long m2), .second, .val (.long m3), .second, .val (.long m4), .second, .val (.ref b5), .val (.ref b7), .val (.int be), .val (.int be), .val (.int be), .unset, .unset] [(.int (0 : Int32))])
            refine Go.by (T' := T12) (g' := (mkF m 178 #[.val (.long p0), .second, .val (.long p1), .second, .val (.long p2), .second, .val (.long p3), .second, .val (.int p4), .val (.long p5), .second, .val (.int (p4 &&& (15 : Int32))), .val (.long m1), .second, .val (.long m2), .second, .val (.long m3), .second, .val (.long m4), .second, .val (.ref b5), .val (.ref b7), .val (.int be), .val (.int be), .val (.int be), .val (.int (0 : Int32)), .unset] [(.long p0), (.ref b5)])) (fun t k => ?_) ?_
            · show Steps p.tables e below (T12.setTop (mkF m 173 #[.val (.long p0), .second, .val (.long p1), .second, .val (.long p2), .second, .val (.long p3), .second, .val (.int p4), .val (.long p5), .second, .val (.int (p4 &&& (15 : Int32))), .val (.long m1), .second, .val (.long m2), .second, .val (.long m3), .second, .val (.long m4), .second, .val (.ref b5), .val (.ref b7), .val (.int be), .val (.int be), .val (.int be), .unset, .unset] [(.int (0 : Int32))])) _
              refine XS.istore X12.here hx rfl (hb hby at_173) rfl (l' := #[.val (.long p0), .second, .val (.long p1), .second, .val (.long p2), .second, .val (.long p3), .second, .val (.int p4), .val (.long p5), .second, .val (.int (p4 &&& (15 : Int32))), .val (.long m1), .second, .val (.long m2), .second, .val (.long m3), .second, .val (.long m4), .second, .val (.ref b5), .val (.ref b7), .val (.int be), .val (.int be), .val (.int be), .val (.int (0 : Int32)), .unset]) rfl ?_
              show Steps p.tables e below (T12.setTop (mkF m 175 #[.val (.long p0), .second, .val (.long p1), .second, .val (.long p2), .second, .val (.long p3), .second, .val (.int p4), .val (.long p5), .second, .val (.int (p4 &&& (15 : Int32))), .val (.long m1), .second, .val (.long m2), .second, .val (.long m3), .second, .val (.long m4), .second, .val (.ref b5), .val (.ref b7), .val (.int be), .val (.int be), .val (.int be), .val (.int (0 : Int32)), .unset] [])) _
              refine XS.aload X12.here hx rfl (hb hby at_175) rfl rfl ?_
              show Steps p.tables e below (T12.setTop (mkF m 177 #[.val (.long p0), .second, .val (.long p1), .second, .val (.long p2), .second, .val (.long p3), .second, .val (.int p4), .val (.long p5), .second, .val (.int (p4 &&& (15 : Int32))), .val (.long m1), .second, .val (.long m2), .second, .val (.long m3), .second, .val (.long m4), .second, .val (.ref b5), .val (.ref b7), .val (.int be), .val (.int be), .val (.int be), .val (.int (0 : Int32)), .unset] [(.ref b5)])) _
              refine XS.lloadN X12.here hx rfl (hb hby at_177) rfl ?_
              exact k
            refine Go.callS X12 hx hZ (W := 1) (argsL := [(.long p0)]) (rest := [(.ref b5)]) hown (wd hw 24 rfl) (wd hw 25 rfl) (wd hw 26 rfl) (wd hw 27 rfl) (by decide) (ct_valueOf l Z a0 hw w_cache cl_cache S_cache B_cache p0 h8 n0 O ) e12 (by rw [hml]; rfl) (lenOf pd__J_Ljava_lang_Long__7715 rfl) rfl rfl (hb hby at_178) (by decide) (by decide) (by decide) (by decide) ?_
            intro v13 T13 h13 L13 X13 e13 q13
            obtain ⟨bx, rfl, N13, K13, E_bx, F_bx, hbx⟩ := q13
            replace N13 := Fr.app N12 N13
            replace E_b5 := E_b5.keep K13
            replace F0_6 := F0_6.keep K13 nin0
            replace F1_6 := F1_6.keep K13 nin0
            replace F2_6 := F2_6.keep K13 nin0
            replace F3_6 := F3_6.keep K13 nin0
            replace E_b7 := E_b7.keep K13
            replace F0_8 := F0_8.keep K13 nin0
            replace F1_8 := F1_8.keep K13 nin0
            replace F2_8 := F2_8.keep K13 nin0
            replace F3_8 := F3_8.keep K13 nin0
            replace O := O.keep K13 all0
            show Go p e below _ T13 (mkF m 181 #[.val (.long p0), .second, .val (.long p1), .second, .val (.long p2), .second, .val (.long p3), .second, .val (.int p4), .val (.long p5), .second, .val (.int (p4 &&& (15 : Int32))), .val (.long m1), .second, .val (.long m2), .second, .val (.long m3), .second, .val (.long m4), .second, .val (.ref b5), .val (.ref b7), .val (.int be), .val (.int be), .val (.int be), .val (.int (0 : Int32)), .unset] [(.ref bx), (.ref b5)])
            refine Go.callV X13 hx hZ (W := 0) (argsL := [(.ref bx)]) (rest := []) hown (wd hw 17 rfl) (wd hw 18 rfl) (notFace_of_selects (args := #[]) (mvT hZ (wd hw 20 rfl))) (wd hw 20 rfl) (wd hw 19 rfl) (wd hw 2 rfl) (wd hw 21 rfl) (by decide) E_b5 (ct_eqx l Z a0 hw  b5 bx h13 n0 O E_bx (ne_exa E_b5 E_bx (by decide))) e13 (by rw [hml]; rfl) (lenOf pd__Ljava_lang_Object__Z_1715 rfl) rfl rfl (hb hby at_181) (by decide) (by decide) (by decide) (by decide) ?_
            intro v14 T14 h14 L14 X14 e14 q14
            obtain ⟨rfl, N14, rfl⟩ := q14
            replace N14 := Fr.app N13 N14
            show Go p e below _ T14 (mkF m 184 #[.val (.long p0), .second, .val (.long p1), .second, .val (.long p2), .second, .val (.long p3), .second, .val (.int p4), .val (.long p5), .second, .val (.int (p4 &&& (15 : Int32))), .val (.long m1), .second, .val (.long m2), .second, .val (.long m3), .second, .val (.long m4), .second, .val (.ref b5), .val (.ref b7), .val (.int be), .val (.int be), .val (.int be), .val (.int (0 : Int32)), .unset] [(.int (0 : Int32))])
            refine Go.by (T' := T14) (g' := (mkF m 215 #[.val (.long p0), .second, .val (.long p1), .second, .val (.long p2), .second, .val (.long p3), .second, .val (.int p4), .val (.long p5), .second, .val (.int (p4 &&& (15 : Int32))), .val (.long m1), .second, .val (.long m2), .second, .val (.long m3), .second, .val (.long m4), .second, .val (.ref b5), .val (.ref b7), .val (.int be), .val (.int be), .val (.int be), .val (.int (0 : Int32)), .val (.int (0 : Int32))] [(.int (1 : Int32))])) (fun t k => ?_) ?_
            · show Steps p.tables e below (T14.setTop (mkF m 184 #[.val (.long p0), .second, .val (.long p1), .second, .val (.long p2), .second, .val (.long p3), .second, .val (.int p4), .val (.long p5), .second, .val (.int (p4 &&& (15 : Int32))), .val (.long m1), .second, .val (.long m2), .second, .val (.long m3), .second, .val (.long m4), .second, .val (.ref b5), .val (.ref b7), .val (.int be), .val (.int be), .val (.int be), .val (.int (0 : Int32)), .unset] [(.int (0 : Int32))])) _
              refine XS.istore X14.here hx rfl (hb hby at_184) rfl (l' := #[.val (.long p0), .second, .val (.long p1), .second, .val (.long p2), .second, .val (.long p3), .second, .val (.int p4), .val (.long p5), .second, .val (.int (p4 &&& (15 : Int32))), .val (.long m1), .second, .val (.long m2), .second, .val (.long m3), .second, .val (.long m4), .second, .val (.ref b5), .val (.ref b7), .val (.int be), .val (.int be), .val (.int be), .val (.int (0 : Int32)), .val (.int (0 : Int32))]) rfl ?_
              show Steps p.tables e below (T14.setTop (mkF m 186 #[.val (.long p0), .second, .val (.long p1), .second, .val (.long p2), .second, .val (.long p3), .second, .val (.int p4), .val (.long p5), .second, .val (.int (p4 &&& (15 : Int32))), .val (.long m1), .second, .val (.long m2), .second, .val (.long m3), .second, .val (.long m4), .second, .val (.ref b5), .val (.ref b7), .val (.int be), .val (.int be), .val (.int be), .val (.int (0 : Int32)), .val (.int (0 : Int32))] [])) _
              refine XS.iload X14.here hx rfl (hb hby at_186) rfl ?_
              show Steps p.tables e below (T14.setTop (mkF m 188 #[.val (.long p0), .second, .val (.long p1), .second, .val (.long p2), .second, .val (.long p3), .second, .val (.int p4), .val (.long p5), .second, .val (.int (p4 &&& (15 : Int32))), .val (.long m1), .second, .val (.long m2), .second, .val (.long m3), .second, .val (.long m4), .second, .val (.ref b5), .val (.ref b7), .val (.int be), .val (.int be), .val (.int be), .val (.int (0 : Int32)), .val (.int (0 : Int32))] [(.int be)])) _
              refine XS.iload X14.here hx rfl (hb hby at_188) rfl ?_
              show Steps p.tables e below (T14.setTop (mkF m 190 #[.val (.long p0), .second, .val (.long p1), .second, .val (.long p2), .second, .val (.long p3), .second, .val (.int p4), .val (.long p5), .second, .val (.int (p4 &&& (15 : Int32))), .val (.long m1), .second, .val (.long m2), .second, .val (.long m3), .second, .val (.long m4), .second, .val (.ref b5), .val (.ref b7), .val (.int be), .val (.int be), .val (.int be), .val (.int (0 : Int32)), .val (.int (0 : Int32))] [(.int be), (.int be)])) _
              refine XS.icmpNo X14.here hx rfl (hb hby at_190) rfl (teq (rfl : be = be)).2 ?_
              show Steps p.tables e below (T14.setTop (mkF m 193 #[.val (.long p0), .second, .val (.long p1), .second, .val (.long p2), .second, .val (.long p3), .second, .val (.int p4), .val (.long p5), .second, .val (.int (p4 &&& (15 : Int32))), .val (.long m1), .second, .val (.long m2), .second, .val (.long m3), .second, .val (.long m4), .second, .val (.ref b5), .val (.ref b7), .val (.int be), .val (.int be), .val (.int be), .val (.int (0 : Int32)), .val (.int (0 : Int32))] [])) _
              refine XS.iload X14.here hx rfl (hb hby at_193) rfl ?_
              show Steps p.tables e below (T14.setTop (mkF m 195 #[.val (.long p0), .second, .val (.long p1), .second, .val (.long p2), .second, .val (.long p3), .second, .val (.int p4), .val (.long p5), .second, .val (.int (p4 &&& (15 : Int32))), .val (.long m1), .second, .val (.long m2), .second, .val (.long m3), .second, .val (.long m4), .second, .val (.ref b5), .val (.ref b7), .val (.int be), .val (.int be), .val (.int be), .val (.int (0 : Int32)), .val (.int (0 : Int32))] [(.int be)])) _
              refine XS.iload X14.here hx rfl (hb hby at_195) rfl ?_
              show Steps p.tables e below (T14.setTop (mkF m 197 #[.val (.long p0), .second, .val (.long p1), .second, .val (.long p2), .second, .val (.long p3), .second, .val (.int p4), .val (.long p5), .second, .val (.int (p4 &&& (15 : Int32))), .val (.long m1), .second, .val (.long m2), .second, .val (.long m3), .second, .val (.long m4), .second, .val (.ref b5), .val (.ref b7), .val (.int be), .val (.int be), .val (.int be), .val (.int (0 : Int32)), .val (.int (0 : Int32))] [(.int be), (.int be)])) _
              refine XS.icmpNo X14.here hx rfl (hb hby at_197) rfl (teq (rfl : be = be)).2 ?_
              show Steps p.tables e below (T14.setTop (mkF m 200 #[.val (.long p0), .second, .val (.long p1), .second, .val (.long p2), .second, .val (.long p3), .second, .val (.int p4), .val (.long p5), .second, .val (.int (p4 &&& (15 : Int32))), .val (.long m1), .second, .val (.long m2), .second, .val (.long m3), .second, .val (.long m4), .second, .val (.ref b5), .val (.ref b7), .val (.int be), .val (.int be), .val (.int be), .val (.int (0 : Int32)), .val (.int (0 : Int32))] [])) _
              refine XS.iload X14.here hx rfl (hb hby at_200) rfl ?_
              show Steps p.tables e below (T14.setTop (mkF m 202 #[.val (.long p0), .second, .val (.long p1), .second, .val (.long p2), .second, .val (.long p3), .second, .val (.int p4), .val (.long p5), .second, .val (.int (p4 &&& (15 : Int32))), .val (.long m1), .second, .val (.long m2), .second, .val (.long m3), .second, .val (.long m4), .second, .val (.ref b5), .val (.ref b7), .val (.int be), .val (.int be), .val (.int be), .val (.int (0 : Int32)), .val (.int (0 : Int32))] [(.int (0 : Int32))])) _
              refine XS.ifNo X14.here hx rfl (hb hby at_202) rfl ((if0 _ _).trans (teq (by decide : (0 : Int32) = (0 : Int32))).2) ?_
              show Steps p.tables e below (T14.setTop (mkF m 205 #[.val (.long p0), .second, .val (.long p1), .second, .val (.long p2), .second, .val (.long p3), .second, .val (.int p4), .val (.long p5), .second, .val (.int (p4 &&& (15 : Int32))), .val (.long m1), .second, .val (.long m2), .second, .val (.long m3), .second, .val (.long m4), .second, .val (.ref b5), .val (.ref b7), .val (.int be), .val (.int be), .val (.int be), .val (.int (0 : Int32)), .val (.int (0 : Int32))] [])) _
              refine XS.iload X14.here hx rfl (hb hby at_205) rfl ?_
              show Steps p.tables e below (T14.setTop (mkF m 207 #[.val (.long p0), .second, .val (.long p1), .second, .val (.long p2), .second, .val (.long p3), .second, .val (.int p4), .val (.long p5), .second, .val (.int (p4 &&& (15 : Int32))), .val (.long m1), .second, .val (.long m2), .second, .val (.long m3), .second, .val (.long m4), .second, .val (.ref b5), .val (.ref b7), .val (.int be), .val (.int be), .val (.int be), .val (.int (0 : Int32)), .val (.int (0 : Int32))] [(.int (0 : Int32))])) _
              refine XS.ifNo X14.here hx rfl (hb hby at_207) rfl ((if0 _ _).trans (teq (by decide : (0 : Int32) = (0 : Int32))).2) ?_
              show Steps p.tables e below (T14.setTop (mkF m 210 #[.val (.long p0), .second, .val (.long p1), .second, .val (.long p2), .second, .val (.long p3), .second, .val (.int p4), .val (.long p5), .second, .val (.int (p4 &&& (15 : Int32))), .val (.long m1), .second, .val (.long m2), .second, .val (.long m3), .second, .val (.long m4), .second, .val (.ref b5), .val (.ref b7), .val (.int be), .val (.int be), .val (.int be), .val (.int (0 : Int32)), .val (.int (0 : Int32))] [])) _
              refine XS.iconst X14.here hx rfl (hb hby at_210) ?_
              show Steps p.tables e below (T14.setTop (mkF m 211 #[.val (.long p0), .second, .val (.long p1), .second, .val (.long p2), .second, .val (.long p3), .second, .val (.int p4), .val (.long p5), .second, .val (.int (p4 &&& (15 : Int32))), .val (.long m1), .second, .val (.long m2), .second, .val (.long m3), .second, .val (.long m4), .second, .val (.ref b5), .val (.ref b7), .val (.int be), .val (.int be), .val (.int be), .val (.int (0 : Int32)), .val (.int (0 : Int32))] [(.int (1 : Int32))])) _
              refine XS.goto X14.here hx rfl (pc0 := 211) (pc' := 215) rfl (hb hby at_211) (by decide) (by decide) ?_
              exact k
            refine Go.retZ X14 hx hlk hret (Or.inr rfl) (hb hby at_215) (by decide) (by decide) e14 ?_
            exact ⟨rfl, N14⟩
          by_cases hy9 : p0 = m1
          · skip
            refine Go.by (T' := T8) (g' := (mkF m 123 #[.val (.long p0), .second, .val (.long p1), .second, .val (.long p2), .second, .val (.long p3), .second, .val (.int p4), .val (.long p5), .second, .val (.int (p4 &&& (15 : Int32))), .val (.long m1), .second, .val (.long m2), .second, .val (.long m3), .second, .val (.long m4), .second, .val (.ref b5), .val (.ref b7), .unset, .unset, .unset, .unset, .unset] [(.int (lcmpW p1 m2))])) (fun t k => ?_) ?_
            · show Steps p.tables e below (T8.setTop (mkF m 116 #[.val (.long p0), .second, .val (.long p1), .second, .val (.long p2), .second, .val (.long p3), .second, .val (.int p4), .val (.long p5), .second, .val (.int (p4 &&& (15 : Int32))), .val (.long m1), .second, .val (.long m2), .second, .val (.long m3), .second, .val (.long m4), .second, .val (.ref b5), .val (.ref b7), .unset, .unset, .unset, .unset, .unset] [(.int (lcmpW p0 m1))])) _
              refine XS.ifNo X8.here hx rfl (hb hby at_116) rfl ((if0 _ _).trans (teq ((lw_eq _ _).mpr hy9)).2) ?_
              show Steps p.tables e below (T8.setTop (mkF m 119 #[.val (.long p0), .second, .val (.long p1), .second, .val (.long p2), .second, .val (.long p3), .second, .val (.int p4), .val (.long p5), .second, .val (.int (p4 &&& (15 : Int32))), .val (.long m1), .second, .val (.long m2), .second, .val (.long m3), .second, .val (.long m4), .second, .val (.ref b5), .val (.ref b7), .unset, .unset, .unset, .unset, .unset] [])) _
              refine XS.lloadN X8.here hx rfl (hb hby at_119) rfl ?_
              show Steps p.tables e below (T8.setTop (mkF m 120 #[.val (.long p0), .second, .val (.long p1), .second, .val (.long p2), .second, .val (.long p3), .second, .val (.int p4), .val (.long p5), .second, .val (.int (p4 &&& (15 : Int32))), .val (.long m1), .second, .val (.long m2), .second, .val (.long m3), .second, .val (.long m4), .second, .val (.ref b5), .val (.ref b7), .unset, .unset, .unset, .unset, .unset] [(.long p1)])) _
              refine XS.lload X8.here hx rfl (hb hby at_120) rfl ?_
              show Steps p.tables e below (T8.setTop (mkF m 122 #[.val (.long p0), .second, .val (.long p1), .second, .val (.long p2), .second, .val (.long p3), .second, .val (.int p4), .val (.long p5), .second, .val (.int (p4 &&& (15 : Int32))), .val (.long m1), .second, .val (.long m2), .second, .val (.long m3), .second, .val (.long m4), .second, .val (.ref b5), .val (.ref b7), .unset, .unset, .unset, .unset, .unset] [(.long m2), (.long p1)])) _
              refine XS.lcmp X8.here hx rfl (hb hby at_122) rfl ?_
              exact k
            by_cases hy15 : p1 = m2
            · skip
              refine Go.by (T' := T8) (g' := (mkF m 131 #[.val (.long p0), .second, .val (.long p1), .second, .val (.long p2), .second, .val (.long p3), .second, .val (.int p4), .val (.long p5), .second, .val (.int (p4 &&& (15 : Int32))), .val (.long m1), .second, .val (.long m2), .second, .val (.long m3), .second, .val (.long m4), .second, .val (.ref b5), .val (.ref b7), .unset, .unset, .unset, .unset, .unset] [(.int (lcmpW p2 m3))])) (fun t k => ?_) ?_
              · show Steps p.tables e below (T8.setTop (mkF m 123 #[.val (.long p0), .second, .val (.long p1), .second, .val (.long p2), .second, .val (.long p3), .second, .val (.int p4), .val (.long p5), .second, .val (.int (p4 &&& (15 : Int32))), .val (.long m1), .second, .val (.long m2), .second, .val (.long m3), .second, .val (.long m4), .second, .val (.ref b5), .val (.ref b7), .unset, .unset, .unset, .unset, .unset] [(.int (lcmpW p1 m2))])) _
                refine XS.ifNo X8.here hx rfl (hb hby at_123) rfl ((if0 _ _).trans (teq ((lw_eq _ _).mpr hy15)).2) ?_
                show Steps p.tables e below (T8.setTop (mkF m 126 #[.val (.long p0), .second, .val (.long p1), .second, .val (.long p2), .second, .val (.long p3), .second, .val (.int p4), .val (.long p5), .second, .val (.int (p4 &&& (15 : Int32))), .val (.long m1), .second, .val (.long m2), .second, .val (.long m3), .second, .val (.long m4), .second, .val (.ref b5), .val (.ref b7), .unset, .unset, .unset, .unset, .unset] [])) _
                refine XS.lload X8.here hx rfl (hb hby at_126) rfl ?_
                show Steps p.tables e below (T8.setTop (mkF m 128 #[.val (.long p0), .second, .val (.long p1), .second, .val (.long p2), .second, .val (.long p3), .second, .val (.int p4), .val (.long p5), .second, .val (.int (p4 &&& (15 : Int32))), .val (.long m1), .second, .val (.long m2), .second, .val (.long m3), .second, .val (.long m4), .second, .val (.ref b5), .val (.ref b7), .unset, .unset, .unset, .unset, .unset] [(.long p2)])) _
                refine XS.lload X8.here hx rfl (hb hby at_128) rfl ?_
                show Steps p.tables e below (T8.setTop (mkF m 130 #[.val (.long p0), .second, .val (.long p1), .second, .val (.long p2), .second, .val (.long p3), .second, .val (.int p4), .val (.long p5), .second, .val (.int (p4 &&& (15 : Int32))), .val (.long m1), .second, .val (.long m2), .second, .val (.long m3), .second, .val (.long m4), .second, .val (.ref b5), .val (.ref b7), .unset, .unset, .unset, .unset, .unset] [(.long m3), (.long p2)])) _
                refine XS.lcmp X8.here hx rfl (hb hby at_130) rfl ?_
                exact k
              by_cases hy16 : p2 = m3
              · skip
                refine Go.by (T' := T8) (g' := (mkF m 139 #[.val (.long p0), .second, .val (.long p1), .second, .val (.long p2), .second, .val (.long p3), .second, .val (.int p4), .val (.long p5), .second, .val (.int (p4 &&& (15 : Int32))), .val (.long m1), .second, .val (.long m2), .second, .val (.long m3), .second, .val (.long m4), .second, .val (.ref b5), .val (.ref b7), .unset, .unset, .unset, .unset, .unset] [(.int (lcmpW p3 m4))])) (fun t k => ?_) ?_
                · show Steps p.tables e below (T8.setTop (mkF m 131 #[.val (.long p0), .second, .val (.long p1), .second, .val (.long p2), .second, .val (.long p3), .second, .val (.int p4), .val (.long p5), .second, .val (.int (p4 &&& (15 : Int32))), .val (.long m1), .second, .val (.long m2), .second, .val (.long m3), .second, .val (.long m4), .second, .val (.ref b5), .val (.ref b7), .unset, .unset, .unset, .unset, .unset] [(.int (lcmpW p2 m3))])) _
                  refine XS.ifNo X8.here hx rfl (hb hby at_131) rfl ((if0 _ _).trans (teq ((lw_eq _ _).mpr hy16)).2) ?_
                  show Steps p.tables e below (T8.setTop (mkF m 134 #[.val (.long p0), .second, .val (.long p1), .second, .val (.long p2), .second, .val (.long p3), .second, .val (.int p4), .val (.long p5), .second, .val (.int (p4 &&& (15 : Int32))), .val (.long m1), .second, .val (.long m2), .second, .val (.long m3), .second, .val (.long m4), .second, .val (.ref b5), .val (.ref b7), .unset, .unset, .unset, .unset, .unset] [])) _
                  refine XS.lload X8.here hx rfl (hb hby at_134) rfl ?_
                  show Steps p.tables e below (T8.setTop (mkF m 136 #[.val (.long p0), .second, .val (.long p1), .second, .val (.long p2), .second, .val (.long p3), .second, .val (.int p4), .val (.long p5), .second, .val (.int (p4 &&& (15 : Int32))), .val (.long m1), .second, .val (.long m2), .second, .val (.long m3), .second, .val (.long m4), .second, .val (.ref b5), .val (.ref b7), .unset, .unset, .unset, .unset, .unset] [(.long p3)])) _
                  refine XS.lload X8.here hx rfl (hb hby at_136) rfl ?_
                  show Steps p.tables e below (T8.setTop (mkF m 138 #[.val (.long p0), .second, .val (.long p1), .second, .val (.long p2), .second, .val (.long p3), .second, .val (.int p4), .val (.long p5), .second, .val (.int (p4 &&& (15 : Int32))), .val (.long m1), .second, .val (.long m2), .second, .val (.long m3), .second, .val (.long m4), .second, .val (.ref b5), .val (.ref b7), .unset, .unset, .unset, .unset, .unset] [(.long m4), (.long p3)])) _
                  refine XS.lcmp X8.here hx rfl (hb hby at_138) rfl ?_
                  exact k
                by_cases hy17 : p3 = m4
                · skip
                  refine Go.by (T' := T8) (g' := (mkF m 147 #[.val (.long p0), .second, .val (.long p1), .second, .val (.long p2), .second, .val (.long p3), .second, .val (.int p4), .val (.long p5), .second, .val (.int (p4 &&& (15 : Int32))), .val (.long m1), .second, .val (.long m2), .second, .val (.long m3), .second, .val (.long m4), .second, .val (.ref b5), .val (.ref b7), .unset, .unset, .unset, .unset, .unset] [(.int (1 : Int32))])) (fun t k => ?_) ?_
                  · show Steps p.tables e below (T8.setTop (mkF m 139 #[.val (.long p0), .second, .val (.long p1), .second, .val (.long p2), .second, .val (.long p3), .second, .val (.int p4), .val (.long p5), .second, .val (.int (p4 &&& (15 : Int32))), .val (.long m1), .second, .val (.long m2), .second, .val (.long m3), .second, .val (.long m4), .second, .val (.ref b5), .val (.ref b7), .unset, .unset, .unset, .unset, .unset] [(.int (lcmpW p3 m4))])) _
                    refine XS.ifNo X8.here hx rfl (hb hby at_139) rfl ((if0 _ _).trans (teq ((lw_eq _ _).mpr hy17)).2) ?_
                    show Steps p.tables e below (T8.setTop (mkF m 142 #[.val (.long p0), .second, .val (.long p1), .second, .val (.long p2), .second, .val (.long p3), .second, .val (.int p4), .val (.long p5), .second, .val (.int (p4 &&& (15 : Int32))), .val (.long m1), .second, .val (.long m2), .second, .val (.long m3), .second, .val (.long m4), .second, .val (.ref b5), .val (.ref b7), .unset, .unset, .unset, .unset, .unset] [])) _
                    refine XS.iconst X8.here hx rfl (hb hby at_142) ?_
                    show Steps p.tables e below (T8.setTop (mkF m 143 #[.val (.long p0), .second, .val (.long p1), .second, .val (.long p2), .second, .val (.long p3), .second, .val (.int p4), .val (.long p5), .second, .val (.int (p4 &&& (15 : Int32))), .val (.long m1), .second, .val (.long m2), .second, .val (.long m3), .second, .val (.long m4), .second, .val (.ref b5), .val (.ref b7), .unset, .unset, .unset, .unset, .unset] [(.int (1 : Int32))])) _
                    refine XS.goto X8.here hx rfl (pc0 := 143) (pc' := 147) rfl (hb hby at_143) (by decide) (by decide) ?_
                    exact k
                  exact J9 (1 : Int32) (by simp [hy9, hy15, hy16, hy17])
                · skip
                  refine Go.by (T' := T8) (g' := (mkF m 147 #[.val (.long p0), .second, .val (.long p1), .second, .val (.long p2), .second, .val (.long p3), .second, .val (.int p4), .val (.long p5), .second, .val (.int (p4 &&& (15 : Int32))), .val (.long m1), .second, .val (.long m2), .second, .val (.long m3), .second, .val (.long m4), .second, .val (.ref b5), .val (.ref b7), .unset, .unset, .unset, .unset, .unset] [(.int (0 : Int32))])) (fun t k => ?_) ?_
                  · show Steps p.tables e below (T8.setTop (mkF m 139 #[.val (.long p0), .second, .val (.long p1), .second, .val (.long p2), .second, .val (.long p3), .second, .val (.int p4), .val (.long p5), .second, .val (.int (p4 &&& (15 : Int32))), .val (.long m1), .second, .val (.long m2), .second, .val (.long m3), .second, .val (.long m4), .second, .val (.ref b5), .val (.ref b7), .unset, .unset, .unset, .unset, .unset] [(.int (lcmpW p3 m4))])) _
                    refine XS.ifYes X8.here hx rfl (pc0 := 139) (pc' := 146) rfl (hb hby at_139) rfl ((if0 _ _).trans (feq (fun q => hy17 ((lw_eq _ _).mp q))).2) (by decide) (by decide) ?_
                    show Steps p.tables e below (T8.setTop (mkF m 146 #[.val (.long p0), .second, .val (.long p1), .second, .val (.long p2), .second, .val (.long p3), .second, .val (.int p4), .val (.long p5), .second, .val (.int (p4 &&& (15 : Int32))), .val (.long m1), .second, .val (.long m2), .second, .val (.long m3), .second, .val (.long m4), .second, .val (.ref b5), .val (.ref b7), .unset, .unset, .unset, .unset, .unset] [])) _
                    refine XS.iconst X8.here hx rfl (hb hby at_146) ?_
                    exact k
                  exact J9 (0 : Int32) (by simp [hy9, hy15, hy16, hy17])
              · skip
                refine Go.by (T' := T8) (g' := (mkF m 147 #[.val (.long p0), .second, .val (.long p1), .second, .val (.long p2), .second, .val (.long p3), .second, .val (.int p4), .val (.long p5), .second, .val (.int (p4 &&& (15 : Int32))), .val (.long m1), .second, .val (.long m2), .second, .val (.long m3), .second, .val (.long m4), .second, .val (.ref b5), .val (.ref b7), .unset, .unset, .unset, .unset, .unset] [(.int (0 : Int32))])) (fun t k => ?_) ?_
                · show Steps p.tables e below (T8.setTop (mkF m 131 #[.val (.long p0), .second, .val (.long p1), .second, .val (.long p2), .second, .val (.long p3), .second, .val (.int p4), .val (.long p5), .second, .val (.int (p4 &&& (15 : Int32))), .val (.long m1), .second, .val (.long m2), .second, .val (.long m3), .second, .val (.long m4), .second, .val (.ref b5), .val (.ref b7), .unset, .unset, .unset, .unset, .unset] [(.int (lcmpW p2 m3))])) _
                  refine XS.ifYes X8.here hx rfl (pc0 := 131) (pc' := 146) rfl (hb hby at_131) rfl ((if0 _ _).trans (feq (fun q => hy16 ((lw_eq _ _).mp q))).2) (by decide) (by decide) ?_
                  show Steps p.tables e below (T8.setTop (mkF m 146 #[.val (.long p0), .second, .val (.long p1), .second, .val (.long p2), .second, .val (.long p3), .second, .val (.int p4), .val (.long p5), .second, .val (.int (p4 &&& (15 : Int32))), .val (.long m1), .second, .val (.long m2), .second, .val (.long m3), .second, .val (.long m4), .second, .val (.ref b5), .val (.ref b7), .unset, .unset, .unset, .unset, .unset] [])) _
                  refine XS.iconst X8.here hx rfl (hb hby at_146) ?_
                  exact k
                exact J9 (0 : Int32) (by simp [hy9, hy15, hy16])
            · skip
              refine Go.by (T' := T8) (g' := (mkF m 147 #[.val (.long p0), .second, .val (.long p1), .second, .val (.long p2), .second, .val (.long p3), .second, .val (.int p4), .val (.long p5), .second, .val (.int (p4 &&& (15 : Int32))), .val (.long m1), .second, .val (.long m2), .second, .val (.long m3), .second, .val (.long m4), .second, .val (.ref b5), .val (.ref b7), .unset, .unset, .unset, .unset, .unset] [(.int (0 : Int32))])) (fun t k => ?_) ?_
              · show Steps p.tables e below (T8.setTop (mkF m 123 #[.val (.long p0), .second, .val (.long p1), .second, .val (.long p2), .second, .val (.long p3), .second, .val (.int p4), .val (.long p5), .second, .val (.int (p4 &&& (15 : Int32))), .val (.long m1), .second, .val (.long m2), .second, .val (.long m3), .second, .val (.long m4), .second, .val (.ref b5), .val (.ref b7), .unset, .unset, .unset, .unset, .unset] [(.int (lcmpW p1 m2))])) _
                refine XS.ifYes X8.here hx rfl (pc0 := 123) (pc' := 146) rfl (hb hby at_123) rfl ((if0 _ _).trans (feq (fun q => hy15 ((lw_eq _ _).mp q))).2) (by decide) (by decide) ?_
                show Steps p.tables e below (T8.setTop (mkF m 146 #[.val (.long p0), .second, .val (.long p1), .second, .val (.long p2), .second, .val (.long p3), .second, .val (.int p4), .val (.long p5), .second, .val (.int (p4 &&& (15 : Int32))), .val (.long m1), .second, .val (.long m2), .second, .val (.long m3), .second, .val (.long m4), .second, .val (.ref b5), .val (.ref b7), .unset, .unset, .unset, .unset, .unset] [])) _
                refine XS.iconst X8.here hx rfl (hb hby at_146) ?_
                exact k
              exact J9 (0 : Int32) (by simp [hy9, hy15])
          · skip
            refine Go.by (T' := T8) (g' := (mkF m 147 #[.val (.long p0), .second, .val (.long p1), .second, .val (.long p2), .second, .val (.long p3), .second, .val (.int p4), .val (.long p5), .second, .val (.int (p4 &&& (15 : Int32))), .val (.long m1), .second, .val (.long m2), .second, .val (.long m3), .second, .val (.long m4), .second, .val (.ref b5), .val (.ref b7), .unset, .unset, .unset, .unset, .unset] [(.int (0 : Int32))])) (fun t k => ?_) ?_
            · show Steps p.tables e below (T8.setTop (mkF m 116 #[.val (.long p0), .second, .val (.long p1), .second, .val (.long p2), .second, .val (.long p3), .second, .val (.int p4), .val (.long p5), .second, .val (.int (p4 &&& (15 : Int32))), .val (.long m1), .second, .val (.long m2), .second, .val (.long m3), .second, .val (.long m4), .second, .val (.ref b5), .val (.ref b7), .unset, .unset, .unset, .unset, .unset] [(.int (lcmpW p0 m1))])) _
              refine XS.ifYes X8.here hx rfl (pc0 := 116) (pc' := 146) rfl (hb hby at_116) rfl ((if0 _ _).trans (feq (fun q => hy9 ((lw_eq _ _).mp q))).2) (by decide) (by decide) ?_
              show Steps p.tables e below (T8.setTop (mkF m 146 #[.val (.long p0), .second, .val (.long p1), .second, .val (.long p2), .second, .val (.long p3), .second, .val (.int p4), .val (.long p5), .second, .val (.int (p4 &&& (15 : Int32))), .val (.long m1), .second, .val (.long m2), .second, .val (.long m3), .second, .val (.long m4), .second, .val (.ref b5), .val (.ref b7), .unset, .unset, .unset, .unset, .unset] [])) _
              refine XS.iconst X8.here hx rfl (hb hby at_146) ?_
              exact k
            exact J9 (0 : Int32) (by simp [hy9])
        by_cases hy4 : ((p4 &&& (15 : Int32)) &&& (8 : Int32)) = (0 : Int32)
        · skip
          refine Go.by (T' := T0) (g' := (mkF m 78 #[.val (.long p0), .second, .val (.long p1), .second, .val (.long p2), .second, .val (.long p3), .second, .val (.int p4), .val (.long p5), .second, .val (.int (p4 &&& (15 : Int32))), .val (.long m1), .second, .val (.long m2), .second, .val (.long m3), .second, .unset, .unset, .unset, .unset, .unset, .unset, .unset, .unset, .unset] [(.long p3)])) (fun t k => ?_) ?_
          · show Steps p.tables e below (T0.setTop (mkF m 65 #[.val (.long p0), .second, .val (.long p1), .second, .val (.long p2), .second, .val (.long p3), .second, .val (.int p4), .val (.long p5), .second, .val (.int (p4 &&& (15 : Int32))), .val (.long m1), .second, .val (.long m2), .second, .val (.long m3), .second, .unset, .unset, .unset, .unset, .unset, .unset, .unset, .unset, .unset] [(.int ((p4 &&& (15 : Int32)) &&& (8 : Int32)))])) _
            refine XS.ifYes X0.here hx rfl (pc0 := 65) (pc' := 76) rfl (hb hby at_65) rfl ((if0 _ _).trans (teq hy4).1) (by decide) (by decide) ?_
            show Steps p.tables e below (T0.setTop (mkF m 76 #[.val (.long p0), .second, .val (.long p1), .second, .val (.long p2), .second, .val (.long p3), .second, .val (.int p4), .val (.long p5), .second, .val (.int (p4 &&& (15 : Int32))), .val (.long m1), .second, .val (.long m2), .second, .val (.long m3), .second, .unset, .unset, .unset, .unset, .unset, .unset, .unset, .unset, .unset] [])) _
            refine XS.lload X0.here hx rfl (hb hby at_76) rfl ?_
            exact k
          exact J4 p3
        · skip
          refine Go.by (T' := T0) (g' := (mkF m 78 #[.val (.long p0), .second, .val (.long p1), .second, .val (.long p2), .second, .val (.long p3), .second, .val (.int p4), .val (.long p5), .second, .val (.int (p4 &&& (15 : Int32))), .val (.long m1), .second, .val (.long m2), .second, .val (.long m3), .second, .unset, .unset, .unset, .unset, .unset, .unset, .unset, .unset, .unset] [(.long (p3 + p5))])) (fun t k => ?_) ?_
          · show Steps p.tables e below (T0.setTop (mkF m 65 #[.val (.long p0), .second, .val (.long p1), .second, .val (.long p2), .second, .val (.long p3), .second, .val (.int p4), .val (.long p5), .second, .val (.int (p4 &&& (15 : Int32))), .val (.long m1), .second, .val (.long m2), .second, .val (.long m3), .second, .unset, .unset, .unset, .unset, .unset, .unset, .unset, .unset, .unset] [(.int ((p4 &&& (15 : Int32)) &&& (8 : Int32)))])) _
            refine XS.ifNo X0.here hx rfl (hb hby at_65) rfl ((if0 _ _).trans (feq hy4).1) ?_
            show Steps p.tables e below (T0.setTop (mkF m 68 #[.val (.long p0), .second, .val (.long p1), .second, .val (.long p2), .second, .val (.long p3), .second, .val (.int p4), .val (.long p5), .second, .val (.int (p4 &&& (15 : Int32))), .val (.long m1), .second, .val (.long m2), .second, .val (.long m3), .second, .unset, .unset, .unset, .unset, .unset, .unset, .unset, .unset, .unset] [])) _
            refine XS.lload X0.here hx rfl (hb hby at_68) rfl ?_
            show Steps p.tables e below (T0.setTop (mkF m 70 #[.val (.long p0), .second, .val (.long p1), .second, .val (.long p2), .second, .val (.long p3), .second, .val (.int p4), .val (.long p5), .second, .val (.int (p4 &&& (15 : Int32))), .val (.long m1), .second, .val (.long m2), .second, .val (.long m3), .second, .unset, .unset, .unset, .unset, .unset, .unset, .unset, .unset, .unset] [(.long p3)])) _
            refine XS.lload X0.here hx rfl (hb hby at_70) rfl ?_
            show Steps p.tables e below (T0.setTop (mkF m 72 #[.val (.long p0), .second, .val (.long p1), .second, .val (.long p2), .second, .val (.long p3), .second, .val (.int p4), .val (.long p5), .second, .val (.int (p4 &&& (15 : Int32))), .val (.long m1), .second, .val (.long m2), .second, .val (.long m3), .second, .unset, .unset, .unset, .unset, .unset, .unset, .unset, .unset, .unset] [(.long p5), (.long p3)])) _
            refine XS.ladd X0.here hx rfl (hb hby at_72) rfl ?_
            show Steps p.tables e below (T0.setTop (mkF m 73 #[.val (.long p0), .second, .val (.long p1), .second, .val (.long p2), .second, .val (.long p3), .second, .val (.int p4), .val (.long p5), .second, .val (.int (p4 &&& (15 : Int32))), .val (.long m1), .second, .val (.long m2), .second, .val (.long m3), .second, .unset, .unset, .unset, .unset, .unset, .unset, .unset, .unset, .unset] [(.long (p3 + p5))])) _
            refine XS.goto X0.here hx rfl (pc0 := 73) (pc' := 78) rfl (hb hby at_73) (by decide) (by decide) ?_
            exact k
          exact J4 (p3 + p5)
      by_cases hy3 : ((p4 &&& (15 : Int32)) &&& (4 : Int32)) = (0 : Int32)
      · skip
        refine Go.by (T' := T0) (g' := (mkF m 58 #[.val (.long p0), .second, .val (.long p1), .second, .val (.long p2), .second, .val (.long p3), .second, .val (.int p4), .val (.long p5), .second, .val (.int (p4 &&& (15 : Int32))), .val (.long m1), .second, .val (.long m2), .second, .unset, .unset, .unset, .unset, .unset, .unset, .unset, .unset, .unset, .unset, .unset] [(.long p2)])) (fun t k => ?_) ?_
        · show Steps p.tables e below (T0.setTop (mkF m 45 #[.val (.long p0), .second, .val (.long p1), .second, .val (.long p2), .second, .val (.long p3), .second, .val (.int p4), .val (.long p5), .second, .val (.int (p4 &&& (15 : Int32))), .val (.long m1), .second, .val (.long m2), .second, .unset, .unset, .unset, .unset, .unset, .unset, .unset, .unset, .unset, .unset, .unset] [(.int ((p4 &&& (15 : Int32)) &&& (4 : Int32)))])) _
          refine XS.ifYes X0.here hx rfl (pc0 := 45) (pc' := 56) rfl (hb hby at_45) rfl ((if0 _ _).trans (teq hy3).1) (by decide) (by decide) ?_
          show Steps p.tables e below (T0.setTop (mkF m 56 #[.val (.long p0), .second, .val (.long p1), .second, .val (.long p2), .second, .val (.long p3), .second, .val (.int p4), .val (.long p5), .second, .val (.int (p4 &&& (15 : Int32))), .val (.long m1), .second, .val (.long m2), .second, .unset, .unset, .unset, .unset, .unset, .unset, .unset, .unset, .unset, .unset, .unset] [])) _
          refine XS.lload X0.here hx rfl (hb hby at_56) rfl ?_
          exact k
        exact J3 p2
      · skip
        refine Go.by (T' := T0) (g' := (mkF m 58 #[.val (.long p0), .second, .val (.long p1), .second, .val (.long p2), .second, .val (.long p3), .second, .val (.int p4), .val (.long p5), .second, .val (.int (p4 &&& (15 : Int32))), .val (.long m1), .second, .val (.long m2), .second, .unset, .unset, .unset, .unset, .unset, .unset, .unset, .unset, .unset, .unset, .unset] [(.long (p2 + p5))])) (fun t k => ?_) ?_
        · show Steps p.tables e below (T0.setTop (mkF m 45 #[.val (.long p0), .second, .val (.long p1), .second, .val (.long p2), .second, .val (.long p3), .second, .val (.int p4), .val (.long p5), .second, .val (.int (p4 &&& (15 : Int32))), .val (.long m1), .second, .val (.long m2), .second, .unset, .unset, .unset, .unset, .unset, .unset, .unset, .unset, .unset, .unset, .unset] [(.int ((p4 &&& (15 : Int32)) &&& (4 : Int32)))])) _
          refine XS.ifNo X0.here hx rfl (hb hby at_45) rfl ((if0 _ _).trans (feq hy3).1) ?_
          show Steps p.tables e below (T0.setTop (mkF m 48 #[.val (.long p0), .second, .val (.long p1), .second, .val (.long p2), .second, .val (.long p3), .second, .val (.int p4), .val (.long p5), .second, .val (.int (p4 &&& (15 : Int32))), .val (.long m1), .second, .val (.long m2), .second, .unset, .unset, .unset, .unset, .unset, .unset, .unset, .unset, .unset, .unset, .unset] [])) _
          refine XS.lload X0.here hx rfl (hb hby at_48) rfl ?_
          show Steps p.tables e below (T0.setTop (mkF m 50 #[.val (.long p0), .second, .val (.long p1), .second, .val (.long p2), .second, .val (.long p3), .second, .val (.int p4), .val (.long p5), .second, .val (.int (p4 &&& (15 : Int32))), .val (.long m1), .second, .val (.long m2), .second, .unset, .unset, .unset, .unset, .unset, .unset, .unset, .unset, .unset, .unset, .unset] [(.long p2)])) _
          refine XS.lload X0.here hx rfl (hb hby at_50) rfl ?_
          show Steps p.tables e below (T0.setTop (mkF m 52 #[.val (.long p0), .second, .val (.long p1), .second, .val (.long p2), .second, .val (.long p3), .second, .val (.int p4), .val (.long p5), .second, .val (.int (p4 &&& (15 : Int32))), .val (.long m1), .second, .val (.long m2), .second, .unset, .unset, .unset, .unset, .unset, .unset, .unset, .unset, .unset, .unset, .unset] [(.long p5), (.long p2)])) _
          refine XS.ladd X0.here hx rfl (hb hby at_52) rfl ?_
          show Steps p.tables e below (T0.setTop (mkF m 53 #[.val (.long p0), .second, .val (.long p1), .second, .val (.long p2), .second, .val (.long p3), .second, .val (.int p4), .val (.long p5), .second, .val (.int (p4 &&& (15 : Int32))), .val (.long m1), .second, .val (.long m2), .second, .unset, .unset, .unset, .unset, .unset, .unset, .unset, .unset, .unset, .unset, .unset] [(.long (p2 + p5))])) _
          refine XS.goto X0.here hx rfl (pc0 := 53) (pc' := 58) rfl (hb hby at_53) (by decide) (by decide) ?_
          exact k
        exact J3 (p2 + p5)
    by_cases hy2 : ((p4 &&& (15 : Int32)) &&& (2 : Int32)) = (0 : Int32)
    · skip
      refine Go.by (T' := T0) (g' := (mkF m 39 #[.val (.long p0), .second, .val (.long p1), .second, .val (.long p2), .second, .val (.long p3), .second, .val (.int p4), .val (.long p5), .second, .val (.int (p4 &&& (15 : Int32))), .val (.long m1), .second, .unset, .unset, .unset, .unset, .unset, .unset, .unset, .unset, .unset, .unset, .unset, .unset, .unset] [(.long p1)])) (fun t k => ?_) ?_
      · show Steps p.tables e below (T0.setTop (mkF m 28 #[.val (.long p0), .second, .val (.long p1), .second, .val (.long p2), .second, .val (.long p3), .second, .val (.int p4), .val (.long p5), .second, .val (.int (p4 &&& (15 : Int32))), .val (.long m1), .second, .unset, .unset, .unset, .unset, .unset, .unset, .unset, .unset, .unset, .unset, .unset, .unset, .unset] [(.int ((p4 &&& (15 : Int32)) &&& (2 : Int32)))])) _
        refine XS.ifYes X0.here hx rfl (pc0 := 28) (pc' := 38) rfl (hb hby at_28) rfl ((if0 _ _).trans (teq hy2).1) (by decide) (by decide) ?_
        show Steps p.tables e below (T0.setTop (mkF m 38 #[.val (.long p0), .second, .val (.long p1), .second, .val (.long p2), .second, .val (.long p3), .second, .val (.int p4), .val (.long p5), .second, .val (.int (p4 &&& (15 : Int32))), .val (.long m1), .second, .unset, .unset, .unset, .unset, .unset, .unset, .unset, .unset, .unset, .unset, .unset, .unset, .unset] [])) _
        refine XS.lloadN X0.here hx rfl (hb hby at_38) rfl ?_
        exact k
      exact J2 p1
    · skip
      refine Go.by (T' := T0) (g' := (mkF m 39 #[.val (.long p0), .second, .val (.long p1), .second, .val (.long p2), .second, .val (.long p3), .second, .val (.int p4), .val (.long p5), .second, .val (.int (p4 &&& (15 : Int32))), .val (.long m1), .second, .unset, .unset, .unset, .unset, .unset, .unset, .unset, .unset, .unset, .unset, .unset, .unset, .unset] [(.long (p1 + p5))])) (fun t k => ?_) ?_
      · show Steps p.tables e below (T0.setTop (mkF m 28 #[.val (.long p0), .second, .val (.long p1), .second, .val (.long p2), .second, .val (.long p3), .second, .val (.int p4), .val (.long p5), .second, .val (.int (p4 &&& (15 : Int32))), .val (.long m1), .second, .unset, .unset, .unset, .unset, .unset, .unset, .unset, .unset, .unset, .unset, .unset, .unset, .unset] [(.int ((p4 &&& (15 : Int32)) &&& (2 : Int32)))])) _
        refine XS.ifNo X0.here hx rfl (hb hby at_28) rfl ((if0 _ _).trans (feq hy2).1) ?_
        show Steps p.tables e below (T0.setTop (mkF m 31 #[.val (.long p0), .second, .val (.long p1), .second, .val (.long p2), .second, .val (.long p3), .second, .val (.int p4), .val (.long p5), .second, .val (.int (p4 &&& (15 : Int32))), .val (.long m1), .second, .unset, .unset, .unset, .unset, .unset, .unset, .unset, .unset, .unset, .unset, .unset, .unset, .unset] [])) _
        refine XS.lloadN X0.here hx rfl (hb hby at_31) rfl ?_
        show Steps p.tables e below (T0.setTop (mkF m 32 #[.val (.long p0), .second, .val (.long p1), .second, .val (.long p2), .second, .val (.long p3), .second, .val (.int p4), .val (.long p5), .second, .val (.int (p4 &&& (15 : Int32))), .val (.long m1), .second, .unset, .unset, .unset, .unset, .unset, .unset, .unset, .unset, .unset, .unset, .unset, .unset, .unset] [(.long p1)])) _
        refine XS.lload X0.here hx rfl (hb hby at_32) rfl ?_
        show Steps p.tables e below (T0.setTop (mkF m 34 #[.val (.long p0), .second, .val (.long p1), .second, .val (.long p2), .second, .val (.long p3), .second, .val (.int p4), .val (.long p5), .second, .val (.int (p4 &&& (15 : Int32))), .val (.long m1), .second, .unset, .unset, .unset, .unset, .unset, .unset, .unset, .unset, .unset, .unset, .unset, .unset, .unset] [(.long p5), (.long p1)])) _
        refine XS.ladd X0.here hx rfl (hb hby at_34) rfl ?_
        show Steps p.tables e below (T0.setTop (mkF m 35 #[.val (.long p0), .second, .val (.long p1), .second, .val (.long p2), .second, .val (.long p3), .second, .val (.int p4), .val (.long p5), .second, .val (.int (p4 &&& (15 : Int32))), .val (.long m1), .second, .unset, .unset, .unset, .unset, .unset, .unset, .unset, .unset, .unset, .unset, .unset, .unset, .unset] [(.long (p1 + p5))])) _
        refine XS.goto X0.here hx rfl (pc0 := 35) (pc' := 39) rfl (hb hby at_35) (by decide) (by decide) ?_
        exact k
      exact J2 (p1 + p5)
  by_cases hy1 : ((p4 &&& (15 : Int32)) &&& (1 : Int32)) = (0 : Int32)
  · skip
    refine Go.by (T' := T0) (g' := (mkF m 22 #[.val (.long p0), .second, .val (.long p1), .second, .val (.long p2), .second, .val (.long p3), .second, .val (.int p4), .val (.long p5), .second, .val (.int (p4 &&& (15 : Int32))), .unset, .unset, .unset, .unset, .unset, .unset, .unset, .unset, .unset, .unset, .unset, .unset, .unset, .unset, .unset] [(.long p0)])) (fun t k => ?_) ?_
    · show Steps p.tables e below (T0.setTop (mkF m 11 #[.val (.long p0), .second, .val (.long p1), .second, .val (.long p2), .second, .val (.long p3), .second, .val (.int p4), .val (.long p5), .second, .val (.int (p4 &&& (15 : Int32))), .unset, .unset, .unset, .unset, .unset, .unset, .unset, .unset, .unset, .unset, .unset, .unset, .unset, .unset, .unset] [(.int ((p4 &&& (15 : Int32)) &&& (1 : Int32)))])) _
      refine XS.ifYes X0.here hx rfl (pc0 := 11) (pc' := 21) rfl (hb hby at_11) rfl ((if0 _ _).trans (teq hy1).1) (by decide) (by decide) ?_
      show Steps p.tables e below (T0.setTop (mkF m 21 #[.val (.long p0), .second, .val (.long p1), .second, .val (.long p2), .second, .val (.long p3), .second, .val (.int p4), .val (.long p5), .second, .val (.int (p4 &&& (15 : Int32))), .unset, .unset, .unset, .unset, .unset, .unset, .unset, .unset, .unset, .unset, .unset, .unset, .unset, .unset, .unset] [])) _
      refine XS.lloadN X0.here hx rfl (hb hby at_21) rfl ?_
      exact k
    exact J1 p0
  · skip
    refine Go.by (T' := T0) (g' := (mkF m 22 #[.val (.long p0), .second, .val (.long p1), .second, .val (.long p2), .second, .val (.long p3), .second, .val (.int p4), .val (.long p5), .second, .val (.int (p4 &&& (15 : Int32))), .unset, .unset, .unset, .unset, .unset, .unset, .unset, .unset, .unset, .unset, .unset, .unset, .unset, .unset, .unset] [(.long (p0 + p5))])) (fun t k => ?_) ?_
    · show Steps p.tables e below (T0.setTop (mkF m 11 #[.val (.long p0), .second, .val (.long p1), .second, .val (.long p2), .second, .val (.long p3), .second, .val (.int p4), .val (.long p5), .second, .val (.int (p4 &&& (15 : Int32))), .unset, .unset, .unset, .unset, .unset, .unset, .unset, .unset, .unset, .unset, .unset, .unset, .unset, .unset, .unset] [(.int ((p4 &&& (15 : Int32)) &&& (1 : Int32)))])) _
      refine XS.ifNo X0.here hx rfl (hb hby at_11) rfl ((if0 _ _).trans (feq hy1).1) ?_
      show Steps p.tables e below (T0.setTop (mkF m 14 #[.val (.long p0), .second, .val (.long p1), .second, .val (.long p2), .second, .val (.long p3), .second, .val (.int p4), .val (.long p5), .second, .val (.int (p4 &&& (15 : Int32))), .unset, .unset, .unset, .unset, .unset, .unset, .unset, .unset, .unset, .unset, .unset, .unset, .unset, .unset, .unset] [])) _
      refine XS.lloadN X0.here hx rfl (hb hby at_14) rfl ?_
      show Steps p.tables e below (T0.setTop (mkF m 15 #[.val (.long p0), .second, .val (.long p1), .second, .val (.long p2), .second, .val (.long p3), .second, .val (.int p4), .val (.long p5), .second, .val (.int (p4 &&& (15 : Int32))), .unset, .unset, .unset, .unset, .unset, .unset, .unset, .unset, .unset, .unset, .unset, .unset, .unset, .unset, .unset] [(.long p0)])) _
      refine XS.lload X0.here hx rfl (hb hby at_15) rfl ?_
      show Steps p.tables e below (T0.setTop (mkF m 17 #[.val (.long p0), .second, .val (.long p1), .second, .val (.long p2), .second, .val (.long p3), .second, .val (.int p4), .val (.long p5), .second, .val (.int (p4 &&& (15 : Int32))), .unset, .unset, .unset, .unset, .unset, .unset, .unset, .unset, .unset, .unset, .unset, .unset, .unset, .unset, .unset] [(.long p5), (.long p0)])) _
      refine XS.ladd X0.here hx rfl (hb hby at_17) rfl ?_
      show Steps p.tables e below (T0.setTop (mkF m 18 #[.val (.long p0), .second, .val (.long p1), .second, .val (.long p2), .second, .val (.long p3), .second, .val (.int p4), .val (.long p5), .second, .val (.int (p4 &&& (15 : Int32))), .unset, .unset, .unset, .unset, .unset, .unset, .unset, .unset, .unset, .unset, .unset, .unset, .unset, .unset, .unset] [(.long (p0 + p5))])) _
      refine XS.goto X0.here hx rfl (pc0 := 18) (pc' := 22) rfl (hb hby at_18) (by decide) (by decide) ?_
      exact k
    exact J1 (p0 + p5)
set_option maxRecDepth 65536 in
set_option maxHeartbeats 40000000 in
theorem comes_1 {Post : Tables → Env → Array Value → State → Outcome → State → Prop} (hpost : ∀ tb e args s v u, (limb_1_1.after args s (.returned v) u = true ∧ limb_1_2.after args s (.returned v) u = true ∧ True) → FrameEnd s (.returned v) u (Jvm.fieldLocs frame_1_writes args s ++ Jvm.arrayLocs frame_1_arrays args s ++ Jvm.staticLocs frame_1_statics s) 16 128 → Post tb e args s (.returned v) u) :
    ArmFor flags0 classFile x code maxLocals ret World_1 tables_1 room_1 Calls_1 rest_1 Pre_1 Post := by
  intro l hfl _ _ p e ha hc hk s m args below hf hA hF happ hP
  obtain ⟨hcalls, hrest, hpre⟩ := hP
  obtain ⟨-, -, -, hnamed, -, -, -, hat⟩ := (Spec.applies_iff hf).mp happ
  obtain ⟨hg, hn⟩ := and_e (Cond.before_iff.mp (show (Jvm.Cond.and given_1 narrow_1).before args s = true from hpre))
  obtain ⟨hcnt, hg⟩ := and_e hg
  obtain ⟨ha0, hg⟩ := and_e hg
  obtain ⟨ha1, hg⟩ := and_e hg
  obtain ⟨ha2, hg⟩ := and_e hg
  obtain ⟨ha3, hg⟩ := and_e hg
  obtain ⟨ha4, hg⟩ := and_e hg
  have ha5 := hg
  obtain ⟨u0, u1, u2, u3, u4, u5, rfl⟩ : ∃ u0 u1 u2 u3 u4 u5 : Value, args = #[u0, u1, u2, u3, u4, u5] := by
    have hs : args.size = 6 := by simpa [Cond.value] using hcnt
    obtain ⟨L⟩ := args
    match L, hs with
    | [u0, u1, u2, u3, u4, u5], _ => exact ⟨u0, u1, u2, u3, u4, u5, rfl⟩
  have hw := fun d (hd : d ∈ tables_1) => atoms_spec (ws := Jvm.Cond.code x code maxLocals ret :: tables_1) hat d (List.mem_cons_of_mem _ hd)
  have hfit : Fit s := fun {y c} hc i hi => by
    obtain ⟨ha, rfl⟩ := Array.getElem?_eq_some_iff.mp hc
    have q := List.all_eq_true.mp ((Array.all_eq_true_iff_forall_mem.mp hF) _ (Array.getElem_mem ha)) i (List.mem_range.mpr hi)
    simpa [Array.getElem?_eq_getElem hi] using q
  obtain ⟨hsets, hown0⟩ := atoms_of _ (rest_1_c_eq ▸ (show rest_1_c.before _ s = true from hrest))
  obtain ⟨i0, ei0⟩ := isL_v ha0
  obtain rfl : u0 = (.long i0) := Option.some.inj ei0
  obtain ⟨i1, ei1⟩ := isL_v ha1
  obtain rfl : u1 = (.long i1) := Option.some.inj ei1
  obtain ⟨i2, ei2⟩ := isL_v ha2
  obtain rfl : u2 = (.long i2) := Option.some.inj ei2
  obtain ⟨i3, ei3⟩ := isL_v ha3
  obtain rfl : u3 = (.long i3) := Option.some.inj ei3
  obtain ⟨i4, ei4⟩ := is_v ha4
  obtain rfl : u4 = (.int i4) := Option.some.inj ei4
  obtain ⟨i5, ei5⟩ := isL_v ha5
  obtain rfl : u5 = (.long i5) := Option.some.inj ei5
  have k_arr := Cond.before_iff.mp (hsets _ (List.mem_of_getElem? (i := 2) rfl))
  have k_len := Cond.before_iff.mp (hsets _ (List.mem_of_getElem? (i := 4) rfl))
  have k_all := Cond.before_iff.mp (hsets _ (List.mem_of_getElem? (i := 5) rfl))
  obtain ⟨w_cache, ev_cache⟩ := arr_v k_arr
  have S_cache := Sta.start ev_cache (Or.inr ⟨(wd hw 31 rfl), (hsets _ (List.mem_of_getElem? (i := 0) rfl))⟩)
  obtain ⟨cl_cache, A_cache⟩ := Arr.start ev_cache k_arr
  obtain ⟨k_sz, k_z⟩ := lenI_v (eqI_v k_len) ev_cache (A_cache.fin (Vm.Alike.refl _))
  have B_cache := Bxs.start (val := fun j => .long (j - 128).toInt64) (fun _ => ev_cache) A_cache k_sz k_z (by decide) k_all (fun X j nn hq => eqv_l (i2l_at (Term.sub_int (idx_at nn) (Term.int_eval _))) hq)
  obtain ⟨n, o, h1, h2, h3, _, L, rfl, ⟨rfl, N⟩, hq⟩ := ct_law l s _ hw w_cache cl_cache S_cache B_cache i0 i1 i2 i3 i4 i5 s.heap s.heap.size (Old.start s)  tables_1 p e ha hc hk s m _ below hf ((Spec.applies_iff_loose hf).mp happ).1 ⟨rfl, State.Warmed39.refl s, rfl⟩ trivial
  refine ⟨n, _, h1, h2, h3, hpost _ _ _ _ _ _ ⟨Cond.after_iff.mpr rfl, Cond.after_iff.mpr (eq_i res_at (Term.int_eval (1)) rfl), trivial⟩ ⟨hq.1, hq.2.1, (hq.2.2.sift fun y hy => Or.inr (N y hy)).mono (by decide) (by decide)⟩⟩
theorem main_1_1 : Claimed_1_1 := comes_1 fun _ _ _ _ _ _ h hF => ⟨h.1, hF⟩
theorem main_1_2 : Claimed_1_2 := comes_1 fun _ _ _ _ _ _ h hF => ⟨h.2.1, hF⟩
end Jvm.Pilot.@@N@@
namespace Jvm.Pilot.@@N@@
open Jvm Jvm.ClassFile Sem Op Lib Jvm.Free Jvm.Stand Jvm.Pilot.@@N@@.Jvm.D
/-! MADE BY PROGRAM (witnessworld.py) out of the Statement's table words and the real class files: 16 classes; the members and pool entries that the words name. The judged class is class 1, her method 1. -/
namespace start1
open Jvm.ClassFile
def u (s : String) : CpInfo := .utf8 (stringToUtf16 s)
/-- a pool by its gaps: so many unusable entries, then the entry; so many at the end -/
def gap : Nat → List CpInfo → List CpInfo
  | 0, r => r
  | n + 1, r => .unusable :: gap n r
def poolList (es : List (Nat × CpInfo)) (last : Nat) : List CpInfo := es.foldr (fun e r => gap e.1 (e.2 :: r)) (gap last [])
def pool (es : List (Nat × CpInfo)) (last : Nat) : Array CpInfo := ⟨poolList es last⟩
def fileOf (pool : Array CpInfo) (this : Nat) (attrs : Array Attribute := #[]) (ms : Array MethodInfo := #[]) (fl : Nat := 33) (sup : Nat := 0) (ifs : Array Nat := #[]) (fds : Array FieldInfo := #[]) : ClassFile where
  minorVersion := 0
  majorVersion := 65
  constantPool := pool
  accessFlags := fl
  thisClass := this
  superClass := sup
  interfaces := ifs
  fields := fds
  methods := ms
  attributes := attrs
def plain (name : String) (sup : Option ClassId) : Class where
  name := name
  kind := .ordinary
  loader := none
  accessFlags := 33
  super := sup
  interfaces := #[]
  cf := none
  fields := #[]
  methods := #[]
  instanceTypes := #[]
  staticTypes := #[]
  resolved := #[]
  callSites := []
  init := .initialized
  statics := none
  mirror := none

def pool0 : Array CpInfo := pool [(5, u "<init>"), (0, u "()V"), (1, .class_ 10), (1, u "java/lang/Object")] 113

def k0c0 : Code := { maxStack := 0, maxLocals := 1, code := object_method_1_code, exceptionTable := #[], attributes := #[] }
def k0m0 : Method := { name := "<init>", desc := "()V", sig := { parameters := [], returnType := none }, accessFlags := 1, code := some k0c0 }
/-- java/lang/Object -/
def k0 : Class := { plain "java/lang/Object" none with
  accessFlags := 33
  interfaces := #[]
  cf := some (fileOf pool0 8 #[] #[{ accessFlags := 1, nameIndex := 5, descriptorIndex := 6, attributes := #[] }] 33 0 #[] #[])
  fields := #[]
  methods := #[k0m0]
  instanceTypes := #[]
  staticTypes := #[]
  resolved := Array.replicate 124 none
  statics := none }

def pool1 : Array CpInfo := pool [(2, .class_ 4), (1, u "java/lang/Object"), (0, u "<init>"), (0, u "()V"), (0, .class_ 8), (0, u "com/example/long_fuse/longfuse/StateCounts"), (0, .methodref 7 10), (0, .nameAndType 5 11), (0, u "(JJJJ)V"), (0, .methodref 7 13), (0, .nameAndType 14 15), (0, u "equals"), (0, u "(Ljava/lang/Object;)Z"), (0, .methodref 17 18), (0, .class_ 19), (0, .nameAndType 20 21), (0, u "java/lang/Long"), (0, u "valueOf"), (0, u "(J)Ljava/lang/Long;"), (0, .class_ 23), (0, u "com/example/long_fuse/longfuse/StateCountsEqualsPinLaw"), (2, u "law"), (0, u "(JJJJIJ)Z")] 3

def k1m0 : Method := { name := "<init>", desc := "()V", sig := { parameters := [], returnType := none }, accessFlags := 1, code := none }
def k1c1 : Code := { maxStack := 10, maxLocals := 27, code := code, exceptionTable := #[], attributes := #[] }
def k1m1 : Method := { name := "law", desc := "(JJJJIJ)Z", sig := { parameters := [.long, .long, .long, .long, .int, .long], returnType := some .boolean }, accessFlags := 9, code := some k1c1 }
/-- com/example/long_fuse/longfuse/StateCountsEqualsPinLaw -/
def k1 : Class := { plain "com/example/long_fuse/longfuse/StateCountsEqualsPinLaw" (some 0) with
  accessFlags := 49
  interfaces := #[]
  cf := some (fileOf pool1 22 #[] #[{ accessFlags := 1, nameIndex := 5, descriptorIndex := 6, attributes := #[] }, { accessFlags := 9, nameIndex := 26, descriptorIndex := 27, attributes := #[] }] 49 2 #[] #[])
  fields := #[]
  methods := #[k1m0, k1m1]
  instanceTypes := #[]
  staticTypes := #[]
  resolved := Array.replicate 31 none
  statics := none }

def pool2 : Array CpInfo := pool [(1, .methodref 2 3), (0, .class_ 4), (0, .nameAndType 5 6), (0, u "java/lang/Object"), (0, u "<init>"), (0, u "()V"), (0, .fieldref 8 9), (0, .class_ 10), (0, .nameAndType 11 12), (0, u "com/example/long_fuse/longfuse/StateCounts"), (0, u "waiting"), (0, u "J"), (0, .fieldref 8 14), (0, .nameAndType 15 12), (0, u "running"), (0, .fieldref 8 17), (0, .nameAndType 18 12), (0, u "done"), (0, .fieldref 8 20), (0, .nameAndType 21 12), (0, u "dead"), (16, u "(JJJJ)V"), (3, u "equals"), (0, u "(Ljava/lang/Object;)Z")] 22

def k2c0 : Code := { maxStack := 3, maxLocals := 9, code := prog_10_method_1_code, exceptionTable := #[], attributes := #[] }
def k2m0 : Method := { name := "<init>", desc := "(JJJJ)V", sig := { parameters := [.long, .long, .long, .long], returnType := none }, accessFlags := 1, code := some k2c0 }
def k2c1 : Code := { maxStack := 4, maxLocals := 3, code := prog_10_method_6_code, exceptionTable := #[], attributes := #[] }
def k2m1 : Method := { name := "equals", desc := "(Ljava/lang/Object;)Z", sig := { parameters := [(.object "java/lang/Object")], returnType := some .boolean }, accessFlags := 1, code := some k2c1 }
/-- com/example/long_fuse/longfuse/StateCounts -/
def k2 : Class := { plain "com/example/long_fuse/longfuse/StateCounts" (some 0) with
  accessFlags := 49
  interfaces := #[]
  cf := some (fileOf pool2 8 #[] #[{ accessFlags := 1, nameIndex := 5, descriptorIndex := 38, attributes := #[] }, { accessFlags := 1, nameIndex := 42, descriptorIndex := 43, attributes := #[] }] 49 2 #[] #[{ accessFlags := 18, nameIndex := 11, descriptorIndex := 12, attributes := #[] }, { accessFlags := 18, nameIndex := 15, descriptorIndex := 12, attributes := #[] }, { accessFlags := 18, nameIndex := 18, descriptorIndex := 12, attributes := #[] }, { accessFlags := 18, nameIndex := 21, descriptorIndex := 12, attributes := #[] }])
  fields := #[{ name := "waiting", type := .long, accessFlags := 18, slot := 0, constantValue := 0 }, { name := "running", type := .long, accessFlags := 18, slot := 1, constantValue := 0 }, { name := "done", type := .long, accessFlags := 18, slot := 2, constantValue := 0 }, { name := "dead", type := .long, accessFlags := 18, slot := 3, constantValue := 0 }]
  methods := #[k2m0, k2m1]
  instanceTypes := #[.long, .long, .long, .long]
  staticTypes := #[]
  resolved := Array.replicate 66 none
  statics := none }

def pool3 : Array CpInfo := pool [(1, .class_ 2), (0, u "java/io/Serializable"), (0, .class_ 4), (0, u "java/lang/Object")] 2

/-- java/io/Serializable -/
def k3 : Class := { plain "java/io/Serializable" (some 0) with
  accessFlags := 1537
  interfaces := #[]
  cf := some (fileOf pool3 1 #[] #[] 1537 3 #[] #[])
  fields := #[]
  methods := #[]
  instanceTypes := #[]
  staticTypes := #[]
  resolved := Array.replicate 7 none
  statics := none }

def pool4 : Array CpInfo := pool [(1, .methodref 2 3), (0, .class_ 4), (0, .nameAndType 5 6), (0, u "java/lang/Object"), (0, u "<init>"), (0, u "()V"), (1, .class_ 10), (1, u "java/lang/Number"), (2, .class_ 14), (0, u "java/io/Serializable"), (0, u "serialVersionUID"), (0, u "J")] 20

def k4c0 : Code := { maxStack := 1, maxLocals := 1, code := jdk_18_method_1_code, exceptionTable := #[], attributes := #[] }
def k4m0 : Method := { name := "<init>", desc := "()V", sig := { parameters := [], returnType := none }, accessFlags := 1, code := some k4c0 }
/-- java/lang/Number -/
def k4 : Class := { plain "java/lang/Number" (some 0) with
  accessFlags := 1057
  interfaces := #[3]
  cf := some (fileOf pool4 8 #[] #[{ accessFlags := 1, nameIndex := 5, descriptorIndex := 6, attributes := #[] }] 1057 2 #[13] #[{ accessFlags := 26, nameIndex := 15, descriptorIndex := 16, attributes := #[] }])
  fields := #[{ name := "serialVersionUID", type := .long, accessFlags := 26, slot := 0, constantValue := 0 }]
  methods := #[k4m0]
  instanceTypes := #[]
  staticTypes := #[.long]
  resolved := Array.replicate 37 none
  statics := none }

def pool5 : Array CpInfo := pool [(1, .class_ 2), (0, u "java/lang/Comparable"), (0, .class_ 4), (0, u "java/lang/Object")] 7

/-- java/lang/Comparable -/
def k5 : Class := { plain "java/lang/Comparable" (some 0) with
  accessFlags := 1537
  interfaces := #[]
  cf := some (fileOf pool5 1 #[] #[] 1537 3 #[] #[])
  fields := #[]
  methods := #[]
  instanceTypes := #[]
  staticTypes := #[]
  resolved := Array.replicate 12 none
  statics := none }

def pool6 : Array CpInfo := pool [(1, .class_ 2), (0, u "java/lang/constant/Constable"), (0, .class_ 4), (0, u "java/lang/Object")] 6

/-- java/lang/constant/Constable -/
def k6 : Class := { plain "java/lang/constant/Constable" (some 0) with
  accessFlags := 1537
  interfaces := #[]
  cf := some (fileOf pool6 1 #[] #[] 1537 3 #[] #[])
  fields := #[]
  methods := #[]
  instanceTypes := #[]
  staticTypes := #[]
  resolved := Array.replicate 11 none
  statics := none }

def pool7 : Array CpInfo := pool [(1, .class_ 2), (0, u "java/lang/constant/ConstantDesc"), (0, .class_ 4), (0, u "java/lang/Object")] 32

/-- java/lang/constant/ConstantDesc -/
def k7 : Class := { plain "java/lang/constant/ConstantDesc" (some 0) with
  accessFlags := 1537
  interfaces := #[]
  cf := some (fileOf pool7 1 #[] #[] 1537 3 #[] #[])
  fields := #[]
  methods := #[]
  instanceTypes := #[]
  staticTypes := #[]
  resolved := Array.replicate 37 none
  statics := none }

def pool8 : Array CpInfo := pool [(1, .class_ 2), (0, u "java/lang/Long"), (55, .nameAndType 59 60), (0, u "<init>"), (0, u "()V"), (24, u "valueOf"), (143, u "(J)Ljava/lang/Long;"), (0, .long 18446744073709551488), (1, .long 127), (1, .fieldref 235 236), (0, .class_ 237), (0, .nameAndType 238 239), (0, u "java/lang/Long$LongCache"), (0, u "cache"), (0, u "[Ljava/lang/Long;"), (0, .methodref 1 241), (0, .nameAndType 59 242), (0, u "(J)V"), (27, .methodref 271 58), (0, .class_ 272), (0, u "java/lang/Number"), (0, .fieldref 1 274), (0, .nameAndType 275 276), (0, u "value"), (0, u "J"), (84, u "TYPE"), (0, u "Ljava/lang/Class;"), (0, .class_ 364), (0, u "java/lang/Comparable"), (0, .class_ 366), (0, u "java/lang/constant/Constable"), (0, .class_ 368), (0, u "java/lang/constant/ConstantDesc"), (0, u "MIN_VALUE"), (1, u "MAX_VALUE"), (4, u "SIZE"), (0, u "I"), (1, u "BYTES"), (1, u "serialVersionUID")] 142

def k8c0 : Code := { maxStack := 4, maxLocals := 3, code := jdk_35_method_24_code, exceptionTable := #[], attributes := #[] }
def k8m0 : Method := { name := "valueOf", desc := "(J)Ljava/lang/Long;", sig := { parameters := [.long], returnType := some (.object "java/lang/Long") }, accessFlags := 9, code := some k8c0 }
def k8c1 : Code := { maxStack := 3, maxLocals := 3, code := jdk_35_method_26_code, exceptionTable := #[], attributes := #[] }
def k8m1 : Method := { name := "<init>", desc := "(J)V", sig := { parameters := [.long], returnType := none }, accessFlags := 1, code := some k8c1 }
/-- java/lang/Long -/
def k8 : Class := { plain "java/lang/Long" (some 4) with
  accessFlags := 49
  interfaces := #[5, 6, 7]
  cf := some (fileOf pool8 1 #[.nestMembers #[235]] #[{ accessFlags := 9, nameIndex := 85, descriptorIndex := 229, attributes := #[] }, { accessFlags := 1, nameIndex := 59, descriptorIndex := 242, attributes := #[] }] 49 271 #[363, 365, 367] #[{ accessFlags := 25, nameIndex := 369, descriptorIndex := 276, attributes := #[] }, { accessFlags := 25, nameIndex := 371, descriptorIndex := 276, attributes := #[] }, { accessFlags := 25, nameIndex := 361, descriptorIndex := 362, attributes := #[] }, { accessFlags := 18, nameIndex := 275, descriptorIndex := 276, attributes := #[] }, { accessFlags := 25, nameIndex := 376, descriptorIndex := 377, attributes := #[] }, { accessFlags := 25, nameIndex := 379, descriptorIndex := 377, attributes := #[] }, { accessFlags := 26, nameIndex := 381, descriptorIndex := 276, attributes := #[] }])
  fields := #[{ name := "MIN_VALUE", type := .long, accessFlags := 25, slot := 0, constantValue := 0 }, { name := "MAX_VALUE", type := .long, accessFlags := 25, slot := 1, constantValue := 0 }, { name := "TYPE", type := (.object "java/lang/Class"), accessFlags := 25, slot := 2, constantValue := 0 }, { name := "value", type := .long, accessFlags := 18, slot := 0, constantValue := 0 }, { name := "SIZE", type := .int, accessFlags := 25, slot := 3, constantValue := 0 }, { name := "BYTES", type := .int, accessFlags := 25, slot := 4, constantValue := 0 }, { name := "serialVersionUID", type := .long, accessFlags := 26, slot := 5, constantValue := 0 }]
  methods := #[k8m0, k8m1]
  instanceTypes := #[.long]
  staticTypes := #[.long, .long, (.object "java/lang/Class"), .int, .int, .long]
  resolved := Array.replicate 524 none
  statics := none }

def pool9 : Array CpInfo := pool [(2, .class_ 4), (1, u "java/lang/Object"), (0, u "<init>"), (0, u "()V"), (0, .class_ 8), (0, u "java/lang/Long"), (7, .class_ 18), (1, u "java/lang/Long$LongCache"), (0, u "$assertionsDisabled"), (0, u "Z"), (8, u "archivedCache"), (0, u "[Ljava/lang/Long;"), (7, u "cache")] 24

def k9m0 : Method := { name := "<init>", desc := "()V", sig := { parameters := [], returnType := none }, accessFlags := 2, code := none }
/-- java/lang/Long$LongCache -/
def k9 : Class := { plain "java/lang/Long$LongCache" (some 0) with
  accessFlags := 48
  interfaces := #[]
  cf := some (fileOf pool9 16 #[.nestHost 7] #[{ accessFlags := 2, nameIndex := 5, descriptorIndex := 6, attributes := #[] }] 48 2 #[] #[{ accessFlags := 24, nameIndex := 38, descriptorIndex := 30, attributes := #[] }, { accessFlags := 8, nameIndex := 29, descriptorIndex := 30, attributes := #[] }, { accessFlags := 4120, nameIndex := 19, descriptorIndex := 20, attributes := #[] }])
  fields := #[{ name := "cache", type := (.array (.object "java/lang/Long")), accessFlags := 24, slot := 0, constantValue := 0 }, { name := "archivedCache", type := (.array (.object "java/lang/Long")), accessFlags := 8, slot := 1, constantValue := 0 }, { name := "$assertionsDisabled", type := .boolean, accessFlags := 4120, slot := 2, constantValue := 0 }]
  methods := #[k9m0]
  instanceTypes := #[]
  staticTypes := #[(.array (.object "java/lang/Long")), (.array (.object "java/lang/Long")), .boolean]
  resolved := Array.replicate 63 none
  statics := some 0 }

def pool10 : Array CpInfo := pool [(1, u "java/lang/Cloneable"), (0, .class_ 1), (0, u "java/lang/Object"), (0, .class_ 3)] 3

/-- java/lang/Cloneable -/
def k10 : Class := { plain "java/lang/Cloneable" (some 0) with
  accessFlags := 1537
  interfaces := #[]
  cf := some (fileOf pool10 2 #[] #[] 1537 4 #[] #[])
  fields := #[]
  methods := #[]
  instanceTypes := #[]
  staticTypes := #[]
  resolved := Array.replicate 8 none
  statics := none }

/-- the primitive byte -/
def k11 : Class := { plain "byte" none with kind := .primitive 'B', accessFlags := 0x411 }
/-- [B -/
def k12 : Class := { plain "[B" (some 0) with kind := .array 11 .byte, interfaces := #[10, 3], accessFlags := 1041 }

/-- the primitive int -/
def k13 : Class := { plain "int" none with kind := .primitive 'I', accessFlags := 0x411 }
/-- [I -/
def k14 : Class := { plain "[I" (some 0) with kind := .array 13 .int, interfaces := #[10, 3], accessFlags := 1041 }

/-- [Ljava/lang/Long; -/
def k15 : Class := { plain "[Ljava/lang/Long;" (some 0) with kind := .array 8 (.object "java/lang/Long"), interfaces := #[10, 3], accessFlags := 1041 }

def heap : Heap := #[{ cls := 9, slots := #[.ref 1, .null, .int 0], vm := .statics 9 },
  { cls := 15, slots := #[.ref 2, .ref 3, .ref 4, .ref 5, .ref 6, .ref 7, .ref 8, .ref 9, .ref 10, .ref 11, .ref 12, .ref 13, .ref 14, .ref 15, .ref 16, .ref 17, .ref 18, .ref 19, .ref 20, .ref 21, .ref 22, .ref 23, .ref 24, .ref 25, .ref 26, .ref 27, .ref 28, .ref 29, .ref 30, .ref 31, .ref 32, .ref 33, .ref 34, .ref 35, .ref 36, .ref 37, .ref 38, .ref 39, .ref 40, .ref 41, .ref 42, .ref 43, .ref 44, .ref 45, .ref 46, .ref 47, .ref 48, .ref 49, .ref 50, .ref 51, .ref 52, .ref 53, .ref 54, .ref 55, .ref 56, .ref 57, .ref 58, .ref 59, .ref 60, .ref 61, .ref 62, .ref 63, .ref 64, .ref 65, .ref 66, .ref 67, .ref 68, .ref 69, .ref 70, .ref 71, .ref 72, .ref 73, .ref 74, .ref 75, .ref 76, .ref 77, .ref 78, .ref 79, .ref 80, .ref 81, .ref 82, .ref 83, .ref 84, .ref 85, .ref 86, .ref 87, .ref 88, .ref 89, .ref 90, .ref 91, .ref 92, .ref 93, .ref 94, .ref 95, .ref 96, .ref 97, .ref 98, .ref 99, .ref 100, .ref 101, .ref 102, .ref 103, .ref 104, .ref 105, .ref 106, .ref 107, .ref 108, .ref 109, .ref 110, .ref 111, .ref 112, .ref 113, .ref 114, .ref 115, .ref 116, .ref 117, .ref 118, .ref 119, .ref 120, .ref 121, .ref 122, .ref 123, .ref 124, .ref 125, .ref 126, .ref 127, .ref 128, .ref 129, .ref 130, .ref 131, .ref 132, .ref 133, .ref 134, .ref 135, .ref 136, .ref 137, .ref 138, .ref 139, .ref 140, .ref 141, .ref 142, .ref 143, .ref 144, .ref 145, .ref 146, .ref 147, .ref 148, .ref 149, .ref 150, .ref 151, .ref 152, .ref 153, .ref 154, .ref 155, .ref 156, .ref 157, .ref 158, .ref 159, .ref 160, .ref 161, .ref 162, .ref 163, .ref 164, .ref 165, .ref 166, .ref 167, .ref 168, .ref 169, .ref 170, .ref 171, .ref 172, .ref 173, .ref 174, .ref 175, .ref 176, .ref 177, .ref 178, .ref 179, .ref 180, .ref 181, .ref 182, .ref 183, .ref 184, .ref 185, .ref 186, .ref 187, .ref 188, .ref 189, .ref 190, .ref 191, .ref 192, .ref 193, .ref 194, .ref 195, .ref 196, .ref 197, .ref 198, .ref 199, .ref 200, .ref 201, .ref 202, .ref 203, .ref 204, .ref 205, .ref 206, .ref 207, .ref 208, .ref 209, .ref 210, .ref 211, .ref 212, .ref 213, .ref 214, .ref 215, .ref 216, .ref 217, .ref 218, .ref 219, .ref 220, .ref 221, .ref 222, .ref 223, .ref 224, .ref 225, .ref 226, .ref 227, .ref 228, .ref 229, .ref 230, .ref 231, .ref 232, .ref 233, .ref 234, .ref 235, .ref 236, .ref 237, .ref 238, .ref 239, .ref 240, .ref 241, .ref 242, .ref 243, .ref 244, .ref 245, .ref 246, .ref 247, .ref 248, .ref 249, .ref 250, .ref 251, .ref 252, .ref 253, .ref 254, .ref 255, .ref 256, .ref 257], vm := .none },
  { cls := 8, slots := #[.long (-128)], vm := .none },
  { cls := 8, slots := #[.long (-127)], vm := .none },
  { cls := 8, slots := #[.long (-126)], vm := .none },
  { cls := 8, slots := #[.long (-125)], vm := .none },
  { cls := 8, slots := #[.long (-124)], vm := .none },
  { cls := 8, slots := #[.long (-123)], vm := .none },
  { cls := 8, slots := #[.long (-122)], vm := .none },
  { cls := 8, slots := #[.long (-121)], vm := .none },
  { cls := 8, slots := #[.long (-120)], vm := .none },
  { cls := 8, slots := #[.long (-119)], vm := .none },
  { cls := 8, slots := #[.long (-118)], vm := .none },
  { cls := 8, slots := #[.long (-117)], vm := .none },
  { cls := 8, slots := #[.long (-116)], vm := .none },
  { cls := 8, slots := #[.long (-115)], vm := .none },
  { cls := 8, slots := #[.long (-114)], vm := .none },
  { cls := 8, slots := #[.long (-113)], vm := .none },
  { cls := 8, slots := #[.long (-112)], vm := .none },
  { cls := 8, slots := #[.long (-111)], vm := .none },
  { cls := 8, slots := #[.long (-110)], vm := .none },
  { cls := 8, slots := #[.long (-109)], vm := .none },
  { cls := 8, slots := #[.long (-108)], vm := .none },
  { cls := 8, slots := #[.long (-107)], vm := .none },
  { cls := 8, slots := #[.long (-106)], vm := .none },
  { cls := 8, slots := #[.long (-105)], vm := .none },
  { cls := 8, slots := #[.long (-104)], vm := .none },
  { cls := 8, slots := #[.long (-103)], vm := .none },
  { cls := 8, slots := #[.long (-102)], vm := .none },
  { cls := 8, slots := #[.long (-101)], vm := .none },
  { cls := 8, slots := #[.long (-100)], vm := .none },
  { cls := 8, slots := #[.long (-99)], vm := .none },
  { cls := 8, slots := #[.long (-98)], vm := .none },
  { cls := 8, slots := #[.long (-97)], vm := .none },
  { cls := 8, slots := #[.long (-96)], vm := .none },
  { cls := 8, slots := #[.long (-95)], vm := .none },
  { cls := 8, slots := #[.long (-94)], vm := .none },
  { cls := 8, slots := #[.long (-93)], vm := .none },
  { cls := 8, slots := #[.long (-92)], vm := .none },
  { cls := 8, slots := #[.long (-91)], vm := .none },
  { cls := 8, slots := #[.long (-90)], vm := .none },
  { cls := 8, slots := #[.long (-89)], vm := .none },
  { cls := 8, slots := #[.long (-88)], vm := .none },
  { cls := 8, slots := #[.long (-87)], vm := .none },
  { cls := 8, slots := #[.long (-86)], vm := .none },
  { cls := 8, slots := #[.long (-85)], vm := .none },
  { cls := 8, slots := #[.long (-84)], vm := .none },
  { cls := 8, slots := #[.long (-83)], vm := .none },
  { cls := 8, slots := #[.long (-82)], vm := .none },
  { cls := 8, slots := #[.long (-81)], vm := .none },
  { cls := 8, slots := #[.long (-80)], vm := .none },
  { cls := 8, slots := #[.long (-79)], vm := .none },
  { cls := 8, slots := #[.long (-78)], vm := .none },
  { cls := 8, slots := #[.long (-77)], vm := .none },
  { cls := 8, slots := #[.long (-76)], vm := .none },
  { cls := 8, slots := #[.long (-75)], vm := .none },
  { cls := 8, slots := #[.long (-74)], vm := .none },
  { cls := 8, slots := #[.long (-73)], vm := .none },
  { cls := 8, slots := #[.long (-72)], vm := .none },
  { cls := 8, slots := #[.long (-71)], vm := .none },
  { cls := 8, slots := #[.long (-70)], vm := .none },
  { cls := 8, slots := #[.long (-69)], vm := .none },
  { cls := 8, slots := #[.long (-68)], vm := .none },
  { cls := 8, slots := #[.long (-67)], vm := .none },
  { cls := 8, slots := #[.long (-66)], vm := .none },
  { cls := 8, slots := #[.long (-65)], vm := .none },
  { cls := 8, slots := #[.long (-64)], vm := .none },
  { cls := 8, slots := #[.long (-63)], vm := .none },
  { cls := 8, slots := #[.long (-62)], vm := .none },
  { cls := 8, slots := #[.long (-61)], vm := .none },
  { cls := 8, slots := #[.long (-60)], vm := .none },
  { cls := 8, slots := #[.long (-59)], vm := .none },
  { cls := 8, slots := #[.long (-58)], vm := .none },
  { cls := 8, slots := #[.long (-57)], vm := .none },
  { cls := 8, slots := #[.long (-56)], vm := .none },
  { cls := 8, slots := #[.long (-55)], vm := .none },
  { cls := 8, slots := #[.long (-54)], vm := .none },
  { cls := 8, slots := #[.long (-53)], vm := .none },
  { cls := 8, slots := #[.long (-52)], vm := .none },
  { cls := 8, slots := #[.long (-51)], vm := .none },
  { cls := 8, slots := #[.long (-50)], vm := .none },
  { cls := 8, slots := #[.long (-49)], vm := .none },
  { cls := 8, slots := #[.long (-48)], vm := .none },
  { cls := 8, slots := #[.long (-47)], vm := .none },
  { cls := 8, slots := #[.long (-46)], vm := .none },
  { cls := 8, slots := #[.long (-45)], vm := .none },
  { cls := 8, slots := #[.long (-44)], vm := .none },
  { cls := 8, slots := #[.long (-43)], vm := .none },
  { cls := 8, slots := #[.long (-42)], vm := .none },
  { cls := 8, slots := #[.long (-41)], vm := .none },
  { cls := 8, slots := #[.long (-40)], vm := .none },
  { cls := 8, slots := #[.long (-39)], vm := .none },
  { cls := 8, slots := #[.long (-38)], vm := .none },
  { cls := 8, slots := #[.long (-37)], vm := .none },
  { cls := 8, slots := #[.long (-36)], vm := .none },
  { cls := 8, slots := #[.long (-35)], vm := .none },
  { cls := 8, slots := #[.long (-34)], vm := .none },
  { cls := 8, slots := #[.long (-33)], vm := .none },
  { cls := 8, slots := #[.long (-32)], vm := .none },
  { cls := 8, slots := #[.long (-31)], vm := .none },
  { cls := 8, slots := #[.long (-30)], vm := .none },
  { cls := 8, slots := #[.long (-29)], vm := .none },
  { cls := 8, slots := #[.long (-28)], vm := .none },
  { cls := 8, slots := #[.long (-27)], vm := .none },
  { cls := 8, slots := #[.long (-26)], vm := .none },
  { cls := 8, slots := #[.long (-25)], vm := .none },
  { cls := 8, slots := #[.long (-24)], vm := .none },
  { cls := 8, slots := #[.long (-23)], vm := .none },
  { cls := 8, slots := #[.long (-22)], vm := .none },
  { cls := 8, slots := #[.long (-21)], vm := .none },
  { cls := 8, slots := #[.long (-20)], vm := .none },
  { cls := 8, slots := #[.long (-19)], vm := .none },
  { cls := 8, slots := #[.long (-18)], vm := .none },
  { cls := 8, slots := #[.long (-17)], vm := .none },
  { cls := 8, slots := #[.long (-16)], vm := .none },
  { cls := 8, slots := #[.long (-15)], vm := .none },
  { cls := 8, slots := #[.long (-14)], vm := .none },
  { cls := 8, slots := #[.long (-13)], vm := .none },
  { cls := 8, slots := #[.long (-12)], vm := .none },
  { cls := 8, slots := #[.long (-11)], vm := .none },
  { cls := 8, slots := #[.long (-10)], vm := .none },
  { cls := 8, slots := #[.long (-9)], vm := .none },
  { cls := 8, slots := #[.long (-8)], vm := .none },
  { cls := 8, slots := #[.long (-7)], vm := .none },
  { cls := 8, slots := #[.long (-6)], vm := .none },
  { cls := 8, slots := #[.long (-5)], vm := .none },
  { cls := 8, slots := #[.long (-4)], vm := .none },
  { cls := 8, slots := #[.long (-3)], vm := .none },
  { cls := 8, slots := #[.long (-2)], vm := .none },
  { cls := 8, slots := #[.long (-1)], vm := .none },
  { cls := 8, slots := #[.long 0], vm := .none },
  { cls := 8, slots := #[.long 1], vm := .none },
  { cls := 8, slots := #[.long 2], vm := .none },
  { cls := 8, slots := #[.long 3], vm := .none },
  { cls := 8, slots := #[.long 4], vm := .none },
  { cls := 8, slots := #[.long 5], vm := .none },
  { cls := 8, slots := #[.long 6], vm := .none },
  { cls := 8, slots := #[.long 7], vm := .none },
  { cls := 8, slots := #[.long 8], vm := .none },
  { cls := 8, slots := #[.long 9], vm := .none },
  { cls := 8, slots := #[.long 10], vm := .none },
  { cls := 8, slots := #[.long 11], vm := .none },
  { cls := 8, slots := #[.long 12], vm := .none },
  { cls := 8, slots := #[.long 13], vm := .none },
  { cls := 8, slots := #[.long 14], vm := .none },
  { cls := 8, slots := #[.long 15], vm := .none },
  { cls := 8, slots := #[.long 16], vm := .none },
  { cls := 8, slots := #[.long 17], vm := .none },
  { cls := 8, slots := #[.long 18], vm := .none },
  { cls := 8, slots := #[.long 19], vm := .none },
  { cls := 8, slots := #[.long 20], vm := .none },
  { cls := 8, slots := #[.long 21], vm := .none },
  { cls := 8, slots := #[.long 22], vm := .none },
  { cls := 8, slots := #[.long 23], vm := .none },
  { cls := 8, slots := #[.long 24], vm := .none },
  { cls := 8, slots := #[.long 25], vm := .none },
  { cls := 8, slots := #[.long 26], vm := .none },
  { cls := 8, slots := #[.long 27], vm := .none },
  { cls := 8, slots := #[.long 28], vm := .none },
  { cls := 8, slots := #[.long 29], vm := .none },
  { cls := 8, slots := #[.long 30], vm := .none },
  { cls := 8, slots := #[.long 31], vm := .none },
  { cls := 8, slots := #[.long 32], vm := .none },
  { cls := 8, slots := #[.long 33], vm := .none },
  { cls := 8, slots := #[.long 34], vm := .none },
  { cls := 8, slots := #[.long 35], vm := .none },
  { cls := 8, slots := #[.long 36], vm := .none },
  { cls := 8, slots := #[.long 37], vm := .none },
  { cls := 8, slots := #[.long 38], vm := .none },
  { cls := 8, slots := #[.long 39], vm := .none },
  { cls := 8, slots := #[.long 40], vm := .none },
  { cls := 8, slots := #[.long 41], vm := .none },
  { cls := 8, slots := #[.long 42], vm := .none },
  { cls := 8, slots := #[.long 43], vm := .none },
  { cls := 8, slots := #[.long 44], vm := .none },
  { cls := 8, slots := #[.long 45], vm := .none },
  { cls := 8, slots := #[.long 46], vm := .none },
  { cls := 8, slots := #[.long 47], vm := .none },
  { cls := 8, slots := #[.long 48], vm := .none },
  { cls := 8, slots := #[.long 49], vm := .none },
  { cls := 8, slots := #[.long 50], vm := .none },
  { cls := 8, slots := #[.long 51], vm := .none },
  { cls := 8, slots := #[.long 52], vm := .none },
  { cls := 8, slots := #[.long 53], vm := .none },
  { cls := 8, slots := #[.long 54], vm := .none },
  { cls := 8, slots := #[.long 55], vm := .none },
  { cls := 8, slots := #[.long 56], vm := .none },
  { cls := 8, slots := #[.long 57], vm := .none },
  { cls := 8, slots := #[.long 58], vm := .none },
  { cls := 8, slots := #[.long 59], vm := .none },
  { cls := 8, slots := #[.long 60], vm := .none },
  { cls := 8, slots := #[.long 61], vm := .none },
  { cls := 8, slots := #[.long 62], vm := .none },
  { cls := 8, slots := #[.long 63], vm := .none },
  { cls := 8, slots := #[.long 64], vm := .none },
  { cls := 8, slots := #[.long 65], vm := .none },
  { cls := 8, slots := #[.long 66], vm := .none },
  { cls := 8, slots := #[.long 67], vm := .none },
  { cls := 8, slots := #[.long 68], vm := .none },
  { cls := 8, slots := #[.long 69], vm := .none },
  { cls := 8, slots := #[.long 70], vm := .none },
  { cls := 8, slots := #[.long 71], vm := .none },
  { cls := 8, slots := #[.long 72], vm := .none },
  { cls := 8, slots := #[.long 73], vm := .none },
  { cls := 8, slots := #[.long 74], vm := .none },
  { cls := 8, slots := #[.long 75], vm := .none },
  { cls := 8, slots := #[.long 76], vm := .none },
  { cls := 8, slots := #[.long 77], vm := .none },
  { cls := 8, slots := #[.long 78], vm := .none },
  { cls := 8, slots := #[.long 79], vm := .none },
  { cls := 8, slots := #[.long 80], vm := .none },
  { cls := 8, slots := #[.long 81], vm := .none },
  { cls := 8, slots := #[.long 82], vm := .none },
  { cls := 8, slots := #[.long 83], vm := .none },
  { cls := 8, slots := #[.long 84], vm := .none },
  { cls := 8, slots := #[.long 85], vm := .none },
  { cls := 8, slots := #[.long 86], vm := .none },
  { cls := 8, slots := #[.long 87], vm := .none },
  { cls := 8, slots := #[.long 88], vm := .none },
  { cls := 8, slots := #[.long 89], vm := .none },
  { cls := 8, slots := #[.long 90], vm := .none },
  { cls := 8, slots := #[.long 91], vm := .none },
  { cls := 8, slots := #[.long 92], vm := .none },
  { cls := 8, slots := #[.long 93], vm := .none },
  { cls := 8, slots := #[.long 94], vm := .none },
  { cls := 8, slots := #[.long 95], vm := .none },
  { cls := 8, slots := #[.long 96], vm := .none },
  { cls := 8, slots := #[.long 97], vm := .none },
  { cls := 8, slots := #[.long 98], vm := .none },
  { cls := 8, slots := #[.long 99], vm := .none },
  { cls := 8, slots := #[.long 100], vm := .none },
  { cls := 8, slots := #[.long 101], vm := .none },
  { cls := 8, slots := #[.long 102], vm := .none },
  { cls := 8, slots := #[.long 103], vm := .none },
  { cls := 8, slots := #[.long 104], vm := .none },
  { cls := 8, slots := #[.long 105], vm := .none },
  { cls := 8, slots := #[.long 106], vm := .none },
  { cls := 8, slots := #[.long 107], vm := .none },
  { cls := 8, slots := #[.long 108], vm := .none },
  { cls := 8, slots := #[.long 109], vm := .none },
  { cls := 8, slots := #[.long 110], vm := .none },
  { cls := 8, slots := #[.long 111], vm := .none },
  { cls := 8, slots := #[.long 112], vm := .none },
  { cls := 8, slots := #[.long 113], vm := .none },
  { cls := 8, slots := #[.long 114], vm := .none },
  { cls := 8, slots := #[.long 115], vm := .none },
  { cls := 8, slots := #[.long 116], vm := .none },
  { cls := 8, slots := #[.long 117], vm := .none },
  { cls := 8, slots := #[.long 118], vm := .none },
  { cls := 8, slots := #[.long 119], vm := .none },
  { cls := 8, slots := #[.long 120], vm := .none },
  { cls := 8, slots := #[.long 121], vm := .none },
  { cls := 8, slots := #[.long 122], vm := .none },
  { cls := 8, slots := #[.long 123], vm := .none },
  { cls := 8, slots := #[.long 124], vm := .none },
  { cls := 8, slots := #[.long 125], vm := .none },
  { cls := 8, slots := #[.long 126], vm := .none },
  { cls := 8, slots := #[.long 127], vm := .none }]
def classes : Array Class := #[k0, k1, k2, k3, k4, k5, k6, k7, k8, k9, k10, k11, k12, k13, k14, k15]
def interned : List (Array UInt16 × Addr) := []
def slotsUsed : Nat := 515
def theMethod : MethodId := ⟨1, 1⟩
def args0 : Array Value := #[.long 500, .long 5, .long 5, .long 5, .int 1, .long 7]
def aboutOver (below : List Frame) : State where
  vm := { classes := classes, interned := interned.toArray }
  heap := heap
  slotsUsed := slotsUsed
  threads := #[{ frames := .invoking theMethod args0 :: below }]
def below0 : List Frame := [.native { method := ⟨0, 0⟩, args := #[] }]
def about1 : State := aboutOver below0
def p0 : Program := .bare "" "" ""
def e0 : Env := launch0.env 0 0 0
theorem w_frames : about1.frames = Frame.invoking theMethod args0 :: below0 := rfl
set_option maxRecDepth 65536 in
theorem w_args : argsFit about1.vm theMethod args0 = true := by decide +kernel
set_option maxRecDepth 65536 in
theorem w_heap : heapFits about1 = true := by decide +kernel
set_option maxRecDepth 65536 in
theorem w_runnable : about1.curStatus? = some .runnable := by decide +kernel
set_option maxRecDepth 65536 in
theorem w_alone : about1.alone = true := by decide +kernel
set_option maxRecDepth 65536 in
theorem w_named : about1.methodNamed? x = some theMethod := by decide +kernel
set_option maxRecDepth 65536 in
theorem w_hears : about1.hears theMethod below0 = true := by decide +kernel
set_option maxRecDepth 65536 in
theorem w_ripe : about1.ripe theMethod args0 below0 = true := by decide +kernel
theorem w_running : about1.status = .running := rfl
set_option maxRecDepth 65536 in
theorem w_room : about1.hasRoom e0.platform room_1 = true :=
  launch0.hasRoom_least _ room_1 (by decide +kernel) (by decide +kernel) (by decide +kernel) (by decide +kernel) (by decide +kernel) (by decide +kernel)
theorem allAtoms_all (ts : List Jvm.Cond) (a : Array Jvm.Value) (st : Jvm.State) : (allAtoms ts).before a st = ts.all (fun c => c.before a st) := by
  induction ts with
  | nil => rfl
  | cons c t ih =>
    show (Jvm.Cond.and c (allAtoms t)).before a st = _
    rw [Jvm.Cond.before_and, ih, List.all_cons]
def words1 : List Jvm.Cond := Jvm.Cond.code x code maxLocals ret :: tables_1
/-- a 'code' word, met by the world's own term for the bytes: nothing is compared byte by byte -/
theorem code_word {y : MethodName} {bytes : ByteArray} {mx : Nat} {rt : Option FieldType} {a : Array Value} {s : State} {m : MethodId} {meth : Method} {c : Code} (h1 : s.methodNamed? y = some m) (h2 : s.vm.method? m = some meth) (h3 : meth.code = some c) (h4 : c.code = bytes)
    (h5 : (c.maxLocals == mx && c.exceptionTable.isEmpty && decide (c.maxStack ≤ mostOperands) && decide (meth.sig.returnType = rt) && !meth.locks && decide (parseMethodDescriptor y.desc = some meth.sig)) = true) : (Jvm.Cond.code y bytes mx rt).before a s = true := by
  simp only [Bool.and_eq_true, beq_iff_eq, Bool.not_eq_true', decide_eq_true_eq] at h5
  obtain ⟨⟨⟨⟨⟨g1, g2⟩, g3⟩, g4⟩, g5⟩, g6⟩ := h5
  simp [Cond.before, Cond.holds, Cond.value, h1, h2, h3, h4, g1, g2, g3, g4, g5, g6]
def isCode : Jvm.Cond → Bool
  | .code _ _ _ _ => true
  | _ => false
theorem all_split {L : List Jvm.Cond} {P : Jvm.Cond → Bool} (h1 : L.all (fun c => isCode c || P c) = true) (h2 : ∀ c ∈ L.filter isCode, P c = true) : L.all P = true := by
  refine List.all_eq_true.mpr fun c hc => ?_
  have h := List.all_eq_true.mp h1 c hc
  rcases Bool.eq_false_or_eq_true (isCode c) with hi | hi
  · exact h2 c (List.mem_filter.mpr ⟨hc, hi⟩)
  · simpa [hi] using h
set_option maxRecDepth 65536 in
theorem w_c0 : (Jvm.Cond.code x code maxLocals ret).before args0 about1 = true := code_word (m := ⟨1, 1⟩) (meth := k1m1) (c := k1c1) (by decide +kernel) rfl rfl rfl (by decide +kernel)
set_option maxRecDepth 65536 in
theorem w_c1 : (Jvm.Cond.code ({ cls := "com/example/long_fuse/longfuse/StateCounts", name := "<init>", desc := "(JJJJ)V" } : Jvm.MethodName) prog_10_method_1_code (9 : Nat) (Option.none : Option Jvm.ClassFile.FieldType)).before args0 about1 = true := code_word (m := ⟨2, 0⟩) (meth := k2m0) (c := k2c0) (by decide +kernel) rfl rfl rfl (by decide +kernel)
set_option maxRecDepth 65536 in
theorem w_c2 : (Jvm.Cond.code ({ cls := "java/lang/Object", name := "<init>", desc := "()V" } : Jvm.MethodName) object_method_1_code (1 : Nat) (Option.none : Option Jvm.ClassFile.FieldType)).before args0 about1 = true := code_word (m := ⟨0, 0⟩) (meth := k0m0) (c := k0c0) (by decide +kernel) rfl rfl rfl (by decide +kernel)
set_option maxRecDepth 65536 in
theorem w_c3 : (Jvm.Cond.code ({ cls := "com/example/long_fuse/longfuse/StateCounts", name := "equals", desc := "(Ljava/lang/Object;)Z" } : Jvm.MethodName) prog_10_method_6_code (3 : Nat) (Option.some Jvm.ClassFile.FieldType.boolean)).before args0 about1 = true := code_word (m := ⟨2, 1⟩) (meth := k2m1) (c := k2c1) (by decide +kernel) rfl rfl rfl (by decide +kernel)
set_option maxRecDepth 65536 in
theorem w_c4 : (Jvm.Cond.code ({ cls := "java/lang/Long", name := "valueOf", desc := "(J)Ljava/lang/Long;" } : Jvm.MethodName) jdk_35_method_24_code (3 : Nat) (Option.some (Jvm.ClassFile.FieldType.object "java/lang/Long"))).before args0 about1 = true := code_word (m := ⟨8, 0⟩) (meth := k8m0) (c := k8c0) (by decide +kernel) rfl rfl rfl (by decide +kernel)
set_option maxRecDepth 65536 in
theorem w_c5 : (Jvm.Cond.code ({ cls := "java/lang/Long", name := "<init>", desc := "(J)V" } : Jvm.MethodName) jdk_35_method_26_code (3 : Nat) (Option.none : Option Jvm.ClassFile.FieldType)).before args0 about1 = true := code_word (m := ⟨8, 1⟩) (meth := k8m1) (c := k8c1) (by decide +kernel) rfl rfl rfl (by decide +kernel)
set_option maxRecDepth 65536 in
theorem w_c6 : (Jvm.Cond.code ({ cls := "java/lang/Number", name := "<init>", desc := "()V" } : Jvm.MethodName) jdk_18_method_1_code (1 : Nat) (Option.none : Option Jvm.ClassFile.FieldType)).before args0 about1 = true := code_word (m := ⟨4, 0⟩) (meth := k4m0) (c := k4c0) (by decide +kernel) rfl rfl rfl (by decide +kernel)
def codes1 : List Jvm.Cond := [Jvm.Cond.code x code maxLocals ret, Jvm.Cond.code ({ cls := "com/example/long_fuse/longfuse/StateCounts", name := "<init>", desc := "(JJJJ)V" } : Jvm.MethodName) prog_10_method_1_code (9 : Nat) (Option.none : Option Jvm.ClassFile.FieldType), Jvm.Cond.code ({ cls := "java/lang/Object", name := "<init>", desc := "()V" } : Jvm.MethodName) object_method_1_code (1 : Nat) (Option.none : Option Jvm.ClassFile.FieldType), Jvm.Cond.code ({ cls := "com/example/long_fuse/longfuse/StateCounts", name := "equals", desc := "(Ljava/lang/Object;)Z" } : Jvm.MethodName) prog_10_method_6_code (3 : Nat) (Option.some Jvm.ClassFile.FieldType.boolean), Jvm.Cond.code ({ cls := "java/lang/Long", name := "valueOf", desc := "(J)Ljava/lang/Long;" } : Jvm.MethodName) jdk_35_method_24_code (3 : Nat) (Option.some (Jvm.ClassFile.FieldType.object "java/lang/Long")), Jvm.Cond.code ({ cls := "java/lang/Long", name := "<init>", desc := "(J)V" } : Jvm.MethodName) jdk_35_method_26_code (3 : Nat) (Option.none : Option Jvm.ClassFile.FieldType), Jvm.Cond.code ({ cls := "java/lang/Number", name := "<init>", desc := "()V" } : Jvm.MethodName) jdk_18_method_1_code (1 : Nat) (Option.none : Option Jvm.ClassFile.FieldType)]
set_option maxRecDepth 65536 in
theorem codes_eq : words1.filter isCode = codes1 := rfl
theorem w_codes : ∀ c ∈ words1.filter isCode, c.before args0 about1 = true := by
  rw [codes_eq]
  intro c hc
  simp only [codes1, List.mem_cons, List.not_mem_nil, or_false] at hc
  rcases hc with rfl | rfl | rfl | rfl | rfl | rfl | rfl
  · exact w_c0
  · exact w_c1
  · exact w_c2
  · exact w_c3
  · exact w_c4
  · exact w_c5
  · exact w_c6
set_option maxRecDepth 65536 in
theorem w_t1 : (words1.take 24).all (fun c => isCode c || c.before args0 about1) = true := by decide +kernel
set_option maxRecDepth 65536 in
theorem w_t2 : ((words1.drop 24).take 24).all (fun c => isCode c || c.before args0 about1) = true := by decide +kernel
set_option maxRecDepth 65536 in
theorem w_t3 : ((words1.drop 24).drop 24).all (fun c => isCode c || c.before args0 about1) = true := by decide +kernel
theorem w_tables : (allAtoms (Jvm.Cond.code x code maxLocals ret :: tables_1)).before args0 about1 = true := by
  rw [allAtoms_all]
  show words1.all (fun c => c.before args0 about1) = true
  refine all_split ?_ w_codes
  rw [← List.take_append_drop 24 words1, List.all_append, w_t1, ← List.take_append_drop 24 (words1.drop 24), List.all_append, w_t2, w_t3]
  rfl
set_option maxRecDepth 65536 in
theorem w_rest : rest_1_c.before args0 about1 = true := by decide +kernel
set_option maxRecDepth 65536 in
theorem w_case : (Jvm.Cond.and given_1 narrow_1).before args0 about1 = true := by decide +kernel
theorem w_applies : (headSpec (Jvm.Cond.code x code maxLocals ret :: tables_1) room_1).applies x e0.platform about1 = true :=
  (Spec.applies_iff w_frames).mpr ⟨w_running, w_runnable, w_alone, w_named, w_hears, w_ripe, w_room, w_tables⟩
theorem atStart : AtStart classFile x code maxLocals ret World_1 tables_1 room_1 Calls_1 rest_1 Pre_1 launch0 p0 e0 about1 theMethod args0 below0 :=
  ⟨lists_1, trivial, launch0.admits_env _ _ _, launch0.least_env, fairChoices_fair.cas, fairChoices_fair.clock, w_frames, w_args, w_heap, w_applies, trivial, w_rest, w_case⟩
end start1
theorem witness_1 : WitnessClaimed_1 := ⟨start1.p0, start1.e0, start1.about1, start1.theMethod, start1.args0, start1.below0, start1.atStart⟩
end Jvm.Pilot.@@N@@
