import JvmDerived
import JvmDerived.Pilot.@@N@@Statement
import JvmDerived.Pilot.@@N@@Code
set_option linter.unusedVariables false
set_option linter.unusedSimpArgs false
namespace Jvm.OwnKit
open Jvm Sem ClassFile Op Lib Jvm.Stand Jvm.Free Jvm.LawKit Jvm.RoadKit
section K
variable {p : Program} {l : Launch} {e : Env} {R : Room} {s : State} {m : MethodId} {args : Array Value} {below : List Frame} {meth : Method} {c : Code} {T T' : State} {locs : List Loc} {cells slots : Nat} {Z : State} {a0 : Array Value} {h h0 : Heap} {ce sl : Nat} {Q : Option Value → Heap → List Loc → Prop} {P : Option Value → State → List Loc → Prop} {pc : Nat} {Ls : Array Slot} {rest : List Value}
/-- from this state and frame the body runs to its end, and Q holds there -/
def Go (p : Program) (e : Env) (below : List Frame) (P : Option Value → State → List Loc → Prop) (T : State) (g : JFrame) : Prop :=
  ∃ u v L, Steps p.tables e below (T.setTop g) u ∧ u.status = .running ∧ Ended u below (.returned v) ∧ P v u L
/-- the end of a body that interns nothing -/
def EndF (s : State) (ce sl : Nat) (Q : Option Value → Heap → List Loc → Prop) (v : Option Value) (u : State) (L : List Loc) : Prop := Q v u.heap L ∧ FrameEnd s (.returned v) u L ce sl
theorem Go.by {g g' : JFrame} (st : ∀ t, Steps p.tables e below (T'.setTop g') t → Steps p.tables e below (T.setTop g) t) (k : Go p e below P T' g') : Go p e below P T g := by
  obtain ⟨u, v, L, h1, r⟩ := k; exact ⟨u, v, L, st u h1, r⟩
theorem Go.cast {g g' : JFrame} (q : g = g') (k : Go p e below P T g') : Go p e below P T g := q ▸ k
/-- a body's contract at given arguments and a given heap -/
def Ct (l : Launch) (y : MethodName) (bytes : ByteArray) (maxL : Nat) (ret : Option FieldType) (rm : Room) (Z : State) (as' : Array Value) (h0 : Heap) (Q : Option Value → Heap → List Loc → Prop) : Prop :=
  ∀ ws : List Jvm.Cond, MetFree l y (head1 (Jvm.Cond.code y bytes maxL ret :: ws) rm) (fun a U => a = as' ∧ Z.Warmed39 U.vm ∧ U.heap = h0) (fun _ _ _ _ _ => True) (fun _ U o U' => ∃ v L, o = .returned v ∧ Q v U'.heap L ∧ FrameEnd U o U' L rm.cells rm.slots)
theorem Ct.of {y : MethodName} {bytes : ByteArray} {maxL : Nat} {ret : Option FieldType} {rm : Room} {as' : Array Value} (hpl : plainFor y = true)
    (body : ∀ (p : Program) (e : Env) (s : State) (m : MethodId) (below : List Frame) (meth : Method) (c : Code) (T : State), Stand p l e rm s m as' below meth c T [] 0 0 → p.tables.exec = Jvm.exec → c.code = bytes → c.maxLocals = maxL → s.vm.findClass y.cls = some m.cls → meth.name = y.name → meth.sig.returnType = ret → meth.locks = false → Z.Warmed39 s.vm → T.heap = h0 →
      Go p e below (EndF s rm.cells rm.slots Q) T (entryFrame m as' maxL)) : Ct l y bytes maxL ret rm Z as' h0 Q := by
  intro ws
  refine MetFree.of_bodySF hpl hisR ?_
  intro p e s m args below meth c s₁ Bd hml0 hP hK
  obtain ⟨rfl, hZ, hh⟩ := hP
  obtain ⟨u, v, L, h1, h2, h3, r⟩ := body p e s m below meth c s₁ (Stand.of_body Bd) Bd.exec Bd.bytes hml0 (findClass_of_methodNamed Bd.named) (name_of_methodNamed Bd.named Bd.method).1 Bd.returns (BodyLoose.notSynchronized Bd) hZ (by rw [← hh, Bd.state]; rfl)
  exact ⟨u, _, h1, h2, h3, v, L, rfl, r.1, r.2⟩
theorem Ct.mono {y : MethodName} {bytes : ByteArray} {maxL : Nat} {ret : Option FieldType} {rm : Room} {as' : Array Value} {Q' : Option Value → Heap → List Loc → Prop} (k : Ct l y bytes maxL ret rm Z as' h0 Q) (q : ∀ v h L, Q v h L → Q' v h L) : Ct l y bytes maxL ret rm Z as' h0 Q' := by
  intro ws p e ha hc hk s m args below hf happ hP hK
  obtain ⟨n, o, h1, h2, h3, v, L, h4, h5, h6⟩ := k ws p e ha hc hk s m args below hf happ hP hK
  exact ⟨n, o, h1, h2, h3, v, L, h4, q _ _ _ h5, h6⟩
theorem wd {ws : List Jvm.Cond} (hw : ∀ d ∈ ws, d.before a0 Z = true) {d : Jvm.Cond} (i : Nat) (q : ws[i]? = some d) : d.before a0 Z = true := hw _ (List.mem_of_getElem? q)
theorem Go.fin (X : Stand p l e R s m args below meth c T locs cells slots) (hlk : meth.locks = false) {v : Option Value} (hv : meth.sig.returnType = none → v = none) {g : JFrame}
    (st : ∀ fs, (∀ (f : JFrame) (acts : List Action), f.method = m → f.locked = none → f.entered = [] → (doReturn e (T.setTop f) acts v).1 = T.setFrames fs) → Steps p.tables e below (T.setTop g) (T.setFrames fs)) (hc : cells ≤ ce) (hs : slots ≤ sl) (eT : T.heap = h) (q : Q v h locs) : Go p e below (EndF s ce sl Q) T g := by
  obtain ⟨fs, hr, hrun, hended, hW, hsame⟩ := X.leave (v := v) hv hlk
  subst eT
  exact ⟨_, _, _, st fs hr, hrun, hended, q, ⟨_, rfl⟩, hW, hsame.mono hc hs⟩
theorem Go.retI (X : Stand p l e R s m args below meth c T locs cells slots) (hx : p.tables.exec = Jvm.exec) (hlk : meth.locks = false) (hret : meth.sig.returnType = some .int) {z : Int32} (hd : decode c.code pc = .ok (.ireturn, 1)) (hc : cells ≤ ce) (hs : slots ≤ sl) (eT : T.heap = h) (q : Q (some (.int z)) h locs) : Go p e below (EndF s ce sl Q) T (mkF m pc Ls (.int z :: rest)) :=
  Go.fin X hlk (fun h => by rw [hret] at h; cases h) (fun fs hl => retOut X hx hret rfl (Or.inl ⟨rfl, Or.inl rfl, z, rfl⟩) hd hl) hc hs eT q
theorem Go.retZ (X : Stand p l e R s m args below meth c T locs cells slots) (hx : p.tables.exec = Jvm.exec) (hlk : meth.locks = false) (hret : meth.sig.returnType = some .boolean) {z : Int32} (hz : z = 0 ∨ z = 1) (hd : decode c.code pc = .ok (.ireturn, 1)) (hc : cells ≤ ce) (hs : slots ≤ sl) (eT : T.heap = h) (q : Q (some (.int z)) h locs) : Go p e below (EndF s ce sl Q) T (mkF m pc Ls (.int z :: rest)) :=
  Go.fin X hlk (fun h => by rw [hret] at h; cases h) (fun fs hl => retOut X hx hret (by rcases hz with rfl | rfl <;> rfl) (Or.inl ⟨rfl, Or.inr (Or.inl rfl), z, rfl⟩) hd hl) hc hs eT q
theorem Go.retS (X : Stand p l e R s m args below meth c T locs cells slots) (hx : p.tables.exec = Jvm.exec) (hlk : meth.locks = false) {t : FieldType} (hret : meth.sig.returnType = some t) (ht : t = .byte ∨ t = .char ∨ t = .short) {z : Int32} (hz : narrow t (.int z) = .int z) (hd : decode c.code pc = .ok (.ireturn, 1)) (hc : cells ≤ ce) (hs : slots ≤ sl) (eT : T.heap = h) (q : Q (some (.int z)) h locs) : Go p e below (EndF s ce sl Q) T (mkF m pc Ls (.int z :: rest)) :=
  Go.fin X hlk (fun h => by rw [hret] at h; cases h) (fun fs hl => retOut X hx hret hz (Or.inl ⟨rfl, Or.inr (Or.inr ht), z, rfl⟩) hd hl) hc hs eT q
theorem Go.retJ (X : Stand p l e R s m args below meth c T locs cells slots) (hx : p.tables.exec = Jvm.exec) (hlk : meth.locks = false) (hret : meth.sig.returnType = some .long) {z : Int64} (hd : decode c.code pc = .ok (.lreturn, 1)) (hc : cells ≤ ce) (hs : slots ≤ sl) (eT : T.heap = h) (q : Q (some (.long z)) h locs) : Go p e below (EndF s ce sl Q) T (mkF m pc Ls (.long z :: rest)) :=
  Go.fin X hlk (fun h => by rw [hret] at h; cases h) (fun fs hl => retOut X hx hret rfl (Or.inr (Or.inl ⟨rfl, rfl, z, rfl⟩)) hd hl) hc hs eT q
theorem Go.retA (X : Stand p l e R s m args below meth c T locs cells slots) (hx : p.tables.exec = Jvm.exec) (hlk : meth.locks = false) {t : FieldType} (hret : meth.sig.returnType = some t) (ht : t.isReference = true) {v : Value} (hv : v.isRef = true) (hd : decode c.code pc = .ok (.areturn, 1)) (hc : cells ≤ ce) (hs : slots ≤ sl) (eT : T.heap = h) (q : Q (some v) h locs) : Go p e below (EndF s ce sl Q) T (mkF m pc Ls (v :: rest)) :=
  Go.fin X hlk (fun h => by rw [hret] at h; cases h) (fun fs hl => retOut X hx hret (by cases t <;> simp_all [FieldType.isReference, narrow]) (Or.inr (Or.inr (Or.inr (Or.inr ⟨rfl, ht, hv⟩)))) hd hl) hc hs eT q
theorem Go.retV (X : Stand p l e R s m args below meth c T locs cells slots) (hx : p.tables.exec = Jvm.exec) (hlk : meth.locks = false) (hret : meth.sig.returnType = none) (hd : decode c.code pc = .ok (.return_, 1)) (hc : cells ≤ ce) (hs : slots ≤ sl) (eT : T.heap = h) (q : Q none h locs) : Go p e below (EndF s ce sl Q) T (mkF m pc Ls []) :=
  Go.fin X hlk (fun _ => rfl) (fun fs hl => X.returnOut hx hret hd hl) hc hs eT q
/-! one law a step that reads the tables or the heap -/
theorem Go.getF (X : Stand p l e R s m args below meth c T locs cells slots) (hx : p.tables.exec = Jvm.exec) (hZ : Z.Warmed39 s.vm) {own R0 O n d : String} {index : Nat} (hown : s.vm.findClass own = some m.cls) (w : (Jvm.Cond.fieldLink own index R0 n d).before a0 Z = true) (via : Via Z R0 O n d) (eT : T.heap = h) {a : Addr} {v : Value} (F : Fld Z h a O n d v)
    (hd : decode c.code pc = .ok (.getfield index, 3)) (k : ∀ T', Stand p l e R s m args below meth c T' locs cells slots → T'.heap = h → Go p e below P T' (mkF m (pc + 3) Ls (v :: rest))) : Go p e below P T (mkF m pc Ls (.ref a :: rest)) := by
  obtain ⟨T', X', e', st⟩ := RoadKit.getF X hx hZ hown (host := "") (Or.inl w) via eT F (g := mkF m pc Ls (.ref a :: rest)) rfl rfl hd
  exact Go.by st (k T' X' e')
theorem Go.getFN (X : Stand p l e R s m args below meth c T locs cells slots) (hx : p.tables.exec = Jvm.exec) (hZ : Z.Warmed39 s.vm) {own R0 O n d host : String} {index : Nat} (hown : s.vm.findClass own = some m.cls) (w : (Jvm.Cond.fieldLinkNest own index R0 n d host).before a0 Z = true) (via : Via Z R0 O n d) (eT : T.heap = h) {a : Addr} {v : Value} (F : Fld Z h a O n d v)
    (hd : decode c.code pc = .ok (.getfield index, 3)) (k : ∀ T', Stand p l e R s m args below meth c T' locs cells slots → T'.heap = h → Go p e below P T' (mkF m (pc + 3) Ls (v :: rest))) : Go p e below P T (mkF m pc Ls (.ref a :: rest)) := by
  obtain ⟨T', X', e', st⟩ := RoadKit.getF X hx hZ hown (host := host) (Or.inr w) via eT F (g := mkF m pc Ls (.ref a :: rest)) rfl rfl hd
  exact Go.by st (k T' X' e')
theorem Go.putF (X : Stand p l e R s m args below meth c T locs cells slots) (hx : p.tables.exec = Jvm.exec) (hZ : Z.Warmed39 s.vm) {own R0 O n d C : String} {index kk : Nat} {ty : FieldType} (hown : s.vm.findClass own = some m.cls) (w : (Jvm.Cond.fieldLink own index R0 n d).before a0 Z = true) (via : Via Z R0 O n d) (eT : T.heap = h) {a : Addr} {v old : Value} (F : Fld Z h a O n d old) (E : Exa Z h a C)
    (L : (Jvm.Cond.lays C O n d).before a0 Z = true ∨ ((Jvm.Cond.laysFinal C O n d).before a0 Z = true ∧ own = O ∧ meth.name = "<init>")) (wi : (Jvm.Cond.instantiable C kk).before a0 Z = true) (hty : parseFieldDescriptor d = some ty) (hn : narrow ty v = v) (hf : fits ty v = true) (hd : decode c.code pc = .ok (.putfield index, 3))
    (k : ∀ T' h', Stand p l e R s m args below meth c T' (locs ++ [⟨a, RoadKit.slotOf Z O n d⟩]) cells slots → T'.heap = h' → Wr h h' a (RoadKit.slotOf Z O n d) v → Go p e below P T' (mkF m (pc + 3) Ls rest)) : Go p e below P T (mkF m pc Ls (v :: .ref a :: rest)) := by
  obtain ⟨T', h', X', e', W', st⟩ := RoadKit.putF X hx hZ hown (host := "") (Or.inl w) via eT F E L wi hty hn hf (g := mkF m pc Ls (v :: .ref a :: rest)) rfl rfl hd
  exact Go.by st (k T' h' X' e' W')
theorem Go.getS (X : Stand p l e R s m args below meth c T locs cells slots) (hx : p.tables.exec = Jvm.exec) (hZ : Z.Warmed39 s.vm) {own R0 O n d : String} {index : Nat} (hown : s.vm.findClass own = some m.cls) (w : (Jvm.Cond.fieldLink own index R0 n d).before a0 Z = true) (via : Via Z R0 O n d) (eT : T.heap = h) {v : Value} (F : Sta Z h O n d v) {st : List Value}
    (hd : decode c.code pc = .ok (.getstatic index, 3)) (k : ∀ T', Stand p l e R s m args below meth c T' locs cells slots → T'.heap = h → Go p e below P T' (mkF m (pc + 3) Ls (v :: st))) : Go p e below P T (mkF m pc Ls st) := by
  obtain ⟨T', X', e', st'⟩ := RoadKit.getS X hx hZ hown (host := "") w via eT F (g := mkF m pc Ls st) rfl hd
  exact Go.by st' (k T' X' e')
theorem Go.getSN (X : Stand p l e R s m args below meth c T locs cells slots) (hx : p.tables.exec = Jvm.exec) (hZ : Z.Warmed39 s.vm) {own R0 O n d host : String} {index : Nat} (hown : s.vm.findClass own = some m.cls) (w : (Jvm.Cond.fieldLinkNest own index R0 n d host).before a0 Z = true) (via : Via Z R0 O n d) (eT : T.heap = h) {v : Value} (F : Sta Z h O n d v) {st : List Value}
    (hd : decode c.code pc = .ok (.getstatic index, 3)) (k : ∀ T', Stand p l e R s m args below meth c T' locs cells slots → T'.heap = h → Go p e below P T' (mkF m (pc + 3) Ls (v :: st))) : Go p e below P T (mkF m pc Ls st) := by
  obtain ⟨T', X', e', st'⟩ := getS2 X hx hZ hown (Or.inr w) via eT F (g := mkF m pc Ls st) rfl hd
  exact Go.by st' (k T' X' e')
theorem Go.newO (X : Stand p l e R s m args below meth c T locs cells slots) (hx : p.tables.exec = Jvm.exec) (hZ : Z.Warmed39 s.vm) {own C : String} {index n : Nat} (hown : s.vm.findClass own = some m.cls) (w : (Jvm.Cond.classLink own index C).before a0 Z = true) (wi : (Jvm.Cond.instantiable C n).before a0 Z = true) (wz : (Jvm.Cond.initialized C).before a0 Z = true) (eT : T.heap = h) {st : List Value}
    (hd : decode c.code pc = .ok (.new index, 3)) (hc : cells + 1 ≤ R.cells) (hl : slots + n ≤ R.slots)
    (k : ∀ T' h' b, Stand p l e R s m args below meth c T' locs (cells + 1) (slots + n) → T'.heap = h' → Ext h h' → b = h.size → Exa Z h' b C → (∀ {O nm d : String} {ty : FieldType}, Laid Z a0 C O nm d → parseFieldDescriptor d = some ty → Fld Z h' b O nm d (defaultValue ty)) → Go p e below P T' (mkF m (pc + 3) Ls (.ref b :: st))) : Go p e below P T (mkF m pc Ls st) := by
  obtain ⟨T', h', X', e', E', A', D', -, st'⟩ := RoadKit.newO X hx hZ hown w wi wz eT (g := mkF m pc Ls st) rfl hd hc hl
  exact Go.by st' (k T' h' _ X' e' E' rfl A' D')
theorem Go.newP (X : Stand p l e R s m args below meth c T locs cells slots) (hx : p.tables.exec = Jvm.exec) (hZ : Z.Warmed39 s.vm) {aty : ArrayType} (w : (Jvm.Cond.arrayClass (newarray.typeOf aty)).before a0 Z = true) (eT : T.heap = h) {n : Int32} (hd : decode c.code pc = .ok (.newarray aty, 2)) (hn : ¬ n < 0) {cap : Nat} (hcap : n.toNatClampNeg ≤ cap) (hb : cap * 8 ≤ 536870912) (hc : cells + 1 ≤ R.cells) (hl : slots + cap ≤ R.slots)
    (k : ∀ T' h' b kA, Stand p l e R s m args below meth c T' locs (cells + 1) (slots + cap) → T'.heap = h' → Ext h h' → b = h.size → Arv Z h' b kA (newarray.typeOf aty) n [] (defaultValue (newarray.typeOf aty)) → Go p e below P T' (mkF m (pc + 2) Ls (.ref b :: rest))) : Go p e below P T (mkF m pc Ls (.int n :: rest)) := by
  obtain ⟨T', h', kA, X', e', E', A', st'⟩ := RoadKit.newP X hx hZ w eT (g := mkF m pc Ls (.int n :: rest)) rfl hd rfl hn hcap hb hc hl
  exact Go.by st' (k T' h' _ kA X' e' E' rfl (Arv.new A' hn))
theorem Go.initO (X : Stand p l e R s m args below meth c T locs cells slots) (hx : p.tables.exec = Jvm.exec) (hZ : Z.Warmed39 s.vm) {own : String} {idx : Nat} (hown : s.vm.findClass own = some m.cls) (w1 : (Jvm.Cond.methodLink own idx Lib.objectInit).before a0 Z = true) (w2 : (Jvm.Cond.instanceMethod Lib.objectInit).before a0 Z = true) (w3 : (Jvm.Cond.code Lib.objectInit ⟨#[0xb1]⟩ 1 none).before a0 Z = true) (eT : T.heap = h)
    {a : Addr} (hsz : Ls.size = c.maxLocals) (hd : decode c.code pc = .ok (.invokespecial idx, 3)) (hf : 1 ≤ R.frames) {W : Nat} (hW : (rest.map fun v => v.category).sum = W) (hl : W + 12 ≤ R.locals)
    (k : ∀ T', Stand p l e R s m args below meth c T' locs cells slots → T'.heap = h → Go p e below P T' (mkF m (pc + 3) Ls rest)) : Go p e below P T (mkF m pc Ls (.ref a :: rest)) := by
  obtain ⟨T', X', e', st⟩ := RoadKit.initO X hx hZ hown w1 w2 w3 eT (g := mkF m pc Ls (.ref a :: rest)) rfl hsz rfl hd hf (W := W) (by subst hW; show 2 * 0 + _ ≤ _; omega) hl
  exact Go.by st (k T' X' e')
theorem Go.castY (X : Stand p l e R s m args below meth c T locs cells slots) (hx : p.tables.exec = Jvm.exec) (hZ : Z.Warmed39 s.vm) {own K : String} {index : Nat} (hown : s.vm.findClass own = some m.cls) (w : (Jvm.Cond.classLink own index K).before a0 Z = true) (eT : T.heap = h) {a : Addr} (F : Ins Z h a K true) (hd : decode c.code pc = .ok (.checkcast index, 3))
    (k : ∀ T', Stand p l e R s m args below meth c T' locs cells slots → T'.heap = h → Go p e below P T' (mkF m (pc + 3) Ls (.ref a :: rest))) : Go p e below P T (mkF m pc Ls (.ref a :: rest)) := by
  obtain ⟨T', X', e', st⟩ := RoadKit.castY X hx hZ hown w eT F (g := mkF m pc Ls (.ref a :: rest)) rfl rfl hd
  exact Go.by st (k T' X' e')
theorem Go.instY (X : Stand p l e R s m args below meth c T locs cells slots) (hx : p.tables.exec = Jvm.exec) (hZ : Z.Warmed39 s.vm) {own K : String} {index : Nat} (hown : s.vm.findClass own = some m.cls) (w : (Jvm.Cond.classLink own index K).before a0 Z = true) (eT : T.heap = h) {a : Addr} (F : Ins Z h a K true) (hd : decode c.code pc = .ok (.instanceof index, 3))
    (k : ∀ T', Stand p l e R s m args below meth c T' locs cells slots → T'.heap = h → Go p e below P T' (mkF m (pc + 3) Ls (.int 1 :: rest))) : Go p e below P T (mkF m pc Ls (.ref a :: rest)) := by
  obtain ⟨T', X', e', st⟩ := RoadKit.instY X hx hZ hown w eT F (g := mkF m pc Ls (.ref a :: rest)) rfl rfl hd
  exact Go.by st (k T' X' e')
theorem Go.instN (X : Stand p l e R s m args below meth c T locs cells slots) (hx : p.tables.exec = Jvm.exec) (hZ : Z.Warmed39 s.vm) {own K C : String} {index : Nat} (hown : s.vm.findClass own = some m.cls) (w : (Jvm.Cond.classLink own index K).before a0 Z = true) (eT : T.heap = h) {a : Addr} (E : Exa Z h a C) (F : ∃ c t, Z.vm.findClass C = some c ∧ Z.vm.findClass K = some t ∧ Z.vm.assignable c t = false) (hd : decode c.code pc = .ok (.instanceof index, 3))
    (k : ∀ T', Stand p l e R s m args below meth c T' locs cells slots → T'.heap = h → Go p e below P T' (mkF m (pc + 3) Ls (.int 0 :: rest))) : Go p e below P T (mkF m pc Ls (.ref a :: rest)) := by
  obtain ⟨T', X', e', st⟩ := RoadKit.instNo X hx hZ hown w eT E F (g := mkF m pc Ls (.ref a :: rest)) rfl rfl hd
  exact Go.by st (k T' X' e')
theorem Go.aload (X : Stand p l e R s m args below meth c T locs cells slots) (hx : p.tables.exec = Jvm.exec) (hZ : Z.Warmed39 s.vm) (eT : T.heap = h) {a : Addr} {cl : Cell} {ty : FieldType} (A : Arr Z h a cl ty) {j : Int32} {v : Value} (hin : ¬ (j < 0 ∨ cl.slots.size ≤ j.toNatClampNeg)) (hat : cl.slots[j.toNatClampNeg]? = some v) {i : Instr}
    (hi : (i = .iaload ∧ ty = .int) ∨ (i = .laload ∧ ty = .long) ∨ (i = .aaload ∧ ty.isReference = true) ∨ (i = .caload ∧ ty = .char) ∨ (i = .saload ∧ ty = .short) ∨ (i = .baload ∧ ty = .byte)) (hd : decode c.code pc = .ok (i, 1)) (k : Go p e below P T (mkF m (pc + 1) Ls (v :: rest))) : Go p e below P T (mkF m pc Ls (.int j :: .ref a :: rest)) := by
  refine Go.by (fun t kk => ?_) k
  have hc : T.heap[a]? = some cl := by rw [eT]; exact A.1
  have ha := State.isArrayOf_alike hZ.alike A.2.1
  rcases hi with ⟨rfl, rfl⟩ | ⟨rfl, rfl⟩ | ⟨rfl, hr⟩ | ⟨rfl, rfl⟩ | ⟨rfl, rfl⟩ | ⟨rfl, rfl⟩
  · exact X.iaload hx hc ha A.2.2 hin hat (g := mkF m pc Ls (.int j :: .ref a :: rest)) rfl rfl hd _ kk
  · exact X.laload hx hc ha A.2.2 hin hat (g := mkF m pc Ls (.int j :: .ref a :: rest)) rfl rfl hd _ kk
  · exact X.aaload hx hc ha hr A.2.2 hin hat (g := mkF m pc Ls (.int j :: .ref a :: rest)) rfl rfl hd _ kk
  · exact X.caload hx hc ha A.2.2 hin hat (g := mkF m pc Ls (.int j :: .ref a :: rest)) rfl rfl hd _ kk
  · exact X.saload hx hc ha A.2.2 hin hat (g := mkF m pc Ls (.int j :: .ref a :: rest)) rfl rfl hd _ kk
  · exact X.baloadBytes hx hc ha A.2.2 hin hat (g := mkF m pc Ls (.int j :: .ref a :: rest)) rfl rfl hd _ kk
theorem Go.alen (X : Stand p l e R s m args below meth c T locs cells slots) (hx : p.tables.exec = Jvm.exec) (hZ : Z.Warmed39 s.vm) (eT : T.heap = h) {a : Addr} {cl : Cell} {ty : FieldType} (A : Arr Z h a cl ty) {z : Int32} (hz : cl.slots.size.toInt32 = z) (hd : decode c.code pc = .ok (.arraylength, 1)) (k : Go p e below P T (mkF m (pc + 1) Ls (.int z :: rest))) : Go p e below P T (mkF m pc Ls (.ref a :: rest)) := by
  refine Go.by (fun t kk => ?_) k
  subst hz
  exact X.arraylength hx (by rw [eT]; exact A.1) (State.isArrayOf_alike hZ.alike A.2.1) (g := mkF m pc Ls (.ref a :: rest)) rfl rfl hd _ kk
theorem Go.alenV (X : Stand p l e R s m args below meth c T locs cells slots) (hx : p.tables.exec = Jvm.exec) (hZ : Z.Warmed39 s.vm) (eT : T.heap = h) {a : Addr} {k : ClassId} {ty : FieldType} {z : Int32} {vs : List Value} {dv : Value} (F : Arv Z h a k ty z vs dv) (hd : decode c.code pc = .ok (.arraylength, 1)) (kk : Go p e below P T (mkF m (pc + 1) Ls (.int z :: rest))) : Go p e below P T (mkF m pc Ls (.ref a :: rest)) := by
  obtain ⟨cl, A, -, S, q, -, -⟩ := F; exact Go.alen X hx hZ eT A (len_of S q) hd kk
theorem Go.aloadV (X : Stand p l e R s m args below meth c T locs cells slots) (hx : p.tables.exec = Jvm.exec) (hZ : Z.Warmed39 s.vm) (eT : T.heap = h) {a : Addr} {k : ClassId} {ty : FieldType} {z : Int32} {vs : List Value} {dv : Value} (F : Arv Z h a k ty z vs dv) {j : Int32} {v : Value} (hj : ¬ j < 0 ∧ j < z) (hv : vs.getD j.toNatClampNeg dv = v) {i : Instr}
    (hi : (i = .iaload ∧ ty = .int) ∨ (i = .laload ∧ ty = .long) ∨ (i = .aaload ∧ ty.isReference = true) ∨ (i = .caload ∧ ty = .char) ∨ (i = .saload ∧ ty = .short) ∨ (i = .baload ∧ ty = .byte)) (hd : decode c.code pc = .ok (i, 1)) (kk : Go p e below P T (mkF m (pc + 1) Ls (v :: rest))) : Go p e below P T (mkF m pc Ls (.int j :: .ref a :: rest)) := by
  obtain ⟨cl, A, -, S, q, H, -⟩ := F
  have hin := inb_of S hj
  exact Go.aload X hx hZ eT A hin (H.at hin hv) hi hd kk
theorem Go.istV (X : Stand p l e R s m args below meth c T locs cells slots) (hx : p.tables.exec = Jvm.exec) (hZ : Z.Warmed39 s.vm) (eT : T.heap = h) {a : Addr} {k : ClassId} {z : Int32} {vs : List Value} {dv : Value} (F : Arv Z h a k .int z vs dv) {j x : Int32} (hj : ¬ j < 0 ∧ j < z) (i : Nat) (hji : j.toNatClampNeg = i) (hi : i < vs.length) (hd : decode c.code pc = .ok (.iastore, 1))
    (kk : ∀ T' h', Stand p l e R s m args below meth c T' (locs ++ [⟨a, j.toNatClampNeg⟩]) cells slots → T'.heap = h' → Wr h h' a j.toNatClampNeg (.int x) → Arv Z h' a k .int z (vs.set i (.int x)) dv → Go p e below P T' (mkF m (pc + 1) Ls rest)) : Go p e below P T (mkF m pc Ls (.int x :: .int j :: .ref a :: rest)) := by
  obtain ⟨cl, A, q1, S, q3, H, G⟩ := F
  have hin := inb_of S hj
  obtain ⟨T', h', X', e', W', st⟩ := stI X hx hZ eT A (j := j) (x := x) hin (g := mkF m pc Ls (.int x :: .int j :: .ref a :: rest)) rfl rfl hd
  exact Go.by st (kk T' h' X' e' W' (Arv.set A q1 S q3 H G rfl W' i hji hi))
theorem Go.jstV (X : Stand p l e R s m args below meth c T locs cells slots) (hx : p.tables.exec = Jvm.exec) (hZ : Z.Warmed39 s.vm) (eT : T.heap = h) {a : Addr} {k : ClassId} {z : Int32} {vs : List Value} {dv : Value} (F : Arv Z h a k .long z vs dv) {j : Int32} {x : Int64} (hj : ¬ j < 0 ∧ j < z) (i : Nat) (hji : j.toNatClampNeg = i) (hi : i < vs.length) (hd : decode c.code pc = .ok (.lastore, 1))
    (kk : ∀ T' h', Stand p l e R s m args below meth c T' (locs ++ [⟨a, j.toNatClampNeg⟩]) cells slots → T'.heap = h' → Wr h h' a j.toNatClampNeg (.long x) → Arv Z h' a k .long z (vs.set i (.long x)) dv → Go p e below P T' (mkF m (pc + 1) Ls rest)) : Go p e below P T (mkF m pc Ls (.long x :: .int j :: .ref a :: rest)) := by
  obtain ⟨cl, A, q1, S, q3, H, G⟩ := F
  have hin := inb_of S hj
  obtain ⟨T', h', X', e', W', st⟩ := stJ X hx hZ eT A (j := j) (x := x) hin (g := mkF m pc Ls (.long x :: .int j :: .ref a :: rest)) rfl rfl hd
  exact Go.by st (kk T' h' X' e' W' (Arv.set A q1 S q3 H G rfl W' i hji hi))
theorem Go.cloneA (X : Stand p l e R s m args below meth c T locs cells slots) (hx : p.tables.exec = Jvm.exec) (hZ : Z.Warmed39 s.vm) {own ad : String} {index : Nat} (hown : s.vm.findClass own = some m.cls) (w1 : (Jvm.Cond.methodLink own index ⟨ad, "clone", "()Ljava/lang/Object;"⟩).before a0 Z = true) (w2 : (Jvm.Cond.sameMethod ad "java/lang/Object" "clone" "()Ljava/lang/Object;").before a0 Z = true) (w3 : (Jvm.Cond.native ⟨"java/lang/Object", "clone", "()Ljava/lang/Object;"⟩).before a0 Z = true)
    (w4 : (Jvm.Cond.instanceMethod ⟨"java/lang/Object", "clone", "()Ljava/lang/Object;"⟩).before a0 Z = true) (w5 : (Jvm.Cond.selects ad ⟨ad, "clone", "()Ljava/lang/Object;"⟩ ⟨"java/lang/Object", "clone", "()Ljava/lang/Object;"⟩).before a0 Z = true) (w6 : (Jvm.Cond.castable ad "java/lang/Cloneable").before a0 Z = true) (eT : T.heap = h) {a : Addr} {cl : Cell} {ty : FieldType} (A : Arr Z h a cl ty) (E : Exa Z h a ad) (F : FitC Z cl)
    (hsz : Ls.size = c.maxLocals) (hd : decode c.code pc = .ok (.invokevirtual index, 3)) (hf : 1 ≤ R.frames) {W cap : Nat} (hW : (rest.map fun v => v.category).sum = W) (hl : W + 14 ≤ R.locals) (hcap : cl.slots.size ≤ cap) (hc : cells + 1 ≤ R.cells) (hsl : slots + cap ≤ R.slots)
    (k : ∀ T' h' b, Stand p l e R s m args below meth c T' locs (cells + 1) (slots + cap) → T'.heap = h' → Ext h h' → b = h.size → Arr Z h' b (cloneOf cl) ty → Exa Z h' b ad → Go p e below P T' (mkF m (pc + 3) Ls (.ref b :: rest))) : Go p e below P T (mkF m pc Ls (.ref a :: rest)) := by
  obtain ⟨T', h', X', e', E', A', X2, st⟩ := RoadKit.cloneA X hx hZ hown w1 w2 w3 w4 w5 w6 eT A E F (g := mkF m pc Ls (.ref a :: rest)) rfl hsz rfl hd hf (W := W) (cap := cap) (by subst hW; show 2 * 0 + _ ≤ _; omega) hl hcap hc hsl
  exact Go.by st (k T' h' _ X' e' E' rfl A' X2)
/-! calls by the callee's contract -/
section Call
variable {own : String} {index : Nat} {y : MethodName} {bytes : ByteArray} {maxL : Nat} {ret : Option FieldType} {rm : Room} {argsL : List Value} {Q' : Option Value → Heap → List Loc → Prop} {st : List Value} {W : Nat}
theorem Go.callS (X : Stand p l e R s m args below meth c T locs cells slots) (hx : p.tables.exec = Jvm.exec) (hZ : Z.Warmed39 s.vm) (hown : s.vm.findClass own = some m.cls) (w1 : (Jvm.Cond.methodLink own index y).before a0 Z = true) (w2 : (Jvm.Cond.static y).before a0 Z = true) (w3 : (Jvm.Cond.initialized y.cls).before a0 Z = true) (w4 : (Jvm.Cond.code y bytes maxL ret).before a0 Z = true)
    (hy : y.cls ≠ "java/lang/invoke/MethodHandle" ∧ y.cls ≠ "java/lang/invoke/VarHandle") (ct : Ct l y bytes maxL ret rm Z argsL.toArray h Q') (eT : T.heap = h) (hsz : Ls.size = c.maxLocals) (hlen : ∀ sig, parseMethodDescriptor y.desc = some sig → argsL.length = sig.parameters.length) (hst : st = argsL.reverse ++ rest) (hW : (rest.map fun v => v.category).sum = W)
    (hd : decode c.code pc = .ok (.invokestatic index, 3)) (hf : rm.frames + 1 ≤ R.frames) (hl : W + (maxL + 11) + rm.locals ≤ R.locals) (hc : cells + rm.cells ≤ R.cells) (hs : slots + rm.slots ≤ R.slots)
    (k : ∀ v T' h' L, Stand p l e R s m args below meth c T' (locs ++ L) (cells + rm.cells) (slots + rm.slots) → T'.heap = h' → Q' v h' L → Go p e below P T' (mkF m (pc + 3) Ls (v.toList ++ rest))) : Go p e below P T (mkF m pc Ls st) := by
  obtain ⟨v, _, ⟨T', L, k', n'⟩, -, X', ⟨Lc, hQ, hl', hk', hn'⟩, st'⟩ := Jvm.LawKit.callS X hx (y := y) hown (mvT hZ w1) (mvT hZ w2) (mvT hZ w3) (mvT hZ w4) hy (backOf (W := W) (ct []) hZ w4 w3 hf hl) (g := mkF m pc Ls st) rfl hsz (argsL := argsL) (rest := rest) hlen hst (by subst hW; show 2 * 0 + _ ≤ _; omega) hd (fun _ _ => ⟨rfl, eT, hc, hs⟩)
  dsimp only [Pt.U, Pt.locs, Pt.cells, Pt.slots] at X' hl' hk' hn' st' hQ
  subst hl' hk' hn'
  exact Go.by st' (k v T' _ Lc X' rfl hQ)
theorem Go.callC (X : Stand p l e R s m args below meth c T locs cells slots) (hx : p.tables.exec = Jvm.exec) (hZ : Z.Warmed39 s.vm) (hown : s.vm.findClass own = some m.cls) (hy1 : y.name = "<init>") (w1 : (Jvm.Cond.methodLink own index y).before a0 Z = true) (w2 : (Jvm.Cond.instanceMethod y).before a0 Z = true) (w3 : (Jvm.Cond.initialized y.cls).before a0 Z = true) (w4 : (Jvm.Cond.code y bytes maxL none).before a0 Z = true)
    (hy : y.cls ≠ "java/lang/invoke/MethodHandle" ∧ y.cls ≠ "java/lang/invoke/VarHandle") {a : Addr} (ct : Ct l y bytes maxL none rm Z (.ref a :: argsL).toArray h Q') (eT : T.heap = h) (hsz : Ls.size = c.maxLocals) (hlen : ∀ sig, parseMethodDescriptor y.desc = some sig → argsL.length = sig.parameters.length) (hst : st = argsL.reverse ++ .ref a :: rest) (hW : (rest.map fun v => v.category).sum = W)
    (hd : decode c.code pc = .ok (.invokespecial index, 3)) (hf : rm.frames + 1 ≤ R.frames) (hl : W + (maxL + 11) + rm.locals ≤ R.locals) (hc : cells + rm.cells ≤ R.cells) (hs : slots + rm.slots ≤ R.slots)
    (k : ∀ v T' h' L, Stand p l e R s m args below meth c T' (locs ++ L) (cells + rm.cells) (slots + rm.slots) → T'.heap = h' → Q' v h' L → Go p e below P T' (mkF m (pc + 3) Ls (v.toList ++ rest))) : Go p e below P T (mkF m pc Ls st) := by
  obtain ⟨v, _, ⟨T', L, k', n'⟩, -, X', ⟨Lc, hQ, hl', hk', hn'⟩, st'⟩ := X.specialBack hx (y := y) hy1 hown (mvT hZ w1) (mvT hZ w2) (mvT hZ w4) hy (backOf (W := W) (ct []) hZ w4 w3 hf hl) (g := mkF m pc Ls st) rfl hsz (Steps.refl _) (a := a) (argsL := argsL) (rest := rest) hlen hst (by subst hW; show 2 * 0 + _ ≤ _; omega) hd (fun _ _ => ⟨rfl, eT, hc, hs⟩)
  dsimp only [Pt.U, Pt.locs, Pt.cells, Pt.slots] at X' hl' hk' hn' st' hQ
  subst hl' hk' hn'
  exact Go.by (fun _ kk => st'.trans kk) (k v T' _ Lc X' rfl hQ)
theorem Go.callV (X : Stand p l e R s m args below meth c T locs cells slots) (hx : p.tables.exec = Jvm.exec) (hZ : Z.Warmed39 s.vm) (hown : s.vm.findClass own = some m.cls) {C : String} {z : MethodName} (w1 : (Jvm.Cond.methodLink own index y).before a0 Z = true) (w2 : (Jvm.Cond.declares y).before a0 Z = true) (nf : NotFace s y) (w5 : (Jvm.Cond.selects C y z).before a0 Z = true) (w6 : (Jvm.Cond.instanceMethod z).before a0 Z = true) (w3 : (Jvm.Cond.initialized z.cls).before a0 Z = true) (w4 : (Jvm.Cond.code z bytes maxL ret).before a0 Z = true)
    (hy : y.cls ≠ "java/lang/invoke/MethodHandle" ∧ y.cls ≠ "java/lang/invoke/VarHandle") {a : Addr} (E : Exa Z h a C) (ct : Ct l z bytes maxL ret rm Z (.ref a :: argsL).toArray h Q') (eT : T.heap = h) (hsz : Ls.size = c.maxLocals) (hlen : ∀ sig, parseMethodDescriptor y.desc = some sig → argsL.length = sig.parameters.length) (hst : st = argsL.reverse ++ .ref a :: rest) (hW : (rest.map fun v => v.category).sum = W)
    (hd : decode c.code pc = .ok (.invokevirtual index, 3)) (hf : rm.frames + 1 ≤ R.frames) (hl : W + (maxL + 11) + rm.locals ≤ R.locals) (hc : cells + rm.cells ≤ R.cells) (hs : slots + rm.slots ≤ R.slots)
    (k : ∀ v T' h' L, Stand p l e R s m args below meth c T' (locs ++ L) (cells + rm.cells) (slots + rm.slots) → T'.heap = h' → Q' v h' L → Go p e below P T' (mkF m (pc + 3) Ls (v.toList ++ rest))) : Go p e below P T (mkF m pc Ls st) := by
  obtain ⟨cq, kq, qa, qb, qc⟩ := isOf hZ eT E
  obtain ⟨v, _, ⟨T', L, k', n'⟩, -, X', ⟨Lc, hQ, hl', hk', hn'⟩, st'⟩ := X.virtualBack hx (y := y) (z := z) hown (mvT hZ w1) (mvT hZ w2) nf (mvT hZ w5) (mvT hZ w6) hy (backOf (W := W) (ct []) hZ w4 w3 hf hl) qa qc (g := mkF m pc Ls st) rfl hsz (Steps.refl _) (argsL := argsL) (rest := rest) hlen hst (by subst hW; show 2 * 0 + _ ≤ _; omega) hd (fun _ _ => ⟨rfl, eT, hc, hs⟩)
  dsimp only [Pt.U, Pt.locs, Pt.cells, Pt.slots] at X' hl' hk' hn' st' hQ
  subst hl' hk' hn'
  exact Go.by (fun _ kk => st'.trans kk) (k v T' _ Lc X' rfl hQ)
theorem Go.callVU (X : Stand p l e R s m args below meth c T locs cells slots) (hx : p.tables.exec = Jvm.exec) (hZ : Z.Warmed39 s.vm) (hown : s.vm.findClass own = some m.cls) {C owner : String} {z : MethodName} (w1 : (Jvm.Cond.methodLink own index y).before a0 Z = true) (ws : (Jvm.Cond.sameMethod y.cls owner y.name y.desc).before a0 Z = true) (w2 : (Jvm.Cond.declares ⟨owner, y.name, y.desc⟩).before a0 Z = true) (ho : owner ≠ "java/lang/invoke/MethodHandle" ∧ owner ≠ "java/lang/invoke/VarHandle") (w5 : (Jvm.Cond.selects C y z).before a0 Z = true) (w6 : (Jvm.Cond.instanceMethod z).before a0 Z = true) (w3 : (Jvm.Cond.initialized z.cls).before a0 Z = true) (w4 : (Jvm.Cond.code z bytes maxL ret).before a0 Z = true)
    {a : Addr} (E : Exa Z h a C) (ct : Ct l z bytes maxL ret rm Z (.ref a :: argsL).toArray h Q') (eT : T.heap = h) (hsz : Ls.size = c.maxLocals) (hlen : ∀ sig, parseMethodDescriptor y.desc = some sig → argsL.length = sig.parameters.length) (hst : st = argsL.reverse ++ .ref a :: rest) (hW : (rest.map fun v => v.category).sum = W)
    (hd : decode c.code pc = .ok (.invokevirtual index, 3)) (hf : rm.frames + 1 ≤ R.frames) (hl : W + (maxL + 11) + rm.locals ≤ R.locals) (hc : cells + rm.cells ≤ R.cells) (hs : slots + rm.slots ≤ R.slots)
    (k : ∀ v T' h' L, Stand p l e R s m args below meth c T' (locs ++ L) (cells + rm.cells) (slots + rm.slots) → T'.heap = h' → Q' v h' L → Go p e below P T' (mkF m (pc + 3) Ls (v.toList ++ rest))) : Go p e below P T (mkF m pc Ls st) := by
  obtain ⟨cq, kq, qa, qb, qc⟩ := isOf hZ eT E
  obtain ⟨v, _, ⟨T', L, k', n'⟩, -, X', ⟨Lc, hQ, hl', hk', hn'⟩, st'⟩ := X.virtualBackUp hx (x := y) (y := z) (owner := owner) hown (mvT hZ w1) (mvT hZ ws) (mvT hZ w2) ho (mvT hZ w5) (mvT hZ w6) (backOf (W := W) (ct []) hZ w4 w3 hf hl) qa qc (g := mkF m pc Ls st) rfl hsz (Steps.refl _) (argsL := argsL) (rest := rest) hlen hst (by subst hW; show 2 * 0 + _ ≤ _; omega) hd (fun _ _ => ⟨rfl, eT, hc, hs⟩)
  dsimp only [Pt.U, Pt.locs, Pt.cells, Pt.slots] at X' hl' hk' hn' st' hQ
  subst hl' hk' hn'
  exact Go.by (fun _ kk => st'.trans kk) (k v T' _ Lc X' rfl hQ)
end Call
theorem eqI_v {args : Array Value} {first s : State} {o : Option Outcome} {idx : List Nat} {t : Term} {n : Int32} (h : (Jvm.Cond.eq t (.int n)).value args first o s idx = some true) : t.eval args first o idx s = some (.int n) := by
  simp only [Cond.value, Term.eval] at h
  cases ht : t.eval args first o idx s with
  | none => simp [ht] at h
  | some x => cases x <;> simp [ht] at h ⊢; exact h
theorem nsRoot {O K : String} {n : Nat} (w : (Jvm.Cond.noSuperclass O).before a0 Z = true) (wk : (Jvm.Cond.instantiable K n).before a0 Z = true) (hn : O ≠ K) : NS Z O K := by
  obtain ⟨c, k, h1, h2, h3, -, -⟩ := Cond.noSuperclass_spec w
  obtain ⟨t, kt, g1, -⟩ := Cond.instantiable_spec wk
  have ne := ids_ne h1 g1 hn
  refine ⟨c, t, h1, g1, fun fuel => ?_⟩
  cases fuel with
  | zero => rfl
  | succ f => simp [Vm.isSubclassAux, ne, h2, h3]
theorem nsNo {C S K : String} {n : Nat} (w : (Jvm.Cond.superclass C S).before a0 Z = true) (wk : (Jvm.Cond.instantiable K n).before a0 Z = true) (ns : NS Z C K) (hn : C ≠ K) : ∃ c t, Z.vm.findClass C = some c ∧ Z.vm.findClass K = some t ∧ Z.vm.assignable c t = false := by
  obtain ⟨c, t, h0, g0, n3⟩ := ns
  obtain ⟨p, k, kp, h1, h2, h3, h4, h5, -, h7⟩ := Cond.superclass_spec h0 w
  obtain ⟨t', k', g1, g2, g3, g4, -⟩ := Cond.instantiable_spec wk
  cases g0.symm.trans g1
  have ne := ids_ne h0 g0 hn
  have g5 : k'.isInterface = false := by cases hq : k'.isInterface <;> simp [hq] at g4 ⊢
  refine ⟨c, t, h0, g0, ?_⟩
  show Z.vm.assignableAux (255 + 1) c t = false
  simp [Vm.assignableAux, ne, h2, g2, h5, g3, g5, Vm.isSubclass, n3]
theorem lenI_v {args : Array Value} {first s : State} {o : Option Outcome} {idx : List Nat} {t : Term} {a : Addr} {cl : Cell} {n : Int32} (h : (Term.length t).eval args first o idx s = some (.int n)) (ht : t.eval args first o idx s = some (.ref a)) (ha : s.arrayAt? a = some cl) : cl.slots.size < 2 ^ 31 ∧ cl.slots.size.toInt32 = n := by
  simp [Term.eval, ht, ha] at h; exact h
theorem size_le {cl : Cell} {n : Int32} {k : Nat} (q : cl.slots.size < 2 ^ 31 ∧ cl.slots.size.toInt32 = n) (hn : n.toInt = k) : cl.slots.size = k := by
  have := len_toInt q.1; rw [q.2, hn] at this; exact (Int.ofNat.inj this).symm
theorem eqR_v {args : Array Value} {first s : State} {o : Option Outcome} {idx : List Nat} {t u : Term} {w : Addr} (hu : u.eval args first o idx s = some (.ref w)) (h : (Jvm.Cond.eq t u).value args first o s idx = some true) : t.eval args first o idx s = some (.ref w) := by
  simp only [Cond.value, hu] at h
  cases ht : t.eval args first o idx s with
  | none => simp [ht] at h
  | some x => cases x <;> simp [ht] at h ⊢; exact h
theorem Old.le {n0 : Nat} (O : Old Z n0 h) : n0 ≤ h.size := O.1 ▸ O.2.1
end K
end Jvm.OwnKit
namespace Jvm.Pilot.@@N@@
open Jvm Jvm.ClassFile Sem Op Lib Jvm.Free Jvm.Stand Jvm.LawKit Jvm.RoadKit Jvm.OwnKit Bundle Jvm.Pilot.@@N@@.Jvm.D
theorem d_p11_m1_0 : decode prog_11_method_1_code 0 = .ok (.aload_n 0, 1) := by decide +kernel
theorem d_p11_m1_1 : decode prog_11_method_1_code 1 = .ok (.invokespecial 1, 3) := by decide +kernel
theorem d_p11_m1_4 : decode prog_11_method_1_code 4 = .ok (.aload_n 0, 1) := by decide +kernel
theorem d_p11_m1_5 : decode prog_11_method_1_code 5 = .ok (.getstatic 7, 3) := by decide +kernel
theorem d_p11_m1_8 : decode prog_11_method_1_code 8 = .ok (.putfield 13, 3) := by decide +kernel
theorem d_p11_m1_11 : decode prog_11_method_1_code 11 = .ok (.aload_n 0, 1) := by decide +kernel
theorem d_p11_m1_12 : decode prog_11_method_1_code 12 = .ok (.iconst 5, 1) := by decide +kernel
theorem d_p11_m1_13 : decode prog_11_method_1_code 13 = .ok (.putfield 16, 3) := by decide +kernel
theorem d_p11_m1_16 : decode prog_11_method_1_code 16 = .ok (.aload_n 0, 1) := by decide +kernel
theorem d_p11_m1_17 : decode prog_11_method_1_code 17 = .ok (.getstatic 20, 3) := by decide +kernel
theorem d_p11_m1_20 : decode prog_11_method_1_code 20 = .ok (.putfield 24, 3) := by decide +kernel
theorem d_p11_m1_23 : decode prog_11_method_1_code 23 = .ok (.aload_n 0, 1) := by decide +kernel
theorem d_p11_m1_24 : decode prog_11_method_1_code 24 = .ok (.getstatic 27, 3) := by decide +kernel
theorem d_p11_m1_27 : decode prog_11_method_1_code 27 = .ok (.putfield 30, 3) := by decide +kernel
theorem d_p11_m1_30 : decode prog_11_method_1_code 30 = .ok (.aload_n 0, 1) := by decide +kernel
theorem d_p11_m1_31 : decode prog_11_method_1_code 31 = .ok (.aload_n 1, 1) := by decide +kernel
theorem d_p11_m1_32 : decode prog_11_method_1_code 32 = .ok (.putfield 33, 3) := by decide +kernel
theorem d_p11_m1_35 : decode prog_11_method_1_code 35 = .ok (.aload_n 0, 1) := by decide +kernel
theorem d_p11_m1_36 : decode prog_11_method_1_code 36 = .ok (.aload_n 2, 1) := by decide +kernel
theorem d_p11_m1_37 : decode prog_11_method_1_code 37 = .ok (.putfield 37, 3) := by decide +kernel
theorem d_p11_m1_40 : decode prog_11_method_1_code 40 = .ok (.return_, 1) := by decide +kernel
theorem pn_Submission_611 : plainName "com/example/long_fuse/longfuse/Submission" = true := by first | (simp [plainName, overriddenIn]; done) | decide +kernel
theorem d_p11_m3_0 : decode prog_11_method_3_code 0 = .ok (.new 8, 3) := by decide +kernel
theorem d_p11_m3_3 : decode prog_11_method_3_code 3 = .ok (.dup, 1) := by decide +kernel
theorem d_p11_m3_4 : decode prog_11_method_3_code 4 = .ok (.aconst_null, 1) := by decide +kernel
theorem d_p11_m3_5 : decode prog_11_method_3_code 5 = .ok (.getstatic 47, 3) := by decide +kernel
theorem pd__Ljava_time_Instant_Ljava_time_Duration__6488 : parseMethodDescriptor "(Ljava/time/Instant;Ljava/time/Duration;)V" = some ⟨[(.object "java/time/Instant"), (.object "java/time/Duration")], none⟩ := by decide +kernel
theorem d_p11_m3_8 : decode prog_11_method_3_code 8 = .ok (.invokespecial 40, 3) := by decide +kernel
theorem d_p11_m3_11 : decode prog_11_method_3_code 11 = .ok (.areturn, 1) := by decide +kernel
theorem pd___Lcom_example_long_fuse_longfuse_Submis_2235 : parseMethodDescriptor "()Lcom/example/long_fuse/longfuse/Submission;" = some ⟨[], some (.object "com/example/long_fuse/longfuse/Submission")⟩ := by decide +kernel
theorem d_p11_m13_0 : decode prog_11_method_13_code 0 = .ok (.aload_n 0, 1) := by decide +kernel
theorem d_p11_m13_1 : decode prog_11_method_13_code 1 = .ok (.getfield 33, 3) := by decide +kernel
theorem d_p11_m13_4 : decode prog_11_method_13_code 4 = .ok (.areturn, 1) := by decide +kernel
theorem pd___Ljava_time_Instant__5584 : parseMethodDescriptor "()Ljava/time/Instant;" = some ⟨[], some (.object "java/time/Instant")⟩ := by decide +kernel
theorem d_p11_m14_0 : decode prog_11_method_14_code 0 = .ok (.aload_n 0, 1) := by decide +kernel
theorem d_p11_m14_1 : decode prog_11_method_14_code 1 = .ok (.getfield 37, 3) := by decide +kernel
theorem d_p11_m14_4 : decode prog_11_method_14_code 4 = .ok (.areturn, 1) := by decide +kernel
theorem pd___Ljava_time_Duration__1628 : parseMethodDescriptor "()Ljava/time/Duration;" = some ⟨[], some (.object "java/time/Duration")⟩ := by decide +kernel
theorem d_p11_m12_0 : decode prog_11_method_12_code 0 = .ok (.aload_n 0, 1) := by decide +kernel
theorem d_p11_m12_1 : decode prog_11_method_12_code 1 = .ok (.getfield 43, 3) := by decide +kernel
theorem d_p11_m12_4 : decode prog_11_method_12_code 4 = .ok (.areturn, 1) := by decide +kernel
theorem pd___Ljava_lang_String__6923 : parseMethodDescriptor "()Ljava/lang/String;" = some ⟨[], some (.object "java/lang/String")⟩ := by decide +kernel
theorem d_p11_m15_0 : decode prog_11_method_15_code 0 = .ok (.aload_n 0, 1) := by decide +kernel
theorem d_p11_m15_1 : decode prog_11_method_15_code 1 = .ok (.getfield 13, 3) := by decide +kernel
theorem d_p11_m15_4 : decode prog_11_method_15_code 4 = .ok (.areturn, 1) := by decide +kernel
theorem pd____B_8554 : parseMethodDescriptor "()[B" = some ⟨[], some (.array .byte)⟩ := by decide +kernel
theorem d_p11_m16_0 : decode prog_11_method_16_code 0 = .ok (.aload_n 0, 1) := by decide +kernel
theorem d_p11_m16_1 : decode prog_11_method_16_code 1 = .ok (.getfield 16, 3) := by decide +kernel
theorem d_p11_m16_4 : decode prog_11_method_16_code 4 = .ok (.ireturn, 1) := by decide +kernel
theorem pd___I_8321 : parseMethodDescriptor "()I" = some ⟨[], some .int⟩ := by decide +kernel
theorem d_p11_m17_0 : decode prog_11_method_17_code 0 = .ok (.aload_n 0, 1) := by decide +kernel
theorem d_p11_m17_1 : decode prog_11_method_17_code 1 = .ok (.getfield 24, 3) := by decide +kernel
theorem d_p11_m17_4 : decode prog_11_method_17_code 4 = .ok (.areturn, 1) := by decide +kernel
theorem d_p11_m18_0 : decode prog_11_method_18_code 0 = .ok (.aload_n 0, 1) := by decide +kernel
theorem d_p11_m18_1 : decode prog_11_method_18_code 1 = .ok (.getfield 30, 3) := by decide +kernel
theorem d_p11_m18_4 : decode prog_11_method_18_code 4 = .ok (.areturn, 1) := by decide +kernel
theorem pn_SubmissionDueNowPinLaw_100 : plainName "com/example/long_fuse/longfuse/SubmissionDueNowPinLaw" = true := by first | (simp [plainName, overriddenIn]; done) | decide +kernel
set_option maxRecDepth 65536 in
set_option maxHeartbeats 40000000 in
theorem ct_init (l : Launch) (Z : State) (a0 : Array Value) (hw : ∀ d ∈ tables_1, d.before a0 Z = true) (w_ZERO : Addr) (w_NO_PAYLOAD : Addr) (w_DEFAULT_BACKOFF : Addr) (w_DEFAULT_RETENTION : Addr) (cl_NP : Cell) (S_ZERO : Sta Z Z.heap "java/time/Duration" "ZERO" "Ljava/time/Duration;" (.ref w_ZERO)) (S_NO_PAYLOAD : Sta Z Z.heap "com/example/long_fuse/longfuse/Submission" "NO_PAYLOAD" "[B" (.ref w_NO_PAYLOAD)) (S_DEFAULT_BACKOFF : Sta Z Z.heap "com/example/long_fuse/longfuse/Submission" "DEFAULT_BACKOFF" "Ljava/time/Duration;" (.ref w_DEFAULT_BACKOFF)) (S_DEFAULT_RETENTION : Sta Z Z.heap "com/example/long_fuse/longfuse/Submission" "DEFAULT_RETENTION" "Ljava/time/Duration;" (.ref w_DEFAULT_RETENTION)) (A_NP : Arr Z Z.heap w_NO_PAYLOAD cl_NP .byte) (z_NP : cl_NP.slots.size.toInt32 = 0) (a1 : Addr) (a2 : Addr) (h0 : Heap) (n0 : Nat) (O : Old Z n0 h0) (E_a1 : Exa Z h0 a1 "com/example/long_fuse/longfuse/Submission") (F_a1_payload : Fld Z h0 a1 "com/example/long_fuse/longfuse/Submission" "payload" "[B" .null) (F_a1_maxAttempts : Fld Z h0 a1 "com/example/long_fuse/longfuse/Submission" "maxAttempts" "I" (.int (0 : Int32))) (F_a1_backoff : Fld Z h0 a1 "com/example/long_fuse/longfuse/Submission" "backoff" "Ljava/time/Duration;" .null) (F_a1_retention : Fld Z h0 a1 "com/example/long_fuse/longfuse/Submission" "retention" "Ljava/time/Duration;" .null) (F_a1_dueAt : Fld Z h0 a1 "com/example/long_fuse/longfuse/Submission" "dueAt" "Ljava/time/Instant;" .null) (F_a1_delay : Fld Z h0 a1 "com/example/long_fuse/longfuse/Submission" "delay" "Ljava/time/Duration;" .null) (F_a1_key : Fld Z h0 a1 "com/example/long_fuse/longfuse/Submission" "key" "Ljava/lang/String;" .null) (g_a1 : n0 ≤ a1) :
    Ct l (⟨"com/example/long_fuse/longfuse/Submission", "<init>", "(Ljava/time/Instant;Ljava/time/Duration;)V"⟩ : MethodName) prog_11_method_1_code 3 none ({ frames := 1, cells := 0, slots := 0, locals := 12 } : Room) Z #[(.ref a1), .null, (.ref a2)] h0 (fun v h L => v = none ∧ Fr n0 L ∧ Keep h0 h [a1] ∧ Fld Z h a1 "com/example/long_fuse/longfuse/Submission" "payload" "[B" (.ref w_NO_PAYLOAD) ∧ Fld Z h a1 "com/example/long_fuse/longfuse/Submission" "maxAttempts" "I" (.int (5 : Int32)) ∧ Fld Z h a1 "com/example/long_fuse/longfuse/Submission" "backoff" "Ljava/time/Duration;" (.ref w_DEFAULT_BACKOFF) ∧ Fld Z h a1 "com/example/long_fuse/longfuse/Submission" "retention" "Ljava/time/Duration;" (.ref w_DEFAULT_RETENTION) ∧ Fld Z h a1 "com/example/long_fuse/longfuse/Submission" "dueAt" "Ljava/time/Instant;" .null ∧ Fld Z h a1 "com/example/long_fuse/longfuse/Submission" "delay" "Ljava/time/Duration;" (.ref a2) ∧ Fld Z h a1 "com/example/long_fuse/longfuse/Submission" "key" "Ljava/lang/String;" .null) := by
  refine Ct.of (plainFor_of_name pn_Submission_611) ?_
  intro p e s m below meth c T0 X0 hx hby hml hown hnm hret hlk hZ e0
  have hown : s.vm.findClass "com/example/long_fuse/longfuse/Submission" = some m.cls := hown
  have hml : c.maxLocals = 3 := hml
  have N0 := Fr.nil n0
  refine Go.cast (g' := mkF m 0 #[.val (.ref a1), .val .null, .val (.ref a2)] []) (by first | (simp [entryFrame, mkF, argsToLocals, Value.category]; done) | rfl) ?_
  have K : Keep h0 h0 [a1] := Keep.refl _ _
  refine Go.by (T' := T0) (g' := (mkF m 1 #[.val (.ref a1), .val .null, .val (.ref a2)] [(.ref a1)])) (fun t k => ?_) ?_
  · show Steps p.tables e below (T0.setTop (mkF m 0 #[.val (.ref a1), .val .null, .val (.ref a2)] [])) _
    refine XS.aloadN X0.here hx rfl (hb hby d_p11_m1_0) rfl rfl ?_
    exact k
  refine Go.initO X0 hx hZ hown (wd hw 11 rfl) (wd hw 12 rfl) (wd hw 13 rfl) e0 (by rw [hml]; rfl) (hb hby d_p11_m1_1) (by decide) (W := 0) rfl (by decide) ?_
  intro T1 X1 e1
  show Go p e below _ T1 (mkF m 4 #[.val (.ref a1), .val .null, .val (.ref a2)] [])
  refine Go.by (T' := T1) (g' := (mkF m 5 #[.val (.ref a1), .val .null, .val (.ref a2)] [(.ref a1)])) (fun t k => ?_) ?_
  · show Steps p.tables e below (T1.setTop (mkF m 4 #[.val (.ref a1), .val .null, .val (.ref a2)] [])) _
    refine XS.aloadN X1.here hx rfl (hb hby d_p11_m1_4) rfl rfl ?_
    exact k
  refine Go.getS X1 hx hZ hown (wd hw 14 rfl) Via.refl e1 (S_NO_PAYLOAD.ext O.2) (hb hby d_p11_m1_5) ?_
  intro T2 X2 e2
  show Go p e below _ T2 (mkF m 8 #[.val (.ref a1), .val .null, .val (.ref a2)] [(.ref w_NO_PAYLOAD), (.ref a1)])
  refine Go.putF X2 hx hZ hown (wd hw 16 rfl) Via.refl e2 F_a1_payload E_a1 (Or.inl (wd hw 17 rfl)) (wd hw 5 rfl) (ty := (.array .byte)) (by decide) rfl rfl (hb hby d_p11_m1_8) ?_
  intro T3 h3 X3 e3 W3
  replace E_a1 := E_a1.wr W3
  replace F_a1_payload := F_a1_payload.same W3
  replace F_a1_maxAttempts := F_a1_maxAttempts.other W3 (Or.inr (slot_ne (a0 := a0) (Or.inl (wd hw 19 rfl)) (Or.inl (wd hw 17 rfl)) (by decide) (t := .int) (t' := (.array .byte)) (by decide) (by decide)))
  replace F_a1_backoff := F_a1_backoff.other W3 (Or.inr (slot_ne (a0 := a0) (Or.inl (wd hw 23 rfl)) (Or.inl (wd hw 17 rfl)) (by decide) (t := (.object "java/time/Duration")) (t' := (.array .byte)) (by decide) (by decide)))
  replace F_a1_retention := F_a1_retention.other W3 (Or.inr (slot_ne (a0 := a0) (Or.inl (wd hw 27 rfl)) (Or.inl (wd hw 17 rfl)) (by decide) (t := (.object "java/time/Duration")) (t' := (.array .byte)) (by decide) (by decide)))
  replace F_a1_dueAt := F_a1_dueAt.other W3 (Or.inr (slot_ne (a0 := a0) (Or.inr (wd hw 29 rfl)) (Or.inl (wd hw 17 rfl)) (by decide) (t := (.object "java/time/Instant")) (t' := (.array .byte)) (by decide) (by decide)))
  replace F_a1_delay := F_a1_delay.other W3 (Or.inr (slot_ne (a0 := a0) (Or.inr (wd hw 31 rfl)) (Or.inl (wd hw 17 rfl)) (by decide) (t := (.object "java/time/Duration")) (t' := (.array .byte)) (by decide) (by decide)))
  replace F_a1_key := F_a1_key.other W3 (Or.inr (slot_ne (a0 := a0) (Or.inl (wd hw 49 rfl)) (Or.inl (wd hw 17 rfl)) (by decide) (t := (.object "java/lang/String")) (t' := (.array .byte)) (by decide) (by decide)))
  replace O := O.wr W3 g_a1
  have N3 := Fr.snoc X3 N0 g_a1
  replace K := K.wr W3 (Or.inl (List.mem_of_getElem? (i := 0) rfl))
  show Go p e below _ T3 (mkF m 11 #[.val (.ref a1), .val .null, .val (.ref a2)] [])
  refine Go.by (T' := T3) (g' := (mkF m 13 #[.val (.ref a1), .val .null, .val (.ref a2)] [(.int (5 : Int32)), (.ref a1)])) (fun t k => ?_) ?_
  · show Steps p.tables e below (T3.setTop (mkF m 11 #[.val (.ref a1), .val .null, .val (.ref a2)] [])) _
    refine XS.aloadN X3.here hx rfl (hb hby d_p11_m1_11) rfl rfl ?_
    show Steps p.tables e below (T3.setTop (mkF m 12 #[.val (.ref a1), .val .null, .val (.ref a2)] [(.ref a1)])) _
    refine XS.iconst X3.here hx rfl (hb hby d_p11_m1_12) ?_
    exact k
  refine Go.putF X3 hx hZ hown (wd hw 18 rfl) Via.refl e3 F_a1_maxAttempts E_a1 (Or.inl (wd hw 19 rfl)) (wd hw 5 rfl) (ty := .int) (by decide) rfl rfl (hb hby d_p11_m1_13) ?_
  intro T4 h4 X4 e4 W4
  replace E_a1 := E_a1.wr W4
  replace F_a1_payload := F_a1_payload.other W4 (Or.inr (slot_ne (a0 := a0) (Or.inl (wd hw 17 rfl)) (Or.inl (wd hw 19 rfl)) (by decide) (t := (.array .byte)) (t' := .int) (by decide) (by decide)))
  replace F_a1_maxAttempts := F_a1_maxAttempts.same W4
  replace F_a1_backoff := F_a1_backoff.other W4 (Or.inr (slot_ne (a0 := a0) (Or.inl (wd hw 23 rfl)) (Or.inl (wd hw 19 rfl)) (by decide) (t := (.object "java/time/Duration")) (t' := .int) (by decide) (by decide)))
  replace F_a1_retention := F_a1_retention.other W4 (Or.inr (slot_ne (a0 := a0) (Or.inl (wd hw 27 rfl)) (Or.inl (wd hw 19 rfl)) (by decide) (t := (.object "java/time/Duration")) (t' := .int) (by decide) (by decide)))
  replace F_a1_dueAt := F_a1_dueAt.other W4 (Or.inr (slot_ne (a0 := a0) (Or.inr (wd hw 29 rfl)) (Or.inl (wd hw 19 rfl)) (by decide) (t := (.object "java/time/Instant")) (t' := .int) (by decide) (by decide)))
  replace F_a1_delay := F_a1_delay.other W4 (Or.inr (slot_ne (a0 := a0) (Or.inr (wd hw 31 rfl)) (Or.inl (wd hw 19 rfl)) (by decide) (t := (.object "java/time/Duration")) (t' := .int) (by decide) (by decide)))
  replace F_a1_key := F_a1_key.other W4 (Or.inr (slot_ne (a0 := a0) (Or.inl (wd hw 49 rfl)) (Or.inl (wd hw 19 rfl)) (by decide) (t := (.object "java/lang/String")) (t' := .int) (by decide) (by decide)))
  replace O := O.wr W4 g_a1
  have N4 := Fr.snoc X4 N3 g_a1
  replace K := K.wr W4 (Or.inl (List.mem_of_getElem? (i := 0) rfl))
  show Go p e below _ T4 (mkF m 16 #[.val (.ref a1), .val .null, .val (.ref a2)] [])
  refine Go.by (T' := T4) (g' := (mkF m 17 #[.val (.ref a1), .val .null, .val (.ref a2)] [(.ref a1)])) (fun t k => ?_) ?_
  · show Steps p.tables e below (T4.setTop (mkF m 16 #[.val (.ref a1), .val .null, .val (.ref a2)] [])) _
    refine XS.aloadN X4.here hx rfl (hb hby d_p11_m1_16) rfl rfl ?_
    exact k
  refine Go.getS X4 hx hZ hown (wd hw 20 rfl) Via.refl e4 (S_DEFAULT_BACKOFF.ext O.2) (hb hby d_p11_m1_17) ?_
  intro T5 X5 e5
  show Go p e below _ T5 (mkF m 20 #[.val (.ref a1), .val .null, .val (.ref a2)] [(.ref w_DEFAULT_BACKOFF), (.ref a1)])
  refine Go.putF X5 hx hZ hown (wd hw 22 rfl) Via.refl e5 F_a1_backoff E_a1 (Or.inl (wd hw 23 rfl)) (wd hw 5 rfl) (ty := (.object "java/time/Duration")) (by decide) rfl rfl (hb hby d_p11_m1_20) ?_
  intro T6 h6 X6 e6 W6
  replace E_a1 := E_a1.wr W6
  replace F_a1_payload := F_a1_payload.other W6 (Or.inr (slot_ne (a0 := a0) (Or.inl (wd hw 17 rfl)) (Or.inl (wd hw 23 rfl)) (by decide) (t := (.array .byte)) (t' := (.object "java/time/Duration")) (by decide) (by decide)))
  replace F_a1_maxAttempts := F_a1_maxAttempts.other W6 (Or.inr (slot_ne (a0 := a0) (Or.inl (wd hw 19 rfl)) (Or.inl (wd hw 23 rfl)) (by decide) (t := .int) (t' := (.object "java/time/Duration")) (by decide) (by decide)))
  replace F_a1_backoff := F_a1_backoff.same W6
  replace F_a1_retention := F_a1_retention.other W6 (Or.inr (slot_ne (a0 := a0) (Or.inl (wd hw 27 rfl)) (Or.inl (wd hw 23 rfl)) (by decide) (t := (.object "java/time/Duration")) (t' := (.object "java/time/Duration")) (by decide) (by decide)))
  replace F_a1_dueAt := F_a1_dueAt.other W6 (Or.inr (slot_ne (a0 := a0) (Or.inr (wd hw 29 rfl)) (Or.inl (wd hw 23 rfl)) (by decide) (t := (.object "java/time/Instant")) (t' := (.object "java/time/Duration")) (by decide) (by decide)))
  replace F_a1_delay := F_a1_delay.other W6 (Or.inr (slot_ne (a0 := a0) (Or.inr (wd hw 31 rfl)) (Or.inl (wd hw 23 rfl)) (by decide) (t := (.object "java/time/Duration")) (t' := (.object "java/time/Duration")) (by decide) (by decide)))
  replace F_a1_key := F_a1_key.other W6 (Or.inr (slot_ne (a0 := a0) (Or.inl (wd hw 49 rfl)) (Or.inl (wd hw 23 rfl)) (by decide) (t := (.object "java/lang/String")) (t' := (.object "java/time/Duration")) (by decide) (by decide)))
  replace O := O.wr W6 g_a1
  have N6 := Fr.snoc X6 N4 g_a1
  replace K := K.wr W6 (Or.inl (List.mem_of_getElem? (i := 0) rfl))
  show Go p e below _ T6 (mkF m 23 #[.val (.ref a1), .val .null, .val (.ref a2)] [])
  refine Go.by (T' := T6) (g' := (mkF m 24 #[.val (.ref a1), .val .null, .val (.ref a2)] [(.ref a1)])) (fun t k => ?_) ?_
  · show Steps p.tables e below (T6.setTop (mkF m 23 #[.val (.ref a1), .val .null, .val (.ref a2)] [])) _
    refine XS.aloadN X6.here hx rfl (hb hby d_p11_m1_23) rfl rfl ?_
    exact k
  refine Go.getS X6 hx hZ hown (wd hw 24 rfl) Via.refl e6 (S_DEFAULT_RETENTION.ext O.2) (hb hby d_p11_m1_24) ?_
  intro T7 X7 e7
  show Go p e below _ T7 (mkF m 27 #[.val (.ref a1), .val .null, .val (.ref a2)] [(.ref w_DEFAULT_RETENTION), (.ref a1)])
  refine Go.putF X7 hx hZ hown (wd hw 26 rfl) Via.refl e7 F_a1_retention E_a1 (Or.inl (wd hw 27 rfl)) (wd hw 5 rfl) (ty := (.object "java/time/Duration")) (by decide) rfl rfl (hb hby d_p11_m1_27) ?_
  intro T8 h8 X8 e8 W8
  replace E_a1 := E_a1.wr W8
  replace F_a1_payload := F_a1_payload.other W8 (Or.inr (slot_ne (a0 := a0) (Or.inl (wd hw 17 rfl)) (Or.inl (wd hw 27 rfl)) (by decide) (t := (.array .byte)) (t' := (.object "java/time/Duration")) (by decide) (by decide)))
  replace F_a1_maxAttempts := F_a1_maxAttempts.other W8 (Or.inr (slot_ne (a0 := a0) (Or.inl (wd hw 19 rfl)) (Or.inl (wd hw 27 rfl)) (by decide) (t := .int) (t' := (.object "java/time/Duration")) (by decide) (by decide)))
  replace F_a1_backoff := F_a1_backoff.other W8 (Or.inr (slot_ne (a0 := a0) (Or.inl (wd hw 23 rfl)) (Or.inl (wd hw 27 rfl)) (by decide) (t := (.object "java/time/Duration")) (t' := (.object "java/time/Duration")) (by decide) (by decide)))
  replace F_a1_retention := F_a1_retention.same W8
  replace F_a1_dueAt := F_a1_dueAt.other W8 (Or.inr (slot_ne (a0 := a0) (Or.inr (wd hw 29 rfl)) (Or.inl (wd hw 27 rfl)) (by decide) (t := (.object "java/time/Instant")) (t' := (.object "java/time/Duration")) (by decide) (by decide)))
  replace F_a1_delay := F_a1_delay.other W8 (Or.inr (slot_ne (a0 := a0) (Or.inr (wd hw 31 rfl)) (Or.inl (wd hw 27 rfl)) (by decide) (t := (.object "java/time/Duration")) (t' := (.object "java/time/Duration")) (by decide) (by decide)))
  replace F_a1_key := F_a1_key.other W8 (Or.inr (slot_ne (a0 := a0) (Or.inl (wd hw 49 rfl)) (Or.inl (wd hw 27 rfl)) (by decide) (t := (.object "java/lang/String")) (t' := (.object "java/time/Duration")) (by decide) (by decide)))
  replace O := O.wr W8 g_a1
  have N8 := Fr.snoc X8 N6 g_a1
  replace K := K.wr W8 (Or.inl (List.mem_of_getElem? (i := 0) rfl))
  show Go p e below _ T8 (mkF m 30 #[.val (.ref a1), .val .null, .val (.ref a2)] [])
  refine Go.by (T' := T8) (g' := (mkF m 32 #[.val (.ref a1), .val .null, .val (.ref a2)] [.null, (.ref a1)])) (fun t k => ?_) ?_
  · show Steps p.tables e below (T8.setTop (mkF m 30 #[.val (.ref a1), .val .null, .val (.ref a2)] [])) _
    refine XS.aloadN X8.here hx rfl (hb hby d_p11_m1_30) rfl rfl ?_
    show Steps p.tables e below (T8.setTop (mkF m 31 #[.val (.ref a1), .val .null, .val (.ref a2)] [(.ref a1)])) _
    refine XS.aloadN X8.here hx rfl (hb hby d_p11_m1_31) rfl rfl ?_
    exact k
  refine Go.putF X8 hx hZ hown (wd hw 28 rfl) Via.refl e8 F_a1_dueAt E_a1 (Or.inr ⟨(wd hw 29 rfl), rfl, hnm⟩) (wd hw 5 rfl) (ty := (.object "java/time/Instant")) (by decide) rfl rfl (hb hby d_p11_m1_32) ?_
  intro T9 h9 X9 e9 W9
  replace E_a1 := E_a1.wr W9
  replace F_a1_payload := F_a1_payload.other W9 (Or.inr (slot_ne (a0 := a0) (Or.inl (wd hw 17 rfl)) (Or.inr (wd hw 29 rfl)) (by decide) (t := (.array .byte)) (t' := (.object "java/time/Instant")) (by decide) (by decide)))
  replace F_a1_maxAttempts := F_a1_maxAttempts.other W9 (Or.inr (slot_ne (a0 := a0) (Or.inl (wd hw 19 rfl)) (Or.inr (wd hw 29 rfl)) (by decide) (t := .int) (t' := (.object "java/time/Instant")) (by decide) (by decide)))
  replace F_a1_backoff := F_a1_backoff.other W9 (Or.inr (slot_ne (a0 := a0) (Or.inl (wd hw 23 rfl)) (Or.inr (wd hw 29 rfl)) (by decide) (t := (.object "java/time/Duration")) (t' := (.object "java/time/Instant")) (by decide) (by decide)))
  replace F_a1_retention := F_a1_retention.other W9 (Or.inr (slot_ne (a0 := a0) (Or.inl (wd hw 27 rfl)) (Or.inr (wd hw 29 rfl)) (by decide) (t := (.object "java/time/Duration")) (t' := (.object "java/time/Instant")) (by decide) (by decide)))
  replace F_a1_dueAt := F_a1_dueAt.same W9
  replace F_a1_delay := F_a1_delay.other W9 (Or.inr (slot_ne (a0 := a0) (Or.inr (wd hw 31 rfl)) (Or.inr (wd hw 29 rfl)) (by decide) (t := (.object "java/time/Duration")) (t' := (.object "java/time/Instant")) (by decide) (by decide)))
  replace F_a1_key := F_a1_key.other W9 (Or.inr (slot_ne (a0 := a0) (Or.inl (wd hw 49 rfl)) (Or.inr (wd hw 29 rfl)) (by decide) (t := (.object "java/lang/String")) (t' := (.object "java/time/Instant")) (by decide) (by decide)))
  replace O := O.wr W9 g_a1
  have N9 := Fr.snoc X9 N8 g_a1
  replace K := K.wr W9 (Or.inl (List.mem_of_getElem? (i := 0) rfl))
  show Go p e below _ T9 (mkF m 35 #[.val (.ref a1), .val .null, .val (.ref a2)] [])
  refine Go.by (T' := T9) (g' := (mkF m 37 #[.val (.ref a1), .val .null, .val (.ref a2)] [(.ref a2), (.ref a1)])) (fun t k => ?_) ?_
  · show Steps p.tables e below (T9.setTop (mkF m 35 #[.val (.ref a1), .val .null, .val (.ref a2)] [])) _
    refine XS.aloadN X9.here hx rfl (hb hby d_p11_m1_35) rfl rfl ?_
    show Steps p.tables e below (T9.setTop (mkF m 36 #[.val (.ref a1), .val .null, .val (.ref a2)] [(.ref a1)])) _
    refine XS.aloadN X9.here hx rfl (hb hby d_p11_m1_36) rfl rfl ?_
    exact k
  refine Go.putF X9 hx hZ hown (wd hw 30 rfl) Via.refl e9 F_a1_delay E_a1 (Or.inr ⟨(wd hw 31 rfl), rfl, hnm⟩) (wd hw 5 rfl) (ty := (.object "java/time/Duration")) (by decide) rfl rfl (hb hby d_p11_m1_37) ?_
  intro T10 h10 X10 e10 W10
  replace E_a1 := E_a1.wr W10
  replace F_a1_payload := F_a1_payload.other W10 (Or.inr (slot_ne (a0 := a0) (Or.inl (wd hw 17 rfl)) (Or.inr (wd hw 31 rfl)) (by decide) (t := (.array .byte)) (t' := (.object "java/time/Duration")) (by decide) (by decide)))
  replace F_a1_maxAttempts := F_a1_maxAttempts.other W10 (Or.inr (slot_ne (a0 := a0) (Or.inl (wd hw 19 rfl)) (Or.inr (wd hw 31 rfl)) (by decide) (t := .int) (t' := (.object "java/time/Duration")) (by decide) (by decide)))
  replace F_a1_backoff := F_a1_backoff.other W10 (Or.inr (slot_ne (a0 := a0) (Or.inl (wd hw 23 rfl)) (Or.inr (wd hw 31 rfl)) (by decide) (t := (.object "java/time/Duration")) (t' := (.object "java/time/Duration")) (by decide) (by decide)))
  replace F_a1_retention := F_a1_retention.other W10 (Or.inr (slot_ne (a0 := a0) (Or.inl (wd hw 27 rfl)) (Or.inr (wd hw 31 rfl)) (by decide) (t := (.object "java/time/Duration")) (t' := (.object "java/time/Duration")) (by decide) (by decide)))
  replace F_a1_dueAt := F_a1_dueAt.other W10 (Or.inr (slot_ne (a0 := a0) (Or.inr (wd hw 29 rfl)) (Or.inr (wd hw 31 rfl)) (by decide) (t := (.object "java/time/Instant")) (t' := (.object "java/time/Duration")) (by decide) (by decide)))
  replace F_a1_delay := F_a1_delay.same W10
  replace F_a1_key := F_a1_key.other W10 (Or.inr (slot_ne (a0 := a0) (Or.inl (wd hw 49 rfl)) (Or.inr (wd hw 31 rfl)) (by decide) (t := (.object "java/lang/String")) (t' := (.object "java/time/Duration")) (by decide) (by decide)))
  replace O := O.wr W10 g_a1
  have N10 := Fr.snoc X10 N9 g_a1
  replace K := K.wr W10 (Or.inl (List.mem_of_getElem? (i := 0) rfl))
  show Go p e below _ T10 (mkF m 40 #[.val (.ref a1), .val .null, .val (.ref a2)] [])
  refine Go.retV X10 hx hlk hret (hb hby d_p11_m1_40) (by decide) (by decide) e10 ?_
  exact ⟨rfl, N10, K, F_a1_payload, F_a1_maxAttempts, F_a1_backoff, F_a1_retention, F_a1_dueAt, F_a1_delay, F_a1_key⟩
set_option maxRecDepth 65536 in
set_option maxHeartbeats 40000000 in
theorem ct_dueNow (l : Launch) (Z : State) (a0 : Array Value) (hw : ∀ d ∈ tables_1, d.before a0 Z = true) (w_ZERO : Addr) (w_NO_PAYLOAD : Addr) (w_DEFAULT_BACKOFF : Addr) (w_DEFAULT_RETENTION : Addr) (cl_NP : Cell) (S_ZERO : Sta Z Z.heap "java/time/Duration" "ZERO" "Ljava/time/Duration;" (.ref w_ZERO)) (S_NO_PAYLOAD : Sta Z Z.heap "com/example/long_fuse/longfuse/Submission" "NO_PAYLOAD" "[B" (.ref w_NO_PAYLOAD)) (S_DEFAULT_BACKOFF : Sta Z Z.heap "com/example/long_fuse/longfuse/Submission" "DEFAULT_BACKOFF" "Ljava/time/Duration;" (.ref w_DEFAULT_BACKOFF)) (S_DEFAULT_RETENTION : Sta Z Z.heap "com/example/long_fuse/longfuse/Submission" "DEFAULT_RETENTION" "Ljava/time/Duration;" (.ref w_DEFAULT_RETENTION)) (A_NP : Arr Z Z.heap w_NO_PAYLOAD cl_NP .byte) (z_NP : cl_NP.slots.size.toInt32 = 0) (h0 : Heap) (n0 : Nat) (O : Old Z n0 h0)  :
    Ct l (⟨"com/example/long_fuse/longfuse/Submission", "dueNow", "()Lcom/example/long_fuse/longfuse/Submission;"⟩ : MethodName) prog_11_method_3_code 0 (some (.object "com/example/long_fuse/longfuse/Submission")) ({ frames := 2, cells := 1, slots := 7, locals := 27 } : Room) Z #[] h0 (fun v h L => ∃ b, v = some (.ref b) ∧ Fr n0 L ∧ Keep h0 h [] ∧ h0.size ≤ b ∧ Exa Z h b "com/example/long_fuse/longfuse/Submission" ∧ Fld Z h b "com/example/long_fuse/longfuse/Submission" "payload" "[B" (.ref w_NO_PAYLOAD) ∧ Fld Z h b "com/example/long_fuse/longfuse/Submission" "maxAttempts" "I" (.int (5 : Int32)) ∧ Fld Z h b "com/example/long_fuse/longfuse/Submission" "backoff" "Ljava/time/Duration;" (.ref w_DEFAULT_BACKOFF) ∧ Fld Z h b "com/example/long_fuse/longfuse/Submission" "retention" "Ljava/time/Duration;" (.ref w_DEFAULT_RETENTION) ∧ Fld Z h b "com/example/long_fuse/longfuse/Submission" "dueAt" "Ljava/time/Instant;" .null ∧ Fld Z h b "com/example/long_fuse/longfuse/Submission" "delay" "Ljava/time/Duration;" (.ref w_ZERO) ∧ Fld Z h b "com/example/long_fuse/longfuse/Submission" "key" "Ljava/lang/String;" .null) := by
  refine Ct.of (plainFor_of_name pn_Submission_611) ?_
  intro p e s m below meth c T0 X0 hx hby hml hown hnm hret hlk hZ e0
  have hown : s.vm.findClass "com/example/long_fuse/longfuse/Submission" = some m.cls := hown
  have hml : c.maxLocals = 0 := hml
  have N0 := Fr.nil n0
  refine Go.cast (g' := mkF m 0 #[] []) (by first | (simp [entryFrame, mkF, argsToLocals, Value.category]; done) | rfl) ?_
  have K : Keep h0 h0 [] := Keep.refl _ _
  refine Go.newO X0 hx hZ hown (wd hw 4 rfl) (wd hw 5 rfl) (wd hw 2 rfl) e0 (hb hby d_p11_m3_0) (by decide) (by decide) ?_
  intro T1 h1 b1 X1 e1 E1 g1 A1 D1
  have lb1 := Nat.le_of_eq g1.symm
  have g_b1 : n0 ≤ b1 := Nat.le_trans (OwnKit.Old.le O) lb1
  have sz_b1 : h0.size ≤ b1 := Nat.le_trans K.1 lb1
  replace O := O.ext E1
  replace K := K.ext E1
  have E_b1 := A1
  have F_b1_payload : Fld Z h1 b1 "com/example/long_fuse/longfuse/Submission" "payload" "[B" .null := D1 (Or.inl (wd hw 17 rfl)) (ty := (.array .byte)) (by decide)
  have F_b1_maxAttempts : Fld Z h1 b1 "com/example/long_fuse/longfuse/Submission" "maxAttempts" "I" (.int (0 : Int32)) := D1 (Or.inl (wd hw 19 rfl)) (ty := .int) (by decide)
  have F_b1_backoff : Fld Z h1 b1 "com/example/long_fuse/longfuse/Submission" "backoff" "Ljava/time/Duration;" .null := D1 (Or.inl (wd hw 23 rfl)) (ty := (.object "java/time/Duration")) (by decide)
  have F_b1_retention : Fld Z h1 b1 "com/example/long_fuse/longfuse/Submission" "retention" "Ljava/time/Duration;" .null := D1 (Or.inl (wd hw 27 rfl)) (ty := (.object "java/time/Duration")) (by decide)
  have F_b1_dueAt : Fld Z h1 b1 "com/example/long_fuse/longfuse/Submission" "dueAt" "Ljava/time/Instant;" .null := D1 (Or.inr (wd hw 29 rfl)) (ty := (.object "java/time/Instant")) (by decide)
  have F_b1_delay : Fld Z h1 b1 "com/example/long_fuse/longfuse/Submission" "delay" "Ljava/time/Duration;" .null := D1 (Or.inr (wd hw 31 rfl)) (ty := (.object "java/time/Duration")) (by decide)
  have F_b1_key : Fld Z h1 b1 "com/example/long_fuse/longfuse/Submission" "key" "Ljava/lang/String;" .null := D1 (Or.inl (wd hw 49 rfl)) (ty := (.object "java/lang/String")) (by decide)
  show Go p e below _ T1 (mkF m 3 #[] [(.ref b1)])
  refine Go.by (T' := T1) (g' := (mkF m 5 #[] [.null, (.ref b1), (.ref b1)])) (fun t k => ?_) ?_
  · show Steps p.tables e below (T1.setTop (mkF m 3 #[] [(.ref b1)])) _
    refine XS.dup X1.here hx rfl (hb hby d_p11_m3_3) rfl rfl ?_
    show Steps p.tables e below (T1.setTop (mkF m 4 #[] [(.ref b1), (.ref b1)])) _
    refine XS.aconstNull X1.here hx rfl (hb hby d_p11_m3_4) ?_
    exact k
  refine Go.getS X1 hx hZ hown (wd hw 6 rfl) Via.refl e1 (S_ZERO.ext O.2) (hb hby d_p11_m3_5) ?_
  intro T2 X2 e2
  show Go p e below _ T2 (mkF m 8 #[] [(.ref w_ZERO), .null, (.ref b1), (.ref b1)])
  refine Go.callC X2 hx hZ (W := 1) (argsL := [.null, (.ref w_ZERO)]) (rest := [(.ref b1)]) hown rfl (wd hw 8 rfl) (wd hw 9 rfl) (wd hw 2 rfl) (wd hw 10 rfl) (by decide) (ct_init l Z a0 hw w_ZERO w_NO_PAYLOAD w_DEFAULT_BACKOFF w_DEFAULT_RETENTION cl_NP S_ZERO S_NO_PAYLOAD S_DEFAULT_BACKOFF S_DEFAULT_RETENTION A_NP z_NP b1 w_ZERO h1 n0 O E_b1 F_b1_payload F_b1_maxAttempts F_b1_backoff F_b1_retention F_b1_dueAt F_b1_delay F_b1_key g_b1) e2 (by rw [hml]; rfl) (lenOf pd__Ljava_time_Instant_Ljava_time_Duration__6488 rfl) rfl rfl (hb hby d_p11_m3_8) (by decide) (by decide) (by decide) (by decide) ?_
  intro v3 T3 h3 L3 X3 e3 q3
  obtain ⟨rfl, N3, K3, F0_3, F1_3, F2_3, F3_3, F4_3, F5_3, F6_3⟩ := q3
  replace N3 := Fr.app N0 N3
  replace E_b1 := E_b1.keep K3
  clear F_b1_payload
  clear F_b1_maxAttempts
  clear F_b1_backoff
  clear F_b1_retention
  clear F_b1_dueAt
  clear F_b1_delay
  clear F_b1_key
  replace O := O.keep K3 (allS g_b1 all0)
  replace K := K.trans K3 (allS (Or.inr sz_b1) all0)
  show Go p e below _ T3 (mkF m 11 #[] [(.ref b1)])
  refine Go.retA X3 hx hlk hret rfl rfl (hb hby d_p11_m3_11) (by decide) (by decide) e3 ?_
  exact ⟨b1, rfl, N3, K, sz_b1, E_b1, F0_3, F1_3, F2_3, F3_3, F4_3, F5_3, F6_3⟩
set_option maxRecDepth 65536 in
set_option maxHeartbeats 40000000 in
theorem ct_get_dueAt_null_0 (l : Launch) (Z : State) (a0 : Array Value) (hw : ∀ d ∈ tables_1, d.before a0 Z = true) (a1 : Addr) (h0 : Heap) (n0 : Nat) (O : Old Z n0 h0) (F_a1 : Fld Z h0 a1 "com/example/long_fuse/longfuse/Submission" "dueAt" "Ljava/time/Instant;" .null) :
    Ct l (⟨"com/example/long_fuse/longfuse/Submission", "dueAt", "()Ljava/time/Instant;"⟩ : MethodName) prog_11_method_13_code 1 (some (.object "java/time/Instant")) ({ frames := 0, cells := 0, slots := 0, locals := 0 } : Room) Z #[(.ref a1)] h0 (fun v h L => v = some .null ∧ Fr n0 L ∧ h0 = h) := by
  refine Ct.of (plainFor_of_name pn_Submission_611) ?_
  intro p e s m below meth c T0 X0 hx hby hml hown hnm hret hlk hZ e0
  have hown : s.vm.findClass "com/example/long_fuse/longfuse/Submission" = some m.cls := hown
  have hml : c.maxLocals = 1 := hml
  have N0 := Fr.nil n0
  refine Go.cast (g' := mkF m 0 #[.val (.ref a1)] []) (by first | (simp [entryFrame, mkF, argsToLocals, Value.category]; done) | rfl) ?_
  refine Go.by (T' := T0) (g' := (mkF m 1 #[.val (.ref a1)] [(.ref a1)])) (fun t k => ?_) ?_
  · show Steps p.tables e below (T0.setTop (mkF m 0 #[.val (.ref a1)] [])) _
    refine XS.aloadN X0.here hx rfl (hb hby d_p11_m13_0) rfl rfl ?_
    exact k
  refine Go.getF X0 hx hZ hown (wd hw 28 rfl) Via.refl e0 F_a1 (hb hby d_p11_m13_1) ?_
  intro T1 X1 e1
  show Go p e below _ T1 (mkF m 4 #[.val (.ref a1)] [.null])
  refine Go.retA X1 hx hlk hret rfl rfl (hb hby d_p11_m13_4) (by decide) (by decide) e1 ?_
  exact ⟨rfl, N0, rfl⟩
set_option maxRecDepth 65536 in
set_option maxHeartbeats 40000000 in
theorem ct_get_delay_R_1 (l : Launch) (Z : State) (a0 : Array Value) (hw : ∀ d ∈ tables_1, d.before a0 Z = true) (a1 : Addr) (a2 : Addr) (h0 : Heap) (n0 : Nat) (O : Old Z n0 h0) (F_a1 : Fld Z h0 a1 "com/example/long_fuse/longfuse/Submission" "delay" "Ljava/time/Duration;" (.ref a2)) :
    Ct l (⟨"com/example/long_fuse/longfuse/Submission", "delay", "()Ljava/time/Duration;"⟩ : MethodName) prog_11_method_14_code 1 (some (.object "java/time/Duration")) ({ frames := 0, cells := 0, slots := 0, locals := 0 } : Room) Z #[(.ref a1)] h0 (fun v h L => v = some (.ref a2) ∧ Fr n0 L ∧ h0 = h) := by
  refine Ct.of (plainFor_of_name pn_Submission_611) ?_
  intro p e s m below meth c T0 X0 hx hby hml hown hnm hret hlk hZ e0
  have hown : s.vm.findClass "com/example/long_fuse/longfuse/Submission" = some m.cls := hown
  have hml : c.maxLocals = 1 := hml
  have N0 := Fr.nil n0
  refine Go.cast (g' := mkF m 0 #[.val (.ref a1)] []) (by first | (simp [entryFrame, mkF, argsToLocals, Value.category]; done) | rfl) ?_
  refine Go.by (T' := T0) (g' := (mkF m 1 #[.val (.ref a1)] [(.ref a1)])) (fun t k => ?_) ?_
  · show Steps p.tables e below (T0.setTop (mkF m 0 #[.val (.ref a1)] [])) _
    refine XS.aloadN X0.here hx rfl (hb hby d_p11_m14_0) rfl rfl ?_
    exact k
  refine Go.getF X0 hx hZ hown (wd hw 30 rfl) Via.refl e0 F_a1 (hb hby d_p11_m14_1) ?_
  intro T1 X1 e1
  show Go p e below _ T1 (mkF m 4 #[.val (.ref a1)] [(.ref a2)])
  refine Go.retA X1 hx hlk hret rfl rfl (hb hby d_p11_m14_4) (by decide) (by decide) e1 ?_
  exact ⟨rfl, N0, rfl⟩
set_option maxRecDepth 65536 in
set_option maxHeartbeats 40000000 in
theorem ct_get_key_null_2 (l : Launch) (Z : State) (a0 : Array Value) (hw : ∀ d ∈ tables_1, d.before a0 Z = true) (a1 : Addr) (h0 : Heap) (n0 : Nat) (O : Old Z n0 h0) (F_a1 : Fld Z h0 a1 "com/example/long_fuse/longfuse/Submission" "key" "Ljava/lang/String;" .null) :
    Ct l (⟨"com/example/long_fuse/longfuse/Submission", "key", "()Ljava/lang/String;"⟩ : MethodName) prog_11_method_12_code 1 (some (.object "java/lang/String")) ({ frames := 0, cells := 0, slots := 0, locals := 0 } : Room) Z #[(.ref a1)] h0 (fun v h L => v = some .null ∧ Fr n0 L ∧ h0 = h) := by
  refine Ct.of (plainFor_of_name pn_Submission_611) ?_
  intro p e s m below meth c T0 X0 hx hby hml hown hnm hret hlk hZ e0
  have hown : s.vm.findClass "com/example/long_fuse/longfuse/Submission" = some m.cls := hown
  have hml : c.maxLocals = 1 := hml
  have N0 := Fr.nil n0
  refine Go.cast (g' := mkF m 0 #[.val (.ref a1)] []) (by first | (simp [entryFrame, mkF, argsToLocals, Value.category]; done) | rfl) ?_
  refine Go.by (T' := T0) (g' := (mkF m 1 #[.val (.ref a1)] [(.ref a1)])) (fun t k => ?_) ?_
  · show Steps p.tables e below (T0.setTop (mkF m 0 #[.val (.ref a1)] [])) _
    refine XS.aloadN X0.here hx rfl (hb hby d_p11_m12_0) rfl rfl ?_
    exact k
  refine Go.getF X0 hx hZ hown (wd hw 48 rfl) Via.refl e0 F_a1 (hb hby d_p11_m12_1) ?_
  intro T1 X1 e1
  show Go p e below _ T1 (mkF m 4 #[.val (.ref a1)] [.null])
  refine Go.retA X1 hx hlk hret rfl rfl (hb hby d_p11_m12_4) (by decide) (by decide) e1 ?_
  exact ⟨rfl, N0, rfl⟩
set_option maxRecDepth 65536 in
set_option maxHeartbeats 40000000 in
theorem ct_get_payload_R_3 (l : Launch) (Z : State) (a0 : Array Value) (hw : ∀ d ∈ tables_1, d.before a0 Z = true) (a1 : Addr) (a2 : Addr) (h0 : Heap) (n0 : Nat) (O : Old Z n0 h0) (F_a1 : Fld Z h0 a1 "com/example/long_fuse/longfuse/Submission" "payload" "[B" (.ref a2)) :
    Ct l (⟨"com/example/long_fuse/longfuse/Submission", "payload", "()[B"⟩ : MethodName) prog_11_method_15_code 1 (some (.array .byte)) ({ frames := 0, cells := 0, slots := 0, locals := 0 } : Room) Z #[(.ref a1)] h0 (fun v h L => v = some (.ref a2) ∧ Fr n0 L ∧ h0 = h) := by
  refine Ct.of (plainFor_of_name pn_Submission_611) ?_
  intro p e s m below meth c T0 X0 hx hby hml hown hnm hret hlk hZ e0
  have hown : s.vm.findClass "com/example/long_fuse/longfuse/Submission" = some m.cls := hown
  have hml : c.maxLocals = 1 := hml
  have N0 := Fr.nil n0
  refine Go.cast (g' := mkF m 0 #[.val (.ref a1)] []) (by first | (simp [entryFrame, mkF, argsToLocals, Value.category]; done) | rfl) ?_
  refine Go.by (T' := T0) (g' := (mkF m 1 #[.val (.ref a1)] [(.ref a1)])) (fun t k => ?_) ?_
  · show Steps p.tables e below (T0.setTop (mkF m 0 #[.val (.ref a1)] [])) _
    refine XS.aloadN X0.here hx rfl (hb hby d_p11_m15_0) rfl rfl ?_
    exact k
  refine Go.getF X0 hx hZ hown (wd hw 16 rfl) Via.refl e0 F_a1 (hb hby d_p11_m15_1) ?_
  intro T1 X1 e1
  show Go p e below _ T1 (mkF m 4 #[.val (.ref a1)] [(.ref a2)])
  refine Go.retA X1 hx hlk hret rfl rfl (hb hby d_p11_m15_4) (by decide) (by decide) e1 ?_
  exact ⟨rfl, N0, rfl⟩
set_option maxRecDepth 65536 in
set_option maxHeartbeats 40000000 in
theorem ct_get_maxAttempts_l_5___Int32__4 (l : Launch) (Z : State) (a0 : Array Value) (hw : ∀ d ∈ tables_1, d.before a0 Z = true) (a1 : Addr) (h0 : Heap) (n0 : Nat) (O : Old Z n0 h0) (F_a1 : Fld Z h0 a1 "com/example/long_fuse/longfuse/Submission" "maxAttempts" "I" (.int (5 : Int32))) :
    Ct l (⟨"com/example/long_fuse/longfuse/Submission", "maxAttempts", "()I"⟩ : MethodName) prog_11_method_16_code 1 (some .int) ({ frames := 0, cells := 0, slots := 0, locals := 0 } : Room) Z #[(.ref a1)] h0 (fun v h L => v = some (.int (5 : Int32)) ∧ Fr n0 L ∧ h0 = h) := by
  refine Ct.of (plainFor_of_name pn_Submission_611) ?_
  intro p e s m below meth c T0 X0 hx hby hml hown hnm hret hlk hZ e0
  have hown : s.vm.findClass "com/example/long_fuse/longfuse/Submission" = some m.cls := hown
  have hml : c.maxLocals = 1 := hml
  have N0 := Fr.nil n0
  refine Go.cast (g' := mkF m 0 #[.val (.ref a1)] []) (by first | (simp [entryFrame, mkF, argsToLocals, Value.category]; done) | rfl) ?_
  refine Go.by (T' := T0) (g' := (mkF m 1 #[.val (.ref a1)] [(.ref a1)])) (fun t k => ?_) ?_
  · show Steps p.tables e below (T0.setTop (mkF m 0 #[.val (.ref a1)] [])) _
    refine XS.aloadN X0.here hx rfl (hb hby d_p11_m16_0) rfl rfl ?_
    exact k
  refine Go.getF X0 hx hZ hown (wd hw 18 rfl) Via.refl e0 F_a1 (hb hby d_p11_m16_1) ?_
  intro T1 X1 e1
  show Go p e below _ T1 (mkF m 4 #[.val (.ref a1)] [(.int (5 : Int32))])
  refine Go.retI X1 hx hlk hret (hb hby d_p11_m16_4) (by decide) (by decide) e1 ?_
  exact ⟨rfl, N0, rfl⟩
set_option maxRecDepth 65536 in
set_option maxHeartbeats 40000000 in
theorem ct_get_backoff_R_5 (l : Launch) (Z : State) (a0 : Array Value) (hw : ∀ d ∈ tables_1, d.before a0 Z = true) (a1 : Addr) (a2 : Addr) (h0 : Heap) (n0 : Nat) (O : Old Z n0 h0) (F_a1 : Fld Z h0 a1 "com/example/long_fuse/longfuse/Submission" "backoff" "Ljava/time/Duration;" (.ref a2)) :
    Ct l (⟨"com/example/long_fuse/longfuse/Submission", "backoff", "()Ljava/time/Duration;"⟩ : MethodName) prog_11_method_17_code 1 (some (.object "java/time/Duration")) ({ frames := 0, cells := 0, slots := 0, locals := 0 } : Room) Z #[(.ref a1)] h0 (fun v h L => v = some (.ref a2) ∧ Fr n0 L ∧ h0 = h) := by
  refine Ct.of (plainFor_of_name pn_Submission_611) ?_
  intro p e s m below meth c T0 X0 hx hby hml hown hnm hret hlk hZ e0
  have hown : s.vm.findClass "com/example/long_fuse/longfuse/Submission" = some m.cls := hown
  have hml : c.maxLocals = 1 := hml
  have N0 := Fr.nil n0
  refine Go.cast (g' := mkF m 0 #[.val (.ref a1)] []) (by first | (simp [entryFrame, mkF, argsToLocals, Value.category]; done) | rfl) ?_
  refine Go.by (T' := T0) (g' := (mkF m 1 #[.val (.ref a1)] [(.ref a1)])) (fun t k => ?_) ?_
  · show Steps p.tables e below (T0.setTop (mkF m 0 #[.val (.ref a1)] [])) _
    refine XS.aloadN X0.here hx rfl (hb hby d_p11_m17_0) rfl rfl ?_
    exact k
  refine Go.getF X0 hx hZ hown (wd hw 22 rfl) Via.refl e0 F_a1 (hb hby d_p11_m17_1) ?_
  intro T1 X1 e1
  show Go p e below _ T1 (mkF m 4 #[.val (.ref a1)] [(.ref a2)])
  refine Go.retA X1 hx hlk hret rfl rfl (hb hby d_p11_m17_4) (by decide) (by decide) e1 ?_
  exact ⟨rfl, N0, rfl⟩
set_option maxRecDepth 65536 in
set_option maxHeartbeats 40000000 in
theorem ct_get_retention_R_6 (l : Launch) (Z : State) (a0 : Array Value) (hw : ∀ d ∈ tables_1, d.before a0 Z = true) (a1 : Addr) (a2 : Addr) (h0 : Heap) (n0 : Nat) (O : Old Z n0 h0) (F_a1 : Fld Z h0 a1 "com/example/long_fuse/longfuse/Submission" "retention" "Ljava/time/Duration;" (.ref a2)) :
    Ct l (⟨"com/example/long_fuse/longfuse/Submission", "retention", "()Ljava/time/Duration;"⟩ : MethodName) prog_11_method_18_code 1 (some (.object "java/time/Duration")) ({ frames := 0, cells := 0, slots := 0, locals := 0 } : Room) Z #[(.ref a1)] h0 (fun v h L => v = some (.ref a2) ∧ Fr n0 L ∧ h0 = h) := by
  refine Ct.of (plainFor_of_name pn_Submission_611) ?_
  intro p e s m below meth c T0 X0 hx hby hml hown hnm hret hlk hZ e0
  have hown : s.vm.findClass "com/example/long_fuse/longfuse/Submission" = some m.cls := hown
  have hml : c.maxLocals = 1 := hml
  have N0 := Fr.nil n0
  refine Go.cast (g' := mkF m 0 #[.val (.ref a1)] []) (by first | (simp [entryFrame, mkF, argsToLocals, Value.category]; done) | rfl) ?_
  refine Go.by (T' := T0) (g' := (mkF m 1 #[.val (.ref a1)] [(.ref a1)])) (fun t k => ?_) ?_
  · show Steps p.tables e below (T0.setTop (mkF m 0 #[.val (.ref a1)] [])) _
    refine XS.aloadN X0.here hx rfl (hb hby d_p11_m18_0) rfl rfl ?_
    exact k
  refine Go.getF X0 hx hZ hown (wd hw 26 rfl) Via.refl e0 F_a1 (hb hby d_p11_m18_1) ?_
  intro T1 X1 e1
  show Go p e below _ T1 (mkF m 4 #[.val (.ref a1)] [(.ref a2)])
  refine Go.retA X1 hx hlk hret rfl rfl (hb hby d_p11_m18_4) (by decide) (by decide) e1 ?_
  exact ⟨rfl, N0, rfl⟩
set_option maxRecDepth 65536 in
set_option maxHeartbeats 40000000 in
theorem ct_law (l : Launch) (Z : State) (a0 : Array Value) (hw : ∀ d ∈ tables_1, d.before a0 Z = true) (w_ZERO : Addr) (w_NO_PAYLOAD : Addr) (w_DEFAULT_BACKOFF : Addr) (w_DEFAULT_RETENTION : Addr) (cl_NP : Cell) (S_ZERO : Sta Z Z.heap "java/time/Duration" "ZERO" "Ljava/time/Duration;" (.ref w_ZERO)) (S_NO_PAYLOAD : Sta Z Z.heap "com/example/long_fuse/longfuse/Submission" "NO_PAYLOAD" "[B" (.ref w_NO_PAYLOAD)) (S_DEFAULT_BACKOFF : Sta Z Z.heap "com/example/long_fuse/longfuse/Submission" "DEFAULT_BACKOFF" "Ljava/time/Duration;" (.ref w_DEFAULT_BACKOFF)) (S_DEFAULT_RETENTION : Sta Z Z.heap "com/example/long_fuse/longfuse/Submission" "DEFAULT_RETENTION" "Ljava/time/Duration;" (.ref w_DEFAULT_RETENTION)) (A_NP : Arr Z Z.heap w_NO_PAYLOAD cl_NP .byte) (z_NP : cl_NP.slots.size.toInt32 = 0) (h0 : Heap) (n0 : Nat) (O : Old Z n0 h0)  :
    Ct l x code maxLocals ret room_1 Z #[] h0 (fun v h L => v = some (.int 1) ∧ Fr n0 L) := by
  refine Ct.of (plainFor_of_name pn_SubmissionDueNowPinLaw_100) ?_
  intro p e s m below meth c T0 X0 hx hby hml hown hnm hret hlk hZ e0
  have hown : s.vm.findClass "com/example/long_fuse/longfuse/SubmissionDueNowPinLaw" = some m.cls := hown
  have hml : c.maxLocals = 8 := hml
  have N0 := Fr.nil n0
  refine Go.cast (g' := mkF m 0 #[.unset, .unset, .unset, .unset, .unset, .unset, .unset, .unset] []) (by first | (simp [entryFrame, mkF, argsToLocals, Value.category, maxLocals]; done) | rfl) ?_
  refine Go.callS X0 hx hZ (W := 0) (argsL := []) (rest := []) hown (wd hw 0 rfl) (wd hw 1 rfl) (wd hw 2 rfl) (wd hw 3 rfl) (by decide) (ct_dueNow l Z a0 hw w_ZERO w_NO_PAYLOAD w_DEFAULT_BACKOFF w_DEFAULT_RETENTION cl_NP S_ZERO S_NO_PAYLOAD S_DEFAULT_BACKOFF S_DEFAULT_RETENTION A_NP z_NP  h0 n0 O ) e0 (by rw [hml]; rfl) (lenOf pd___Lcom_example_long_fuse_longfuse_Submis_2235 rfl) rfl rfl (hb hby at_0) (by decide) (by decide) (by decide) (by decide) ?_
  intro v1 T1 h1 L1 X1 e1 q1
  obtain ⟨b0, rfl, N1, K1, lb1, E_b0, F_b0_payload, F_b0_maxAttempts, F_b0_backoff, F_b0_retention, F_b0_dueAt, F_b0_delay, F_b0_key⟩ := q1
  replace N1 := Fr.app N0 N1
  have g_b0 : n0 ≤ b0 := Nat.le_trans (OwnKit.Old.le O) lb1
  replace O := O.keep K1 all0
  show Go p e below _ T1 (mkF m 3 #[.unset, .unset, .unset, .unset, .unset, .unset, .unset, .unset] [(.ref b0)])
  refine Go.by (T' := T1) (g' := (mkF m 11 #[.val (.ref b0), .unset, .unset, .unset, .unset, .unset, .unset, .unset] [(.ref b0)])) (fun t k => ?_) ?_
  · show Steps p.tables e below (T1.setTop (mkF m 3 #[.unset, .unset, .unset, .unset, .unset, .unset, .unset, .unset] [(.ref b0)])) _
    refine XS.astoreN X1.here hx rfl (hb hby at_3) rfl rfl (l' := #[.val (.ref b0), .unset, .unset, .unset, .unset, .unset, .unset, .unset]) rfl ?_
    show Steps p.tables e below (T1.setTop (mkF m 4 #[.val (.ref b0), .unset, .unset, .unset, .unset, .unset, .unset, .unset] [])) _
    refine XS.aloadN X1.here hx rfl (hb hby at_4) rfl rfl ?_
    show Steps p.tables e below (T1.setTop (mkF m 5 #[.val (.ref b0), .unset, .unset, .unset, .unset, .unset, .unset, .unset] [(.ref b0)])) _
    refine XS.ifnonnullYes X1.here hx rfl (pc0 := 5) (pc' := 10) rfl (hb hby at_5) rfl (by decide) (by decide) ?_
    show Steps p.tables e below (T1.setTop (mkF m 10 #[.val (.ref b0), .unset, .unset, .unset, .unset, .unset, .unset, .unset] [])) _
    refine XS.aloadN X1.here hx rfl (hb hby at_10) rfl rfl ?_
    exact k
  refine Go.callV X1 hx hZ (W := 0) (argsL := []) (rest := []) hown (wd hw 32 rfl) (wd hw 33 rfl) (notFace_of_selects (args := #[]) (mvT hZ (wd hw 35 rfl))) (wd hw 35 rfl) (wd hw 34 rfl) (wd hw 2 rfl) (wd hw 36 rfl) (by decide) E_b0 (ct_get_dueAt_null_0 l Z a0 hw  b0 h1 n0 O F_b0_dueAt) e1 (by rw [hml]; rfl) (lenOf pd___Ljava_time_Instant__5584 rfl) rfl rfl (hb hby at_11) (by decide) (by decide) (by decide) (by decide) ?_
  intro v2 T2 h2 L2 X2 e2 q2
  obtain ⟨rfl, N2, rfl⟩ := q2
  replace N2 := Fr.app N1 N2
  show Go p e below _ T2 (mkF m 14 #[.val (.ref b0), .unset, .unset, .unset, .unset, .unset, .unset, .unset] [.null])
  refine Go.by (T' := T2) (g' := (mkF m 24 #[.val (.ref b0), .val (.int (1 : Int32)), .unset, .unset, .unset, .unset, .unset, .unset] [(.ref b0)])) (fun t k => ?_) ?_
  · show Steps p.tables e below (T2.setTop (mkF m 14 #[.val (.ref b0), .unset, .unset, .unset, .unset, .unset, .unset, .unset] [.null])) _
    refine XS.ifnonnullNo X2.here hx rfl (hb hby at_14) rfl ?_
    show Steps p.tables e below (T2.setTop (mkF m 17 #[.val (.ref b0), .unset, .unset, .unset, .unset, .unset, .unset, .unset] [])) _
    refine XS.iconst X2.here hx rfl (hb hby at_17) ?_
    show Steps p.tables e below (T2.setTop (mkF m 18 #[.val (.ref b0), .unset, .unset, .unset, .unset, .unset, .unset, .unset] [(.int (1 : Int32))])) _
    refine XS.goto X2.here hx rfl (pc0 := 18) (pc' := 22) rfl (hb hby at_18) (by decide) (by decide) ?_
    show Steps p.tables e below (T2.setTop (mkF m 22 #[.val (.ref b0), .unset, .unset, .unset, .unset, .unset, .unset, .unset] [(.int (1 : Int32))])) _
    refine XS.istoreN X2.here hx rfl (hb hby at_22) rfl (l' := #[.val (.ref b0), .val (.int (1 : Int32)), .unset, .unset, .unset, .unset, .unset, .unset]) rfl ?_
    show Steps p.tables e below (T2.setTop (mkF m 23 #[.val (.ref b0), .val (.int (1 : Int32)), .unset, .unset, .unset, .unset, .unset, .unset] [])) _
    refine XS.aloadN X2.here hx rfl (hb hby at_23) rfl rfl ?_
    exact k
  refine Go.callV X2 hx hZ (W := 0) (argsL := []) (rest := []) hown (wd hw 37 rfl) (wd hw 38 rfl) (notFace_of_selects (args := #[]) (mvT hZ (wd hw 40 rfl))) (wd hw 40 rfl) (wd hw 39 rfl) (wd hw 2 rfl) (wd hw 41 rfl) (by decide) E_b0 (ct_get_delay_R_1 l Z a0 hw  b0 w_ZERO h1 n0 O F_b0_delay) e2 (by rw [hml]; rfl) (lenOf pd___Ljava_time_Duration__1628 rfl) rfl rfl (hb hby at_24) (by decide) (by decide) (by decide) (by decide) ?_
  intro v3 T3 h3 L3 X3 e3 q3
  obtain ⟨rfl, N3, rfl⟩ := q3
  replace N3 := Fr.app N2 N3
  show Go p e below _ T3 (mkF m 27 #[.val (.ref b0), .val (.int (1 : Int32)), .unset, .unset, .unset, .unset, .unset, .unset] [(.ref w_ZERO)])
  refine Go.getS X3 hx hZ hown (wd hw 42 rfl) Via.refl e3 (S_ZERO.ext O.2) (hb hby at_27) ?_
  intro T4 X4 e4
  show Go p e below _ T4 (mkF m 30 #[.val (.ref b0), .val (.int (1 : Int32)), .unset, .unset, .unset, .unset, .unset, .unset] [(.ref w_ZERO), (.ref w_ZERO)])
  refine Go.by (T' := T4) (g' := (mkF m 40 #[.val (.ref b0), .val (.int (1 : Int32)), .val (.int (1 : Int32)), .unset, .unset, .unset, .unset, .unset] [(.ref b0)])) (fun t k => ?_) ?_
  · show Steps p.tables e below (T4.setTop (mkF m 30 #[.val (.ref b0), .val (.int (1 : Int32)), .unset, .unset, .unset, .unset, .unset, .unset] [(.ref w_ZERO), (.ref w_ZERO)])) _
    refine Jvm.RoadKit.acmp (g := (mkF m 30 #[.val (.ref b0), .val (.int (1 : Int32)), .unset, .unset, .unset, .unset, .unset, .unset] [(.ref w_ZERO), (.ref w_ZERO)])) X4 hx rfl rfl rfl (pc0 := 30) (pc' := 33) (same := true) rfl (hb hby at_30) rfl (decide_eq_true rfl) (by decide) (by decide) ?_
    show Steps p.tables e below (T4.setTop (mkF m 33 #[.val (.ref b0), .val (.int (1 : Int32)), .unset, .unset, .unset, .unset, .unset, .unset] [])) _
    refine XS.iconst X4.here hx rfl (hb hby at_33) ?_
    show Steps p.tables e below (T4.setTop (mkF m 34 #[.val (.ref b0), .val (.int (1 : Int32)), .unset, .unset, .unset, .unset, .unset, .unset] [(.int (1 : Int32))])) _
    refine XS.goto X4.here hx rfl (pc0 := 34) (pc' := 38) rfl (hb hby at_34) (by decide) (by decide) ?_
    show Steps p.tables e below (T4.setTop (mkF m 38 #[.val (.ref b0), .val (.int (1 : Int32)), .unset, .unset, .unset, .unset, .unset, .unset] [(.int (1 : Int32))])) _
    refine XS.istoreN X4.here hx rfl (hb hby at_38) rfl (l' := #[.val (.ref b0), .val (.int (1 : Int32)), .val (.int (1 : Int32)), .unset, .unset, .unset, .unset, .unset]) rfl ?_
    show Steps p.tables e below (T4.setTop (mkF m 39 #[.val (.ref b0), .val (.int (1 : Int32)), .val (.int (1 : Int32)), .unset, .unset, .unset, .unset, .unset] [])) _
    refine XS.aloadN X4.here hx rfl (hb hby at_39) rfl rfl ?_
    exact k
  refine Go.callV X4 hx hZ (W := 0) (argsL := []) (rest := []) hown (wd hw 43 rfl) (wd hw 44 rfl) (notFace_of_selects (args := #[]) (mvT hZ (wd hw 46 rfl))) (wd hw 46 rfl) (wd hw 45 rfl) (wd hw 2 rfl) (wd hw 47 rfl) (by decide) E_b0 (ct_get_key_null_2 l Z a0 hw  b0 h1 n0 O F_b0_key) e4 (by rw [hml]; rfl) (lenOf pd___Ljava_lang_String__6923 rfl) rfl rfl (hb hby at_40) (by decide) (by decide) (by decide) (by decide) ?_
  intro v5 T5 h5 L5 X5 e5 q5
  obtain ⟨rfl, N5, rfl⟩ := q5
  replace N5 := Fr.app N3 N5
  show Go p e below _ T5 (mkF m 43 #[.val (.ref b0), .val (.int (1 : Int32)), .val (.int (1 : Int32)), .unset, .unset, .unset, .unset, .unset] [.null])
  refine Go.by (T' := T5) (g' := (mkF m 53 #[.val (.ref b0), .val (.int (1 : Int32)), .val (.int (1 : Int32)), .val (.int (1 : Int32)), .unset, .unset, .unset, .unset] [(.ref b0)])) (fun t k => ?_) ?_
  · show Steps p.tables e below (T5.setTop (mkF m 43 #[.val (.ref b0), .val (.int (1 : Int32)), .val (.int (1 : Int32)), .unset, .unset, .unset, .unset, .unset] [.null])) _
    refine XS.ifnonnullNo X5.here hx rfl (hb hby at_43) rfl ?_
    show Steps p.tables e below (T5.setTop (mkF m 46 #[.val (.ref b0), .val (.int (1 : Int32)), .val (.int (1 : Int32)), .unset, .unset, .unset, .unset, .unset] [])) _
    refine XS.iconst X5.here hx rfl (hb hby at_46) ?_
    show Steps p.tables e below (T5.setTop (mkF m 47 #[.val (.ref b0), .val (.int (1 : Int32)), .val (.int (1 : Int32)), .unset, .unset, .unset, .unset, .unset] [(.int (1 : Int32))])) _
    refine XS.goto X5.here hx rfl (pc0 := 47) (pc' := 51) rfl (hb hby at_47) (by decide) (by decide) ?_
    show Steps p.tables e below (T5.setTop (mkF m 51 #[.val (.ref b0), .val (.int (1 : Int32)), .val (.int (1 : Int32)), .unset, .unset, .unset, .unset, .unset] [(.int (1 : Int32))])) _
    refine XS.istoreN X5.here hx rfl (hb hby at_51) rfl (l' := #[.val (.ref b0), .val (.int (1 : Int32)), .val (.int (1 : Int32)), .val (.int (1 : Int32)), .unset, .unset, .unset, .unset]) rfl ?_
    show Steps p.tables e below (T5.setTop (mkF m 52 #[.val (.ref b0), .val (.int (1 : Int32)), .val (.int (1 : Int32)), .val (.int (1 : Int32)), .unset, .unset, .unset, .unset] [])) _
    refine XS.aloadN X5.here hx rfl (hb hby at_52) rfl rfl ?_
    exact k
  refine Go.callV X5 hx hZ (W := 0) (argsL := []) (rest := []) hown (wd hw 50 rfl) (wd hw 51 rfl) (notFace_of_selects (args := #[]) (mvT hZ (wd hw 53 rfl))) (wd hw 53 rfl) (wd hw 52 rfl) (wd hw 2 rfl) (wd hw 54 rfl) (by decide) E_b0 (ct_get_payload_R_3 l Z a0 hw  b0 w_NO_PAYLOAD h1 n0 O F_b0_payload) e5 (by rw [hml]; rfl) (lenOf pd____B_8554 rfl) rfl rfl (hb hby at_53) (by decide) (by decide) (by decide) (by decide) ?_
  intro v6 T6 h6 L6 X6 e6 q6
  obtain ⟨rfl, N6, rfl⟩ := q6
  replace N6 := Fr.app N5 N6
  show Go p e below _ T6 (mkF m 56 #[.val (.ref b0), .val (.int (1 : Int32)), .val (.int (1 : Int32)), .val (.int (1 : Int32)), .unset, .unset, .unset, .unset] [(.ref w_NO_PAYLOAD)])
  refine Go.by (T' := T6) (g' := (mkF m 60 #[.val (.ref b0), .val (.int (1 : Int32)), .val (.int (1 : Int32)), .val (.int (1 : Int32)), .unset, .unset, .unset, .unset] [(.ref b0)])) (fun t k => ?_) ?_
  · show Steps p.tables e below (T6.setTop (mkF m 56 #[.val (.ref b0), .val (.int (1 : Int32)), .val (.int (1 : Int32)), .val (.int (1 : Int32)), .unset, .unset, .unset, .unset] [(.ref w_NO_PAYLOAD)])) _
    refine XS.ifnullNo X6.here hx rfl (hb hby at_56) rfl ?_
    show Steps p.tables e below (T6.setTop (mkF m 59 #[.val (.ref b0), .val (.int (1 : Int32)), .val (.int (1 : Int32)), .val (.int (1 : Int32)), .unset, .unset, .unset, .unset] [])) _
    refine XS.aloadN X6.here hx rfl (hb hby at_59) rfl rfl ?_
    exact k
  refine Go.callV X6 hx hZ (W := 0) (argsL := []) (rest := []) hown (wd hw 50 rfl) (wd hw 51 rfl) (notFace_of_selects (args := #[]) (mvT hZ (wd hw 53 rfl))) (wd hw 53 rfl) (wd hw 52 rfl) (wd hw 2 rfl) (wd hw 54 rfl) (by decide) E_b0 (ct_get_payload_R_3 l Z a0 hw  b0 w_NO_PAYLOAD h1 n0 O F_b0_payload) e6 (by rw [hml]; rfl) (lenOf pd____B_8554 rfl) rfl rfl (hb hby at_60) (by decide) (by decide) (by decide) (by decide) ?_
  intro v7 T7 h7 L7 X7 e7 q7
  obtain ⟨rfl, N7, rfl⟩ := q7
  replace N7 := Fr.app N6 N7
  show Go p e below _ T7 (mkF m 63 #[.val (.ref b0), .val (.int (1 : Int32)), .val (.int (1 : Int32)), .val (.int (1 : Int32)), .unset, .unset, .unset, .unset] [(.ref w_NO_PAYLOAD)])
  refine Go.alen X7 hx hZ e7 (A_NP.ext O.2) z_NP (hb hby at_63) ?_
  show Go p e below _ T7 (mkF m 64 #[.val (.ref b0), .val (.int (1 : Int32)), .val (.int (1 : Int32)), .val (.int (1 : Int32)), .unset, .unset, .unset, .unset] [(.int (0 : Int32))])
  refine Go.by (T' := T7) (g' := (mkF m 75 #[.val (.ref b0), .val (.int (1 : Int32)), .val (.int (1 : Int32)), .val (.int (1 : Int32)), .val (.int (1 : Int32)), .unset, .unset, .unset] [(.ref b0)])) (fun t k => ?_) ?_
  · show Steps p.tables e below (T7.setTop (mkF m 64 #[.val (.ref b0), .val (.int (1 : Int32)), .val (.int (1 : Int32)), .val (.int (1 : Int32)), .unset, .unset, .unset, .unset] [(.int (0 : Int32))])) _
    refine XS.ifNo X7.here hx rfl (hb hby at_64) rfl ((if0 _ _).trans (teq (by decide : (0 : Int32) = (0 : Int32))).2) ?_
    show Steps p.tables e below (T7.setTop (mkF m 67 #[.val (.ref b0), .val (.int (1 : Int32)), .val (.int (1 : Int32)), .val (.int (1 : Int32)), .unset, .unset, .unset, .unset] [])) _
    refine XS.iconst X7.here hx rfl (hb hby at_67) ?_
    show Steps p.tables e below (T7.setTop (mkF m 68 #[.val (.ref b0), .val (.int (1 : Int32)), .val (.int (1 : Int32)), .val (.int (1 : Int32)), .unset, .unset, .unset, .unset] [(.int (1 : Int32))])) _
    refine XS.goto X7.here hx rfl (pc0 := 68) (pc' := 72) rfl (hb hby at_68) (by decide) (by decide) ?_
    show Steps p.tables e below (T7.setTop (mkF m 72 #[.val (.ref b0), .val (.int (1 : Int32)), .val (.int (1 : Int32)), .val (.int (1 : Int32)), .unset, .unset, .unset, .unset] [(.int (1 : Int32))])) _
    refine XS.istore X7.here hx rfl (hb hby at_72) rfl (l' := #[.val (.ref b0), .val (.int (1 : Int32)), .val (.int (1 : Int32)), .val (.int (1 : Int32)), .val (.int (1 : Int32)), .unset, .unset, .unset]) rfl ?_
    show Steps p.tables e below (T7.setTop (mkF m 74 #[.val (.ref b0), .val (.int (1 : Int32)), .val (.int (1 : Int32)), .val (.int (1 : Int32)), .val (.int (1 : Int32)), .unset, .unset, .unset] [])) _
    refine XS.aloadN X7.here hx rfl (hb hby at_74) rfl rfl ?_
    exact k
  refine Go.callV X7 hx hZ (W := 0) (argsL := []) (rest := []) hown (wd hw 55 rfl) (wd hw 56 rfl) (notFace_of_selects (args := #[]) (mvT hZ (wd hw 58 rfl))) (wd hw 58 rfl) (wd hw 57 rfl) (wd hw 2 rfl) (wd hw 59 rfl) (by decide) E_b0 (ct_get_maxAttempts_l_5___Int32__4 l Z a0 hw  b0 h1 n0 O F_b0_maxAttempts) e7 (by rw [hml]; rfl) (lenOf pd___I_8321 rfl) rfl rfl (hb hby at_75) (by decide) (by decide) (by decide) (by decide) ?_
  intro v8 T8 h8 L8 X8 e8 q8
  obtain ⟨rfl, N8, rfl⟩ := q8
  replace N8 := Fr.app N7 N8
  show Go p e below _ T8 (mkF m 78 #[.val (.ref b0), .val (.int (1 : Int32)), .val (.int (1 : Int32)), .val (.int (1 : Int32)), .val (.int (1 : Int32)), .unset, .unset, .unset] [(.int (5 : Int32))])
  refine Go.by (T' := T8) (g' := (mkF m 90 #[.val (.ref b0), .val (.int (1 : Int32)), .val (.int (1 : Int32)), .val (.int (1 : Int32)), .val (.int (1 : Int32)), .val (.int (1 : Int32)), .unset, .unset] [(.ref b0)])) (fun t k => ?_) ?_
  · show Steps p.tables e below (T8.setTop (mkF m 78 #[.val (.ref b0), .val (.int (1 : Int32)), .val (.int (1 : Int32)), .val (.int (1 : Int32)), .val (.int (1 : Int32)), .unset, .unset, .unset] [(.int (5 : Int32))])) _
    refine XS.iconst X8.here hx rfl (hb hby at_78) ?_
    show Steps p.tables e below (T8.setTop (mkF m 79 #[.val (.ref b0), .val (.int (1 : Int32)), .val (.int (1 : Int32)), .val (.int (1 : Int32)), .val (.int (1 : Int32)), .unset, .unset, .unset] [(.int (5 : Int32)), (.int (5 : Int32))])) _
    refine XS.icmpNo X8.here hx rfl (hb hby at_79) rfl (teq (by decide : (5 : Int32) = (5 : Int32))).2 ?_
    show Steps p.tables e below (T8.setTop (mkF m 82 #[.val (.ref b0), .val (.int (1 : Int32)), .val (.int (1 : Int32)), .val (.int (1 : Int32)), .val (.int (1 : Int32)), .unset, .unset, .unset] [])) _
    refine XS.iconst X8.here hx rfl (hb hby at_82) ?_
    show Steps p.tables e below (T8.setTop (mkF m 83 #[.val (.ref b0), .val (.int (1 : Int32)), .val (.int (1 : Int32)), .val (.int (1 : Int32)), .val (.int (1 : Int32)), .unset, .unset, .unset] [(.int (1 : Int32))])) _
    refine XS.goto X8.here hx rfl (pc0 := 83) (pc' := 87) rfl (hb hby at_83) (by decide) (by decide) ?_
    show Steps p.tables e below (T8.setTop (mkF m 87 #[.val (.ref b0), .val (.int (1 : Int32)), .val (.int (1 : Int32)), .val (.int (1 : Int32)), .val (.int (1 : Int32)), .unset, .unset, .unset] [(.int (1 : Int32))])) _
    refine XS.istore X8.here hx rfl (hb hby at_87) rfl (l' := #[.val (.ref b0), .val (.int (1 : Int32)), .val (.int (1 : Int32)), .val (.int (1 : Int32)), .val (.int (1 : Int32)), .val (.int (1 : Int32)), .unset, .unset]) rfl ?_
    show Steps p.tables e below (T8.setTop (mkF m 89 #[.val (.ref b0), .val (.int (1 : Int32)), .val (.int (1 : Int32)), .val (.int (1 : Int32)), .val (.int (1 : Int32)), .val (.int (1 : Int32)), .unset, .unset] [])) _
    refine XS.aloadN X8.here hx rfl (hb hby at_89) rfl rfl ?_
    exact k
  refine Go.callV X8 hx hZ (W := 0) (argsL := []) (rest := []) hown (wd hw 60 rfl) (wd hw 61 rfl) (notFace_of_selects (args := #[]) (mvT hZ (wd hw 63 rfl))) (wd hw 63 rfl) (wd hw 62 rfl) (wd hw 2 rfl) (wd hw 64 rfl) (by decide) E_b0 (ct_get_backoff_R_5 l Z a0 hw  b0 w_DEFAULT_BACKOFF h1 n0 O F_b0_backoff) e8 (by rw [hml]; rfl) (lenOf pd___Ljava_time_Duration__1628 rfl) rfl rfl (hb hby at_90) (by decide) (by decide) (by decide) (by decide) ?_
  intro v9 T9 h9 L9 X9 e9 q9
  obtain ⟨rfl, N9, rfl⟩ := q9
  replace N9 := Fr.app N8 N9
  show Go p e below _ T9 (mkF m 93 #[.val (.ref b0), .val (.int (1 : Int32)), .val (.int (1 : Int32)), .val (.int (1 : Int32)), .val (.int (1 : Int32)), .val (.int (1 : Int32)), .unset, .unset] [(.ref w_DEFAULT_BACKOFF)])
  refine Go.getS X9 hx hZ hown (wd hw 65 rfl) Via.refl e9 (S_DEFAULT_BACKOFF.ext O.2) (hb hby at_93) ?_
  intro T10 X10 e10
  show Go p e below _ T10 (mkF m 96 #[.val (.ref b0), .val (.int (1 : Int32)), .val (.int (1 : Int32)), .val (.int (1 : Int32)), .val (.int (1 : Int32)), .val (.int (1 : Int32)), .unset, .unset] [(.ref w_DEFAULT_BACKOFF), (.ref w_DEFAULT_BACKOFF)])
  refine Go.by (T' := T10) (g' := (mkF m 107 #[.val (.ref b0), .val (.int (1 : Int32)), .val (.int (1 : Int32)), .val (.int (1 : Int32)), .val (.int (1 : Int32)), .val (.int (1 : Int32)), .val (.int (1 : Int32)), .unset] [(.ref b0)])) (fun t k => ?_) ?_
  · show Steps p.tables e below (T10.setTop (mkF m 96 #[.val (.ref b0), .val (.int (1 : Int32)), .val (.int (1 : Int32)), .val (.int (1 : Int32)), .val (.int (1 : Int32)), .val (.int (1 : Int32)), .unset, .unset] [(.ref w_DEFAULT_BACKOFF), (.ref w_DEFAULT_BACKOFF)])) _
    refine Jvm.RoadKit.acmp (g := (mkF m 96 #[.val (.ref b0), .val (.int (1 : Int32)), .val (.int (1 : Int32)), .val (.int (1 : Int32)), .val (.int (1 : Int32)), .val (.int (1 : Int32)), .unset, .unset] [(.ref w_DEFAULT_BACKOFF), (.ref w_DEFAULT_BACKOFF)])) X10 hx rfl rfl rfl (pc0 := 96) (pc' := 99) (same := true) rfl (hb hby at_96) rfl (decide_eq_true rfl) (by decide) (by decide) ?_
    show Steps p.tables e below (T10.setTop (mkF m 99 #[.val (.ref b0), .val (.int (1 : Int32)), .val (.int (1 : Int32)), .val (.int (1 : Int32)), .val (.int (1 : Int32)), .val (.int (1 : Int32)), .unset, .unset] [])) _
    refine XS.iconst X10.here hx rfl (hb hby at_99) ?_
    show Steps p.tables e below (T10.setTop (mkF m 100 #[.val (.ref b0), .val (.int (1 : Int32)), .val (.int (1 : Int32)), .val (.int (1 : Int32)), .val (.int (1 : Int32)), .val (.int (1 : Int32)), .unset, .unset] [(.int (1 : Int32))])) _
    refine XS.goto X10.here hx rfl (pc0 := 100) (pc' := 104) rfl (hb hby at_100) (by decide) (by decide) ?_
    show Steps p.tables e below (T10.setTop (mkF m 104 #[.val (.ref b0), .val (.int (1 : Int32)), .val (.int (1 : Int32)), .val (.int (1 : Int32)), .val (.int (1 : Int32)), .val (.int (1 : Int32)), .unset, .unset] [(.int (1 : Int32))])) _
    refine XS.istore X10.here hx rfl (hb hby at_104) rfl (l' := #[.val (.ref b0), .val (.int (1 : Int32)), .val (.int (1 : Int32)), .val (.int (1 : Int32)), .val (.int (1 : Int32)), .val (.int (1 : Int32)), .val (.int (1 : Int32)), .unset]) rfl ?_
    show Steps p.tables e below (T10.setTop (mkF m 106 #[.val (.ref b0), .val (.int (1 : Int32)), .val (.int (1 : Int32)), .val (.int (1 : Int32)), .val (.int (1 : Int32)), .val (.int (1 : Int32)), .val (.int (1 : Int32)), .unset] [])) _
    refine XS.aloadN X10.here hx rfl (hb hby at_106) rfl rfl ?_
    exact k
  refine Go.callV X10 hx hZ (W := 0) (argsL := []) (rest := []) hown (wd hw 66 rfl) (wd hw 67 rfl) (notFace_of_selects (args := #[]) (mvT hZ (wd hw 69 rfl))) (wd hw 69 rfl) (wd hw 68 rfl) (wd hw 2 rfl) (wd hw 70 rfl) (by decide) E_b0 (ct_get_retention_R_6 l Z a0 hw  b0 w_DEFAULT_RETENTION h1 n0 O F_b0_retention) e10 (by rw [hml]; rfl) (lenOf pd___Ljava_time_Duration__1628 rfl) rfl rfl (hb hby at_107) (by decide) (by decide) (by decide) (by decide) ?_
  intro v11 T11 h11 L11 X11 e11 q11
  obtain ⟨rfl, N11, rfl⟩ := q11
  replace N11 := Fr.app N9 N11
  show Go p e below _ T11 (mkF m 110 #[.val (.ref b0), .val (.int (1 : Int32)), .val (.int (1 : Int32)), .val (.int (1 : Int32)), .val (.int (1 : Int32)), .val (.int (1 : Int32)), .val (.int (1 : Int32)), .unset] [(.ref w_DEFAULT_RETENTION)])
  refine Go.getS X11 hx hZ hown (wd hw 71 rfl) Via.refl e11 (S_DEFAULT_RETENTION.ext O.2) (hb hby at_110) ?_
  intro T12 X12 e12
  show Go p e below _ T12 (mkF m 113 #[.val (.ref b0), .val (.int (1 : Int32)), .val (.int (1 : Int32)), .val (.int (1 : Int32)), .val (.int (1 : Int32)), .val (.int (1 : Int32)), .val (.int (1 : Int32)), .unset] [(.ref w_DEFAULT_RETENTION), (.ref w_DEFAULT_RETENTION)])
  refine Go.by (T' := T12) (g' := (mkF m 160 #[.val (.ref b0), .val (.int (1 : Int32)), .val (.int (1 : Int32)), .val (.int (1 : Int32)), .val (.int (1 : Int32)), .val (.int (1 : Int32)), .val (.int (1 : Int32)), .val (.int (1 : Int32))] [(.int (1 : Int32))])) (fun t k => ?_) ?_
  · show Steps p.tables e below (T12.setTop (mkF m 113 #[.val (.ref b0), .val (.int (1 : Int32)), .val (.int (1 : Int32)), .val (.int (1 : Int32)), .val (.int (1 : Int32)), .val (.int (1 : Int32)), .val (.int (1 : Int32)), .unset] [(.ref w_DEFAULT_RETENTION), (.ref w_DEFAULT_RETENTION)])) _
    refine Jvm.RoadKit.acmp (g := (mkF m 113 #[.val (.ref b0), .val (.int (1 : Int32)), .val (.int (1 : Int32)), .val (.int (1 : Int32)), .val (.int (1 : Int32)), .val (.int (1 : Int32)), .val (.int (1 : Int32)), .unset] [(.ref w_DEFAULT_RETENTION), (.ref w_DEFAULT_RETENTION)])) X12 hx rfl rfl rfl (pc0 := 113) (pc' := 116) (same := true) rfl (hb hby at_113) rfl (decide_eq_true rfl) (by decide) (by decide) ?_
    show Steps p.tables e below (T12.setTop (mkF m 116 #[.val (.ref b0), .val (.int (1 : Int32)), .val (.int (1 : Int32)), .val (.int (1 : Int32)), .val (.int (1 : Int32)), .val (.int (1 : Int32)), .val (.int (1 : Int32)), .unset] [])) _
    refine XS.iconst X12.here hx rfl (hb hby at_116) ?_
    show Steps p.tables e below (T12.setTop (mkF m 117 #[.val (.ref b0), .val (.int (1 : Int32)), .val (.int (1 : Int32)), .val (.int (1 : Int32)), .val (.int (1 : Int32)), .val (.int (1 : Int32)), .val (.int (1 : Int32)), .unset] [(.int (1 : Int32))])) _
    refine XS.goto X12.here hx rfl (pc0 := 117) (pc' := 121) rfl (hb hby at_117) (by decide) (by decide) ?_
    show Steps p.tables e below (T12.setTop (mkF m 121 #[.val (.ref b0), .val (.int (1 : Int32)), .val (.int (1 : Int32)), .val (.int (1 : Int32)), .val (.int (1 : Int32)), .val (.int (1 : Int32)), .val (.int (1 : Int32)), .unset] [(.int (1 : Int32))])) _
    refine XS.istore X12.here hx rfl (hb hby at_121) rfl (l' := #[.val (.ref b0), .val (.int (1 : Int32)), .val (.int (1 : Int32)), .val (.int (1 : Int32)), .val (.int (1 : Int32)), .val (.int (1 : Int32)), .val (.int (1 : Int32)), .val (.int (1 : Int32))]) rfl ?_
    show Steps p.tables e below (T12.setTop (mkF m 123 #[.val (.ref b0), .val (.int (1 : Int32)), .val (.int (1 : Int32)), .val (.int (1 : Int32)), .val (.int (1 : Int32)), .val (.int (1 : Int32)), .val (.int (1 : Int32)), .val (.int (1 : Int32))] [])) _
    refine XS.iloadN X12.here hx rfl (hb hby at_123) rfl ?_
    show Steps p.tables e below (T12.setTop (mkF m 124 #[.val (.ref b0), .val (.int (1 : Int32)), .val (.int (1 : Int32)), .val (.int (1 : Int32)), .val (.int (1 : Int32)), .val (.int (1 : Int32)), .val (.int (1 : Int32)), .val (.int (1 : Int32))] [(.int (1 : Int32))])) _
    refine XS.ifNo X12.here hx rfl (hb hby at_124) rfl ((if0 _ _).trans (feq (by decide : ¬ (1 : Int32) = (0 : Int32))).1) ?_
    show Steps p.tables e below (T12.setTop (mkF m 127 #[.val (.ref b0), .val (.int (1 : Int32)), .val (.int (1 : Int32)), .val (.int (1 : Int32)), .val (.int (1 : Int32)), .val (.int (1 : Int32)), .val (.int (1 : Int32)), .val (.int (1 : Int32))] [])) _
    refine XS.iloadN X12.here hx rfl (hb hby at_127) rfl ?_
    show Steps p.tables e below (T12.setTop (mkF m 128 #[.val (.ref b0), .val (.int (1 : Int32)), .val (.int (1 : Int32)), .val (.int (1 : Int32)), .val (.int (1 : Int32)), .val (.int (1 : Int32)), .val (.int (1 : Int32)), .val (.int (1 : Int32))] [(.int (1 : Int32))])) _
    refine XS.ifNo X12.here hx rfl (hb hby at_128) rfl ((if0 _ _).trans (feq (by decide : ¬ (1 : Int32) = (0 : Int32))).1) ?_
    show Steps p.tables e below (T12.setTop (mkF m 131 #[.val (.ref b0), .val (.int (1 : Int32)), .val (.int (1 : Int32)), .val (.int (1 : Int32)), .val (.int (1 : Int32)), .val (.int (1 : Int32)), .val (.int (1 : Int32)), .val (.int (1 : Int32))] [])) _
    refine XS.iloadN X12.here hx rfl (hb hby at_131) rfl ?_
    show Steps p.tables e below (T12.setTop (mkF m 132 #[.val (.ref b0), .val (.int (1 : Int32)), .val (.int (1 : Int32)), .val (.int (1 : Int32)), .val (.int (1 : Int32)), .val (.int (1 : Int32)), .val (.int (1 : Int32)), .val (.int (1 : Int32))] [(.int (1 : Int32))])) _
    refine XS.ifNo X12.here hx rfl (hb hby at_132) rfl ((if0 _ _).trans (feq (by decide : ¬ (1 : Int32) = (0 : Int32))).1) ?_
    show Steps p.tables e below (T12.setTop (mkF m 135 #[.val (.ref b0), .val (.int (1 : Int32)), .val (.int (1 : Int32)), .val (.int (1 : Int32)), .val (.int (1 : Int32)), .val (.int (1 : Int32)), .val (.int (1 : Int32)), .val (.int (1 : Int32))] [])) _
    refine XS.iload X12.here hx rfl (hb hby at_135) rfl ?_
    show Steps p.tables e below (T12.setTop (mkF m 137 #[.val (.ref b0), .val (.int (1 : Int32)), .val (.int (1 : Int32)), .val (.int (1 : Int32)), .val (.int (1 : Int32)), .val (.int (1 : Int32)), .val (.int (1 : Int32)), .val (.int (1 : Int32))] [(.int (1 : Int32))])) _
    refine XS.ifNo X12.here hx rfl (hb hby at_137) rfl ((if0 _ _).trans (feq (by decide : ¬ (1 : Int32) = (0 : Int32))).1) ?_
    show Steps p.tables e below (T12.setTop (mkF m 140 #[.val (.ref b0), .val (.int (1 : Int32)), .val (.int (1 : Int32)), .val (.int (1 : Int32)), .val (.int (1 : Int32)), .val (.int (1 : Int32)), .val (.int (1 : Int32)), .val (.int (1 : Int32))] [])) _
    refine XS.iload X12.here hx rfl (hb hby at_140) rfl ?_
    show Steps p.tables e below (T12.setTop (mkF m 142 #[.val (.ref b0), .val (.int (1 : Int32)), .val (.int (1 : Int32)), .val (.int (1 : Int32)), .val (.int (1 : Int32)), .val (.int (1 : Int32)), .val (.int (1 : Int32)), .val (.int (1 : Int32))] [(.int (1 : Int32))])) _
    refine XS.ifNo X12.here hx rfl (hb hby at_142) rfl ((if0 _ _).trans (feq (by decide : ¬ (1 : Int32) = (0 : Int32))).1) ?_
    show Steps p.tables e below (T12.setTop (mkF m 145 #[.val (.ref b0), .val (.int (1 : Int32)), .val (.int (1 : Int32)), .val (.int (1 : Int32)), .val (.int (1 : Int32)), .val (.int (1 : Int32)), .val (.int (1 : Int32)), .val (.int (1 : Int32))] [])) _
    refine XS.iload X12.here hx rfl (hb hby at_145) rfl ?_
    show Steps p.tables e below (T12.setTop (mkF m 147 #[.val (.ref b0), .val (.int (1 : Int32)), .val (.int (1 : Int32)), .val (.int (1 : Int32)), .val (.int (1 : Int32)), .val (.int (1 : Int32)), .val (.int (1 : Int32)), .val (.int (1 : Int32))] [(.int (1 : Int32))])) _
    refine XS.ifNo X12.here hx rfl (hb hby at_147) rfl ((if0 _ _).trans (feq (by decide : ¬ (1 : Int32) = (0 : Int32))).1) ?_
    show Steps p.tables e below (T12.setTop (mkF m 150 #[.val (.ref b0), .val (.int (1 : Int32)), .val (.int (1 : Int32)), .val (.int (1 : Int32)), .val (.int (1 : Int32)), .val (.int (1 : Int32)), .val (.int (1 : Int32)), .val (.int (1 : Int32))] [])) _
    refine XS.iload X12.here hx rfl (hb hby at_150) rfl ?_
    show Steps p.tables e below (T12.setTop (mkF m 152 #[.val (.ref b0), .val (.int (1 : Int32)), .val (.int (1 : Int32)), .val (.int (1 : Int32)), .val (.int (1 : Int32)), .val (.int (1 : Int32)), .val (.int (1 : Int32)), .val (.int (1 : Int32))] [(.int (1 : Int32))])) _
    refine XS.ifNo X12.here hx rfl (hb hby at_152) rfl ((if0 _ _).trans (feq (by decide : ¬ (1 : Int32) = (0 : Int32))).1) ?_
    show Steps p.tables e below (T12.setTop (mkF m 155 #[.val (.ref b0), .val (.int (1 : Int32)), .val (.int (1 : Int32)), .val (.int (1 : Int32)), .val (.int (1 : Int32)), .val (.int (1 : Int32)), .val (.int (1 : Int32)), .val (.int (1 : Int32))] [])) _
    refine XS.iconst X12.here hx rfl (hb hby at_155) ?_
    show Steps p.tables e below (T12.setTop (mkF m 156 #[.val (.ref b0), .val (.int (1 : Int32)), .val (.int (1 : Int32)), .val (.int (1 : Int32)), .val (.int (1 : Int32)), .val (.int (1 : Int32)), .val (.int (1 : Int32)), .val (.int (1 : Int32))] [(.int (1 : Int32))])) _
    refine XS.goto X12.here hx rfl (pc0 := 156) (pc' := 160) rfl (hb hby at_156) (by decide) (by decide) ?_
    exact k
  refine Go.retZ X12 hx hlk hret (Or.inr rfl) (hb hby at_160) (by decide) (by decide) e12 ?_
  exact ⟨rfl, N11⟩
set_option maxRecDepth 65536 in
set_option maxHeartbeats 40000000 in
theorem comes_1 {Post : Tables → Env → Array Value → State → Outcome → State → Prop} (hpost : ∀ tb e args s v u, (limb_1_1.after args s (.returned v) u = true ∧ limb_1_2.after args s (.returned v) u = true ∧ True) → FrameEnd s (.returned v) u (Jvm.fieldLocs frame_1_writes args s ++ Jvm.arrayLocs frame_1_arrays args s ++ Jvm.staticLocs frame_1_statics s) 16 128 → Post tb e args s (.returned v) u) :
    ArmFor flags0 classFile x code maxLocals ret World_1 tables_1 room_1 Calls_1 rest_1 Pre_1 Post := by
  intro l hfl _ _ p e ha hc hk s m args below hf hA hF happ hP
  obtain ⟨hcalls, hrest, hpre⟩ := hP
  obtain ⟨-, -, -, hnamed, -, -, -, hat⟩ := (Spec.applies_iff hf).mp happ
  obtain ⟨hg, hn⟩ := and_e (Cond.before_iff.mp (show (Jvm.Cond.and given_1 narrow_1).before args s = true from hpre))
  obtain rfl : args = #[] := by
    have hs : args.size = 0 := by simpa [Cond.value, given_1] using hg
    exact Array.eq_empty_of_size_eq_zero hs
  have hw := fun d (hd : d ∈ tables_1) => atoms_spec (ws := Jvm.Cond.code x code maxLocals ret :: tables_1) hat d (List.mem_cons_of_mem _ hd)
  have hfit : Fit s := fun {y c} hc i hi => by
    obtain ⟨ha, rfl⟩ := Array.getElem?_eq_some_iff.mp hc
    have q := List.all_eq_true.mp ((Array.all_eq_true_iff_forall_mem.mp hF) _ (Array.getElem_mem ha)) i (List.mem_range.mpr hi)
    simpa [Array.getElem?_eq_getElem hi] using q
  obtain ⟨hsets, hown0⟩ := atoms_of _ (rest_1_c_eq ▸ (show rest_1_c.before _ s = true from hrest))
  obtain ⟨n1, hn⟩ := and_e hn
  obtain ⟨n2, hn⟩ := and_e hn
  obtain ⟨n3, hn⟩ := and_e hn
  have k_z := Cond.before_iff.mp (hsets _ (List.mem_of_getElem? (i := 2) rfl))
  obtain ⟨w_ZERO, ev_ZERO⟩ := exa_v k_z
  have S_ZERO := Sta.start ev_ZERO (Or.inl (hsets _ (List.mem_of_getElem? (i := 1) rfl)))
  obtain ⟨w_NO_PAYLOAD, ev_NP⟩ := arr_v n1
  have S_NO_PAYLOAD := Sta.start ev_NP (Or.inr ⟨(wd hw 2 rfl), (wd hw 15 rfl)⟩)
  obtain ⟨cl_NP, A_NP⟩ := Arr.start ev_NP n1
  obtain ⟨-, z_NP⟩ := lenI_v (eqI_v n2) ev_NP (A_NP.fin (Vm.Alike.refl _))
  obtain ⟨w_DEFAULT_BACKOFF, ev_DEFAULT_BACKOFF⟩ := exa_v n3
  have S_DEFAULT_BACKOFF := Sta.start ev_DEFAULT_BACKOFF (Or.inr ⟨(wd hw 2 rfl), (wd hw 21 rfl)⟩)
  obtain ⟨w_DEFAULT_RETENTION, ev_DEFAULT_RETENTION⟩ := exa_v hn
  have S_DEFAULT_RETENTION := Sta.start ev_DEFAULT_RETENTION (Or.inr ⟨(wd hw 2 rfl), (wd hw 25 rfl)⟩)
  obtain ⟨n, o, h1, h2, h3, _, L, rfl, ⟨rfl, N⟩, hq⟩ := ct_law l s _ hw w_ZERO w_NO_PAYLOAD w_DEFAULT_BACKOFF w_DEFAULT_RETENTION cl_NP S_ZERO S_NO_PAYLOAD S_DEFAULT_BACKOFF S_DEFAULT_RETENTION A_NP z_NP s.heap s.heap.size (Old.start s)  tables_1 p e ha hc hk s m _ below hf ((Spec.applies_iff_loose hf).mp happ).1 ⟨rfl, State.Warmed39.refl s, rfl⟩ trivial
  refine ⟨n, _, h1, h2, h3, hpost _ _ _ _ _ _ ⟨Cond.after_iff.mpr rfl, Cond.after_iff.mpr (eq_i res_at (Term.int_eval (1)) rfl), trivial⟩ ⟨hq.1, hq.2.1, (hq.2.2.sift fun y hy => Or.inr (N y hy)).mono (by decide) (by decide)⟩⟩
theorem main_1_1 : Claimed_1_1 := comes_1 fun _ _ _ _ _ _ h hF => ⟨h.1, hF⟩
theorem main_1_2 : Claimed_1_2 := comes_1 fun _ _ _ _ _ _ h hF => ⟨h.2.1, hF⟩
end Jvm.Pilot.@@N@@
namespace Jvm.Pilot.@@N@@
open Jvm Jvm.ClassFile Sem Op Lib Jvm.Free Jvm.Stand Jvm.Pilot.@@N@@.Jvm.D
/-! MADE BY PROGRAM (witnessworld.py) out of the Statement's table words and the real class files: 12 classes; the members and pool entries that the words name. The judged class is class 1, her method 1. -/
namespace start1
open Jvm.ClassFile
def u (s : String) : CpInfo := .utf8 (stringToUtf16 s)
/-- a pool by its gaps: so many unusable entries, then the entry; so many at the end -/
def gap : Nat → List CpInfo → List CpInfo
  | 0, r => r
  | n + 1, r => .unusable :: gap n r
def poolList (es : List (Nat × CpInfo)) (last : Nat) : List CpInfo := es.foldr (fun e r => gap e.1 (e.2 :: r)) (gap last [])
def pool (es : List (Nat × CpInfo)) (last : Nat) : Array CpInfo := ⟨poolList es last⟩
def fileOf (pool : Array CpInfo) (this : Nat) (attrs : Array Attribute := #[]) (ms : Array MethodInfo := #[]) (fl : Nat := 33) (sup : Nat := 0) (ifs : Array Nat := #[]) (fds : Array FieldInfo := #[]) : ClassFile where
  minorVersion := 0
  majorVersion := 65
  constantPool := pool
  accessFlags := fl
  thisClass := this
  superClass := sup
  interfaces := ifs
  fields := fds
  methods := ms
  attributes := attrs
def plain (name : String) (sup : Option ClassId) : Class where
  name := name
  kind := .ordinary
  loader := none
  accessFlags := 33
  super := sup
  interfaces := #[]
  cf := none
  fields := #[]
  methods := #[]
  instanceTypes := #[]
  staticTypes := #[]
  resolved := #[]
  callSites := []
  init := .initialized
  statics := none
  mirror := none

def pool0 : Array CpInfo := pool [(5, u "<init>"), (0, u "()V"), (1, .class_ 10), (1, u "java/lang/Object")] 113

def k0c0 : Code := { maxStack := 0, maxLocals := 1, code := object_method_1_code, exceptionTable := #[], attributes := #[] }
def k0m0 : Method := { name := "<init>", desc := "()V", sig := { parameters := [], returnType := none }, accessFlags := 1, code := some k0c0 }
/-- java/lang/Object -/
def k0 : Class := { plain "java/lang/Object" none with
  accessFlags := 33
  interfaces := #[]
  cf := some (fileOf pool0 8 #[] #[{ accessFlags := 1, nameIndex := 5, descriptorIndex := 6, attributes := #[] }] 33 0 #[] #[])
  fields := #[]
  methods := #[k0m0]
  instanceTypes := #[]
  staticTypes := #[]
  resolved := Array.replicate 124 none
  statics := none }

def pool1 : Array CpInfo := pool [(2, .class_ 4), (1, u "java/lang/Object"), (0, u "<init>"), (0, u "()V"), (0, .methodref 8 9), (0, .class_ 10), (0, .nameAndType 11 12), (0, u "com/example/long_fuse/longfuse/Submission"), (0, u "dueNow"), (0, u "()Lcom/example/long_fuse/longfuse/Submission;"), (0, .methodref 8 14), (0, .nameAndType 15 16), (0, u "dueAt"), (0, u "()Ljava/time/Instant;"), (0, .methodref 8 18), (0, .nameAndType 19 20), (0, u "delay"), (0, u "()Ljava/time/Duration;"), (0, .fieldref 22 23), (0, .class_ 24), (0, .nameAndType 25 26), (0, u "java/time/Duration"), (0, u "ZERO"), (0, u "Ljava/time/Duration;"), (0, .methodref 8 28), (0, .nameAndType 29 30), (0, u "key"), (0, u "()Ljava/lang/String;"), (0, .methodref 8 32), (0, .nameAndType 33 34), (0, u "payload"), (0, u "()[B"), (0, .methodref 8 36), (0, .nameAndType 37 38), (0, u "maxAttempts"), (0, u "()I"), (0, .methodref 8 40), (0, .nameAndType 41 20), (0, u "backoff"), (0, .fieldref 8 43), (0, .nameAndType 44 26), (0, u "DEFAULT_BACKOFF"), (0, .methodref 8 46), (0, .nameAndType 47 20), (0, u "retention"), (0, .fieldref 8 49), (0, .nameAndType 50 26), (0, u "DEFAULT_RETENTION"), (0, .class_ 52), (0, u "com/example/long_fuse/longfuse/SubmissionDueNowPinLaw"), (2, u "law"), (0, u "()Z")] 3

def k1m0 : Method := { name := "<init>", desc := "()V", sig := { parameters := [], returnType := none }, accessFlags := 1, code := none }
def k1c1 : Code := { maxStack := 2, maxLocals := 8, code := code, exceptionTable := #[], attributes := #[] }
def k1m1 : Method := { name := "law", desc := "()Z", sig := { parameters := [], returnType := some .boolean }, accessFlags := 9, code := some k1c1 }
/-- com/example/long_fuse/longfuse/SubmissionDueNowPinLaw -/
def k1 : Class := { plain "com/example/long_fuse/longfuse/SubmissionDueNowPinLaw" (some 0) with
  accessFlags := 49
  interfaces := #[]
  cf := some (fileOf pool1 51 #[] #[{ accessFlags := 1, nameIndex := 5, descriptorIndex := 6, attributes := #[] }, { accessFlags := 9, nameIndex := 55, descriptorIndex := 56, attributes := #[] }] 49 2 #[] #[])
  fields := #[]
  methods := #[k1m0, k1m1]
  instanceTypes := #[]
  staticTypes := #[]
  resolved := Array.replicate 60 none
  statics := none }

def pool2 : Array CpInfo := pool [(1, .methodref 2 3), (0, .class_ 4), (0, .nameAndType 5 6), (0, u "java/lang/Object"), (0, u "<init>"), (0, u "()V"), (0, .fieldref 8 9), (0, .class_ 10), (0, .nameAndType 11 12), (0, u "com/example/long_fuse/longfuse/Submission"), (0, u "NO_PAYLOAD"), (0, u "[B"), (0, .fieldref 8 14), (0, .nameAndType 15 12), (0, u "payload"), (0, .fieldref 8 17), (0, .nameAndType 18 19), (0, u "maxAttempts"), (0, u "I"), (0, .fieldref 8 21), (0, .nameAndType 22 23), (0, u "DEFAULT_BACKOFF"), (0, u "Ljava/time/Duration;"), (0, .fieldref 8 25), (0, .nameAndType 26 23), (0, u "backoff"), (0, .fieldref 8 28), (0, .nameAndType 29 23), (0, u "DEFAULT_RETENTION"), (0, .fieldref 8 31), (0, .nameAndType 32 23), (0, u "retention"), (0, .fieldref 8 34), (0, .nameAndType 35 36), (0, u "dueAt"), (0, u "Ljava/time/Instant;"), (0, .fieldref 8 38), (0, .nameAndType 39 23), (0, u "delay"), (0, .methodref 8 41), (0, .nameAndType 5 42), (0, u "(Ljava/time/Instant;Ljava/time/Duration;)V"), (0, .fieldref 8 44), (0, .nameAndType 45 46), (0, u "key"), (0, u "Ljava/lang/String;"), (0, .fieldref 48 49), (0, .class_ 50), (0, .nameAndType 51 23), (0, u "java/time/Duration"), (0, u "ZERO"), (59, u "MAX_PAYLOAD_BYTES"), (1, u "DEFAULT_MAX_ATTEMPTS"), (3, u "dueNow"), (0, u "()Lcom/example/long_fuse/longfuse/Submission;"), (12, u "()Ljava/lang/String;"), (0, u "()Ljava/time/Instant;"), (0, u "()Ljava/time/Duration;"), (0, u "()[B"), (0, u "()I")] 22

def k2c0 : Code := { maxStack := 2, maxLocals := 3, code := prog_11_method_1_code, exceptionTable := #[], attributes := #[] }
def k2m0 : Method := { name := "<init>", desc := "(Ljava/time/Instant;Ljava/time/Duration;)V", sig := { parameters := [(.object "java/time/Instant"), (.object "java/time/Duration")], returnType := none }, accessFlags := 2, code := some k2c0 }
def k2c1 : Code := { maxStack := 4, maxLocals := 0, code := prog_11_method_3_code, exceptionTable := #[], attributes := #[] }
def k2m1 : Method := { name := "dueNow", desc := "()Lcom/example/long_fuse/longfuse/Submission;", sig := { parameters := [], returnType := some (.object "com/example/long_fuse/longfuse/Submission") }, accessFlags := 9, code := some k2c1 }
def k2c2 : Code := { maxStack := 1, maxLocals := 1, code := prog_11_method_12_code, exceptionTable := #[], attributes := #[] }
def k2m2 : Method := { name := "key", desc := "()Ljava/lang/String;", sig := { parameters := [], returnType := some (.object "java/lang/String") }, accessFlags := 0, code := some k2c2 }
def k2c3 : Code := { maxStack := 1, maxLocals := 1, code := prog_11_method_13_code, exceptionTable := #[], attributes := #[] }
def k2m3 : Method := { name := "dueAt", desc := "()Ljava/time/Instant;", sig := { parameters := [], returnType := some (.object "java/time/Instant") }, accessFlags := 0, code := some k2c3 }
def k2c4 : Code := { maxStack := 1, maxLocals := 1, code := prog_11_method_14_code, exceptionTable := #[], attributes := #[] }
def k2m4 : Method := { name := "delay", desc := "()Ljava/time/Duration;", sig := { parameters := [], returnType := some (.object "java/time/Duration") }, accessFlags := 0, code := some k2c4 }
def k2c5 : Code := { maxStack := 1, maxLocals := 1, code := prog_11_method_15_code, exceptionTable := #[], attributes := #[] }
def k2m5 : Method := { name := "payload", desc := "()[B", sig := { parameters := [], returnType := some (.array .byte) }, accessFlags := 0, code := some k2c5 }
def k2c6 : Code := { maxStack := 1, maxLocals := 1, code := prog_11_method_16_code, exceptionTable := #[], attributes := #[] }
def k2m6 : Method := { name := "maxAttempts", desc := "()I", sig := { parameters := [], returnType := some .int }, accessFlags := 0, code := some k2c6 }
def k2c7 : Code := { maxStack := 1, maxLocals := 1, code := prog_11_method_17_code, exceptionTable := #[], attributes := #[] }
def k2m7 : Method := { name := "backoff", desc := "()Ljava/time/Duration;", sig := { parameters := [], returnType := some (.object "java/time/Duration") }, accessFlags := 0, code := some k2c7 }
def k2c8 : Code := { maxStack := 1, maxLocals := 1, code := prog_11_method_18_code, exceptionTable := #[], attributes := #[] }
def k2m8 : Method := { name := "retention", desc := "()Ljava/time/Duration;", sig := { parameters := [], returnType := some (.object "java/time/Duration") }, accessFlags := 0, code := some k2c8 }
/-- com/example/long_fuse/longfuse/Submission -/
def k2 : Class := { plain "com/example/long_fuse/longfuse/Submission" (some 0) with
  accessFlags := 49
  interfaces := #[]
  cf := some (fileOf pool2 8 #[] #[{ accessFlags := 2, nameIndex := 5, descriptorIndex := 42, attributes := #[] }, { accessFlags := 9, nameIndex := 117, descriptorIndex := 118, attributes := #[] }, { accessFlags := 0, nameIndex := 45, descriptorIndex := 131, attributes := #[] }, { accessFlags := 0, nameIndex := 35, descriptorIndex := 132, attributes := #[] }, { accessFlags := 0, nameIndex := 39, descriptorIndex := 133, attributes := #[] }, { accessFlags := 0, nameIndex := 15, descriptorIndex := 134, attributes := #[] }, { accessFlags := 0, nameIndex := 18, descriptorIndex := 135, attributes := #[] }, { accessFlags := 0, nameIndex := 26, descriptorIndex := 133, attributes := #[] }, { accessFlags := 0, nameIndex := 32, descriptorIndex := 133, attributes := #[] }] 49 2 #[] #[{ accessFlags := 24, nameIndex := 111, descriptorIndex := 19, attributes := #[] }, { accessFlags := 24, nameIndex := 113, descriptorIndex := 19, attributes := #[] }, { accessFlags := 24, nameIndex := 22, descriptorIndex := 23, attributes := #[] }, { accessFlags := 24, nameIndex := 29, descriptorIndex := 23, attributes := #[] }, { accessFlags := 26, nameIndex := 11, descriptorIndex := 12, attributes := #[] }, { accessFlags := 2, nameIndex := 45, descriptorIndex := 46, attributes := #[] }, { accessFlags := 18, nameIndex := 35, descriptorIndex := 36, attributes := #[] }, { accessFlags := 18, nameIndex := 39, descriptorIndex := 23, attributes := #[] }, { accessFlags := 2, nameIndex := 15, descriptorIndex := 12, attributes := #[] }, { accessFlags := 2, nameIndex := 18, descriptorIndex := 19, attributes := #[] }, { accessFlags := 2, nameIndex := 26, descriptorIndex := 23, attributes := #[] }, { accessFlags := 2, nameIndex := 32, descriptorIndex := 23, attributes := #[] }])
  fields := #[{ name := "MAX_PAYLOAD_BYTES", type := .int, accessFlags := 24, slot := 0, constantValue := 0 }, { name := "DEFAULT_MAX_ATTEMPTS", type := .int, accessFlags := 24, slot := 1, constantValue := 0 }, { name := "DEFAULT_BACKOFF", type := (.object "java/time/Duration"), accessFlags := 24, slot := 2, constantValue := 0 }, { name := "DEFAULT_RETENTION", type := (.object "java/time/Duration"), accessFlags := 24, slot := 3, constantValue := 0 }, { name := "NO_PAYLOAD", type := (.array .byte), accessFlags := 26, slot := 4, constantValue := 0 }, { name := "key", type := (.object "java/lang/String"), accessFlags := 2, slot := 0, constantValue := 0 }, { name := "dueAt", type := (.object "java/time/Instant"), accessFlags := 18, slot := 1, constantValue := 0 }, { name := "delay", type := (.object "java/time/Duration"), accessFlags := 18, slot := 2, constantValue := 0 }, { name := "payload", type := (.array .byte), accessFlags := 2, slot := 3, constantValue := 0 }, { name := "maxAttempts", type := .int, accessFlags := 2, slot := 4, constantValue := 0 }, { name := "backoff", type := (.object "java/time/Duration"), accessFlags := 2, slot := 5, constantValue := 0 }, { name := "retention", type := (.object "java/time/Duration"), accessFlags := 2, slot := 6, constantValue := 0 }]
  methods := #[k2m0, k2m1, k2m2, k2m3, k2m4, k2m5, k2m6, k2m7, k2m8]
  instanceTypes := #[(.object "java/lang/String"), (.object "java/time/Instant"), (.object "java/time/Duration"), (.array .byte), .int, (.object "java/time/Duration"), (.object "java/time/Duration")]
  staticTypes := #[.int, .int, (.object "java/time/Duration"), (.object "java/time/Duration"), (.array .byte)]
  resolved := Array.replicate 158 none
  statics := some 0 }

def pool3 : Array CpInfo := pool [(1, .class_ 2), (0, u "java/time/temporal/TemporalAmount"), (0, .class_ 4), (0, u "java/lang/Object")] 11

/-- java/time/temporal/TemporalAmount -/
def k3 : Class := { plain "java/time/temporal/TemporalAmount" (some 0) with
  accessFlags := 1537
  interfaces := #[]
  cf := some (fileOf pool3 1 #[] #[] 1537 3 #[] #[])
  fields := #[]
  methods := #[]
  instanceTypes := #[]
  staticTypes := #[]
  resolved := Array.replicate 16 none
  statics := none }

def pool4 : Array CpInfo := pool [(1, .class_ 2), (0, u "java/lang/Comparable"), (0, .class_ 4), (0, u "java/lang/Object")] 7

/-- java/lang/Comparable -/
def k4 : Class := { plain "java/lang/Comparable" (some 0) with
  accessFlags := 1537
  interfaces := #[]
  cf := some (fileOf pool4 1 #[] #[] 1537 3 #[] #[])
  fields := #[]
  methods := #[]
  instanceTypes := #[]
  staticTypes := #[]
  resolved := Array.replicate 12 none
  statics := none }

def pool5 : Array CpInfo := pool [(1, .class_ 2), (0, u "java/io/Serializable"), (0, .class_ 4), (0, u "java/lang/Object")] 2

/-- java/io/Serializable -/
def k5 : Class := { plain "java/io/Serializable" (some 0) with
  accessFlags := 1537
  interfaces := #[]
  cf := some (fileOf pool5 1 #[] #[] 1537 3 #[] #[])
  fields := #[]
  methods := #[]
  instanceTypes := #[]
  staticTypes := #[]
  resolved := Array.replicate 7 none
  statics := none }

def pool6 : Array CpInfo := pool [(11, .class_ 13), (1, u "java/time/Duration"), (20, u "ZERO"), (0, u "Ljava/time/Duration;"), (13, .class_ 51), (1, u "java/time/temporal/TemporalAmount"), (27, .class_ 81), (1, u "java/time/Duration$Lazy"), (35, u "seconds"), (101, .class_ 220), (0, u "java/lang/Object"), (2, u "J"), (2, u "nanos"), (0, u "I"), (11, .class_ 241), (1, u "java/time/Duration$DurationUnits"), (27, .class_ 271), (1, u "java/time/Duration$1"), (91, u "BI_NANOS_PER_SECOND"), (0, u "Ljava/math/BigInteger;"), (120, .class_ 486), (0, u "java/lang/Comparable"), (0, .class_ 488), (0, u "java/io/Serializable"), (0, u "serialVersionUID")] 166

/-- java/time/Duration -/
def k6 : Class := { plain "java/time/Duration" (some 0) with
  accessFlags := 49
  interfaces := #[3, 4, 5]
  cf := some (fileOf pool6 11 #[.nestMembers #[269, 239, 79]] #[] 49 219 #[49, 485, 487] #[{ accessFlags := 25, nameIndex := 34, descriptorIndex := 35, attributes := #[] }, { accessFlags := 26, nameIndex := 489, descriptorIndex := 223, attributes := #[] }, { accessFlags := 26, nameIndex := 363, descriptorIndex := 364, attributes := #[] }, { accessFlags := 18, nameIndex := 117, descriptorIndex := 223, attributes := #[] }, { accessFlags := 18, nameIndex := 226, descriptorIndex := 227, attributes := #[] }])
  fields := #[{ name := "ZERO", type := (.object "java/time/Duration"), accessFlags := 25, slot := 0, constantValue := 0 }, { name := "serialVersionUID", type := .long, accessFlags := 26, slot := 1, constantValue := 0 }, { name := "BI_NANOS_PER_SECOND", type := (.object "java/math/BigInteger"), accessFlags := 26, slot := 2, constantValue := 0 }, { name := "seconds", type := .long, accessFlags := 18, slot := 0, constantValue := 0 }, { name := "nanos", type := .int, accessFlags := 18, slot := 1, constantValue := 0 }]
  methods := #[]
  instanceTypes := #[.long, .int]
  staticTypes := #[(.object "java/time/Duration"), .long, (.object "java/math/BigInteger")]
  resolved := Array.replicate 656 none
  statics := some 1 }

def pool7 : Array CpInfo := pool [(1, u "java/lang/Cloneable"), (0, .class_ 1), (0, u "java/lang/Object"), (0, .class_ 3)] 3

/-- java/lang/Cloneable -/
def k7 : Class := { plain "java/lang/Cloneable" (some 0) with
  accessFlags := 1537
  interfaces := #[]
  cf := some (fileOf pool7 2 #[] #[] 1537 4 #[] #[])
  fields := #[]
  methods := #[]
  instanceTypes := #[]
  staticTypes := #[]
  resolved := Array.replicate 8 none
  statics := none }

/-- the primitive byte -/
def k8 : Class := { plain "byte" none with kind := .primitive 'B', accessFlags := 0x411 }
/-- [B -/
def k9 : Class := { plain "[B" (some 0) with kind := .array 8 .byte, interfaces := #[7, 5], accessFlags := 1041 }

/-- the primitive int -/
def k10 : Class := { plain "int" none with kind := .primitive 'I', accessFlags := 0x411 }
/-- [I -/
def k11 : Class := { plain "[I" (some 0) with kind := .array 10 .int, interfaces := #[7, 5], accessFlags := 1041 }

def heap : Heap := #[{ cls := 2, slots := #[.int 0, .int 0, .ref 3, .ref 4, .ref 2], vm := .statics 2 },
  { cls := 6, slots := #[.ref 5, .long 0, .null], vm := .statics 6 },
  { cls := 9, slots := #[], vm := .none },
  { cls := 6, slots := #[.long 1, .int 0], vm := .none },
  { cls := 6, slots := #[.long 2, .int 0], vm := .none },
  { cls := 6, slots := #[.long 0, .int 0], vm := .none }]
def classes : Array Class := #[k0, k1, k2, k3, k4, k5, k6, k7, k8, k9, k10, k11]
def interned : List (Array UInt16 × Addr) := []
def slotsUsed : Nat := 14
def theMethod : MethodId := ⟨1, 1⟩
def args0 : Array Value := #[]
def aboutOver (below : List Frame) : State where
  vm := { classes := classes, interned := interned.toArray }
  heap := heap
  slotsUsed := slotsUsed
  threads := #[{ frames := .invoking theMethod args0 :: below }]
def below0 : List Frame := [.native { method := ⟨0, 0⟩, args := #[] }]
def about1 : State := aboutOver below0
def p0 : Program := .bare "" "" ""
def e0 : Env := launch0.env 0 0 0
theorem w_frames : about1.frames = Frame.invoking theMethod args0 :: below0 := rfl
set_option maxRecDepth 65536 in
theorem w_args : argsFit about1.vm theMethod args0 = true := by decide +kernel
set_option maxRecDepth 65536 in
theorem w_heap : heapFits about1 = true := by decide +kernel
set_option maxRecDepth 65536 in
theorem w_runnable : about1.curStatus? = some .runnable := by decide +kernel
set_option maxRecDepth 65536 in
theorem w_alone : about1.alone = true := by decide +kernel
set_option maxRecDepth 65536 in
theorem w_named : about1.methodNamed? x = some theMethod := by decide +kernel
set_option maxRecDepth 65536 in
theorem w_hears : about1.hears theMethod below0 = true := by decide +kernel
set_option maxRecDepth 65536 in
theorem w_ripe : about1.ripe theMethod args0 below0 = true := by decide +kernel
theorem w_running : about1.status = .running := rfl
set_option maxRecDepth 65536 in
theorem w_room : about1.hasRoom e0.platform room_1 = true :=
  launch0.hasRoom_least _ room_1 (by decide +kernel) (by decide +kernel) (by decide +kernel) (by decide +kernel) (by decide +kernel) (by decide +kernel)
theorem allAtoms_all (ts : List Jvm.Cond) (a : Array Jvm.Value) (st : Jvm.State) : (allAtoms ts).before a st = ts.all (fun c => c.before a st) := by
  induction ts with
  | nil => rfl
  | cons c t ih =>
    show (Jvm.Cond.and c (allAtoms t)).before a st = _
    rw [Jvm.Cond.before_and, ih, List.all_cons]
def words1 : List Jvm.Cond := Jvm.Cond.code x code maxLocals ret :: tables_1
/-- a 'code' word, met by the world's own term for the bytes: nothing is compared byte by byte -/
theorem code_word {y : MethodName} {bytes : ByteArray} {mx : Nat} {rt : Option FieldType} {a : Array Value} {s : State} {m : MethodId} {meth : Method} {c : Code} (h1 : s.methodNamed? y = some m) (h2 : s.vm.method? m = some meth) (h3 : meth.code = some c) (h4 : c.code = bytes)
    (h5 : (c.maxLocals == mx && c.exceptionTable.isEmpty && decide (c.maxStack ≤ mostOperands) && decide (meth.sig.returnType = rt) && !meth.locks && decide (parseMethodDescriptor y.desc = some meth.sig)) = true) : (Jvm.Cond.code y bytes mx rt).before a s = true := by
  simp only [Bool.and_eq_true, beq_iff_eq, Bool.not_eq_true', decide_eq_true_eq] at h5
  obtain ⟨⟨⟨⟨⟨g1, g2⟩, g3⟩, g4⟩, g5⟩, g6⟩ := h5
  simp [Cond.before, Cond.holds, Cond.value, h1, h2, h3, h4, g1, g2, g3, g4, g5, g6]
def isCode : Jvm.Cond → Bool
  | .code _ _ _ _ => true
  | _ => false
theorem all_split {L : List Jvm.Cond} {P : Jvm.Cond → Bool} (h1 : L.all (fun c => isCode c || P c) = true) (h2 : ∀ c ∈ L.filter isCode, P c = true) : L.all P = true := by
  refine List.all_eq_true.mpr fun c hc => ?_
  have h := List.all_eq_true.mp h1 c hc
  rcases Bool.eq_false_or_eq_true (isCode c) with hi | hi
  · exact h2 c (List.mem_filter.mpr ⟨hc, hi⟩)
  · simpa [hi] using h
set_option maxRecDepth 65536 in
theorem w_c0 : (Jvm.Cond.code x code maxLocals ret).before args0 about1 = true := code_word (m := ⟨1, 1⟩) (meth := k1m1) (c := k1c1) (by decide +kernel) rfl rfl rfl (by decide +kernel)
set_option maxRecDepth 65536 in
theorem w_c1 : (Jvm.Cond.code ({ cls := "com/example/long_fuse/longfuse/Submission", name := "dueNow", desc := "()Lcom/example/long_fuse/longfuse/Submission;" } : Jvm.MethodName) prog_11_method_3_code (0 : Nat) (Option.some (Jvm.ClassFile.FieldType.object "com/example/long_fuse/longfuse/Submission"))).before args0 about1 = true := code_word (m := ⟨2, 1⟩) (meth := k2m1) (c := k2c1) (by decide +kernel) rfl rfl rfl (by decide +kernel)
set_option maxRecDepth 65536 in
theorem w_c2 : (Jvm.Cond.code ({ cls := "com/example/long_fuse/longfuse/Submission", name := "<init>", desc := "(Ljava/time/Instant;Ljava/time/Duration;)V" } : Jvm.MethodName) prog_11_method_1_code (3 : Nat) (Option.none : Option Jvm.ClassFile.FieldType)).before args0 about1 = true := code_word (m := ⟨2, 0⟩) (meth := k2m0) (c := k2c0) (by decide +kernel) rfl rfl rfl (by decide +kernel)
set_option maxRecDepth 65536 in
theorem w_c3 : (Jvm.Cond.code ({ cls := "java/lang/Object", name := "<init>", desc := "()V" } : Jvm.MethodName) object_method_1_code (1 : Nat) (Option.none : Option Jvm.ClassFile.FieldType)).before args0 about1 = true := code_word (m := ⟨0, 0⟩) (meth := k0m0) (c := k0c0) (by decide +kernel) rfl rfl rfl (by decide +kernel)
set_option maxRecDepth 65536 in
theorem w_c4 : (Jvm.Cond.code ({ cls := "com/example/long_fuse/longfuse/Submission", name := "dueAt", desc := "()Ljava/time/Instant;" } : Jvm.MethodName) prog_11_method_13_code (1 : Nat) (Option.some (Jvm.ClassFile.FieldType.object "java/time/Instant"))).before args0 about1 = true := code_word (m := ⟨2, 3⟩) (meth := k2m3) (c := k2c3) (by decide +kernel) rfl rfl rfl (by decide +kernel)
set_option maxRecDepth 65536 in
theorem w_c5 : (Jvm.Cond.code ({ cls := "com/example/long_fuse/longfuse/Submission", name := "delay", desc := "()Ljava/time/Duration;" } : Jvm.MethodName) prog_11_method_14_code (1 : Nat) (Option.some (Jvm.ClassFile.FieldType.object "java/time/Duration"))).before args0 about1 = true := code_word (m := ⟨2, 4⟩) (meth := k2m4) (c := k2c4) (by decide +kernel) rfl rfl rfl (by decide +kernel)
set_option maxRecDepth 65536 in
theorem w_c6 : (Jvm.Cond.code ({ cls := "com/example/long_fuse/longfuse/Submission", name := "key", desc := "()Ljava/lang/String;" } : Jvm.MethodName) prog_11_method_12_code (1 : Nat) (Option.some (Jvm.ClassFile.FieldType.object "java/lang/String"))).before args0 about1 = true := code_word (m := ⟨2, 2⟩) (meth := k2m2) (c := k2c2) (by decide +kernel) rfl rfl rfl (by decide +kernel)
set_option maxRecDepth 65536 in
theorem w_c7 : (Jvm.Cond.code ({ cls := "com/example/long_fuse/longfuse/Submission", name := "payload", desc := "()[B" } : Jvm.MethodName) prog_11_method_15_code (1 : Nat) (Option.some (Jvm.ClassFile.FieldType.array Jvm.ClassFile.FieldType.byte))).before args0 about1 = true := code_word (m := ⟨2, 5⟩) (meth := k2m5) (c := k2c5) (by decide +kernel) rfl rfl rfl (by decide +kernel)
set_option maxRecDepth 65536 in
theorem w_c8 : (Jvm.Cond.code ({ cls := "com/example/long_fuse/longfuse/Submission", name := "maxAttempts", desc := "()I" } : Jvm.MethodName) prog_11_method_16_code (1 : Nat) (Option.some Jvm.ClassFile.FieldType.int)).before args0 about1 = true := code_word (m := ⟨2, 6⟩) (meth := k2m6) (c := k2c6) (by decide +kernel) rfl rfl rfl (by decide +kernel)
set_option maxRecDepth 65536 in
theorem w_c9 : (Jvm.Cond.code ({ cls := "com/example/long_fuse/longfuse/Submission", name := "backoff", desc := "()Ljava/time/Duration;" } : Jvm.MethodName) prog_11_method_17_code (1 : Nat) (Option.some (Jvm.ClassFile.FieldType.object "java/time/Duration"))).before args0 about1 = true := code_word (m := ⟨2, 7⟩) (meth := k2m7) (c := k2c7) (by decide +kernel) rfl rfl rfl (by decide +kernel)
set_option maxRecDepth 65536 in
theorem w_c10 : (Jvm.Cond.code ({ cls := "com/example/long_fuse/longfuse/Submission", name := "retention", desc := "()Ljava/time/Duration;" } : Jvm.MethodName) prog_11_method_18_code (1 : Nat) (Option.some (Jvm.ClassFile.FieldType.object "java/time/Duration"))).before args0 about1 = true := code_word (m := ⟨2, 8⟩) (meth := k2m8) (c := k2c8) (by decide +kernel) rfl rfl rfl (by decide +kernel)
def codes1 : List Jvm.Cond := [Jvm.Cond.code x code maxLocals ret, Jvm.Cond.code ({ cls := "com/example/long_fuse/longfuse/Submission", name := "dueNow", desc := "()Lcom/example/long_fuse/longfuse/Submission;" } : Jvm.MethodName) prog_11_method_3_code (0 : Nat) (Option.some (Jvm.ClassFile.FieldType.object "com/example/long_fuse/longfuse/Submission")), Jvm.Cond.code ({ cls := "com/example/long_fuse/longfuse/Submission", name := "<init>", desc := "(Ljava/time/Instant;Ljava/time/Duration;)V" } : Jvm.MethodName) prog_11_method_1_code (3 : Nat) (Option.none : Option Jvm.ClassFile.FieldType), Jvm.Cond.code ({ cls := "java/lang/Object", name := "<init>", desc := "()V" } : Jvm.MethodName) object_method_1_code (1 : Nat) (Option.none : Option Jvm.ClassFile.FieldType), Jvm.Cond.code ({ cls := "com/example/long_fuse/longfuse/Submission", name := "dueAt", desc := "()Ljava/time/Instant;" } : Jvm.MethodName) prog_11_method_13_code (1 : Nat) (Option.some (Jvm.ClassFile.FieldType.object "java/time/Instant")), Jvm.Cond.code ({ cls := "com/example/long_fuse/longfuse/Submission", name := "delay", desc := "()Ljava/time/Duration;" } : Jvm.MethodName) prog_11_method_14_code (1 : Nat) (Option.some (Jvm.ClassFile.FieldType.object "java/time/Duration")), Jvm.Cond.code ({ cls := "com/example/long_fuse/longfuse/Submission", name := "key", desc := "()Ljava/lang/String;" } : Jvm.MethodName) prog_11_method_12_code (1 : Nat) (Option.some (Jvm.ClassFile.FieldType.object "java/lang/String")), Jvm.Cond.code ({ cls := "com/example/long_fuse/longfuse/Submission", name := "payload", desc := "()[B" } : Jvm.MethodName) prog_11_method_15_code (1 : Nat) (Option.some (Jvm.ClassFile.FieldType.array Jvm.ClassFile.FieldType.byte)), Jvm.Cond.code ({ cls := "com/example/long_fuse/longfuse/Submission", name := "maxAttempts", desc := "()I" } : Jvm.MethodName) prog_11_method_16_code (1 : Nat) (Option.some Jvm.ClassFile.FieldType.int), Jvm.Cond.code ({ cls := "com/example/long_fuse/longfuse/Submission", name := "backoff", desc := "()Ljava/time/Duration;" } : Jvm.MethodName) prog_11_method_17_code (1 : Nat) (Option.some (Jvm.ClassFile.FieldType.object "java/time/Duration")), Jvm.Cond.code ({ cls := "com/example/long_fuse/longfuse/Submission", name := "retention", desc := "()Ljava/time/Duration;" } : Jvm.MethodName) prog_11_method_18_code (1 : Nat) (Option.some (Jvm.ClassFile.FieldType.object "java/time/Duration"))]
set_option maxRecDepth 65536 in
theorem codes_eq : words1.filter isCode = codes1 := rfl
theorem w_codes : ∀ c ∈ words1.filter isCode, c.before args0 about1 = true := by
  rw [codes_eq]
  intro c hc
  simp only [codes1, List.mem_cons, List.not_mem_nil, or_false] at hc
  rcases hc with rfl | rfl | rfl | rfl | rfl | rfl | rfl | rfl | rfl | rfl | rfl
  · exact w_c0
  · exact w_c1
  · exact w_c2
  · exact w_c3
  · exact w_c4
  · exact w_c5
  · exact w_c6
  · exact w_c7
  · exact w_c8
  · exact w_c9
  · exact w_c10
set_option maxRecDepth 65536 in
theorem w_t1 : (words1.take 24).all (fun c => isCode c || c.before args0 about1) = true := by decide +kernel
set_option maxRecDepth 65536 in
theorem w_t2 : ((words1.drop 24).take 24).all (fun c => isCode c || c.before args0 about1) = true := by decide +kernel
set_option maxRecDepth 65536 in
theorem w_t3 : (((words1.drop 24).drop 24).take 24).all (fun c => isCode c || c.before args0 about1) = true := by decide +kernel
set_option maxRecDepth 65536 in
theorem w_t4 : (((words1.drop 24).drop 24).drop 24).all (fun c => isCode c || c.before args0 about1) = true := by decide +kernel
theorem w_tables : (allAtoms (Jvm.Cond.code x code maxLocals ret :: tables_1)).before args0 about1 = true := by
  rw [allAtoms_all]
  show words1.all (fun c => c.before args0 about1) = true
  refine all_split ?_ w_codes
  rw [← List.take_append_drop 24 words1, List.all_append, w_t1, ← List.take_append_drop 24 (words1.drop 24), List.all_append, w_t2, ← List.take_append_drop 24 ((words1.drop 24).drop 24), List.all_append, w_t3, w_t4]
  rfl
set_option maxRecDepth 65536 in
theorem w_rest : rest_1_c.before args0 about1 = true := by decide +kernel
set_option maxRecDepth 65536 in
theorem w_case : (Jvm.Cond.and given_1 narrow_1).before args0 about1 = true := by decide +kernel
theorem w_applies : (headSpec (Jvm.Cond.code x code maxLocals ret :: tables_1) room_1).applies x e0.platform about1 = true :=
  (Spec.applies_iff w_frames).mpr ⟨w_running, w_runnable, w_alone, w_named, w_hears, w_ripe, w_room, w_tables⟩
theorem atStart : AtStart classFile x code maxLocals ret World_1 tables_1 room_1 Calls_1 rest_1 Pre_1 launch0 p0 e0 about1 theMethod args0 below0 :=
  ⟨lists_1, trivial, launch0.admits_env _ _ _, launch0.least_env, fairChoices_fair.cas, fairChoices_fair.clock, w_frames, w_args, w_heap, w_applies, trivial, w_rest, w_case⟩
end start1
theorem witness_1 : WitnessClaimed_1 := ⟨start1.p0, start1.e0, start1.about1, start1.theMethod, start1.args0, start1.below0, start1.atStart⟩
end Jvm.Pilot.@@N@@
