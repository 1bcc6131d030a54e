import JvmDerived
import JvmDerived.Pilot.@@N@@Statement
import JvmDerived.Pilot.@@N@@Code
set_option linter.unusedVariables false
set_option linter.unusedSimpArgs false
namespace Jvm.OwnKit
open Jvm Sem ClassFile Op Lib Jvm.Stand Jvm.Free Jvm.LawKit Jvm.RoadKit
section K
variable {p : Program} {l : Launch} {e : Env} {R : Room} {s : State} {m : MethodId} {args : Array Value} {below : List Frame} {meth : Method} {c : Code} {T T' : State} {locs : List Loc} {cells slots : Nat} {Z : State} {a0 : Array Value} {h h0 : Heap} {ce sl : Nat} {Q : Option Value → Heap → List Loc → Prop} {P : Option Value → State → List Loc → Prop} {pc : Nat} {Ls : Array Slot} {rest : List Value}
/-- from this state and frame the body runs to its end, and Q holds there -/
def Go (p : Program) (e : Env) (below : List Frame) (P : Option Value → State → List Loc → Prop) (T : State) (g : JFrame) : Prop :=
  ∃ u v L, Steps p.tables e below (T.setTop g) u ∧ u.status = .running ∧ Ended u below (.returned v) ∧ P v u L
/-- the end of a body that interns nothing -/
def EndF (s : State) (ce sl : Nat) (Q : Option Value → Heap → List Loc → Prop) (v : Option Value) (u : State) (L : List Loc) : Prop := Q v u.heap L ∧ FrameEnd s (.returned v) u L ce sl
theorem Go.by {g g' : JFrame} (st : ∀ t, Steps p.tables e below (T'.setTop g') t → Steps p.tables e below (T.setTop g) t) (k : Go p e below P T' g') : Go p e below P T g := by
  obtain ⟨u, v, L, h1, r⟩ := k; exact ⟨u, v, L, st u h1, r⟩
theorem Go.cast {g g' : JFrame} (q : g = g') (k : Go p e below P T g') : Go p e below P T g := q ▸ k
/-- a body's contract at given arguments and a given heap -/
def Ct (l : Launch) (y : MethodName) (bytes : ByteArray) (maxL : Nat) (ret : Option FieldType) (rm : Room) (Z : State) (as' : Array Value) (h0 : Heap) (Q : Option Value → Heap → List Loc → Prop) : Prop :=
  ∀ ws : List Jvm.Cond, MetFree l y (head1 (Jvm.Cond.code y bytes maxL ret :: ws) rm) (fun a U => a = as' ∧ Z.Warmed39 U.vm ∧ U.heap = h0) (fun _ _ _ _ _ => True) (fun _ U o U' => ∃ v L, o = .returned v ∧ Q v U'.heap L ∧ FrameEnd U o U' L rm.cells rm.slots)
theorem Ct.of {y : MethodName} {bytes : ByteArray} {maxL : Nat} {ret : Option FieldType} {rm : Room} {as' : Array Value} (hpl : plainFor y = true)
    (body : ∀ (p : Program) (e : Env) (s : State) (m : MethodId) (below : List Frame) (meth : Method) (c : Code) (T : State), Stand p l e rm s m as' below meth c T [] 0 0 → p.tables.exec = Jvm.exec → c.code = bytes → c.maxLocals = maxL → s.vm.findClass y.cls = some m.cls → meth.name = y.name → meth.sig.returnType = ret → meth.locks = false → Z.Warmed39 s.vm → T.heap = h0 →
      Go p e below (EndF s rm.cells rm.slots Q) T (entryFrame m as' maxL)) : Ct l y bytes maxL ret rm Z as' h0 Q := by
  intro ws
  refine MetFree.of_bodySF hpl hisR ?_
  intro p e s m args below meth c s₁ Bd hml0 hP hK
  obtain ⟨rfl, hZ, hh⟩ := hP
  obtain ⟨u, v, L, h1, h2, h3, r⟩ := body p e s m below meth c s₁ (Stand.of_body Bd) Bd.exec Bd.bytes hml0 (findClass_of_methodNamed Bd.named) (name_of_methodNamed Bd.named Bd.method).1 Bd.returns (BodyLoose.notSynchronized Bd) hZ (by rw [← hh, Bd.state]; rfl)
  exact ⟨u, _, h1, h2, h3, v, L, rfl, r.1, r.2⟩
theorem Ct.mono {y : MethodName} {bytes : ByteArray} {maxL : Nat} {ret : Option FieldType} {rm : Room} {as' : Array Value} {Q' : Option Value → Heap → List Loc → Prop} (k : Ct l y bytes maxL ret rm Z as' h0 Q) (q : ∀ v h L, Q v h L → Q' v h L) : Ct l y bytes maxL ret rm Z as' h0 Q' := by
  intro ws p e ha hc hk s m args below hf happ hP hK
  obtain ⟨n, o, h1, h2, h3, v, L, h4, h5, h6⟩ := k ws p e ha hc hk s m args below hf happ hP hK
  exact ⟨n, o, h1, h2, h3, v, L, h4, q _ _ _ h5, h6⟩
theorem wd {ws : List Jvm.Cond} (hw : ∀ d ∈ ws, d.before a0 Z = true) {d : Jvm.Cond} (i : Nat) (q : ws[i]? = some d) : d.before a0 Z = true := hw _ (List.mem_of_getElem? q)
theorem Go.fin (X : Stand p l e R s m args below meth c T locs cells slots) (hlk : meth.locks = false) {v : Option Value} (hv : meth.sig.returnType = none → v = none) {g : JFrame}
    (st : ∀ fs, (∀ (f : JFrame) (acts : List Action), f.method = m → f.locked = none → f.entered = [] → (doReturn e (T.setTop f) acts v).1 = T.setFrames fs) → Steps p.tables e below (T.setTop g) (T.setFrames fs)) (hc : cells ≤ ce) (hs : slots ≤ sl) (eT : T.heap = h) (q : Q v h locs) : Go p e below (EndF s ce sl Q) T g := by
  obtain ⟨fs, hr, hrun, hended, hW, hsame⟩ := X.leave (v := v) hv hlk
  subst eT
  exact ⟨_, _, _, st fs hr, hrun, hended, q, ⟨_, rfl⟩, hW, hsame.mono hc hs⟩
theorem Go.retI (X : Stand p l e R s m args below meth c T locs cells slots) (hx : p.tables.exec = Jvm.exec) (hlk : meth.locks = false) (hret : meth.sig.returnType = some .int) {z : Int32} (hd : decode c.code pc = .ok (.ireturn, 1)) (hc : cells ≤ ce) (hs : slots ≤ sl) (eT : T.heap = h) (q : Q (some (.int z)) h locs) : Go p e below (EndF s ce sl Q) T (mkF m pc Ls (.int z :: rest)) :=
  Go.fin X hlk (fun h => by rw [hret] at h; cases h) (fun fs hl => retOut X hx hret rfl (Or.inl ⟨rfl, Or.inl rfl, z, rfl⟩) hd hl) hc hs eT q
theorem Go.retZ (X : Stand p l e R s m args below meth c T locs cells slots) (hx : p.tables.exec = Jvm.exec) (hlk : meth.locks = false) (hret : meth.sig.returnType = some .boolean) {z : Int32} (hz : z = 0 ∨ z = 1) (hd : decode c.code pc = .ok (.ireturn, 1)) (hc : cells ≤ ce) (hs : slots ≤ sl) (eT : T.heap = h) (q : Q (some (.int z)) h locs) : Go p e below (EndF s ce sl Q) T (mkF m pc Ls (.int z :: rest)) :=
  Go.fin X hlk (fun h => by rw [hret] at h; cases h) (fun fs hl => retOut X hx hret (by rcases hz with rfl | rfl <;> rfl) (Or.inl ⟨rfl, Or.inr (Or.inl rfl), z, rfl⟩) hd hl) hc hs eT q
theorem Go.retS (X : Stand p l e R s m args below meth c T locs cells slots) (hx : p.tables.exec = Jvm.exec) (hlk : meth.locks = false) {t : FieldType} (hret : meth.sig.returnType = some t) (ht : t = .byte ∨ t = .char ∨ t = .short) {z : Int32} (hz : narrow t (.int z) = .int z) (hd : decode c.code pc = .ok (.ireturn, 1)) (hc : cells ≤ ce) (hs : slots ≤ sl) (eT : T.heap = h) (q : Q (some (.int z)) h locs) : Go p e below (EndF s ce sl Q) T (mkF m pc Ls (.int z :: rest)) :=
  Go.fin X hlk (fun h => by rw [hret] at h; cases h) (fun fs hl => retOut X hx hret hz (Or.inl ⟨rfl, Or.inr (Or.inr ht), z, rfl⟩) hd hl) hc hs eT q
theorem Go.retJ (X : Stand p l e R s m args below meth c T locs cells slots) (hx : p.tables.exec = Jvm.exec) (hlk : meth.locks = false) (hret : meth.sig.returnType = some .long) {z : Int64} (hd : decode c.code pc = .ok (.lreturn, 1)) (hc : cells ≤ ce) (hs : slots ≤ sl) (eT : T.heap = h) (q : Q (some (.long z)) h locs) : Go p e below (EndF s ce sl Q) T (mkF m pc Ls (.long z :: rest)) :=
  Go.fin X hlk (fun h => by rw [hret] at h; cases h) (fun fs hl => retOut X hx hret rfl (Or.inr (Or.inl ⟨rfl, rfl, z, rfl⟩)) hd hl) hc hs eT q
theorem Go.retA (X : Stand p l e R s m args below meth c T locs cells slots) (hx : p.tables.exec = Jvm.exec) (hlk : meth.locks = false) {t : FieldType} (hret : meth.sig.returnType = some t) (ht : t.isReference = true) {v : Value} (hv : v.isRef = true) (hd : decode c.code pc = .ok (.areturn, 1)) (hc : cells ≤ ce) (hs : slots ≤ sl) (eT : T.heap = h) (q : Q (some v) h locs) : Go p e below (EndF s ce sl Q) T (mkF m pc Ls (v :: rest)) :=
  Go.fin X hlk (fun h => by rw [hret] at h; cases h) (fun fs hl => retOut X hx hret (by cases t <;> simp_all [FieldType.isReference, narrow]) (Or.inr (Or.inr (Or.inr (Or.inr ⟨rfl, ht, hv⟩)))) hd hl) hc hs eT q
theorem Go.retV (X : Stand p l e R s m args below meth c T locs cells slots) (hx : p.tables.exec = Jvm.exec) (hlk : meth.locks = false) (hret : meth.sig.returnType = none) (hd : decode c.code pc = .ok (.return_, 1)) (hc : cells ≤ ce) (hs : slots ≤ sl) (eT : T.heap = h) (q : Q none h locs) : Go p e below (EndF s ce sl Q) T (mkF m pc Ls []) :=
  Go.fin X hlk (fun _ => rfl) (fun fs hl => X.returnOut hx hret hd hl) hc hs eT q
/-! one law a step that reads the tables or the heap -/
theorem Go.getF (X : Stand p l e R s m args below meth c T locs cells slots) (hx : p.tables.exec = Jvm.exec) (hZ : Z.Warmed39 s.vm) {own R0 O n d : String} {index : Nat} (hown : s.vm.findClass own = some m.cls) (w : (Jvm.Cond.fieldLink own index R0 n d).before a0 Z = true) (via : Via Z R0 O n d) (eT : T.heap = h) {a : Addr} {v : Value} (F : Fld Z h a O n d v)
    (hd : decode c.code pc = .ok (.getfield index, 3)) (k : ∀ T', Stand p l e R s m args below meth c T' locs cells slots → T'.heap = h → Go p e below P T' (mkF m (pc + 3) Ls (v :: rest))) : Go p e below P T (mkF m pc Ls (.ref a :: rest)) := by
  obtain ⟨T', X', e', st⟩ := RoadKit.getF X hx hZ hown (host := "") (Or.inl w) via eT F (g := mkF m pc Ls (.ref a :: rest)) rfl rfl hd
  exact Go.by st (k T' X' e')
theorem Go.getFN (X : Stand p l e R s m args below meth c T locs cells slots) (hx : p.tables.exec = Jvm.exec) (hZ : Z.Warmed39 s.vm) {own R0 O n d host : String} {index : Nat} (hown : s.vm.findClass own = some m.cls) (w : (Jvm.Cond.fieldLinkNest own index R0 n d host).before a0 Z = true) (via : Via Z R0 O n d) (eT : T.heap = h) {a : Addr} {v : Value} (F : Fld Z h a O n d v)
    (hd : decode c.code pc = .ok (.getfield index, 3)) (k : ∀ T', Stand p l e R s m args below meth c T' locs cells slots → T'.heap = h → Go p e below P T' (mkF m (pc + 3) Ls (v :: rest))) : Go p e below P T (mkF m pc Ls (.ref a :: rest)) := by
  obtain ⟨T', X', e', st⟩ := RoadKit.getF X hx hZ hown (host := host) (Or.inr w) via eT F (g := mkF m pc Ls (.ref a :: rest)) rfl rfl hd
  exact Go.by st (k T' X' e')
theorem Go.putF (X : Stand p l e R s m args below meth c T locs cells slots) (hx : p.tables.exec = Jvm.exec) (hZ : Z.Warmed39 s.vm) {own R0 O n d C : String} {index kk : Nat} {ty : FieldType} (hown : s.vm.findClass own = some m.cls) (w : (Jvm.Cond.fieldLink own index R0 n d).before a0 Z = true) (via : Via Z R0 O n d) (eT : T.heap = h) {a : Addr} {v old : Value} (F : Fld Z h a O n d old) (E : Exa Z h a C)
    (L : (Jvm.Cond.lays C O n d).before a0 Z = true ∨ ((Jvm.Cond.laysFinal C O n d).before a0 Z = true ∧ own = O ∧ meth.name = "<init>")) (wi : (Jvm.Cond.instantiable C kk).before a0 Z = true) (hty : parseFieldDescriptor d = some ty) (hn : narrow ty v = v) (hf : fits ty v = true) (hd : decode c.code pc = .ok (.putfield index, 3))
    (k : ∀ T' h', Stand p l e R s m args below meth c T' (locs ++ [⟨a, RoadKit.slotOf Z O n d⟩]) cells slots → T'.heap = h' → Wr h h' a (RoadKit.slotOf Z O n d) v → Go p e below P T' (mkF m (pc + 3) Ls rest)) : Go p e below P T (mkF m pc Ls (v :: .ref a :: rest)) := by
  obtain ⟨T', h', X', e', W', st⟩ := RoadKit.putF X hx hZ hown (host := "") (Or.inl w) via eT F E L wi hty hn hf (g := mkF m pc Ls (v :: .ref a :: rest)) rfl rfl hd
  exact Go.by st (k T' h' X' e' W')
theorem Go.getS (X : Stand p l e R s m args below meth c T locs cells slots) (hx : p.tables.exec = Jvm.exec) (hZ : Z.Warmed39 s.vm) {own R0 O n d : String} {index : Nat} (hown : s.vm.findClass own = some m.cls) (w : (Jvm.Cond.fieldLink own index R0 n d).before a0 Z = true) (via : Via Z R0 O n d) (eT : T.heap = h) {v : Value} (F : Sta Z h O n d v) {st : List Value}
    (hd : decode c.code pc = .ok (.getstatic index, 3)) (k : ∀ T', Stand p l e R s m args below meth c T' locs cells slots → T'.heap = h → Go p e below P T' (mkF m (pc + 3) Ls (v :: st))) : Go p e below P T (mkF m pc Ls st) := by
  obtain ⟨T', X', e', st'⟩ := RoadKit.getS X hx hZ hown (host := "") w via eT F (g := mkF m pc Ls st) rfl hd
  exact Go.by st' (k T' X' e')
theorem Go.getSN (X : Stand p l e R s m args below meth c T locs cells slots) (hx : p.tables.exec = Jvm.exec) (hZ : Z.Warmed39 s.vm) {own R0 O n d host : String} {index : Nat} (hown : s.vm.findClass own = some m.cls) (w : (Jvm.Cond.fieldLinkNest own index R0 n d host).before a0 Z = true) (via : Via Z R0 O n d) (eT : T.heap = h) {v : Value} (F : Sta Z h O n d v) {st : List Value}
    (hd : decode c.code pc = .ok (.getstatic index, 3)) (k : ∀ T', Stand p l e R s m args below meth c T' locs cells slots → T'.heap = h → Go p e below P T' (mkF m (pc + 3) Ls (v :: st))) : Go p e below P T (mkF m pc Ls st) := by
  obtain ⟨T', X', e', st'⟩ := getS2 X hx hZ hown (Or.inr w) via eT F (g := mkF m pc Ls st) rfl hd
  exact Go.by st' (k T' X' e')
theorem Go.newO (X : Stand p l e R s m args below meth c T locs cells slots) (hx : p.tables.exec = Jvm.exec) (hZ : Z.Warmed39 s.vm) {own C : String} {index n : Nat} (hown : s.vm.findClass own = some m.cls) (w : (Jvm.Cond.classLink own index C).before a0 Z = true) (wi : (Jvm.Cond.instantiable C n).before a0 Z = true) (wz : (Jvm.Cond.initialized C).before a0 Z = true) (eT : T.heap = h) {st : List Value}
    (hd : decode c.code pc = .ok (.new index, 3)) (hc : cells + 1 ≤ R.cells) (hl : slots + n ≤ R.slots)
    (k : ∀ T' h' b, Stand p l e R s m args below meth c T' locs (cells + 1) (slots + n) → T'.heap = h' → Ext h h' → b = h.size → Exa Z h' b C → (∀ {O nm d : String} {ty : FieldType}, Laid Z a0 C O nm d → parseFieldDescriptor d = some ty → Fld Z h' b O nm d (defaultValue ty)) → Go p e below P T' (mkF m (pc + 3) Ls (.ref b :: st))) : Go p e below P T (mkF m pc Ls st) := by
  obtain ⟨T', h', X', e', E', A', D', -, st'⟩ := RoadKit.newO X hx hZ hown w wi wz eT (g := mkF m pc Ls st) rfl hd hc hl
  exact Go.by st' (k T' h' _ X' e' E' rfl A' D')
theorem Go.newP (X : Stand p l e R s m args below meth c T locs cells slots) (hx : p.tables.exec = Jvm.exec) (hZ : Z.Warmed39 s.vm) {aty : ArrayType} (w : (Jvm.Cond.arrayClass (newarray.typeOf aty)).before a0 Z = true) (eT : T.heap = h) {n : Int32} (hd : decode c.code pc = .ok (.newarray aty, 2)) (hn : ¬ n < 0) {cap : Nat} (hcap : n.toNatClampNeg ≤ cap) (hb : cap * 8 ≤ 536870912) (hc : cells + 1 ≤ R.cells) (hl : slots + cap ≤ R.slots)
    (k : ∀ T' h' b kA, Stand p l e R s m args below meth c T' locs (cells + 1) (slots + cap) → T'.heap = h' → Ext h h' → b = h.size → Arv Z h' b kA (newarray.typeOf aty) n [] (defaultValue (newarray.typeOf aty)) → Go p e below P T' (mkF m (pc + 2) Ls (.ref b :: rest))) : Go p e below P T (mkF m pc Ls (.int n :: rest)) := by
  obtain ⟨T', h', kA, X', e', E', A', st'⟩ := RoadKit.newP X hx hZ w eT (g := mkF m pc Ls (.int n :: rest)) rfl hd rfl hn hcap hb hc hl
  exact Go.by st' (k T' h' _ kA X' e' E' rfl (Arv.new A' hn))
theorem Go.initO (X : Stand p l e R s m args below meth c T locs cells slots) (hx : p.tables.exec = Jvm.exec) (hZ : Z.Warmed39 s.vm) {own : String} {idx : Nat} (hown : s.vm.findClass own = some m.cls) (w1 : (Jvm.Cond.methodLink own idx Lib.objectInit).before a0 Z = true) (w2 : (Jvm.Cond.instanceMethod Lib.objectInit).before a0 Z = true) (w3 : (Jvm.Cond.code Lib.objectInit ⟨#[0xb1]⟩ 1 none).before a0 Z = true) (eT : T.heap = h)
    {a : Addr} (hsz : Ls.size = c.maxLocals) (hd : decode c.code pc = .ok (.invokespecial idx, 3)) (hf : 1 ≤ R.frames) {W : Nat} (hW : (rest.map fun v => v.category).sum = W) (hl : W + 12 ≤ R.locals)
    (k : ∀ T', Stand p l e R s m args below meth c T' locs cells slots → T'.heap = h → Go p e below P T' (mkF m (pc + 3) Ls rest)) : Go p e below P T (mkF m pc Ls (.ref a :: rest)) := by
  obtain ⟨T', X', e', st⟩ := RoadKit.initO X hx hZ hown w1 w2 w3 eT (g := mkF m pc Ls (.ref a :: rest)) rfl hsz rfl hd hf (W := W) (by subst hW; show 2 * 0 + _ ≤ _; omega) hl
  exact Go.by st (k T' X' e')
theorem Go.castY (X : Stand p l e R s m args below meth c T locs cells slots) (hx : p.tables.exec = Jvm.exec) (hZ : Z.Warmed39 s.vm) {own K : String} {index : Nat} (hown : s.vm.findClass own = some m.cls) (w : (Jvm.Cond.classLink own index K).before a0 Z = true) (eT : T.heap = h) {a : Addr} (F : Ins Z h a K true) (hd : decode c.code pc = .ok (.checkcast index, 3))
    (k : ∀ T', Stand p l e R s m args below meth c T' locs cells slots → T'.heap = h → Go p e below P T' (mkF m (pc + 3) Ls (.ref a :: rest))) : Go p e below P T (mkF m pc Ls (.ref a :: rest)) := by
  obtain ⟨T', X', e', st⟩ := RoadKit.castY X hx hZ hown w eT F (g := mkF m pc Ls (.ref a :: rest)) rfl rfl hd
  exact Go.by st (k T' X' e')
theorem Go.instY (X : Stand p l e R s m args below meth c T locs cells slots) (hx : p.tables.exec = Jvm.exec) (hZ : Z.Warmed39 s.vm) {own K : String} {index : Nat} (hown : s.vm.findClass own = some m.cls) (w : (Jvm.Cond.classLink own index K).before a0 Z = true) (eT : T.heap = h) {a : Addr} (F : Ins Z h a K true) (hd : decode c.code pc = .ok (.instanceof index, 3))
    (k : ∀ T', Stand p l e R s m args below meth c T' locs cells slots → T'.heap = h → Go p e below P T' (mkF m (pc + 3) Ls (.int 1 :: rest))) : Go p e below P T (mkF m pc Ls (.ref a :: rest)) := by
  obtain ⟨T', X', e', st⟩ := RoadKit.instY X hx hZ hown w eT F (g := mkF m pc Ls (.ref a :: rest)) rfl rfl hd
  exact Go.by st (k T' X' e')
theorem Go.instN (X : Stand p l e R s m args below meth c T locs cells slots) (hx : p.tables.exec = Jvm.exec) (hZ : Z.Warmed39 s.vm) {own K C : String} {index : Nat} (hown : s.vm.findClass own = some m.cls) (w : (Jvm.Cond.classLink own index K).before a0 Z = true) (eT : T.heap = h) {a : Addr} (E : Exa Z h a C) (F : ∃ c t, Z.vm.findClass C = some c ∧ Z.vm.findClass K = some t ∧ Z.vm.assignable c t = false) (hd : decode c.code pc = .ok (.instanceof index, 3))
    (k : ∀ T', Stand p l e R s m args below meth c T' locs cells slots → T'.heap = h → Go p e below P T' (mkF m (pc + 3) Ls (.int 0 :: rest))) : Go p e below P T (mkF m pc Ls (.ref a :: rest)) := by
  obtain ⟨T', X', e', st⟩ := RoadKit.instNo X hx hZ hown w eT E F (g := mkF m pc Ls (.ref a :: rest)) rfl rfl hd
  exact Go.by st (k T' X' e')
theorem Go.aload (X : Stand p l e R s m args below meth c T locs cells slots) (hx : p.tables.exec = Jvm.exec) (hZ : Z.Warmed39 s.vm) (eT : T.heap = h) {a : Addr} {cl : Cell} {ty : FieldType} (A : Arr Z h a cl ty) {j : Int32} {v : Value} (hin : ¬ (j < 0 ∨ cl.slots.size ≤ j.toNatClampNeg)) (hat : cl.slots[j.toNatClampNeg]? = some v) {i : Instr}
    (hi : (i = .iaload ∧ ty = .int) ∨ (i = .laload ∧ ty = .long) ∨ (i = .aaload ∧ ty.isReference = true) ∨ (i = .caload ∧ ty = .char) ∨ (i = .saload ∧ ty = .short) ∨ (i = .baload ∧ ty = .byte)) (hd : decode c.code pc = .ok (i, 1)) (k : Go p e below P T (mkF m (pc + 1) Ls (v :: rest))) : Go p e below P T (mkF m pc Ls (.int j :: .ref a :: rest)) := by
  refine Go.by (fun t kk => ?_) k
  have hc : T.heap[a]? = some cl := by rw [eT]; exact A.1
  have ha := State.isArrayOf_alike hZ.alike A.2.1
  rcases hi with ⟨rfl, rfl⟩ | ⟨rfl, rfl⟩ | ⟨rfl, hr⟩ | ⟨rfl, rfl⟩ | ⟨rfl, rfl⟩ | ⟨rfl, rfl⟩
  · exact X.iaload hx hc ha A.2.2 hin hat (g := mkF m pc Ls (.int j :: .ref a :: rest)) rfl rfl hd _ kk
  · exact X.laload hx hc ha A.2.2 hin hat (g := mkF m pc Ls (.int j :: .ref a :: rest)) rfl rfl hd _ kk
  · exact X.aaload hx hc ha hr A.2.2 hin hat (g := mkF m pc Ls (.int j :: .ref a :: rest)) rfl rfl hd _ kk
  · exact X.caload hx hc ha A.2.2 hin hat (g := mkF m pc Ls (.int j :: .ref a :: rest)) rfl rfl hd _ kk
  · exact X.saload hx hc ha A.2.2 hin hat (g := mkF m pc Ls (.int j :: .ref a :: rest)) rfl rfl hd _ kk
  · exact X.baloadBytes hx hc ha A.2.2 hin hat (g := mkF m pc Ls (.int j :: .ref a :: rest)) rfl rfl hd _ kk
theorem Go.alen (X : Stand p l e R s m args below meth c T locs cells slots) (hx : p.tables.exec = Jvm.exec) (hZ : Z.Warmed39 s.vm) (eT : T.heap = h) {a : Addr} {cl : Cell} {ty : FieldType} (A : Arr Z h a cl ty) {z : Int32} (hz : cl.slots.size.toInt32 = z) (hd : decode c.code pc = .ok (.arraylength, 1)) (k : Go p e below P T (mkF m (pc + 1) Ls (.int z :: rest))) : Go p e below P T (mkF m pc Ls (.ref a :: rest)) := by
  refine Go.by (fun t kk => ?_) k
  subst hz
  exact X.arraylength hx (by rw [eT]; exact A.1) (State.isArrayOf_alike hZ.alike A.2.1) (g := mkF m pc Ls (.ref a :: rest)) rfl rfl hd _ kk
theorem Go.alenV (X : Stand p l e R s m args below meth c T locs cells slots) (hx : p.tables.exec = Jvm.exec) (hZ : Z.Warmed39 s.vm) (eT : T.heap = h) {a : Addr} {k : ClassId} {ty : FieldType} {z : Int32} {vs : List Value} {dv : Value} (F : Arv Z h a k ty z vs dv) (hd : decode c.code pc = .ok (.arraylength, 1)) (kk : Go p e below P T (mkF m (pc + 1) Ls (.int z :: rest))) : Go p e below P T (mkF m pc Ls (.ref a :: rest)) := by
  obtain ⟨cl, A, -, S, q, -, -⟩ := F; exact Go.alen X hx hZ eT A (len_of S q) hd kk
theorem Go.aloadV (X : Stand p l e R s m args below meth c T locs cells slots) (hx : p.tables.exec = Jvm.exec) (hZ : Z.Warmed39 s.vm) (eT : T.heap = h) {a : Addr} {k : ClassId} {ty : FieldType} {z : Int32} {vs : List Value} {dv : Value} (F : Arv Z h a k ty z vs dv) {j : Int32} {v : Value} (hj : ¬ j < 0 ∧ j < z) (hv : vs.getD j.toNatClampNeg dv = v) {i : Instr}
    (hi : (i = .iaload ∧ ty = .int) ∨ (i = .laload ∧ ty = .long) ∨ (i = .aaload ∧ ty.isReference = true) ∨ (i = .caload ∧ ty = .char) ∨ (i = .saload ∧ ty = .short) ∨ (i = .baload ∧ ty = .byte)) (hd : decode c.code pc = .ok (i, 1)) (kk : Go p e below P T (mkF m (pc + 1) Ls (v :: rest))) : Go p e below P T (mkF m pc Ls (.int j :: .ref a :: rest)) := by
  obtain ⟨cl, A, -, S, q, H, -⟩ := F
  have hin := inb_of S hj
  exact Go.aload X hx hZ eT A hin (H.at hin hv) hi hd kk
theorem Go.istV (X : Stand p l e R s m args below meth c T locs cells slots) (hx : p.tables.exec = Jvm.exec) (hZ : Z.Warmed39 s.vm) (eT : T.heap = h) {a : Addr} {k : ClassId} {z : Int32} {vs : List Value} {dv : Value} (F : Arv Z h a k .int z vs dv) {j x : Int32} (hj : ¬ j < 0 ∧ j < z) (i : Nat) (hji : j.toNatClampNeg = i) (hi : i < vs.length) (hd : decode c.code pc = .ok (.iastore, 1))
    (kk : ∀ T' h', Stand p l e R s m args below meth c T' (locs ++ [⟨a, j.toNatClampNeg⟩]) cells slots → T'.heap = h' → Wr h h' a j.toNatClampNeg (.int x) → Arv Z h' a k .int z (vs.set i (.int x)) dv → Go p e below P T' (mkF m (pc + 1) Ls rest)) : Go p e below P T (mkF m pc Ls (.int x :: .int j :: .ref a :: rest)) := by
  obtain ⟨cl, A, q1, S, q3, H, G⟩ := F
  have hin := inb_of S hj
  obtain ⟨T', h', X', e', W', st⟩ := stI X hx hZ eT A (j := j) (x := x) hin (g := mkF m pc Ls (.int x :: .int j :: .ref a :: rest)) rfl rfl hd
  exact Go.by st (kk T' h' X' e' W' (Arv.set A q1 S q3 H G rfl W' i hji hi))
theorem Go.jstV (X : Stand p l e R s m args below meth c T locs cells slots) (hx : p.tables.exec = Jvm.exec) (hZ : Z.Warmed39 s.vm) (eT : T.heap = h) {a : Addr} {k : ClassId} {z : Int32} {vs : List Value} {dv : Value} (F : Arv Z h a k .long z vs dv) {j : Int32} {x : Int64} (hj : ¬ j < 0 ∧ j < z) (i : Nat) (hji : j.toNatClampNeg = i) (hi : i < vs.length) (hd : decode c.code pc = .ok (.lastore, 1))
    (kk : ∀ T' h', Stand p l e R s m args below meth c T' (locs ++ [⟨a, j.toNatClampNeg⟩]) cells slots → T'.heap = h' → Wr h h' a j.toNatClampNeg (.long x) → Arv Z h' a k .long z (vs.set i (.long x)) dv → Go p e below P T' (mkF m (pc + 1) Ls rest)) : Go p e below P T (mkF m pc Ls (.long x :: .int j :: .ref a :: rest)) := by
  obtain ⟨cl, A, q1, S, q3, H, G⟩ := F
  have hin := inb_of S hj
  obtain ⟨T', h', X', e', W', st⟩ := stJ X hx hZ eT A (j := j) (x := x) hin (g := mkF m pc Ls (.long x :: .int j :: .ref a :: rest)) rfl rfl hd
  exact Go.by st (kk T' h' X' e' W' (Arv.set A q1 S q3 H G rfl W' i hji hi))
theorem Go.cloneA (X : Stand p l e R s m args below meth c T locs cells slots) (hx : p.tables.exec = Jvm.exec) (hZ : Z.Warmed39 s.vm) {own ad : String} {index : Nat} (hown : s.vm.findClass own = some m.cls) (w1 : (Jvm.Cond.methodLink own index ⟨ad, "clone", "()Ljava/lang/Object;"⟩).before a0 Z = true) (w2 : (Jvm.Cond.sameMethod ad "java/lang/Object" "clone" "()Ljava/lang/Object;").before a0 Z = true) (w3 : (Jvm.Cond.native ⟨"java/lang/Object", "clone", "()Ljava/lang/Object;"⟩).before a0 Z = true)
    (w4 : (Jvm.Cond.instanceMethod ⟨"java/lang/Object", "clone", "()Ljava/lang/Object;"⟩).before a0 Z = true) (w5 : (Jvm.Cond.selects ad ⟨ad, "clone", "()Ljava/lang/Object;"⟩ ⟨"java/lang/Object", "clone", "()Ljava/lang/Object;"⟩).before a0 Z = true) (w6 : (Jvm.Cond.castable ad "java/lang/Cloneable").before a0 Z = true) (eT : T.heap = h) {a : Addr} {cl : Cell} {ty : FieldType} (A : Arr Z h a cl ty) (E : Exa Z h a ad) (F : FitC Z cl)
    (hsz : Ls.size = c.maxLocals) (hd : decode c.code pc = .ok (.invokevirtual index, 3)) (hf : 1 ≤ R.frames) {W cap : Nat} (hW : (rest.map fun v => v.category).sum = W) (hl : W + 14 ≤ R.locals) (hcap : cl.slots.size ≤ cap) (hc : cells + 1 ≤ R.cells) (hsl : slots + cap ≤ R.slots)
    (k : ∀ T' h' b, Stand p l e R s m args below meth c T' locs (cells + 1) (slots + cap) → T'.heap = h' → Ext h h' → b = h.size → Arr Z h' b (cloneOf cl) ty → Exa Z h' b ad → Go p e below P T' (mkF m (pc + 3) Ls (.ref b :: rest))) : Go p e below P T (mkF m pc Ls (.ref a :: rest)) := by
  obtain ⟨T', h', X', e', E', A', X2, st⟩ := RoadKit.cloneA X hx hZ hown w1 w2 w3 w4 w5 w6 eT A E F (g := mkF m pc Ls (.ref a :: rest)) rfl hsz rfl hd hf (W := W) (cap := cap) (by subst hW; show 2 * 0 + _ ≤ _; omega) hl hcap hc hsl
  exact Go.by st (k T' h' _ X' e' E' rfl A' X2)
/-! calls by the callee's contract -/
section Call
variable {own : String} {index : Nat} {y : MethodName} {bytes : ByteArray} {maxL : Nat} {ret : Option FieldType} {rm : Room} {argsL : List Value} {Q' : Option Value → Heap → List Loc → Prop} {st : List Value} {W : Nat}
theorem Go.callS (X : Stand p l e R s m args below meth c T locs cells slots) (hx : p.tables.exec = Jvm.exec) (hZ : Z.Warmed39 s.vm) (hown : s.vm.findClass own = some m.cls) (w1 : (Jvm.Cond.methodLink own index y).before a0 Z = true) (w2 : (Jvm.Cond.static y).before a0 Z = true) (w3 : (Jvm.Cond.initialized y.cls).before a0 Z = true) (w4 : (Jvm.Cond.code y bytes maxL ret).before a0 Z = true)
    (hy : y.cls ≠ "java/lang/invoke/MethodHandle" ∧ y.cls ≠ "java/lang/invoke/VarHandle") (ct : Ct l y bytes maxL ret rm Z argsL.toArray h Q') (eT : T.heap = h) (hsz : Ls.size = c.maxLocals) (hlen : ∀ sig, parseMethodDescriptor y.desc = some sig → argsL.length = sig.parameters.length) (hst : st = argsL.reverse ++ rest) (hW : (rest.map fun v => v.category).sum = W)
    (hd : decode c.code pc = .ok (.invokestatic index, 3)) (hf : rm.frames + 1 ≤ R.frames) (hl : W + (maxL + 11) + rm.locals ≤ R.locals) (hc : cells + rm.cells ≤ R.cells) (hs : slots + rm.slots ≤ R.slots)
    (k : ∀ v T' h' L, Stand p l e R s m args below meth c T' (locs ++ L) (cells + rm.cells) (slots + rm.slots) → T'.heap = h' → Q' v h' L → Go p e below P T' (mkF m (pc + 3) Ls (v.toList ++ rest))) : Go p e below P T (mkF m pc Ls st) := by
  obtain ⟨v, _, ⟨T', L, k', n'⟩, -, X', ⟨Lc, hQ, hl', hk', hn'⟩, st'⟩ := Jvm.LawKit.callS X hx (y := y) hown (mvT hZ w1) (mvT hZ w2) (mvT hZ w3) (mvT hZ w4) hy (backOf (W := W) (ct []) hZ w4 w3 hf hl) (g := mkF m pc Ls st) rfl hsz (argsL := argsL) (rest := rest) hlen hst (by subst hW; show 2 * 0 + _ ≤ _; omega) hd (fun _ _ => ⟨rfl, eT, hc, hs⟩)
  dsimp only [Pt.U, Pt.locs, Pt.cells, Pt.slots] at X' hl' hk' hn' st' hQ
  subst hl' hk' hn'
  exact Go.by st' (k v T' _ Lc X' rfl hQ)
theorem Go.callC (X : Stand p l e R s m args below meth c T locs cells slots) (hx : p.tables.exec = Jvm.exec) (hZ : Z.Warmed39 s.vm) (hown : s.vm.findClass own = some m.cls) (hy1 : y.name = "<init>") (w1 : (Jvm.Cond.methodLink own index y).before a0 Z = true) (w2 : (Jvm.Cond.instanceMethod y).before a0 Z = true) (w3 : (Jvm.Cond.initialized y.cls).before a0 Z = true) (w4 : (Jvm.Cond.code y bytes maxL none).before a0 Z = true)
    (hy : y.cls ≠ "java/lang/invoke/MethodHandle" ∧ y.cls ≠ "java/lang/invoke/VarHandle") {a : Addr} (ct : Ct l y bytes maxL none rm Z (.ref a :: argsL).toArray h Q') (eT : T.heap = h) (hsz : Ls.size = c.maxLocals) (hlen : ∀ sig, parseMethodDescriptor y.desc = some sig → argsL.length = sig.parameters.length) (hst : st = argsL.reverse ++ .ref a :: rest) (hW : (rest.map fun v => v.category).sum = W)
    (hd : decode c.code pc = .ok (.invokespecial index, 3)) (hf : rm.frames + 1 ≤ R.frames) (hl : W + (maxL + 11) + rm.locals ≤ R.locals) (hc : cells + rm.cells ≤ R.cells) (hs : slots + rm.slots ≤ R.slots)
    (k : ∀ v T' h' L, Stand p l e R s m args below meth c T' (locs ++ L) (cells + rm.cells) (slots + rm.slots) → T'.heap = h' → Q' v h' L → Go p e below P T' (mkF m (pc + 3) Ls (v.toList ++ rest))) : Go p e below P T (mkF m pc Ls st) := by
  obtain ⟨v, _, ⟨T', L, k', n'⟩, -, X', ⟨Lc, hQ, hl', hk', hn'⟩, st'⟩ := X.specialBack hx (y := y) hy1 hown (mvT hZ w1) (mvT hZ w2) (mvT hZ w4) hy (backOf (W := W) (ct []) hZ w4 w3 hf hl) (g := mkF m pc Ls st) rfl hsz (Steps.refl _) (a := a) (argsL := argsL) (rest := rest) hlen hst (by subst hW; show 2 * 0 + _ ≤ _; omega) hd (fun _ _ => ⟨rfl, eT, hc, hs⟩)
  dsimp only [Pt.U, Pt.locs, Pt.cells, Pt.slots] at X' hl' hk' hn' st' hQ
  subst hl' hk' hn'
  exact Go.by (fun _ kk => st'.trans kk) (k v T' _ Lc X' rfl hQ)
theorem Go.callV (X : Stand p l e R s m args below meth c T locs cells slots) (hx : p.tables.exec = Jvm.exec) (hZ : Z.Warmed39 s.vm) (hown : s.vm.findClass own = some m.cls) {C : String} {z : MethodName} (w1 : (Jvm.Cond.methodLink own index y).before a0 Z = true) (w2 : (Jvm.Cond.declares y).before a0 Z = true) (nf : NotFace s y) (w5 : (Jvm.Cond.selects C y z).before a0 Z = true) (w6 : (Jvm.Cond.instanceMethod z).before a0 Z = true) (w3 : (Jvm.Cond.initialized z.cls).before a0 Z = true) (w4 : (Jvm.Cond.code z bytes maxL ret).before a0 Z = true)
    (hy : y.cls ≠ "java/lang/invoke/MethodHandle" ∧ y.cls ≠ "java/lang/invoke/VarHandle") {a : Addr} (E : Exa Z h a C) (ct : Ct l z bytes maxL ret rm Z (.ref a :: argsL).toArray h Q') (eT : T.heap = h) (hsz : Ls.size = c.maxLocals) (hlen : ∀ sig, parseMethodDescriptor y.desc = some sig → argsL.length = sig.parameters.length) (hst : st = argsL.reverse ++ .ref a :: rest) (hW : (rest.map fun v => v.category).sum = W)
    (hd : decode c.code pc = .ok (.invokevirtual index, 3)) (hf : rm.frames + 1 ≤ R.frames) (hl : W + (maxL + 11) + rm.locals ≤ R.locals) (hc : cells + rm.cells ≤ R.cells) (hs : slots + rm.slots ≤ R.slots)
    (k : ∀ v T' h' L, Stand p l e R s m args below meth c T' (locs ++ L) (cells + rm.cells) (slots + rm.slots) → T'.heap = h' → Q' v h' L → Go p e below P T' (mkF m (pc + 3) Ls (v.toList ++ rest))) : Go p e below P T (mkF m pc Ls st) := by
  obtain ⟨cq, kq, qa, qb, qc⟩ := isOf hZ eT E
  obtain ⟨v, _, ⟨T', L, k', n'⟩, -, X', ⟨Lc, hQ, hl', hk', hn'⟩, st'⟩ := X.virtualBack hx (y := y) (z := z) hown (mvT hZ w1) (mvT hZ w2) nf (mvT hZ w5) (mvT hZ w6) hy (backOf (W := W) (ct []) hZ w4 w3 hf hl) qa qc (g := mkF m pc Ls st) rfl hsz (Steps.refl _) (argsL := argsL) (rest := rest) hlen hst (by subst hW; show 2 * 0 + _ ≤ _; omega) hd (fun _ _ => ⟨rfl, eT, hc, hs⟩)
  dsimp only [Pt.U, Pt.locs, Pt.cells, Pt.slots] at X' hl' hk' hn' st' hQ
  subst hl' hk' hn'
  exact Go.by (fun _ kk => st'.trans kk) (k v T' _ Lc X' rfl hQ)
theorem Go.callVU (X : Stand p l e R s m args below meth c T locs cells slots) (hx : p.tables.exec = Jvm.exec) (hZ : Z.Warmed39 s.vm) (hown : s.vm.findClass own = some m.cls) {C owner : String} {z : MethodName} (w1 : (Jvm.Cond.methodLink own index y).before a0 Z = true) (ws : (Jvm.Cond.sameMethod y.cls owner y.name y.desc).before a0 Z = true) (w2 : (Jvm.Cond.declares ⟨owner, y.name, y.desc⟩).before a0 Z = true) (ho : owner ≠ "java/lang/invoke/MethodHandle" ∧ owner ≠ "java/lang/invoke/VarHandle") (w5 : (Jvm.Cond.selects C y z).before a0 Z = true) (w6 : (Jvm.Cond.instanceMethod z).before a0 Z = true) (w3 : (Jvm.Cond.initialized z.cls).before a0 Z = true) (w4 : (Jvm.Cond.code z bytes maxL ret).before a0 Z = true)
    {a : Addr} (E : Exa Z h a C) (ct : Ct l z bytes maxL ret rm Z (.ref a :: argsL).toArray h Q') (eT : T.heap = h) (hsz : Ls.size = c.maxLocals) (hlen : ∀ sig, parseMethodDescriptor y.desc = some sig → argsL.length = sig.parameters.length) (hst : st = argsL.reverse ++ .ref a :: rest) (hW : (rest.map fun v => v.category).sum = W)
    (hd : decode c.code pc = .ok (.invokevirtual index, 3)) (hf : rm.frames + 1 ≤ R.frames) (hl : W + (maxL + 11) + rm.locals ≤ R.locals) (hc : cells + rm.cells ≤ R.cells) (hs : slots + rm.slots ≤ R.slots)
    (k : ∀ v T' h' L, Stand p l e R s m args below meth c T' (locs ++ L) (cells + rm.cells) (slots + rm.slots) → T'.heap = h' → Q' v h' L → Go p e below P T' (mkF m (pc + 3) Ls (v.toList ++ rest))) : Go p e below P T (mkF m pc Ls st) := by
  obtain ⟨cq, kq, qa, qb, qc⟩ := isOf hZ eT E
  obtain ⟨v, _, ⟨T', L, k', n'⟩, -, X', ⟨Lc, hQ, hl', hk', hn'⟩, st'⟩ := X.virtualBackUp hx (x := y) (y := z) (owner := owner) hown (mvT hZ w1) (mvT hZ ws) (mvT hZ w2) ho (mvT hZ w5) (mvT hZ w6) (backOf (W := W) (ct []) hZ w4 w3 hf hl) qa qc (g := mkF m pc Ls st) rfl hsz (Steps.refl _) (argsL := argsL) (rest := rest) hlen hst (by subst hW; show 2 * 0 + _ ≤ _; omega) hd (fun _ _ => ⟨rfl, eT, hc, hs⟩)
  dsimp only [Pt.U, Pt.locs, Pt.cells, Pt.slots] at X' hl' hk' hn' st' hQ
  subst hl' hk' hn'
  exact Go.by (fun _ kk => st'.trans kk) (k v T' _ Lc X' rfl hQ)
end Call
theorem eqI_v {args : Array Value} {first s : State} {o : Option Outcome} {idx : List Nat} {t : Term} {n : Int32} (h : (Jvm.Cond.eq t (.int n)).value args first o s idx = some true) : t.eval args first o idx s = some (.int n) := by
  simp only [Cond.value, Term.eval] at h
  cases ht : t.eval args first o idx s with
  | none => simp [ht] at h
  | some x => cases x <;> simp [ht] at h ⊢; exact h
theorem nsRoot {O K : String} {n : Nat} (w : (Jvm.Cond.noSuperclass O).before a0 Z = true) (wk : (Jvm.Cond.instantiable K n).before a0 Z = true) (hn : O ≠ K) : NS Z O K := by
  obtain ⟨c, k, h1, h2, h3, -, -⟩ := Cond.noSuperclass_spec w
  obtain ⟨t, kt, g1, -⟩ := Cond.instantiable_spec wk
  have ne := ids_ne h1 g1 hn
  refine ⟨c, t, h1, g1, fun fuel => ?_⟩
  cases fuel with
  | zero => rfl
  | succ f => simp [Vm.isSubclassAux, ne, h2, h3]
theorem nsNo {C S K : String} {n : Nat} (w : (Jvm.Cond.superclass C S).before a0 Z = true) (wk : (Jvm.Cond.instantiable K n).before a0 Z = true) (ns : NS Z C K) (hn : C ≠ K) : ∃ c t, Z.vm.findClass C = some c ∧ Z.vm.findClass K = some t ∧ Z.vm.assignable c t = false := by
  obtain ⟨c, t, h0, g0, n3⟩ := ns
  obtain ⟨p, k, kp, h1, h2, h3, h4, h5, -, h7⟩ := Cond.superclass_spec h0 w
  obtain ⟨t', k', g1, g2, g3, g4, -⟩ := Cond.instantiable_spec wk
  cases g0.symm.trans g1
  have ne := ids_ne h0 g0 hn
  have g5 : k'.isInterface = false := by cases hq : k'.isInterface <;> simp [hq] at g4 ⊢
  refine ⟨c, t, h0, g0, ?_⟩
  show Z.vm.assignableAux (255 + 1) c t = false
  simp [Vm.assignableAux, ne, h2, g2, h5, g3, g5, Vm.isSubclass, n3]
theorem lenI_v {args : Array Value} {first s : State} {o : Option Outcome} {idx : List Nat} {t : Term} {a : Addr} {cl : Cell} {n : Int32} (h : (Term.length t).eval args first o idx s = some (.int n)) (ht : t.eval args first o idx s = some (.ref a)) (ha : s.arrayAt? a = some cl) : cl.slots.size < 2 ^ 31 ∧ cl.slots.size.toInt32 = n := by
  simp [Term.eval, ht, ha] at h; exact h
theorem size_le {cl : Cell} {n : Int32} {k : Nat} (q : cl.slots.size < 2 ^ 31 ∧ cl.slots.size.toInt32 = n) (hn : n.toInt = k) : cl.slots.size = k := by
  have := len_toInt q.1; rw [q.2, hn] at this; exact (Int.ofNat.inj this).symm
theorem eqR_v {args : Array Value} {first s : State} {o : Option Outcome} {idx : List Nat} {t u : Term} {w : Addr} (hu : u.eval args first o idx s = some (.ref w)) (h : (Jvm.Cond.eq t u).value args first o s idx = some true) : t.eval args first o idx s = some (.ref w) := by
  simp only [Cond.value, hu] at h
  cases ht : t.eval args first o idx s with
  | none => simp [ht] at h
  | some x => cases x <;> simp [ht] at h ⊢; exact h
theorem Old.le {n0 : Nat} (O : Old Z n0 h) : n0 ≤ h.size := O.1 ▸ O.2.1
end K
end Jvm.OwnKit
namespace Jvm.Pilot.@@N@@
open Jvm Jvm.ClassFile Sem Op Lib Jvm.Free Jvm.Stand Jvm.LawKit Jvm.RoadKit Jvm.OwnKit Bundle Jvm.Pilot.@@N@@.Jvm.D
theorem d_p47_m1_0 : decode prog_47_method_1_code 0 = .ok (.aload_n 0, 1) := by decide +kernel
theorem d_p47_m1_1 : decode prog_47_method_1_code 1 = .ok (.invokespecial 1, 3) := by decide +kernel
theorem d_p47_m1_4 : decode prog_47_method_1_code 4 = .ok (.aload_n 0, 1) := by decide +kernel
theorem d_p47_m1_5 : decode prog_47_method_1_code 5 = .ok (.aload_n 1, 1) := by decide +kernel
theorem d_p47_m1_6 : decode prog_47_method_1_code 6 = .ok (.putfield 7, 3) := by decide +kernel
theorem d_p47_m1_9 : decode prog_47_method_1_code 9 = .ok (.aload_n 0, 1) := by decide +kernel
theorem d_p47_m1_10 : decode prog_47_method_1_code 10 = .ok (.aload_n 2, 1) := by decide +kernel
theorem d_p47_m1_11 : decode prog_47_method_1_code 11 = .ok (.putfield 13, 3) := by decide +kernel
theorem d_p47_m1_14 : decode prog_47_method_1_code 14 = .ok (.aload_n 0, 1) := by decide +kernel
theorem d_p47_m1_15 : decode prog_47_method_1_code 15 = .ok (.aload_n 3, 1) := by decide +kernel
theorem d_p47_m1_16 : decode prog_47_method_1_code 16 = .ok (.putfield 17, 3) := by decide +kernel
theorem d_p47_m1_19 : decode prog_47_method_1_code 19 = .ok (.aload_n 0, 1) := by decide +kernel
theorem d_p47_m1_20 : decode prog_47_method_1_code 20 = .ok (.iload 4, 2) := by decide +kernel
theorem d_p47_m1_22 : decode prog_47_method_1_code 22 = .ok (.putfield 21, 3) := by decide +kernel
theorem d_p47_m1_25 : decode prog_47_method_1_code 25 = .ok (.return_, 1) := by decide +kernel
theorem pn_Verdict_984 : plainName "com/example/warrant/warrant/Verdict" = true := by first | (simp [plainName, overriddenIn]; done) | decide +kernel
theorem d_p47_m5_0 : decode prog_47_method_5_code 0 = .ok (.new 8, 3) := by decide +kernel
theorem d_p47_m5_3 : decode prog_47_method_5_code 3 = .ok (.dup, 1) := by decide +kernel
theorem d_p47_m5_4 : decode prog_47_method_5_code 4 = .ok (.getstatic 74, 3) := by decide +kernel
theorem d_p47_m5_7 : decode prog_47_method_5_code 7 = .ok (.aconst_null, 1) := by decide +kernel
theorem d_p47_m5_8 : decode prog_47_method_5_code 8 = .ok (.aconst_null, 1) := by decide +kernel
theorem d_p47_m5_9 : decode prog_47_method_5_code 9 = .ok (.iload_n 0, 1) := by decide +kernel
theorem pd__Lcom_example_warrant_warrant_Verdict_Ki_4944 : parseMethodDescriptor "(Lcom/example/warrant/warrant/Verdict$Kind;Lcom/example/warrant/warrant/SignedData;Lcom/example/warrant/warrant/InvalidReason;I)V" = some ⟨[(.object "com/example/warrant/warrant/Verdict$Kind"), (.object "com/example/warrant/warrant/SignedData"), (.object "com/example/warrant/warrant/InvalidReason"), .int], none⟩ := by decide +kernel
theorem d_p47_m5_10 : decode prog_47_method_5_code 10 = .ok (.invokespecial 64, 3) := by decide +kernel
theorem d_p47_m5_13 : decode prog_47_method_5_code 13 = .ok (.areturn, 1) := by decide +kernel
theorem d_j2649_m3_0 : decode jdk_2649_method_3_code 0 = .ok (.aload_n 0, 1) := by decide +kernel
theorem d_j2649_m3_1 : decode jdk_2649_method_3_code 1 = .ok (.invokespecial 1, 3) := by decide +kernel
theorem d_j2649_m3_4 : decode jdk_2649_method_3_code 4 = .ok (.aload_n 0, 1) := by decide +kernel
theorem d_j2649_m3_5 : decode jdk_2649_method_3_code 5 = .ok (.iconst 1, 1) := by decide +kernel
theorem d_j2649_m3_6 : decode jdk_2649_method_3_code 6 = .ok (.putfield 7, 3) := by decide +kernel
theorem d_j2649_m3_9 : decode jdk_2649_method_3_code 9 = .ok (.aload_n 0, 1) := by decide +kernel
theorem d_j2649_m3_10 : decode jdk_2649_method_3_code 10 = .ok (.iload_n 1, 1) := by decide +kernel
theorem d_j2649_m3_11 : decode jdk_2649_method_3_code 11 = .ok (.putfield 13, 3) := by decide +kernel
theorem d_j2649_m3_14 : decode jdk_2649_method_3_code 14 = .ok (.return_, 1) := by decide +kernel
theorem pn_OptionalInt_269 : plainName "java/util/OptionalInt" = true := by first | (simp [plainName, overriddenIn]; done) | decide +kernel
theorem d_j2649_m4_0 : decode jdk_2649_method_4_code 0 = .ok (.new 8, 3) := by decide +kernel
theorem d_j2649_m4_3 : decode jdk_2649_method_4_code 3 = .ok (.dup, 1) := by decide +kernel
theorem d_j2649_m4_4 : decode jdk_2649_method_4_code 4 = .ok (.iload_n 0, 1) := by decide +kernel
theorem pd__I_V_7776 : parseMethodDescriptor "(I)V" = some ⟨[.int], none⟩ := by decide +kernel
theorem d_j2649_m4_5 : decode jdk_2649_method_4_code 5 = .ok (.invokespecial 21, 3) := by decide +kernel
theorem d_j2649_m4_8 : decode jdk_2649_method_4_code 8 = .ok (.areturn, 1) := by decide +kernel
theorem d_p47_m11_0 : decode prog_47_method_11_code 0 = .ok (.aload_n 0, 1) := by decide +kernel
theorem d_p47_m11_1 : decode prog_47_method_11_code 1 = .ok (.getfield 7, 3) := by decide +kernel
theorem d_p47_m11_4 : decode prog_47_method_11_code 4 = .ok (.getstatic 74, 3) := by decide +kernel
theorem d_p47_m11_7 : decode prog_47_method_11_code 7 = .ok (.if_acmp .ne 13, 3) := by decide +kernel
theorem d_p47_m11_10 : decode prog_47_method_11_code 10 = .ok (.aload_n 0, 1) := by decide +kernel
theorem d_p47_m11_11 : decode prog_47_method_11_code 11 = .ok (.getfield 21, 3) := by decide +kernel
theorem pd__I_Ljava_util_OptionalInt__1383 : parseMethodDescriptor "(I)Ljava/util/OptionalInt;" = some ⟨[.int], some (.object "java/util/OptionalInt")⟩ := by decide +kernel
theorem d_p47_m11_14 : decode prog_47_method_11_code 14 = .ok (.invokestatic 90, 3) := by decide +kernel
theorem d_p47_m11_17 : decode prog_47_method_11_code 17 = .ok (.goto 6, 3) := by decide +kernel
theorem d_p47_m11_23 : decode prog_47_method_11_code 23 = .ok (.areturn, 1) := by decide +kernel
theorem d_j2649_m5_0 : decode jdk_2649_method_5_code 0 = .ok (.aload_n 0, 1) := by decide +kernel
theorem d_j2649_m5_1 : decode jdk_2649_method_5_code 1 = .ok (.getfield 7, 3) := by decide +kernel
theorem d_j2649_m5_4 : decode jdk_2649_method_5_code 4 = .ok (.ifCond .ne 13, 3) := by decide +kernel
theorem d_j2649_m5_17 : decode jdk_2649_method_5_code 17 = .ok (.aload_n 0, 1) := by decide +kernel
theorem d_j2649_m5_18 : decode jdk_2649_method_5_code 18 = .ok (.getfield 13, 3) := by decide +kernel
theorem d_j2649_m5_21 : decode jdk_2649_method_5_code 21 = .ok (.ireturn, 1) := by decide +kernel
theorem d_j32_m4_0 : decode jdk_32_method_4_code 0 = .ok (.aload_n 0, 1) := by decide +kernel
theorem d_j32_m4_1 : decode jdk_32_method_4_code 1 = .ok (.ifnonnull 9, 3) := by decide +kernel
theorem d_j32_m4_4 : decode jdk_32_method_4_code 4 = .ok (.getstatic 1, 3) := by decide +kernel
theorem d_j32_m4_7 : decode jdk_32_method_4_code 7 = .ok (.goto 11, 3) := by decide +kernel
theorem d_j32_m4_18 : decode jdk_32_method_4_code 18 = .ok (.areturn, 1) := by decide +kernel
theorem pn_Optional_457 : plainName "java/util/Optional" = true := by first | (simp [plainName, overriddenIn]; done) | decide +kernel
theorem d_p47_m9_0 : decode prog_47_method_9_code 0 = .ok (.aload_n 0, 1) := by decide +kernel
theorem d_p47_m9_1 : decode prog_47_method_9_code 1 = .ok (.getfield 13, 3) := by decide +kernel
theorem pd__Ljava_lang_Object__Ljava_util_Optional__9874 : parseMethodDescriptor "(Ljava/lang/Object;)Ljava/util/Optional;" = some ⟨[(.object "java/lang/Object")], some (.object "java/util/Optional")⟩ := by decide +kernel
theorem d_p47_m9_4 : decode prog_47_method_9_code 4 = .ok (.invokestatic 84, 3) := by decide +kernel
theorem d_p47_m9_7 : decode prog_47_method_9_code 7 = .ok (.areturn, 1) := by decide +kernel
theorem d_p47_m10_0 : decode prog_47_method_10_code 0 = .ok (.aload_n 0, 1) := by decide +kernel
theorem d_p47_m10_1 : decode prog_47_method_10_code 1 = .ok (.getfield 17, 3) := by decide +kernel
theorem d_p47_m10_4 : decode prog_47_method_10_code 4 = .ok (.invokestatic 84, 3) := by decide +kernel
theorem d_p47_m10_7 : decode prog_47_method_10_code 7 = .ok (.areturn, 1) := by decide +kernel
theorem d_j32_m6_0 : decode jdk_32_method_6_code 0 = .ok (.aload_n 0, 1) := by decide +kernel
theorem d_j32_m6_1 : decode jdk_32_method_6_code 1 = .ok (.getfield 13, 3) := by decide +kernel
theorem d_j32_m6_4 : decode jdk_32_method_6_code 4 = .ok (.ifnull 7, 3) := by decide +kernel
theorem d_j32_m6_11 : decode jdk_32_method_6_code 11 = .ok (.iconst 0, 1) := by decide +kernel
theorem d_j32_m6_12 : decode jdk_32_method_6_code 12 = .ok (.ireturn, 1) := by decide +kernel
theorem d_p47_m8_0 : decode prog_47_method_8_code 0 = .ok (.aload_n 0, 1) := by decide +kernel
theorem d_p47_m8_1 : decode prog_47_method_8_code 1 = .ok (.getfield 13, 3) := by decide +kernel
theorem d_p47_m8_4 : decode prog_47_method_8_code 4 = .ok (.ifnull 23, 3) := by decide +kernel
theorem d_p47_m8_27 : decode prog_47_method_8_code 27 = .ok (.iconst 0, 1) := by decide +kernel
theorem d_p47_m8_28 : decode prog_47_method_8_code 28 = .ok (.ireturn, 1) := by decide +kernel
theorem d_j31_m2_0 : decode jdk_31_method_2_code 0 = .ok (.aload_n 0, 1) := by decide +kernel
theorem d_j31_m2_1 : decode jdk_31_method_2_code 1 = .ok (.aload_n 1, 1) := by decide +kernel
theorem d_j31_m2_2 : decode jdk_31_method_2_code 2 = .ok (.if_acmp .eq 15, 3) := by decide +kernel
theorem d_j31_m2_17 : decode jdk_31_method_2_code 17 = .ok (.iconst 1, 1) := by decide +kernel
theorem d_j31_m2_18 : decode jdk_31_method_2_code 18 = .ok (.goto 4, 3) := by decide +kernel
theorem d_j31_m2_22 : decode jdk_31_method_2_code 22 = .ok (.ireturn, 1) := by decide +kernel
theorem pn_Objects_297 : plainName "java/util/Objects" = true := by first | (simp [plainName, overriddenIn]; done) | decide +kernel
theorem d_p47_m12_0 : decode prog_47_method_12_code 0 = .ok (.aload_n 1, 1) := by decide +kernel
theorem d_p47_m12_1 : decode prog_47_method_12_code 1 = .ok (.instanceof 8, 3) := by decide +kernel
theorem d_p47_m12_4 : decode prog_47_method_12_code 4 = .ok (.ifCond .eq 59, 3) := by decide +kernel
theorem d_p47_m12_7 : decode prog_47_method_12_code 7 = .ok (.aload_n 1, 1) := by decide +kernel
theorem d_p47_m12_8 : decode prog_47_method_12_code 8 = .ok (.checkcast 8, 3) := by decide +kernel
theorem d_p47_m12_11 : decode prog_47_method_12_code 11 = .ok (.astore_n 2, 1) := by decide +kernel
theorem d_p47_m12_12 : decode prog_47_method_12_code 12 = .ok (.aload_n 0, 1) := by decide +kernel
theorem d_p47_m12_13 : decode prog_47_method_12_code 13 = .ok (.getfield 7, 3) := by decide +kernel
theorem d_p47_m12_16 : decode prog_47_method_12_code 16 = .ok (.aload_n 2, 1) := by decide +kernel
theorem d_p47_m12_17 : decode prog_47_method_12_code 17 = .ok (.getfield 7, 3) := by decide +kernel
theorem d_p47_m12_20 : decode prog_47_method_12_code 20 = .ok (.if_acmp .ne 43, 3) := by decide +kernel
theorem d_p47_m12_23 : decode prog_47_method_12_code 23 = .ok (.aload_n 0, 1) := by decide +kernel
theorem d_p47_m12_24 : decode prog_47_method_12_code 24 = .ok (.getfield 13, 3) := by decide +kernel
theorem d_p47_m12_27 : decode prog_47_method_12_code 27 = .ok (.aload_n 2, 1) := by decide +kernel
theorem d_p47_m12_28 : decode prog_47_method_12_code 28 = .ok (.getfield 13, 3) := by decide +kernel
theorem pd__Ljava_lang_Object_Ljava_lang_Object__Z_1294 : parseMethodDescriptor "(Ljava/lang/Object;Ljava/lang/Object;)Z" = some ⟨[(.object "java/lang/Object"), (.object "java/lang/Object")], some .boolean⟩ := by decide +kernel
theorem d_p47_m12_31 : decode prog_47_method_12_code 31 = .ok (.invokestatic 100, 3) := by decide +kernel
theorem d_p47_m12_34 : decode prog_47_method_12_code 34 = .ok (.ifCond .eq 29, 3) := by decide +kernel
theorem d_p47_m12_37 : decode prog_47_method_12_code 37 = .ok (.aload_n 0, 1) := by decide +kernel
theorem d_p47_m12_38 : decode prog_47_method_12_code 38 = .ok (.getfield 17, 3) := by decide +kernel
theorem d_p47_m12_41 : decode prog_47_method_12_code 41 = .ok (.aload_n 2, 1) := by decide +kernel
theorem d_p47_m12_42 : decode prog_47_method_12_code 42 = .ok (.getfield 17, 3) := by decide +kernel
theorem d_p47_m12_45 : decode prog_47_method_12_code 45 = .ok (.if_acmp .ne 18, 3) := by decide +kernel
theorem d_p47_m12_48 : decode prog_47_method_12_code 48 = .ok (.aload_n 0, 1) := by decide +kernel
theorem d_p47_m12_49 : decode prog_47_method_12_code 49 = .ok (.getfield 21, 3) := by decide +kernel
theorem d_p47_m12_52 : decode prog_47_method_12_code 52 = .ok (.aload_n 2, 1) := by decide +kernel
theorem d_p47_m12_53 : decode prog_47_method_12_code 53 = .ok (.getfield 21, 3) := by decide +kernel
theorem d_p47_m12_56 : decode prog_47_method_12_code 56 = .ok (.if_icmp .ne 7, 3) := by decide +kernel
theorem d_p47_m12_59 : decode prog_47_method_12_code 59 = .ok (.iconst 1, 1) := by decide +kernel
theorem d_p47_m12_60 : decode prog_47_method_12_code 60 = .ok (.goto 4, 3) := by decide +kernel
theorem d_p47_m12_64 : decode prog_47_method_12_code 64 = .ok (.ireturn, 1) := by decide +kernel
theorem d_p47_m12_63 : decode prog_47_method_12_code 63 = .ok (.iconst 0, 1) := by decide +kernel
theorem pd__I_Lcom_example_warrant_warrant_Verdict__1324 : parseMethodDescriptor "(I)Lcom/example/warrant/warrant/Verdict;" = some ⟨[.int], some (.object "com/example/warrant/warrant/Verdict")⟩ := by decide +kernel
theorem d_p47_m7_0 : decode prog_47_method_7_code 0 = .ok (.aload_n 0, 1) := by decide +kernel
theorem d_p47_m7_1 : decode prog_47_method_7_code 1 = .ok (.getfield 7, 3) := by decide +kernel
theorem d_p47_m7_4 : decode prog_47_method_7_code 4 = .ok (.areturn, 1) := by decide +kernel
theorem pd___Lcom_example_warrant_warrant_Verdict_K_868 : parseMethodDescriptor "()Lcom/example/warrant/warrant/Verdict$Kind;" = some ⟨[], some (.object "com/example/warrant/warrant/Verdict$Kind")⟩ := by decide +kernel
theorem pd___Ljava_util_OptionalInt__4070 : parseMethodDescriptor "()Ljava/util/OptionalInt;" = some ⟨[], some (.object "java/util/OptionalInt")⟩ := by decide +kernel
theorem d_j2649_m6_0 : decode jdk_2649_method_6_code 0 = .ok (.aload_n 0, 1) := by decide +kernel
theorem d_j2649_m6_1 : decode jdk_2649_method_6_code 1 = .ok (.getfield 7, 3) := by decide +kernel
theorem d_j2649_m6_4 : decode jdk_2649_method_6_code 4 = .ok (.ireturn, 1) := by decide +kernel
theorem pd___Z_8338 : parseMethodDescriptor "()Z" = some ⟨[], some .boolean⟩ := by decide +kernel
theorem pd___I_8321 : parseMethodDescriptor "()I" = some ⟨[], some .int⟩ := by decide +kernel
theorem pd___Ljava_util_Optional__2886 : parseMethodDescriptor "()Ljava/util/Optional;" = some ⟨[], some (.object "java/util/Optional")⟩ := by decide +kernel
theorem pd__Ljava_lang_Object__Z_1715 : parseMethodDescriptor "(Ljava/lang/Object;)Z" = some ⟨[(.object "java/lang/Object")], some .boolean⟩ := by decide +kernel
theorem pn_VerdictApplicationErrorPinLaw_784 : plainName "com/example/warrant/warrant/VerdictApplicationErrorPinLaw" = true := by first | (simp [plainName, overriddenIn]; done) | decide +kernel
set_option maxRecDepth 65536 in
set_option maxHeartbeats 40000000 in
theorem ct_vinit (l : Launch) (Z : State) (a0 : Array Value) (hw : ∀ d ∈ tables_1, d.before a0 Z = true) (w_AE : Addr) (w_EM : Addr) (S_AE : Sta Z Z.heap "com/example/warrant/warrant/Verdict$Kind" "APPLICATION_ERROR" "Lcom/example/warrant/warrant/Verdict$Kind;" (.ref w_AE)) (S_EM : Sta Z Z.heap "java/util/Optional" "EMPTY" "Ljava/util/Optional;" (.ref w_EM)) (E_EM : Exa Z Z.heap w_EM "java/util/Optional") (F_EM : Fld Z Z.heap w_EM "java/util/Optional" "value" "Ljava/lang/Object;" .null) (a1 : Addr) (a2 : Addr) (z1 : Int32) (h0 : Heap) (n0 : Nat) (O : Old Z n0 h0) (E_a1 : Exa Z h0 a1 "com/example/warrant/warrant/Verdict") (F_a1_kind : Fld Z h0 a1 "com/example/warrant/warrant/Verdict" "kind" "Lcom/example/warrant/warrant/Verdict$Kind;" .null) (F_a1_signedData : Fld Z h0 a1 "com/example/warrant/warrant/Verdict" "signedData" "Lcom/example/warrant/warrant/SignedData;" .null) (F_a1_invalidReason : Fld Z h0 a1 "com/example/warrant/warrant/Verdict" "invalidReason" "Lcom/example/warrant/warrant/InvalidReason;" .null) (F_a1_applicationErrorCode : Fld Z h0 a1 "com/example/warrant/warrant/Verdict" "applicationErrorCode" "I" (.int (0 : Int32))) (g_a1 : n0 ≤ a1) :
    Ct l (⟨"com/example/warrant/warrant/Verdict", "<init>", "(Lcom/example/warrant/warrant/Verdict$Kind;Lcom/example/warrant/warrant/SignedData;Lcom/example/warrant/warrant/InvalidReason;I)V"⟩ : MethodName) prog_47_method_1_code 5 none ({ frames := 1, cells := 0, slots := 0, locals := 12 } : Room) Z #[(.ref a1), (.ref a2), .null, .null, (.int z1)] h0 (fun v h L => v = none ∧ Fr n0 L ∧ Keep h0 h [a1] ∧ Fld Z h a1 "com/example/warrant/warrant/Verdict" "kind" "Lcom/example/warrant/warrant/Verdict$Kind;" (.ref a2) ∧ Fld Z h a1 "com/example/warrant/warrant/Verdict" "signedData" "Lcom/example/warrant/warrant/SignedData;" .null ∧ Fld Z h a1 "com/example/warrant/warrant/Verdict" "invalidReason" "Lcom/example/warrant/warrant/InvalidReason;" .null ∧ Fld Z h a1 "com/example/warrant/warrant/Verdict" "applicationErrorCode" "I" (.int z1)) := by
  refine Ct.of (plainFor_of_name pn_Verdict_984) ?_
  intro p e s m below meth c T0 X0 hx hby hml hown hnm hret hlk hZ e0
  have hown : s.vm.findClass "com/example/warrant/warrant/Verdict" = some m.cls := hown
  have hml : c.maxLocals = 5 := hml
  have N0 := Fr.nil n0
  refine Go.cast (g' := mkF m 0 #[.val (.ref a1), .val (.ref a2), .val .null, .val .null, .val (.int z1)] []) (by first | (simp [entryFrame, mkF, argsToLocals, Value.category]; done) | rfl) ?_
  have K : Keep h0 h0 [a1] := Keep.refl _ _
  refine Go.by (T' := T0) (g' := (mkF m 1 #[.val (.ref a1), .val (.ref a2), .val .null, .val .null, .val (.int z1)] [(.ref a1)])) (fun t k => ?_) ?_
  · show Steps p.tables e below (T0.setTop (mkF m 0 #[.val (.ref a1), .val (.ref a2), .val .null, .val .null, .val (.int z1)] [])) _
    refine XS.aloadN X0.here hx rfl (hb hby d_p47_m1_0) rfl rfl ?_
    exact k
  refine Go.initO X0 hx hZ hown (wd hw 12 rfl) (wd hw 13 rfl) (wd hw 14 rfl) e0 (by rw [hml]; rfl) (hb hby d_p47_m1_1) (by decide) (W := 0) rfl (by decide) ?_
  intro T1 X1 e1
  show Go p e below _ T1 (mkF m 4 #[.val (.ref a1), .val (.ref a2), .val .null, .val .null, .val (.int z1)] [])
  refine Go.by (T' := T1) (g' := (mkF m 6 #[.val (.ref a1), .val (.ref a2), .val .null, .val .null, .val (.int z1)] [(.ref a2), (.ref a1)])) (fun t k => ?_) ?_
  · show Steps p.tables e below (T1.setTop (mkF m 4 #[.val (.ref a1), .val (.ref a2), .val .null, .val .null, .val (.int z1)] [])) _
    refine XS.aloadN X1.here hx rfl (hb hby d_p47_m1_4) rfl rfl ?_
    show Steps p.tables e below (T1.setTop (mkF m 5 #[.val (.ref a1), .val (.ref a2), .val .null, .val .null, .val (.int z1)] [(.ref a1)])) _
    refine XS.aloadN X1.here hx rfl (hb hby d_p47_m1_5) rfl rfl ?_
    exact k
  refine Go.putF X1 hx hZ hown (wd hw 15 rfl) Via.refl e1 F_a1_kind E_a1 (Or.inr ⟨(wd hw 16 rfl), rfl, hnm⟩) (wd hw 5 rfl) (ty := (.object "com/example/warrant/warrant/Verdict$Kind")) (by decide) rfl rfl (hb hby d_p47_m1_6) ?_
  intro T2 h2 X2 e2 W2
  replace E_a1 := E_a1.wr W2
  replace F_a1_kind := F_a1_kind.same W2
  replace F_a1_signedData := F_a1_signedData.other W2 (Or.inr (slot_ne (a0 := a0) (Or.inr (wd hw 18 rfl)) (Or.inr (wd hw 16 rfl)) (by decide) (t := (.object "com/example/warrant/warrant/SignedData")) (t' := (.object "com/example/warrant/warrant/Verdict$Kind")) (by decide) (by decide)))
  replace F_a1_invalidReason := F_a1_invalidReason.other W2 (Or.inr (slot_ne (a0 := a0) (Or.inr (wd hw 20 rfl)) (Or.inr (wd hw 16 rfl)) (by decide) (t := (.object "com/example/warrant/warrant/InvalidReason")) (t' := (.object "com/example/warrant/warrant/Verdict$Kind")) (by decide) (by decide)))
  replace F_a1_applicationErrorCode := F_a1_applicationErrorCode.other W2 (Or.inr (slot_ne (a0 := a0) (Or.inr (wd hw 22 rfl)) (Or.inr (wd hw 16 rfl)) (by decide) (t := .int) (t' := (.object "com/example/warrant/warrant/Verdict$Kind")) (by decide) (by decide)))
  replace O := O.wr W2 g_a1
  have N2 := Fr.snoc X2 N0 g_a1
  replace K := K.wr W2 (Or.inl (List.mem_of_getElem? (i := 0) rfl))
  show Go p e below _ T2 (mkF m 9 #[.val (.ref a1), .val (.ref a2), .val .null, .val .null, .val (.int z1)] [])
  refine Go.by (T' := T2) (g' := (mkF m 11 #[.val (.ref a1), .val (.ref a2), .val .null, .val .null, .val (.int z1)] [.null, (.ref a1)])) (fun t k => ?_) ?_
  · show Steps p.tables e below (T2.setTop (mkF m 9 #[.val (.ref a1), .val (.ref a2), .val .null, .val .null, .val (.int z1)] [])) _
    refine XS.aloadN X2.here hx rfl (hb hby d_p47_m1_9) rfl rfl ?_
    show Steps p.tables e below (T2.setTop (mkF m 10 #[.val (.ref a1), .val (.ref a2), .val .null, .val .null, .val (.int z1)] [(.ref a1)])) _
    refine XS.aloadN X2.here hx rfl (hb hby d_p47_m1_10) rfl rfl ?_
    exact k
  refine Go.putF X2 hx hZ hown (wd hw 17 rfl) Via.refl e2 F_a1_signedData E_a1 (Or.inr ⟨(wd hw 18 rfl), rfl, hnm⟩) (wd hw 5 rfl) (ty := (.object "com/example/warrant/warrant/SignedData")) (by decide) rfl rfl (hb hby d_p47_m1_11) ?_
  intro T3 h3 X3 e3 W3
  replace E_a1 := E_a1.wr W3
  replace F_a1_kind := F_a1_kind.other W3 (Or.inr (slot_ne (a0 := a0) (Or.inr (wd hw 16 rfl)) (Or.inr (wd hw 18 rfl)) (by decide) (t := (.object "com/example/warrant/warrant/Verdict$Kind")) (t' := (.object "com/example/warrant/warrant/SignedData")) (by decide) (by decide)))
  replace F_a1_signedData := F_a1_signedData.same W3
  replace F_a1_invalidReason := F_a1_invalidReason.other W3 (Or.inr (slot_ne (a0 := a0) (Or.inr (wd hw 20 rfl)) (Or.inr (wd hw 18 rfl)) (by decide) (t := (.object "com/example/warrant/warrant/InvalidReason")) (t' := (.object "com/example/warrant/warrant/SignedData")) (by decide) (by decide)))
  replace F_a1_applicationErrorCode := F_a1_applicationErrorCode.other W3 (Or.inr (slot_ne (a0 := a0) (Or.inr (wd hw 22 rfl)) (Or.inr (wd hw 18 rfl)) (by decide) (t := .int) (t' := (.object "com/example/warrant/warrant/SignedData")) (by decide) (by decide)))
  replace O := O.wr W3 g_a1
  have N3 := Fr.snoc X3 N2 g_a1
  replace K := K.wr W3 (Or.inl (List.mem_of_getElem? (i := 0) rfl))
  show Go p e below _ T3 (mkF m 14 #[.val (.ref a1), .val (.ref a2), .val .null, .val .null, .val (.int z1)] [])
  refine Go.by (T' := T3) (g' := (mkF m 16 #[.val (.ref a1), .val (.ref a2), .val .null, .val .null, .val (.int z1)] [.null, (.ref a1)])) (fun t k => ?_) ?_
  · show Steps p.tables e below (T3.setTop (mkF m 14 #[.val (.ref a1), .val (.ref a2), .val .null, .val .null, .val (.int z1)] [])) _
    refine XS.aloadN X3.here hx rfl (hb hby d_p47_m1_14) rfl rfl ?_
    show Steps p.tables e below (T3.setTop (mkF m 15 #[.val (.ref a1), .val (.ref a2), .val .null, .val .null, .val (.int z1)] [(.ref a1)])) _
    refine XS.aloadN X3.here hx rfl (hb hby d_p47_m1_15) rfl rfl ?_
    exact k
  refine Go.putF X3 hx hZ hown (wd hw 19 rfl) Via.refl e3 F_a1_invalidReason E_a1 (Or.inr ⟨(wd hw 20 rfl), rfl, hnm⟩) (wd hw 5 rfl) (ty := (.object "com/example/warrant/warrant/InvalidReason")) (by decide) rfl rfl (hb hby d_p47_m1_16) ?_
  intro T4 h4 X4 e4 W4
  replace E_a1 := E_a1.wr W4
  replace F_a1_kind := F_a1_kind.other W4 (Or.inr (slot_ne (a0 := a0) (Or.inr (wd hw 16 rfl)) (Or.inr (wd hw 20 rfl)) (by decide) (t := (.object "com/example/warrant/warrant/Verdict$Kind")) (t' := (.object "com/example/warrant/warrant/InvalidReason")) (by decide) (by decide)))
  replace F_a1_signedData := F_a1_signedData.other W4 (Or.inr (slot_ne (a0 := a0) (Or.inr (wd hw 18 rfl)) (Or.inr (wd hw 20 rfl)) (by decide) (t := (.object "com/example/warrant/warrant/SignedData")) (t' := (.object "com/example/warrant/warrant/InvalidReason")) (by decide) (by decide)))
  replace F_a1_invalidReason := F_a1_invalidReason.same W4
  replace F_a1_applicationErrorCode := F_a1_applicationErrorCode.other W4 (Or.inr (slot_ne (a0 := a0) (Or.inr (wd hw 22 rfl)) (Or.inr (wd hw 20 rfl)) (by decide) (t := .int) (t' := (.object "com/example/warrant/warrant/InvalidReason")) (by decide) (by decide)))
  replace O := O.wr W4 g_a1
  have N4 := Fr.snoc X4 N3 g_a1
  replace K := K.wr W4 (Or.inl (List.mem_of_getElem? (i := 0) rfl))
  show Go p e below _ T4 (mkF m 19 #[.val (.ref a1), .val (.ref a2), .val .null, .val .null, .val (.int z1)] [])
  refine Go.by (T' := T4) (g' := (mkF m 22 #[.val (.ref a1), .val (.ref a2), .val .null, .val .null, .val (.int z1)] [(.int z1), (.ref a1)])) (fun t k => ?_) ?_
  · show Steps p.tables e below (T4.setTop (mkF m 19 #[.val (.ref a1), .val (.ref a2), .val .null, .val .null, .val (.int z1)] [])) _
    refine XS.aloadN X4.here hx rfl (hb hby d_p47_m1_19) rfl rfl ?_
    show Steps p.tables e below (T4.setTop (mkF m 20 #[.val (.ref a1), .val (.ref a2), .val .null, .val .null, .val (.int z1)] [(.ref a1)])) _
    refine XS.iload X4.here hx rfl (hb hby d_p47_m1_20) rfl ?_
    exact k
  refine Go.putF X4 hx hZ hown (wd hw 21 rfl) Via.refl e4 F_a1_applicationErrorCode E_a1 (Or.inr ⟨(wd hw 22 rfl), rfl, hnm⟩) (wd hw 5 rfl) (ty := .int) (by decide) rfl rfl (hb hby d_p47_m1_22) ?_
  intro T5 h5 X5 e5 W5
  replace E_a1 := E_a1.wr W5
  replace F_a1_kind := F_a1_kind.other W5 (Or.inr (slot_ne (a0 := a0) (Or.inr (wd hw 16 rfl)) (Or.inr (wd hw 22 rfl)) (by decide) (t := (.object "com/example/warrant/warrant/Verdict$Kind")) (t' := .int) (by decide) (by decide)))
  replace F_a1_signedData := F_a1_signedData.other W5 (Or.inr (slot_ne (a0 := a0) (Or.inr (wd hw 18 rfl)) (Or.inr (wd hw 22 rfl)) (by decide) (t := (.object "com/example/warrant/warrant/SignedData")) (t' := .int) (by decide) (by decide)))
  replace F_a1_invalidReason := F_a1_invalidReason.other W5 (Or.inr (slot_ne (a0 := a0) (Or.inr (wd hw 20 rfl)) (Or.inr (wd hw 22 rfl)) (by decide) (t := (.object "com/example/warrant/warrant/InvalidReason")) (t' := .int) (by decide) (by decide)))
  replace F_a1_applicationErrorCode := F_a1_applicationErrorCode.same W5
  replace O := O.wr W5 g_a1
  have N5 := Fr.snoc X5 N4 g_a1
  replace K := K.wr W5 (Or.inl (List.mem_of_getElem? (i := 0) rfl))
  show Go p e below _ T5 (mkF m 25 #[.val (.ref a1), .val (.ref a2), .val .null, .val .null, .val (.int z1)] [])
  refine Go.retV X5 hx hlk hret (hb hby d_p47_m1_25) (by decide) (by decide) e5 ?_
  exact ⟨rfl, N5, K, F_a1_kind, F_a1_signedData, F_a1_invalidReason, F_a1_applicationErrorCode⟩
set_option maxRecDepth 65536 in
set_option maxHeartbeats 40000000 in
theorem ct_appErr (l : Launch) (Z : State) (a0 : Array Value) (hw : ∀ d ∈ tables_1, d.before a0 Z = true) (w_AE : Addr) (w_EM : Addr) (S_AE : Sta Z Z.heap "com/example/warrant/warrant/Verdict$Kind" "APPLICATION_ERROR" "Lcom/example/warrant/warrant/Verdict$Kind;" (.ref w_AE)) (S_EM : Sta Z Z.heap "java/util/Optional" "EMPTY" "Ljava/util/Optional;" (.ref w_EM)) (E_EM : Exa Z Z.heap w_EM "java/util/Optional") (F_EM : Fld Z Z.heap w_EM "java/util/Optional" "value" "Ljava/lang/Object;" .null) (z1 : Int32) (h0 : Heap) (n0 : Nat) (O : Old Z n0 h0)  :
    Ct l (⟨"com/example/warrant/warrant/Verdict", "applicationError", "(I)Lcom/example/warrant/warrant/Verdict;"⟩ : MethodName) prog_47_method_5_code 1 (some (.object "com/example/warrant/warrant/Verdict")) ({ frames := 2, cells := 1, slots := 4, locals := 29 } : Room) Z #[(.int z1)] h0 (fun v h L => ∃ b, v = some (.ref b) ∧ Fr n0 L ∧ Keep h0 h [] ∧ h0.size ≤ b ∧ Exa Z h b "com/example/warrant/warrant/Verdict" ∧ Fld Z h b "com/example/warrant/warrant/Verdict" "kind" "Lcom/example/warrant/warrant/Verdict$Kind;" (.ref w_AE) ∧ Fld Z h b "com/example/warrant/warrant/Verdict" "signedData" "Lcom/example/warrant/warrant/SignedData;" .null ∧ Fld Z h b "com/example/warrant/warrant/Verdict" "invalidReason" "Lcom/example/warrant/warrant/InvalidReason;" .null ∧ Fld Z h b "com/example/warrant/warrant/Verdict" "applicationErrorCode" "I" (.int z1)) := by
  refine Ct.of (plainFor_of_name pn_Verdict_984) ?_
  intro p e s m below meth c T0 X0 hx hby hml hown hnm hret hlk hZ e0
  have hown : s.vm.findClass "com/example/warrant/warrant/Verdict" = some m.cls := hown
  have hml : c.maxLocals = 1 := hml
  have N0 := Fr.nil n0
  refine Go.cast (g' := mkF m 0 #[.val (.int z1)] []) (by first | (simp [entryFrame, mkF, argsToLocals, Value.category]; done) | rfl) ?_
  have K : Keep h0 h0 [] := Keep.refl _ _
  refine Go.newO X0 hx hZ hown (wd hw 4 rfl) (wd hw 5 rfl) (wd hw 2 rfl) e0 (hb hby d_p47_m5_0) (by decide) (by decide) ?_
  intro T1 h1 b1 X1 e1 E1 g1 A1 D1
  have lb1 := Nat.le_of_eq g1.symm
  have g_b1 : n0 ≤ b1 := Nat.le_trans (OwnKit.Old.le O) lb1
  have sz_b1 : h0.size ≤ b1 := Nat.le_trans K.1 lb1
  replace O := O.ext E1
  replace K := K.ext E1
  have E_b1 := A1
  have F_b1_kind : Fld Z h1 b1 "com/example/warrant/warrant/Verdict" "kind" "Lcom/example/warrant/warrant/Verdict$Kind;" .null := D1 (Or.inr (wd hw 16 rfl)) (ty := (.object "com/example/warrant/warrant/Verdict$Kind")) (by decide)
  have F_b1_signedData : Fld Z h1 b1 "com/example/warrant/warrant/Verdict" "signedData" "Lcom/example/warrant/warrant/SignedData;" .null := D1 (Or.inr (wd hw 18 rfl)) (ty := (.object "com/example/warrant/warrant/SignedData")) (by decide)
  have F_b1_invalidReason : Fld Z h1 b1 "com/example/warrant/warrant/Verdict" "invalidReason" "Lcom/example/warrant/warrant/InvalidReason;" .null := D1 (Or.inr (wd hw 20 rfl)) (ty := (.object "com/example/warrant/warrant/InvalidReason")) (by decide)
  have F_b1_applicationErrorCode : Fld Z h1 b1 "com/example/warrant/warrant/Verdict" "applicationErrorCode" "I" (.int (0 : Int32)) := D1 (Or.inr (wd hw 22 rfl)) (ty := .int) (by decide)
  show Go p e below _ T1 (mkF m 3 #[.val (.int z1)] [(.ref b1)])
  refine Go.by (T' := T1) (g' := (mkF m 4 #[.val (.int z1)] [(.ref b1), (.ref b1)])) (fun t k => ?_) ?_
  · show Steps p.tables e below (T1.setTop (mkF m 3 #[.val (.int z1)] [(.ref b1)])) _
    refine XS.dup X1.here hx rfl (hb hby d_p47_m5_3) rfl rfl ?_
    exact k
  refine Go.getS X1 hx hZ hown (wd hw 6 rfl) Via.refl e1 (S_AE.ext O.2) (hb hby d_p47_m5_4) ?_
  intro T2 X2 e2
  show Go p e below _ T2 (mkF m 7 #[.val (.int z1)] [(.ref w_AE), (.ref b1), (.ref b1)])
  refine Go.by (T' := T2) (g' := (mkF m 10 #[.val (.int z1)] [(.int z1), .null, .null, (.ref w_AE), (.ref b1), (.ref b1)])) (fun t k => ?_) ?_
  · show Steps p.tables e below (T2.setTop (mkF m 7 #[.val (.int z1)] [(.ref w_AE), (.ref b1), (.ref b1)])) _
    refine XS.aconstNull X2.here hx rfl (hb hby d_p47_m5_7) ?_
    show Steps p.tables e below (T2.setTop (mkF m 8 #[.val (.int z1)] [.null, (.ref w_AE), (.ref b1), (.ref b1)])) _
    refine XS.aconstNull X2.here hx rfl (hb hby d_p47_m5_8) ?_
    show Steps p.tables e below (T2.setTop (mkF m 9 #[.val (.int z1)] [.null, .null, (.ref w_AE), (.ref b1), (.ref b1)])) _
    refine XS.iloadN X2.here hx rfl (hb hby d_p47_m5_9) rfl ?_
    exact k
  refine Go.callC X2 hx hZ (W := 1) (argsL := [(.ref w_AE), .null, .null, (.int z1)]) (rest := [(.ref b1)]) hown rfl (wd hw 9 rfl) (wd hw 10 rfl) (wd hw 2 rfl) (wd hw 11 rfl) (by decide) (ct_vinit l Z a0 hw w_AE w_EM S_AE S_EM E_EM F_EM b1 w_AE z1 h1 n0 O E_b1 F_b1_kind F_b1_signedData F_b1_invalidReason F_b1_applicationErrorCode g_b1) e2 (by rw [hml]; rfl) (lenOf pd__Lcom_example_warrant_warrant_Verdict_Ki_4944 rfl) rfl rfl (hb hby d_p47_m5_10) (by decide) (by decide) (by decide) (by decide) ?_
  intro v3 T3 h3 L3 X3 e3 q3
  obtain ⟨rfl, N3, K3, F0_3, F1_3, F2_3, F3_3⟩ := q3
  replace N3 := Fr.app N0 N3
  replace E_b1 := E_b1.keep K3
  clear F_b1_kind
  clear F_b1_signedData
  clear F_b1_invalidReason
  clear F_b1_applicationErrorCode
  replace O := O.keep K3 (allS g_b1 all0)
  replace K := K.trans K3 (allS (Or.inr sz_b1) all0)
  show Go p e below _ T3 (mkF m 13 #[.val (.int z1)] [(.ref b1)])
  refine Go.retA X3 hx hlk hret rfl rfl (hb hby d_p47_m5_13) (by decide) (by decide) e3 ?_
  exact ⟨b1, rfl, N3, K, sz_b1, E_b1, F0_3, F1_3, F2_3, F3_3⟩
set_option maxRecDepth 65536 in
set_option maxHeartbeats 40000000 in
theorem ct_oinit (l : Launch) (Z : State) (a0 : Array Value) (hw : ∀ d ∈ tables_1, d.before a0 Z = true) (w_AE : Addr) (w_EM : Addr) (S_AE : Sta Z Z.heap "com/example/warrant/warrant/Verdict$Kind" "APPLICATION_ERROR" "Lcom/example/warrant/warrant/Verdict$Kind;" (.ref w_AE)) (S_EM : Sta Z Z.heap "java/util/Optional" "EMPTY" "Ljava/util/Optional;" (.ref w_EM)) (E_EM : Exa Z Z.heap w_EM "java/util/Optional") (F_EM : Fld Z Z.heap w_EM "java/util/Optional" "value" "Ljava/lang/Object;" .null) (a1 : Addr) (z1 : Int32) (h0 : Heap) (n0 : Nat) (O : Old Z n0 h0) (E_a1 : Exa Z h0 a1 "java/util/OptionalInt") (F_a1_isPresent : Fld Z h0 a1 "java/util/OptionalInt" "isPresent" "Z" (.int (0 : Int32))) (F_a1_value : Fld Z h0 a1 "java/util/OptionalInt" "value" "I" (.int (0 : Int32))) (g_a1 : n0 ≤ a1) :
    Ct l (⟨"java/util/OptionalInt", "<init>", "(I)V"⟩ : MethodName) jdk_2649_method_3_code 2 none ({ frames := 1, cells := 0, slots := 0, locals := 12 } : Room) Z #[(.ref a1), (.int z1)] h0 (fun v h L => v = none ∧ Fr n0 L ∧ Keep h0 h [a1] ∧ Fld Z h a1 "java/util/OptionalInt" "isPresent" "Z" (.int (1 : Int32)) ∧ Fld Z h a1 "java/util/OptionalInt" "value" "I" (.int z1)) := by
  refine Ct.of (plainFor_of_name pn_OptionalInt_269) ?_
  intro p e s m below meth c T0 X0 hx hby hml hown hnm hret hlk hZ e0
  have hown : s.vm.findClass "java/util/OptionalInt" = some m.cls := hown
  have hml : c.maxLocals = 2 := hml
  have N0 := Fr.nil n0
  refine Go.cast (g' := mkF m 0 #[.val (.ref a1), .val (.int z1)] []) (by first | (simp [entryFrame, mkF, argsToLocals, Value.category]; done) | rfl) ?_
  have K : Keep h0 h0 [a1] := Keep.refl _ _
  refine Go.by (T' := T0) (g' := (mkF m 1 #[.val (.ref a1), .val (.int z1)] [(.ref a1)])) (fun t k => ?_) ?_
  · show Steps p.tables e below (T0.setTop (mkF m 0 #[.val (.ref a1), .val (.int z1)] [])) _
    refine XS.aloadN X0.here hx rfl (hb hby d_j2649_m3_0) rfl rfl ?_
    exact k
  refine Go.initO X0 hx hZ hown (wd hw 44 rfl) (wd hw 13 rfl) (wd hw 14 rfl) e0 (by rw [hml]; rfl) (hb hby d_j2649_m3_1) (by decide) (W := 0) rfl (by decide) ?_
  intro T1 X1 e1
  show Go p e below _ T1 (mkF m 4 #[.val (.ref a1), .val (.int z1)] [])
  refine Go.by (T' := T1) (g' := (mkF m 6 #[.val (.ref a1), .val (.int z1)] [(.int (1 : Int32)), (.ref a1)])) (fun t k => ?_) ?_
  · show Steps p.tables e below (T1.setTop (mkF m 4 #[.val (.ref a1), .val (.int z1)] [])) _
    refine XS.aloadN X1.here hx rfl (hb hby d_j2649_m3_4) rfl rfl ?_
    show Steps p.tables e below (T1.setTop (mkF m 5 #[.val (.ref a1), .val (.int z1)] [(.ref a1)])) _
    refine XS.iconst X1.here hx rfl (hb hby d_j2649_m3_5) ?_
    exact k
  refine Go.putF X1 hx hZ hown (wd hw 45 rfl) Via.refl e1 F_a1_isPresent E_a1 (Or.inr ⟨(wd hw 46 rfl), rfl, hnm⟩) (wd hw 39 rfl) (ty := .boolean) (by decide) rfl rfl (hb hby d_j2649_m3_6) ?_
  intro T2 h2 X2 e2 W2
  replace E_a1 := E_a1.wr W2
  replace F_a1_isPresent := F_a1_isPresent.same W2
  replace F_a1_value := F_a1_value.other W2 (Or.inr (slot_ne (a0 := a0) (Or.inr (wd hw 48 rfl)) (Or.inr (wd hw 46 rfl)) (by decide) (t := .int) (t' := .boolean) (by decide) (by decide)))
  replace O := O.wr W2 g_a1
  have N2 := Fr.snoc X2 N0 g_a1
  replace K := K.wr W2 (Or.inl (List.mem_of_getElem? (i := 0) rfl))
  show Go p e below _ T2 (mkF m 9 #[.val (.ref a1), .val (.int z1)] [])
  refine Go.by (T' := T2) (g' := (mkF m 11 #[.val (.ref a1), .val (.int z1)] [(.int z1), (.ref a1)])) (fun t k => ?_) ?_
  · show Steps p.tables e below (T2.setTop (mkF m 9 #[.val (.ref a1), .val (.int z1)] [])) _
    refine XS.aloadN X2.here hx rfl (hb hby d_j2649_m3_9) rfl rfl ?_
    show Steps p.tables e below (T2.setTop (mkF m 10 #[.val (.ref a1), .val (.int z1)] [(.ref a1)])) _
    refine XS.iloadN X2.here hx rfl (hb hby d_j2649_m3_10) rfl ?_
    exact k
  refine Go.putF X2 hx hZ hown (wd hw 47 rfl) Via.refl e2 F_a1_value E_a1 (Or.inr ⟨(wd hw 48 rfl), rfl, hnm⟩) (wd hw 39 rfl) (ty := .int) (by decide) rfl rfl (hb hby d_j2649_m3_11) ?_
  intro T3 h3 X3 e3 W3
  replace E_a1 := E_a1.wr W3
  replace F_a1_isPresent := F_a1_isPresent.other W3 (Or.inr (slot_ne (a0 := a0) (Or.inr (wd hw 46 rfl)) (Or.inr (wd hw 48 rfl)) (by decide) (t := .boolean) (t' := .int) (by decide) (by decide)))
  replace F_a1_value := F_a1_value.same W3
  replace O := O.wr W3 g_a1
  have N3 := Fr.snoc X3 N2 g_a1
  replace K := K.wr W3 (Or.inl (List.mem_of_getElem? (i := 0) rfl))
  show Go p e below _ T3 (mkF m 14 #[.val (.ref a1), .val (.int z1)] [])
  refine Go.retV X3 hx hlk hret (hb hby d_j2649_m3_14) (by decide) (by decide) e3 ?_
  exact ⟨rfl, N3, K, F_a1_isPresent, F_a1_value⟩
set_option maxRecDepth 65536 in
set_option maxHeartbeats 40000000 in
theorem ct_oof (l : Launch) (Z : State) (a0 : Array Value) (hw : ∀ d ∈ tables_1, d.before a0 Z = true) (w_AE : Addr) (w_EM : Addr) (S_AE : Sta Z Z.heap "com/example/warrant/warrant/Verdict$Kind" "APPLICATION_ERROR" "Lcom/example/warrant/warrant/Verdict$Kind;" (.ref w_AE)) (S_EM : Sta Z Z.heap "java/util/Optional" "EMPTY" "Ljava/util/Optional;" (.ref w_EM)) (E_EM : Exa Z Z.heap w_EM "java/util/Optional") (F_EM : Fld Z Z.heap w_EM "java/util/Optional" "value" "Ljava/lang/Object;" .null) (z1 : Int32) (h0 : Heap) (n0 : Nat) (O : Old Z n0 h0)  :
    Ct l (⟨"java/util/OptionalInt", "of", "(I)Ljava/util/OptionalInt;"⟩ : MethodName) jdk_2649_method_4_code 1 (some (.object "java/util/OptionalInt")) ({ frames := 2, cells := 1, slots := 2, locals := 26 } : Room) Z #[(.int z1)] h0 (fun v h L => ∃ b, v = some (.ref b) ∧ Fr n0 L ∧ Keep h0 h [] ∧ h0.size ≤ b ∧ Exa Z h b "java/util/OptionalInt" ∧ Fld Z h b "java/util/OptionalInt" "isPresent" "Z" (.int (1 : Int32)) ∧ Fld Z h b "java/util/OptionalInt" "value" "I" (.int z1)) := by
  refine Ct.of (plainFor_of_name pn_OptionalInt_269) ?_
  intro p e s m below meth c T0 X0 hx hby hml hown hnm hret hlk hZ e0
  have hown : s.vm.findClass "java/util/OptionalInt" = some m.cls := hown
  have hml : c.maxLocals = 1 := hml
  have N0 := Fr.nil n0
  refine Go.cast (g' := mkF m 0 #[.val (.int z1)] []) (by first | (simp [entryFrame, mkF, argsToLocals, Value.category]; done) | rfl) ?_
  have K : Keep h0 h0 [] := Keep.refl _ _
  refine Go.newO X0 hx hZ hown (wd hw 38 rfl) (wd hw 39 rfl) (wd hw 36 rfl) e0 (hb hby d_j2649_m4_0) (by decide) (by decide) ?_
  intro T1 h1 b1 X1 e1 E1 g1 A1 D1
  have lb1 := Nat.le_of_eq g1.symm
  have g_b1 : n0 ≤ b1 := Nat.le_trans (OwnKit.Old.le O) lb1
  have sz_b1 : h0.size ≤ b1 := Nat.le_trans K.1 lb1
  replace O := O.ext E1
  replace K := K.ext E1
  have E_b1 := A1
  have F_b1_isPresent : Fld Z h1 b1 "java/util/OptionalInt" "isPresent" "Z" (.int (0 : Int32)) := D1 (Or.inr (wd hw 46 rfl)) (ty := .boolean) (by decide)
  have F_b1_value : Fld Z h1 b1 "java/util/OptionalInt" "value" "I" (.int (0 : Int32)) := D1 (Or.inr (wd hw 48 rfl)) (ty := .int) (by decide)
  show Go p e below _ T1 (mkF m 3 #[.val (.int z1)] [(.ref b1)])
  refine Go.by (T' := T1) (g' := (mkF m 5 #[.val (.int z1)] [(.int z1), (.ref b1), (.ref b1)])) (fun t k => ?_) ?_
  · show Steps p.tables e below (T1.setTop (mkF m 3 #[.val (.int z1)] [(.ref b1)])) _
    refine XS.dup X1.here hx rfl (hb hby d_j2649_m4_3) rfl rfl ?_
    show Steps p.tables e below (T1.setTop (mkF m 4 #[.val (.int z1)] [(.ref b1), (.ref b1)])) _
    refine XS.iloadN X1.here hx rfl (hb hby d_j2649_m4_4) rfl ?_
    exact k
  refine Go.callC X1 hx hZ (W := 1) (argsL := [(.int z1)]) (rest := [(.ref b1)]) hown rfl (wd hw 40 rfl) (wd hw 41 rfl) (wd hw 36 rfl) (wd hw 43 rfl) (by decide) (ct_oinit l Z a0 hw w_AE w_EM S_AE S_EM E_EM F_EM b1 z1 h1 n0 O E_b1 F_b1_isPresent F_b1_value g_b1) e1 (by rw [hml]; rfl) (lenOf pd__I_V_7776 rfl) rfl rfl (hb hby d_j2649_m4_5) (by decide) (by decide) (by decide) (by decide) ?_
  intro v2 T2 h2 L2 X2 e2 q2
  obtain ⟨rfl, N2, K2, F0_2, F1_2⟩ := q2
  replace N2 := Fr.app N0 N2
  replace E_b1 := E_b1.keep K2
  clear F_b1_isPresent
  clear F_b1_value
  replace O := O.keep K2 (allS g_b1 all0)
  replace K := K.trans K2 (allS (Or.inr sz_b1) all0)
  show Go p e below _ T2 (mkF m 8 #[.val (.int z1)] [(.ref b1)])
  refine Go.retA X2 hx hlk hret rfl rfl (hb hby d_j2649_m4_8) (by decide) (by decide) e2 ?_
  exact ⟨b1, rfl, N2, K, sz_b1, E_b1, F0_2, F1_2⟩
set_option maxRecDepth 65536 in
set_option maxHeartbeats 40000000 in
theorem ct_aec (l : Launch) (Z : State) (a0 : Array Value) (hw : ∀ d ∈ tables_1, d.before a0 Z = true) (w_AE : Addr) (w_EM : Addr) (S_AE : Sta Z Z.heap "com/example/warrant/warrant/Verdict$Kind" "APPLICATION_ERROR" "Lcom/example/warrant/warrant/Verdict$Kind;" (.ref w_AE)) (S_EM : Sta Z Z.heap "java/util/Optional" "EMPTY" "Ljava/util/Optional;" (.ref w_EM)) (E_EM : Exa Z Z.heap w_EM "java/util/Optional") (F_EM : Fld Z Z.heap w_EM "java/util/Optional" "value" "Ljava/lang/Object;" .null) (a1 : Addr) (z1 : Int32) (h0 : Heap) (n0 : Nat) (O : Old Z n0 h0) (F_a1_kind : Fld Z h0 a1 "com/example/warrant/warrant/Verdict" "kind" "Lcom/example/warrant/warrant/Verdict$Kind;" (.ref w_AE)) (F_a1_code : Fld Z h0 a1 "com/example/warrant/warrant/Verdict" "applicationErrorCode" "I" (.int z1)) :
    Ct l (⟨"com/example/warrant/warrant/Verdict", "applicationErrorCode", "()Ljava/util/OptionalInt;"⟩ : MethodName) prog_47_method_11_code 1 (some (.object "java/util/OptionalInt")) ({ frames := 3, cells := 1, slots := 2, locals := 38 } : Room) Z #[(.ref a1)] h0 (fun v h L => ∃ b, v = some (.ref b) ∧ Fr n0 L ∧ Keep h0 h [] ∧ h0.size ≤ b ∧ Exa Z h b "java/util/OptionalInt" ∧ Fld Z h b "java/util/OptionalInt" "isPresent" "Z" (.int (1 : Int32)) ∧ Fld Z h b "java/util/OptionalInt" "value" "I" (.int z1)) := by
  refine Ct.of (plainFor_of_name pn_Verdict_984) ?_
  intro p e s m below meth c T0 X0 hx hby hml hown hnm hret hlk hZ e0
  have hown : s.vm.findClass "com/example/warrant/warrant/Verdict" = some m.cls := hown
  have hml : c.maxLocals = 1 := hml
  have N0 := Fr.nil n0
  refine Go.cast (g' := mkF m 0 #[.val (.ref a1)] []) (by first | (simp [entryFrame, mkF, argsToLocals, Value.category]; done) | rfl) ?_
  have K : Keep h0 h0 [] := Keep.refl _ _
  refine Go.by (T' := T0) (g' := (mkF m 1 #[.val (.ref a1)] [(.ref a1)])) (fun t k => ?_) ?_
  · show Steps p.tables e below (T0.setTop (mkF m 0 #[.val (.ref a1)] [])) _
    refine XS.aloadN X0.here hx rfl (hb hby d_p47_m11_0) rfl rfl ?_
    exact k
  refine Go.getF X0 hx hZ hown (wd hw 15 rfl) Via.refl e0 F_a1_kind (hb hby d_p47_m11_1) ?_
  intro T1 X1 e1
  show Go p e below _ T1 (mkF m 4 #[.val (.ref a1)] [(.ref w_AE)])
  refine Go.getS X1 hx hZ hown (wd hw 6 rfl) Via.refl e1 (S_AE.ext O.2) (hb hby d_p47_m11_4) ?_
  intro T2 X2 e2
  show Go p e below _ T2 (mkF m 7 #[.val (.ref a1)] [(.ref w_AE), (.ref w_AE)])
  refine Go.by (T' := T2) (g' := (mkF m 11 #[.val (.ref a1)] [(.ref a1)])) (fun t k => ?_) ?_
  · show Steps p.tables e below (T2.setTop (mkF m 7 #[.val (.ref a1)] [(.ref w_AE), (.ref w_AE)])) _
    refine Jvm.RoadKit.acmp (g := (mkF m 7 #[.val (.ref a1)] [(.ref w_AE), (.ref w_AE)])) X2 hx rfl rfl rfl (pc0 := 7) (pc' := 10) (same := true) rfl (hb hby d_p47_m11_7) rfl (decide_eq_true rfl) (by decide) (by decide) ?_
    show Steps p.tables e below (T2.setTop (mkF m 10 #[.val (.ref a1)] [])) _
    refine XS.aloadN X2.here hx rfl (hb hby d_p47_m11_10) rfl rfl ?_
    exact k
  refine Go.getF X2 hx hZ hown (wd hw 21 rfl) Via.refl e2 F_a1_code (hb hby d_p47_m11_11) ?_
  intro T3 X3 e3
  show Go p e below _ T3 (mkF m 14 #[.val (.ref a1)] [(.int z1)])
  refine Go.callS X3 hx hZ (W := 0) (argsL := [(.int z1)]) (rest := []) hown (wd hw 34 rfl) (wd hw 35 rfl) (wd hw 36 rfl) (wd hw 37 rfl) (by decide) (ct_oof l Z a0 hw w_AE w_EM S_AE S_EM E_EM F_EM z1 h0 n0 O ) e3 (by rw [hml]; rfl) (lenOf pd__I_Ljava_util_OptionalInt__1383 rfl) rfl rfl (hb hby d_p47_m11_14) (by decide) (by decide) (by decide) (by decide) ?_
  intro v4 T4 h4 L4 X4 e4 q4
  obtain ⟨o4, rfl, N4, K4, lb4, E_o4, F_o4_isPresent, F_o4_value⟩ := q4
  replace N4 := Fr.app N0 N4
  have ne_a1_o4 : a1 ≠ o4 := Nat.ne_of_lt (Nat.lt_of_lt_of_le F_a1_kind.lt lb4)
  have g_o4 : n0 ≤ o4 := Nat.le_trans (OwnKit.Old.le O) lb4
  have sz_o4 : h0.size ≤ o4 := Nat.le_trans K.1 lb4
  replace F_a1_kind := F_a1_kind.keep K4 nin0
  replace F_a1_code := F_a1_code.keep K4 nin0
  replace O := O.keep K4 all0
  replace K := K.trans K4 all0
  show Go p e below _ T4 (mkF m 17 #[.val (.ref a1)] [(.ref o4)])
  refine Go.by (T' := T4) (g' := (mkF m 23 #[.val (.ref a1)] [(.ref o4)])) (fun t k => ?_) ?_
  · show Steps p.tables e below (T4.setTop (mkF m 17 #[.val (.ref a1)] [(.ref o4)])) _
    refine XS.goto X4.here hx rfl (pc0 := 17) (pc' := 23) rfl (hb hby d_p47_m11_17) (by decide) (by decide) ?_
    exact k
  refine Go.retA X4 hx hlk hret rfl rfl (hb hby d_p47_m11_23) (by decide) (by decide) e4 ?_
  exact ⟨o4, rfl, N4, K, sz_o4, E_o4, F_o4_isPresent, F_o4_value⟩
set_option maxRecDepth 65536 in
set_option maxHeartbeats 40000000 in
theorem ct_getAsInt (l : Launch) (Z : State) (a0 : Array Value) (hw : ∀ d ∈ tables_1, d.before a0 Z = true) (w_AE : Addr) (w_EM : Addr) (S_AE : Sta Z Z.heap "com/example/warrant/warrant/Verdict$Kind" "APPLICATION_ERROR" "Lcom/example/warrant/warrant/Verdict$Kind;" (.ref w_AE)) (S_EM : Sta Z Z.heap "java/util/Optional" "EMPTY" "Ljava/util/Optional;" (.ref w_EM)) (E_EM : Exa Z Z.heap w_EM "java/util/Optional") (F_EM : Fld Z Z.heap w_EM "java/util/Optional" "value" "Ljava/lang/Object;" .null) (a1 : Addr) (z1 : Int32) (h0 : Heap) (n0 : Nat) (O : Old Z n0 h0) (F1 : Fld Z h0 a1 "java/util/OptionalInt" "isPresent" "Z" (.int (1 : Int32))) (F2 : Fld Z h0 a1 "java/util/OptionalInt" "value" "I" (.int z1)) :
    Ct l (⟨"java/util/OptionalInt", "getAsInt", "()I"⟩ : MethodName) jdk_2649_method_5_code 1 (some .int) ({ frames := 0, cells := 0, slots := 0, locals := 0 } : Room) Z #[(.ref a1)] h0 (fun v h L => v = some (.int z1) ∧ Fr n0 L ∧ h0 = h) := by
  refine Ct.of (plainFor_of_name pn_OptionalInt_269) ?_
  intro p e s m below meth c T0 X0 hx hby hml hown hnm hret hlk hZ e0
  have hown : s.vm.findClass "java/util/OptionalInt" = some m.cls := hown
  have hml : c.maxLocals = 1 := hml
  have N0 := Fr.nil n0
  refine Go.cast (g' := mkF m 0 #[.val (.ref a1)] []) (by first | (simp [entryFrame, mkF, argsToLocals, Value.category]; done) | rfl) ?_
  refine Go.by (T' := T0) (g' := (mkF m 1 #[.val (.ref a1)] [(.ref a1)])) (fun t k => ?_) ?_
  · show Steps p.tables e below (T0.setTop (mkF m 0 #[.val (.ref a1)] [])) _
    refine XS.aloadN X0.here hx rfl (hb hby d_j2649_m5_0) rfl rfl ?_
    exact k
  refine Go.getF X0 hx hZ hown (wd hw 45 rfl) Via.refl e0 F1 (hb hby d_j2649_m5_1) ?_
  intro T1 X1 e1
  show Go p e below _ T1 (mkF m 4 #[.val (.ref a1)] [(.int (1 : Int32))])
  refine Go.by (T' := T1) (g' := (mkF m 18 #[.val (.ref a1)] [(.ref a1)])) (fun t k => ?_) ?_
  · show Steps p.tables e below (T1.setTop (mkF m 4 #[.val (.ref a1)] [(.int (1 : Int32))])) _
    refine XS.ifYes X1.here hx rfl (pc0 := 4) (pc' := 17) rfl (hb hby d_j2649_m5_4) rfl ((if0 _ _).trans (feq (by decide : ¬ (1 : Int32) = (0 : Int32))).2) (by decide) (by decide) ?_
    show Steps p.tables e below (T1.setTop (mkF m 17 #[.val (.ref a1)] [])) _
    refine XS.aloadN X1.here hx rfl (hb hby d_j2649_m5_17) rfl rfl ?_
    exact k
  refine Go.getF X1 hx hZ hown (wd hw 47 rfl) Via.refl e1 F2 (hb hby d_j2649_m5_18) ?_
  intro T2 X2 e2
  show Go p e below _ T2 (mkF m 21 #[.val (.ref a1)] [(.int z1)])
  refine Go.retI X2 hx hlk hret (hb hby d_j2649_m5_21) (by decide) (by decide) e2 ?_
  exact ⟨rfl, N0, rfl⟩
set_option maxRecDepth 65536 in
set_option maxHeartbeats 40000000 in
theorem ct_ofn (l : Launch) (Z : State) (a0 : Array Value) (hw : ∀ d ∈ tables_1, d.before a0 Z = true) (w_AE : Addr) (w_EM : Addr) (S_AE : Sta Z Z.heap "com/example/warrant/warrant/Verdict$Kind" "APPLICATION_ERROR" "Lcom/example/warrant/warrant/Verdict$Kind;" (.ref w_AE)) (S_EM : Sta Z Z.heap "java/util/Optional" "EMPTY" "Ljava/util/Optional;" (.ref w_EM)) (E_EM : Exa Z Z.heap w_EM "java/util/Optional") (F_EM : Fld Z Z.heap w_EM "java/util/Optional" "value" "Ljava/lang/Object;" .null) (h0 : Heap) (n0 : Nat) (O : Old Z n0 h0)  :
    Ct l (⟨"java/util/Optional", "ofNullable", "(Ljava/lang/Object;)Ljava/util/Optional;"⟩ : MethodName) jdk_32_method_4_code 1 (some (.object "java/util/Optional")) ({ frames := 0, cells := 0, slots := 0, locals := 0 } : Room) Z #[.null] h0 (fun v h L => v = some (.ref w_EM) ∧ Fr n0 L ∧ h0 = h) := by
  refine Ct.of (plainFor_of_name pn_Optional_457) ?_
  intro p e s m below meth c T0 X0 hx hby hml hown hnm hret hlk hZ e0
  have hown : s.vm.findClass "java/util/Optional" = some m.cls := hown
  have hml : c.maxLocals = 1 := hml
  have N0 := Fr.nil n0
  refine Go.cast (g' := mkF m 0 #[.val .null] []) (by first | (simp [entryFrame, mkF, argsToLocals, Value.category]; done) | rfl) ?_
  refine Go.by (T' := T0) (g' := (mkF m 4 #[.val .null] [])) (fun t k => ?_) ?_
  · show Steps p.tables e below (T0.setTop (mkF m 0 #[.val .null] [])) _
    refine XS.aloadN X0.here hx rfl (hb hby d_j32_m4_0) rfl rfl ?_
    show Steps p.tables e below (T0.setTop (mkF m 1 #[.val .null] [.null])) _
    refine XS.ifnonnullNo X0.here hx rfl (hb hby d_j32_m4_1) rfl ?_
    exact k
  refine Go.getS X0 hx hZ hown (wd hw 68 rfl) Via.refl e0 (S_EM.ext O.2) (hb hby d_j32_m4_4) ?_
  intro T1 X1 e1
  show Go p e below _ T1 (mkF m 7 #[.val .null] [(.ref w_EM)])
  refine Go.by (T' := T1) (g' := (mkF m 18 #[.val .null] [(.ref w_EM)])) (fun t k => ?_) ?_
  · show Steps p.tables e below (T1.setTop (mkF m 7 #[.val .null] [(.ref w_EM)])) _
    refine XS.goto X1.here hx rfl (pc0 := 7) (pc' := 18) rfl (hb hby d_j32_m4_7) (by decide) (by decide) ?_
    exact k
  refine Go.retA X1 hx hlk hret rfl rfl (hb hby d_j32_m4_18) (by decide) (by decide) e1 ?_
  exact ⟨rfl, N0, rfl⟩
set_option maxRecDepth 65536 in
set_option maxHeartbeats 40000000 in
theorem ct_signedData (l : Launch) (Z : State) (a0 : Array Value) (hw : ∀ d ∈ tables_1, d.before a0 Z = true) (w_AE : Addr) (w_EM : Addr) (S_AE : Sta Z Z.heap "com/example/warrant/warrant/Verdict$Kind" "APPLICATION_ERROR" "Lcom/example/warrant/warrant/Verdict$Kind;" (.ref w_AE)) (S_EM : Sta Z Z.heap "java/util/Optional" "EMPTY" "Ljava/util/Optional;" (.ref w_EM)) (E_EM : Exa Z Z.heap w_EM "java/util/Optional") (F_EM : Fld Z Z.heap w_EM "java/util/Optional" "value" "Ljava/lang/Object;" .null) (a1 : Addr) (h0 : Heap) (n0 : Nat) (O : Old Z n0 h0) (F1 : Fld Z h0 a1 "com/example/warrant/warrant/Verdict" "signedData" "Lcom/example/warrant/warrant/SignedData;" .null) :
    Ct l (⟨"com/example/warrant/warrant/Verdict", "signedData", "()Ljava/util/Optional;"⟩ : MethodName) prog_47_method_9_code 1 (some (.object "java/util/Optional")) ({ frames := 1, cells := 0, slots := 0, locals := 12 } : Room) Z #[(.ref a1)] h0 (fun v h L => v = some (.ref w_EM) ∧ Fr n0 L ∧ h0 = h) := by
  refine Ct.of (plainFor_of_name pn_Verdict_984) ?_
  intro p e s m below meth c T0 X0 hx hby hml hown hnm hret hlk hZ e0
  have hown : s.vm.findClass "com/example/warrant/warrant/Verdict" = some m.cls := hown
  have hml : c.maxLocals = 1 := hml
  have N0 := Fr.nil n0
  refine Go.cast (g' := mkF m 0 #[.val (.ref a1)] []) (by first | (simp [entryFrame, mkF, argsToLocals, Value.category]; done) | rfl) ?_
  refine Go.by (T' := T0) (g' := (mkF m 1 #[.val (.ref a1)] [(.ref a1)])) (fun t k => ?_) ?_
  · show Steps p.tables e below (T0.setTop (mkF m 0 #[.val (.ref a1)] [])) _
    refine XS.aloadN X0.here hx rfl (hb hby d_p47_m9_0) rfl rfl ?_
    exact k
  refine Go.getF X0 hx hZ hown (wd hw 17 rfl) Via.refl e0 F1 (hb hby d_p47_m9_1) ?_
  intro T1 X1 e1
  show Go p e below _ T1 (mkF m 4 #[.val (.ref a1)] [.null])
  refine Go.callS X1 hx hZ (W := 0) (argsL := [.null]) (rest := []) hown (wd hw 64 rfl) (wd hw 65 rfl) (wd hw 66 rfl) (wd hw 67 rfl) (by decide) (ct_ofn l Z a0 hw w_AE w_EM S_AE S_EM E_EM F_EM  h0 n0 O ) e1 (by rw [hml]; rfl) (lenOf pd__Ljava_lang_Object__Ljava_util_Optional__9874 rfl) rfl rfl (hb hby d_p47_m9_4) (by decide) (by decide) (by decide) (by decide) ?_
  intro v2 T2 h2 L2 X2 e2 q2
  obtain ⟨rfl, N2, rfl⟩ := q2
  replace N2 := Fr.app N0 N2
  show Go p e below _ T2 (mkF m 7 #[.val (.ref a1)] [(.ref w_EM)])
  refine Go.retA X2 hx hlk hret rfl rfl (hb hby d_p47_m9_7) (by decide) (by decide) e2 ?_
  exact ⟨rfl, N2, rfl⟩
set_option maxRecDepth 65536 in
set_option maxHeartbeats 40000000 in
theorem ct_invalidReason (l : Launch) (Z : State) (a0 : Array Value) (hw : ∀ d ∈ tables_1, d.before a0 Z = true) (w_AE : Addr) (w_EM : Addr) (S_AE : Sta Z Z.heap "com/example/warrant/warrant/Verdict$Kind" "APPLICATION_ERROR" "Lcom/example/warrant/warrant/Verdict$Kind;" (.ref w_AE)) (S_EM : Sta Z Z.heap "java/util/Optional" "EMPTY" "Ljava/util/Optional;" (.ref w_EM)) (E_EM : Exa Z Z.heap w_EM "java/util/Optional") (F_EM : Fld Z Z.heap w_EM "java/util/Optional" "value" "Ljava/lang/Object;" .null) (a1 : Addr) (h0 : Heap) (n0 : Nat) (O : Old Z n0 h0) (F1 : Fld Z h0 a1 "com/example/warrant/warrant/Verdict" "invalidReason" "Lcom/example/warrant/warrant/InvalidReason;" .null) :
    Ct l (⟨"com/example/warrant/warrant/Verdict", "invalidReason", "()Ljava/util/Optional;"⟩ : MethodName) prog_47_method_10_code 1 (some (.object "java/util/Optional")) ({ frames := 1, cells := 0, slots := 0, locals := 12 } : Room) Z #[(.ref a1)] h0 (fun v h L => v = some (.ref w_EM) ∧ Fr n0 L ∧ h0 = h) := by
  refine Ct.of (plainFor_of_name pn_Verdict_984) ?_
  intro p e s m below meth c T0 X0 hx hby hml hown hnm hret hlk hZ e0
  have hown : s.vm.findClass "com/example/warrant/warrant/Verdict" = some m.cls := hown
  have hml : c.maxLocals = 1 := hml
  have N0 := Fr.nil n0
  refine Go.cast (g' := mkF m 0 #[.val (.ref a1)] []) (by first | (simp [entryFrame, mkF, argsToLocals, Value.category]; done) | rfl) ?_
  refine Go.by (T' := T0) (g' := (mkF m 1 #[.val (.ref a1)] [(.ref a1)])) (fun t k => ?_) ?_
  · show Steps p.tables e below (T0.setTop (mkF m 0 #[.val (.ref a1)] [])) _
    refine XS.aloadN X0.here hx rfl (hb hby d_p47_m10_0) rfl rfl ?_
    exact k
  refine Go.getF X0 hx hZ hown (wd hw 19 rfl) Via.refl e0 F1 (hb hby d_p47_m10_1) ?_
  intro T1 X1 e1
  show Go p e below _ T1 (mkF m 4 #[.val (.ref a1)] [.null])
  refine Go.callS X1 hx hZ (W := 0) (argsL := [.null]) (rest := []) hown (wd hw 64 rfl) (wd hw 65 rfl) (wd hw 66 rfl) (wd hw 67 rfl) (by decide) (ct_ofn l Z a0 hw w_AE w_EM S_AE S_EM E_EM F_EM  h0 n0 O ) e1 (by rw [hml]; rfl) (lenOf pd__Ljava_lang_Object__Ljava_util_Optional__9874 rfl) rfl rfl (hb hby d_p47_m10_4) (by decide) (by decide) (by decide) (by decide) ?_
  intro v2 T2 h2 L2 X2 e2 q2
  obtain ⟨rfl, N2, rfl⟩ := q2
  replace N2 := Fr.app N0 N2
  show Go p e below _ T2 (mkF m 7 #[.val (.ref a1)] [(.ref w_EM)])
  refine Go.retA X2 hx hlk hret rfl rfl (hb hby d_p47_m10_7) (by decide) (by decide) e2 ?_
  exact ⟨rfl, N2, rfl⟩
set_option maxRecDepth 65536 in
set_option maxHeartbeats 40000000 in
theorem ct_isP (l : Launch) (Z : State) (a0 : Array Value) (hw : ∀ d ∈ tables_1, d.before a0 Z = true) (w_AE : Addr) (w_EM : Addr) (S_AE : Sta Z Z.heap "com/example/warrant/warrant/Verdict$Kind" "APPLICATION_ERROR" "Lcom/example/warrant/warrant/Verdict$Kind;" (.ref w_AE)) (S_EM : Sta Z Z.heap "java/util/Optional" "EMPTY" "Ljava/util/Optional;" (.ref w_EM)) (E_EM : Exa Z Z.heap w_EM "java/util/Optional") (F_EM : Fld Z Z.heap w_EM "java/util/Optional" "value" "Ljava/lang/Object;" .null) (a1 : Addr) (h0 : Heap) (n0 : Nat) (O : Old Z n0 h0) (F1 : Fld Z h0 a1 "java/util/Optional" "value" "Ljava/lang/Object;" .null) :
    Ct l (⟨"java/util/Optional", "isPresent", "()Z"⟩ : MethodName) jdk_32_method_6_code 1 (some .boolean) ({ frames := 0, cells := 0, slots := 0, locals := 0 } : Room) Z #[(.ref a1)] h0 (fun v h L => v = some (.int 0) ∧ Fr n0 L ∧ h0 = h) := by
  refine Ct.of (plainFor_of_name pn_Optional_457) ?_
  intro p e s m below meth c T0 X0 hx hby hml hown hnm hret hlk hZ e0
  have hown : s.vm.findClass "java/util/Optional" = some m.cls := hown
  have hml : c.maxLocals = 1 := hml
  have N0 := Fr.nil n0
  refine Go.cast (g' := mkF m 0 #[.val (.ref a1)] []) (by first | (simp [entryFrame, mkF, argsToLocals, Value.category]; done) | rfl) ?_
  refine Go.by (T' := T0) (g' := (mkF m 1 #[.val (.ref a1)] [(.ref a1)])) (fun t k => ?_) ?_
  · show Steps p.tables e below (T0.setTop (mkF m 0 #[.val (.ref a1)] [])) _
    refine XS.aloadN X0.here hx rfl (hb hby d_j32_m6_0) rfl rfl ?_
    exact k
  refine Go.getF X0 hx hZ hown (wd hw 74 rfl) Via.refl e0 F1 (hb hby d_j32_m6_1) ?_
  intro T1 X1 e1
  show Go p e below _ T1 (mkF m 4 #[.val (.ref a1)] [.null])
  refine Go.by (T' := T1) (g' := (mkF m 12 #[.val (.ref a1)] [(.int (0 : Int32))])) (fun t k => ?_) ?_
  · show Steps p.tables e below (T1.setTop (mkF m 4 #[.val (.ref a1)] [.null])) _
    refine XS.ifnullYes X1.here hx rfl (pc0 := 4) (pc' := 11) rfl (hb hby d_j32_m6_4) rfl (by decide) (by decide) ?_
    show Steps p.tables e below (T1.setTop (mkF m 11 #[.val (.ref a1)] [])) _
    refine XS.iconst X1.here hx rfl (hb hby d_j32_m6_11) ?_
    exact k
  refine Go.retZ X1 hx hlk hret (Or.inl rfl) (hb hby d_j32_m6_12) (by decide) (by decide) e1 ?_
  exact ⟨rfl, N0, rfl⟩
set_option maxRecDepth 65536 in
set_option maxHeartbeats 40000000 in
theorem ct_oldKey (l : Launch) (Z : State) (a0 : Array Value) (hw : ∀ d ∈ tables_1, d.before a0 Z = true) (w_AE : Addr) (w_EM : Addr) (S_AE : Sta Z Z.heap "com/example/warrant/warrant/Verdict$Kind" "APPLICATION_ERROR" "Lcom/example/warrant/warrant/Verdict$Kind;" (.ref w_AE)) (S_EM : Sta Z Z.heap "java/util/Optional" "EMPTY" "Ljava/util/Optional;" (.ref w_EM)) (E_EM : Exa Z Z.heap w_EM "java/util/Optional") (F_EM : Fld Z Z.heap w_EM "java/util/Optional" "value" "Ljava/lang/Object;" .null) (a1 : Addr) (h0 : Heap) (n0 : Nat) (O : Old Z n0 h0) (F1 : Fld Z h0 a1 "com/example/warrant/warrant/Verdict" "signedData" "Lcom/example/warrant/warrant/SignedData;" .null) :
    Ct l (⟨"com/example/warrant/warrant/Verdict", "oldKey", "()Z"⟩ : MethodName) prog_47_method_8_code 1 (some .boolean) ({ frames := 0, cells := 0, slots := 0, locals := 0 } : Room) Z #[(.ref a1)] h0 (fun v h L => v = some (.int 0) ∧ Fr n0 L ∧ h0 = h) := by
  refine Ct.of (plainFor_of_name pn_Verdict_984) ?_
  intro p e s m below meth c T0 X0 hx hby hml hown hnm hret hlk hZ e0
  have hown : s.vm.findClass "com/example/warrant/warrant/Verdict" = some m.cls := hown
  have hml : c.maxLocals = 1 := hml
  have N0 := Fr.nil n0
  refine Go.cast (g' := mkF m 0 #[.val (.ref a1)] []) (by first | (simp [entryFrame, mkF, argsToLocals, Value.category]; done) | rfl) ?_
  refine Go.by (T' := T0) (g' := (mkF m 1 #[.val (.ref a1)] [(.ref a1)])) (fun t k => ?_) ?_
  · show Steps p.tables e below (T0.setTop (mkF m 0 #[.val (.ref a1)] [])) _
    refine XS.aloadN X0.here hx rfl (hb hby d_p47_m8_0) rfl rfl ?_
    exact k
  refine Go.getF X0 hx hZ hown (wd hw 17 rfl) Via.refl e0 F1 (hb hby d_p47_m8_1) ?_
  intro T1 X1 e1
  show Go p e below _ T1 (mkF m 4 #[.val (.ref a1)] [.null])
  refine Go.by (T' := T1) (g' := (mkF m 28 #[.val (.ref a1)] [(.int (0 : Int32))])) (fun t k => ?_) ?_
  · show Steps p.tables e below (T1.setTop (mkF m 4 #[.val (.ref a1)] [.null])) _
    refine XS.ifnullYes X1.here hx rfl (pc0 := 4) (pc' := 27) rfl (hb hby d_p47_m8_4) rfl (by decide) (by decide) ?_
    show Steps p.tables e below (T1.setTop (mkF m 27 #[.val (.ref a1)] [])) _
    refine XS.iconst X1.here hx rfl (hb hby d_p47_m8_27) ?_
    exact k
  refine Go.retZ X1 hx hlk hret (Or.inl rfl) (hb hby d_p47_m8_28) (by decide) (by decide) e1 ?_
  exact ⟨rfl, N0, rfl⟩
set_option maxRecDepth 65536 in
set_option maxHeartbeats 40000000 in
theorem ct_oeq (l : Launch) (Z : State) (a0 : Array Value) (hw : ∀ d ∈ tables_1, d.before a0 Z = true) (w_AE : Addr) (w_EM : Addr) (S_AE : Sta Z Z.heap "com/example/warrant/warrant/Verdict$Kind" "APPLICATION_ERROR" "Lcom/example/warrant/warrant/Verdict$Kind;" (.ref w_AE)) (S_EM : Sta Z Z.heap "java/util/Optional" "EMPTY" "Ljava/util/Optional;" (.ref w_EM)) (E_EM : Exa Z Z.heap w_EM "java/util/Optional") (F_EM : Fld Z Z.heap w_EM "java/util/Optional" "value" "Ljava/lang/Object;" .null) (h0 : Heap) (n0 : Nat) (O : Old Z n0 h0)  :
    Ct l (⟨"java/util/Objects", "equals", "(Ljava/lang/Object;Ljava/lang/Object;)Z"⟩ : MethodName) jdk_31_method_2_code 2 (some .boolean) ({ frames := 0, cells := 0, slots := 0, locals := 0 } : Room) Z #[.null, .null] h0 (fun v h L => v = some (.int 1) ∧ Fr n0 L ∧ h0 = h) := by
  refine Ct.of (plainFor_of_name pn_Objects_297) ?_
  intro p e s m below meth c T0 X0 hx hby hml hown hnm hret hlk hZ e0
  have hown : s.vm.findClass "java/util/Objects" = some m.cls := hown
  have hml : c.maxLocals = 2 := hml
  have N0 := Fr.nil n0
  refine Go.cast (g' := mkF m 0 #[.val .null, .val .null] []) (by first | (simp [entryFrame, mkF, argsToLocals, Value.category]; done) | rfl) ?_
  refine Go.by (T' := T0) (g' := (mkF m 22 #[.val .null, .val .null] [(.int (1 : Int32))])) (fun t k => ?_) ?_
  · show Steps p.tables e below (T0.setTop (mkF m 0 #[.val .null, .val .null] [])) _
    refine XS.aloadN X0.here hx rfl (hb hby d_j31_m2_0) rfl rfl ?_
    show Steps p.tables e below (T0.setTop (mkF m 1 #[.val .null, .val .null] [.null])) _
    refine XS.aloadN X0.here hx rfl (hb hby d_j31_m2_1) rfl rfl ?_
    show Steps p.tables e below (T0.setTop (mkF m 2 #[.val .null, .val .null] [.null, .null])) _
    refine Jvm.RoadKit.acmp (g := (mkF m 2 #[.val .null, .val .null] [.null, .null])) X0 hx rfl rfl rfl (pc0 := 2) (pc' := 17) (same := true) rfl (hb hby d_j31_m2_2) rfl (decide_eq_true rfl) (by decide) (by decide) ?_
    show Steps p.tables e below (T0.setTop (mkF m 17 #[.val .null, .val .null] [])) _
    refine XS.iconst X0.here hx rfl (hb hby d_j31_m2_17) ?_
    show Steps p.tables e below (T0.setTop (mkF m 18 #[.val .null, .val .null] [(.int (1 : Int32))])) _
    refine XS.goto X0.here hx rfl (pc0 := 18) (pc' := 22) rfl (hb hby d_j31_m2_18) (by decide) (by decide) ?_
    exact k
  refine Go.retZ X0 hx hlk hret (Or.inr rfl) (hb hby d_j31_m2_22) (by decide) (by decide) e0 ?_
  exact ⟨rfl, N0, rfl⟩
set_option maxRecDepth 65536 in
set_option maxHeartbeats 40000000 in
theorem ct_veq (l : Launch) (Z : State) (a0 : Array Value) (hw : ∀ d ∈ tables_1, d.before a0 Z = true) (w_AE : Addr) (w_EM : Addr) (S_AE : Sta Z Z.heap "com/example/warrant/warrant/Verdict$Kind" "APPLICATION_ERROR" "Lcom/example/warrant/warrant/Verdict$Kind;" (.ref w_AE)) (S_EM : Sta Z Z.heap "java/util/Optional" "EMPTY" "Ljava/util/Optional;" (.ref w_EM)) (E_EM : Exa Z Z.heap w_EM "java/util/Optional") (F_EM : Fld Z Z.heap w_EM "java/util/Optional" "value" "Ljava/lang/Object;" .null) (a1 : Addr) (a2 : Addr) (z1 : Int32) (z2 : Int32) (r : Int32) (h0 : Heap) (n0 : Nat) (O : Old Z n0 h0) (F_a1_kind : Fld Z h0 a1 "com/example/warrant/warrant/Verdict" "kind" "Lcom/example/warrant/warrant/Verdict$Kind;" (.ref w_AE)) (F_a1_signedData : Fld Z h0 a1 "com/example/warrant/warrant/Verdict" "signedData" "Lcom/example/warrant/warrant/SignedData;" .null) (F_a1_invalidReason : Fld Z h0 a1 "com/example/warrant/warrant/Verdict" "invalidReason" "Lcom/example/warrant/warrant/InvalidReason;" .null) (F_a1_applicationErrorCode : Fld Z h0 a1 "com/example/warrant/warrant/Verdict" "applicationErrorCode" "I" (.int z1)) (E_a2 : Exa Z h0 a2 "com/example/warrant/warrant/Verdict") (F_a2_kind : Fld Z h0 a2 "com/example/warrant/warrant/Verdict" "kind" "Lcom/example/warrant/warrant/Verdict$Kind;" (.ref w_AE)) (F_a2_signedData : Fld Z h0 a2 "com/example/warrant/warrant/Verdict" "signedData" "Lcom/example/warrant/warrant/SignedData;" .null) (F_a2_invalidReason : Fld Z h0 a2 "com/example/warrant/warrant/Verdict" "invalidReason" "Lcom/example/warrant/warrant/InvalidReason;" .null) (F_a2_applicationErrorCode : Fld Z h0 a2 "com/example/warrant/warrant/Verdict" "applicationErrorCode" "I" (.int z2)) (hr : r = if z1 = z2 then 1 else 0) :
    Ct l (⟨"com/example/warrant/warrant/Verdict", "equals", "(Ljava/lang/Object;)Z"⟩ : MethodName) prog_47_method_12_code 3 (some .boolean) ({ frames := 1, cells := 0, slots := 0, locals := 13 } : Room) Z #[(.ref a1), (.ref a2)] h0 (fun v h L => v = some (.int r) ∧ Fr n0 L ∧ h0 = h) := by
  refine Ct.of (plainFor_of_name pn_Verdict_984) ?_
  intro p e s m below meth c T0 X0 hx hby hml hown hnm hret hlk hZ e0
  have hown : s.vm.findClass "com/example/warrant/warrant/Verdict" = some m.cls := hown
  have hml : c.maxLocals = 3 := hml
  have N0 := Fr.nil n0
  refine Go.cast (g' := mkF m 0 #[.val (.ref a1), .val (.ref a2), .unset] []) (by first | (simp [entryFrame, mkF, argsToLocals, Value.category]; done) | rfl) ?_
  refine Go.by (T' := T0) (g' := (mkF m 1 #[.val (.ref a1), .val (.ref a2), .unset] [(.ref a2)])) (fun t k => ?_) ?_
  · show Steps p.tables e below (T0.setTop (mkF m 0 #[.val (.ref a1), .val (.ref a2), .unset] [])) _
    refine XS.aloadN X0.here hx rfl (hb hby d_p47_m12_0) rfl rfl ?_
    exact k
  refine Go.instY X0 hx hZ hown (wd hw 4 rfl) e0 (Ins.self E_a2) (hb hby d_p47_m12_1) ?_
  intro T1 X1 e1
  show Go p e below _ T1 (mkF m 4 #[.val (.ref a1), .val (.ref a2), .unset] [(.int (1 : Int32))])
  refine Go.by (T' := T1) (g' := (mkF m 8 #[.val (.ref a1), .val (.ref a2), .unset] [(.ref a2)])) (fun t k => ?_) ?_
  · show Steps p.tables e below (T1.setTop (mkF m 4 #[.val (.ref a1), .val (.ref a2), .unset] [(.int (1 : Int32))])) _
    refine XS.ifNo X1.here hx rfl (hb hby d_p47_m12_4) rfl ((if0 _ _).trans (feq (by decide : ¬ (1 : Int32) = (0 : Int32))).1) ?_
    show Steps p.tables e below (T1.setTop (mkF m 7 #[.val (.ref a1), .val (.ref a2), .unset] [])) _
    refine XS.aloadN X1.here hx rfl (hb hby d_p47_m12_7) rfl rfl ?_
    exact k
  refine Go.castY X1 hx hZ hown (wd hw 4 rfl) e1 (Ins.self E_a2) (hb hby d_p47_m12_8) ?_
  intro T2 X2 e2
  show Go p e below _ T2 (mkF m 11 #[.val (.ref a1), .val (.ref a2), .unset] [(.ref a2)])
  refine Go.by (T' := T2) (g' := (mkF m 13 #[.val (.ref a1), .val (.ref a2), .val (.ref a2)] [(.ref a1)])) (fun t k => ?_) ?_
  · show Steps p.tables e below (T2.setTop (mkF m 11 #[.val (.ref a1), .val (.ref a2), .unset] [(.ref a2)])) _
    refine XS.astoreN X2.here hx rfl (hb hby d_p47_m12_11) rfl rfl (l' := #[.val (.ref a1), .val (.ref a2), .val (.ref a2)]) rfl ?_
    show Steps p.tables e below (T2.setTop (mkF m 12 #[.val (.ref a1), .val (.ref a2), .val (.ref a2)] [])) _
    refine XS.aloadN X2.here hx rfl (hb hby d_p47_m12_12) rfl rfl ?_
    exact k
  refine Go.getF X2 hx hZ hown (wd hw 15 rfl) Via.refl e2 F_a1_kind (hb hby d_p47_m12_13) ?_
  intro T3 X3 e3
  show Go p e below _ T3 (mkF m 16 #[.val (.ref a1), .val (.ref a2), .val (.ref a2)] [(.ref w_AE)])
  refine Go.by (T' := T3) (g' := (mkF m 17 #[.val (.ref a1), .val (.ref a2), .val (.ref a2)] [(.ref a2), (.ref w_AE)])) (fun t k => ?_) ?_
  · show Steps p.tables e below (T3.setTop (mkF m 16 #[.val (.ref a1), .val (.ref a2), .val (.ref a2)] [(.ref w_AE)])) _
    refine XS.aloadN X3.here hx rfl (hb hby d_p47_m12_16) rfl rfl ?_
    exact k
  refine Go.getF X3 hx hZ hown (wd hw 15 rfl) Via.refl e3 F_a2_kind (hb hby d_p47_m12_17) ?_
  intro T4 X4 e4
  show Go p e below _ T4 (mkF m 20 #[.val (.ref a1), .val (.ref a2), .val (.ref a2)] [(.ref w_AE), (.ref w_AE)])
  refine Go.by (T' := T4) (g' := (mkF m 24 #[.val (.ref a1), .val (.ref a2), .val (.ref a2)] [(.ref a1)])) (fun t k => ?_) ?_
  · show Steps p.tables e below (T4.setTop (mkF m 20 #[.val (.ref a1), .val (.ref a2), .val (.ref a2)] [(.ref w_AE), (.ref w_AE)])) _
    refine Jvm.RoadKit.acmp (g := (mkF m 20 #[.val (.ref a1), .val (.ref a2), .val (.ref a2)] [(.ref w_AE), (.ref w_AE)])) X4 hx rfl rfl rfl (pc0 := 20) (pc' := 23) (same := true) rfl (hb hby d_p47_m12_20) rfl (decide_eq_true rfl) (by decide) (by decide) ?_
    show Steps p.tables e below (T4.setTop (mkF m 23 #[.val (.ref a1), .val (.ref a2), .val (.ref a2)] [])) _
    refine XS.aloadN X4.here hx rfl (hb hby d_p47_m12_23) rfl rfl ?_
    exact k
  refine Go.getF X4 hx hZ hown (wd hw 17 rfl) Via.refl e4 F_a1_signedData (hb hby d_p47_m12_24) ?_
  intro T5 X5 e5
  show Go p e below _ T5 (mkF m 27 #[.val (.ref a1), .val (.ref a2), .val (.ref a2)] [.null])
  refine Go.by (T' := T5) (g' := (mkF m 28 #[.val (.ref a1), .val (.ref a2), .val (.ref a2)] [(.ref a2), .null])) (fun t k => ?_) ?_
  · show Steps p.tables e below (T5.setTop (mkF m 27 #[.val (.ref a1), .val (.ref a2), .val (.ref a2)] [.null])) _
    refine XS.aloadN X5.here hx rfl (hb hby d_p47_m12_27) rfl rfl ?_
    exact k
  refine Go.getF X5 hx hZ hown (wd hw 17 rfl) Via.refl e5 F_a2_signedData (hb hby d_p47_m12_28) ?_
  intro T6 X6 e6
  show Go p e below _ T6 (mkF m 31 #[.val (.ref a1), .val (.ref a2), .val (.ref a2)] [.null, .null])
  refine Go.callS X6 hx hZ (W := 0) (argsL := [.null, .null]) (rest := []) hown (wd hw 92 rfl) (wd hw 93 rfl) (wd hw 94 rfl) (wd hw 95 rfl) (by decide) (ct_oeq l Z a0 hw w_AE w_EM S_AE S_EM E_EM F_EM  h0 n0 O ) e6 (by rw [hml]; rfl) (lenOf pd__Ljava_lang_Object_Ljava_lang_Object__Z_1294 rfl) rfl rfl (hb hby d_p47_m12_31) (by decide) (by decide) (by decide) (by decide) ?_
  intro v7 T7 h7 L7 X7 e7 q7
  obtain ⟨rfl, N7, rfl⟩ := q7
  replace N7 := Fr.app N0 N7
  show Go p e below _ T7 (mkF m 34 #[.val (.ref a1), .val (.ref a2), .val (.ref a2)] [(.int (1 : Int32))])
  refine Go.by (T' := T7) (g' := (mkF m 38 #[.val (.ref a1), .val (.ref a2), .val (.ref a2)] [(.ref a1)])) (fun t k => ?_) ?_
  · show Steps p.tables e below (T7.setTop (mkF m 34 #[.val (.ref a1), .val (.ref a2), .val (.ref a2)] [(.int (1 : Int32))])) _
    refine XS.ifNo X7.here hx rfl (hb hby d_p47_m12_34) rfl ((if0 _ _).trans (feq (by decide : ¬ (1 : Int32) = (0 : Int32))).1) ?_
    show Steps p.tables e below (T7.setTop (mkF m 37 #[.val (.ref a1), .val (.ref a2), .val (.ref a2)] [])) _
    refine XS.aloadN X7.here hx rfl (hb hby d_p47_m12_37) rfl rfl ?_
    exact k
  refine Go.getF X7 hx hZ hown (wd hw 19 rfl) Via.refl e7 F_a1_invalidReason (hb hby d_p47_m12_38) ?_
  intro T8 X8 e8
  show Go p e below _ T8 (mkF m 41 #[.val (.ref a1), .val (.ref a2), .val (.ref a2)] [.null])
  refine Go.by (T' := T8) (g' := (mkF m 42 #[.val (.ref a1), .val (.ref a2), .val (.ref a2)] [(.ref a2), .null])) (fun t k => ?_) ?_
  · show Steps p.tables e below (T8.setTop (mkF m 41 #[.val (.ref a1), .val (.ref a2), .val (.ref a2)] [.null])) _
    refine XS.aloadN X8.here hx rfl (hb hby d_p47_m12_41) rfl rfl ?_
    exact k
  refine Go.getF X8 hx hZ hown (wd hw 19 rfl) Via.refl e8 F_a2_invalidReason (hb hby d_p47_m12_42) ?_
  intro T9 X9 e9
  show Go p e below _ T9 (mkF m 45 #[.val (.ref a1), .val (.ref a2), .val (.ref a2)] [.null, .null])
  refine Go.by (T' := T9) (g' := (mkF m 49 #[.val (.ref a1), .val (.ref a2), .val (.ref a2)] [(.ref a1)])) (fun t k => ?_) ?_
  · show Steps p.tables e below (T9.setTop (mkF m 45 #[.val (.ref a1), .val (.ref a2), .val (.ref a2)] [.null, .null])) _
    refine Jvm.RoadKit.acmp (g := (mkF m 45 #[.val (.ref a1), .val (.ref a2), .val (.ref a2)] [.null, .null])) X9 hx rfl rfl rfl (pc0 := 45) (pc' := 48) (same := true) rfl (hb hby d_p47_m12_45) rfl (decide_eq_true rfl) (by decide) (by decide) ?_
    show Steps p.tables e below (T9.setTop (mkF m 48 #[.val (.ref a1), .val (.ref a2), .val (.ref a2)] [])) _
    refine XS.aloadN X9.here hx rfl (hb hby d_p47_m12_48) rfl rfl ?_
    exact k
  refine Go.getF X9 hx hZ hown (wd hw 21 rfl) Via.refl e9 F_a1_applicationErrorCode (hb hby d_p47_m12_49) ?_
  intro T10 X10 e10
  show Go p e below _ T10 (mkF m 52 #[.val (.ref a1), .val (.ref a2), .val (.ref a2)] [(.int z1)])
  refine Go.by (T' := T10) (g' := (mkF m 53 #[.val (.ref a1), .val (.ref a2), .val (.ref a2)] [(.ref a2), (.int z1)])) (fun t k => ?_) ?_
  · show Steps p.tables e below (T10.setTop (mkF m 52 #[.val (.ref a1), .val (.ref a2), .val (.ref a2)] [(.int z1)])) _
    refine XS.aloadN X10.here hx rfl (hb hby d_p47_m12_52) rfl rfl ?_
    exact k
  refine Go.getF X10 hx hZ hown (wd hw 21 rfl) Via.refl e10 F_a2_applicationErrorCode (hb hby d_p47_m12_53) ?_
  intro T11 X11 e11
  show Go p e below _ T11 (mkF m 56 #[.val (.ref a1), .val (.ref a2), .val (.ref a2)] [(.int z2), (.int z1)])
  by_cases hy12 : z1 = z2
  · skip
    refine Go.by (T' := T11) (g' := (mkF m 64 #[.val (.ref a1), .val (.ref a2), .val (.ref a2)] [(.int (1 : Int32))])) (fun t k => ?_) ?_
    · show Steps p.tables e below (T11.setTop (mkF m 56 #[.val (.ref a1), .val (.ref a2), .val (.ref a2)] [(.int z2), (.int z1)])) _
      refine XS.icmpNo X11.here hx rfl (hb hby d_p47_m12_56) rfl (teq hy12).2 ?_
      show Steps p.tables e below (T11.setTop (mkF m 59 #[.val (.ref a1), .val (.ref a2), .val (.ref a2)] [])) _
      refine XS.iconst X11.here hx rfl (hb hby d_p47_m12_59) ?_
      show Steps p.tables e below (T11.setTop (mkF m 60 #[.val (.ref a1), .val (.ref a2), .val (.ref a2)] [(.int (1 : Int32))])) _
      refine XS.goto X11.here hx rfl (pc0 := 60) (pc' := 64) rfl (hb hby d_p47_m12_60) (by decide) (by decide) ?_
      exact k
    refine Go.retZ X11 hx hlk hret (Or.inr rfl) (hb hby d_p47_m12_64) (by decide) (by decide) e11 ?_
    exact ⟨by simp [hr, hy12], N7, rfl⟩
  · skip
    refine Go.by (T' := T11) (g' := (mkF m 64 #[.val (.ref a1), .val (.ref a2), .val (.ref a2)] [(.int (0 : Int32))])) (fun t k => ?_) ?_
    · show Steps p.tables e below (T11.setTop (mkF m 56 #[.val (.ref a1), .val (.ref a2), .val (.ref a2)] [(.int z2), (.int z1)])) _
      refine XS.icmpYes X11.here hx rfl (pc0 := 56) (pc' := 63) rfl (hb hby d_p47_m12_56) rfl (feq hy12).2 (by decide) (by decide) ?_
      show Steps p.tables e below (T11.setTop (mkF m 63 #[.val (.ref a1), .val (.ref a2), .val (.ref a2)] [])) _
      refine XS.iconst X11.here hx rfl (hb hby d_p47_m12_63) ?_
      exact k
    refine Go.retZ X11 hx hlk hret (Or.inl rfl) (hb hby d_p47_m12_64) (by decide) (by decide) e11 ?_
    exact ⟨by simp [hr, hy12], N7, rfl⟩
set_option maxRecDepth 65536 in
set_option maxHeartbeats 40000000 in
theorem ct_get_kind_R_0 (l : Launch) (Z : State) (a0 : Array Value) (hw : ∀ d ∈ tables_1, d.before a0 Z = true) (a1 : Addr) (a2 : Addr) (h0 : Heap) (n0 : Nat) (O : Old Z n0 h0) (F_a1 : Fld Z h0 a1 "com/example/warrant/warrant/Verdict" "kind" "Lcom/example/warrant/warrant/Verdict$Kind;" (.ref a2)) :
    Ct l (⟨"com/example/warrant/warrant/Verdict", "kind", "()Lcom/example/warrant/warrant/Verdict$Kind;"⟩ : MethodName) prog_47_method_7_code 1 (some (.object "com/example/warrant/warrant/Verdict$Kind")) ({ frames := 0, cells := 0, slots := 0, locals := 0 } : Room) Z #[(.ref a1)] h0 (fun v h L => v = some (.ref a2) ∧ Fr n0 L ∧ h0 = h) := by
  refine Ct.of (plainFor_of_name pn_Verdict_984) ?_
  intro p e s m below meth c T0 X0 hx hby hml hown hnm hret hlk hZ e0
  have hown : s.vm.findClass "com/example/warrant/warrant/Verdict" = some m.cls := hown
  have hml : c.maxLocals = 1 := hml
  have N0 := Fr.nil n0
  refine Go.cast (g' := mkF m 0 #[.val (.ref a1)] []) (by first | (simp [entryFrame, mkF, argsToLocals, Value.category]; done) | rfl) ?_
  refine Go.by (T' := T0) (g' := (mkF m 1 #[.val (.ref a1)] [(.ref a1)])) (fun t k => ?_) ?_
  · show Steps p.tables e below (T0.setTop (mkF m 0 #[.val (.ref a1)] [])) _
    refine XS.aloadN X0.here hx rfl (hb hby d_p47_m7_0) rfl rfl ?_
    exact k
  refine Go.getF X0 hx hZ hown (wd hw 15 rfl) Via.refl e0 F_a1 (hb hby d_p47_m7_1) ?_
  intro T1 X1 e1
  show Go p e below _ T1 (mkF m 4 #[.val (.ref a1)] [(.ref a2)])
  refine Go.retA X1 hx hlk hret rfl rfl (hb hby d_p47_m7_4) (by decide) (by decide) e1 ?_
  exact ⟨rfl, N0, rfl⟩
set_option maxRecDepth 65536 in
set_option maxHeartbeats 40000000 in
theorem ct_get_isPresent_l_1___Int32__1 (l : Launch) (Z : State) (a0 : Array Value) (hw : ∀ d ∈ tables_1, d.before a0 Z = true) (a1 : Addr) (h0 : Heap) (n0 : Nat) (O : Old Z n0 h0) (F_a1 : Fld Z h0 a1 "java/util/OptionalInt" "isPresent" "Z" (.int (1 : Int32))) :
    Ct l (⟨"java/util/OptionalInt", "isPresent", "()Z"⟩ : MethodName) jdk_2649_method_6_code 1 (some .boolean) ({ frames := 0, cells := 0, slots := 0, locals := 0 } : Room) Z #[(.ref a1)] h0 (fun v h L => v = some (.int (1 : Int32)) ∧ Fr n0 L ∧ h0 = h) := by
  refine Ct.of (plainFor_of_name pn_OptionalInt_269) ?_
  intro p e s m below meth c T0 X0 hx hby hml hown hnm hret hlk hZ e0
  have hown : s.vm.findClass "java/util/OptionalInt" = some m.cls := hown
  have hml : c.maxLocals = 1 := hml
  have N0 := Fr.nil n0
  refine Go.cast (g' := mkF m 0 #[.val (.ref a1)] []) (by first | (simp [entryFrame, mkF, argsToLocals, Value.category]; done) | rfl) ?_
  refine Go.by (T' := T0) (g' := (mkF m 1 #[.val (.ref a1)] [(.ref a1)])) (fun t k => ?_) ?_
  · show Steps p.tables e below (T0.setTop (mkF m 0 #[.val (.ref a1)] [])) _
    refine XS.aloadN X0.here hx rfl (hb hby d_j2649_m6_0) rfl rfl ?_
    exact k
  refine Go.getF X0 hx hZ hown (wd hw 45 rfl) Via.refl e0 F_a1 (hb hby d_j2649_m6_1) ?_
  intro T1 X1 e1
  show Go p e below _ T1 (mkF m 4 #[.val (.ref a1)] [(.int (1 : Int32))])
  refine Go.retZ X1 hx hlk hret (Or.inr rfl) (hb hby d_j2649_m6_4) (by decide) (by decide) e1 ?_
  exact ⟨rfl, N0, rfl⟩
set_option maxRecDepth 65536 in
set_option maxHeartbeats 40000000 in
theorem ct_law (l : Launch) (Z : State) (a0 : Array Value) (hw : ∀ d ∈ tables_1, d.before a0 Z = true) (w_AE : Addr) (w_EM : Addr) (S_AE : Sta Z Z.heap "com/example/warrant/warrant/Verdict$Kind" "APPLICATION_ERROR" "Lcom/example/warrant/warrant/Verdict$Kind;" (.ref w_AE)) (S_EM : Sta Z Z.heap "java/util/Optional" "EMPTY" "Ljava/util/Optional;" (.ref w_EM)) (E_EM : Exa Z Z.heap w_EM "java/util/Optional") (F_EM : Fld Z Z.heap w_EM "java/util/Optional" "value" "Ljava/lang/Object;" .null) (p0 : Int32) (p1 : Int32) (p2 : Int32) (h0 : Heap) (n0 : Nat) (O : Old Z n0 h0)  :
    Ct l x code maxLocals ret room_1 Z #[(.int p0), (.int p1), (.int p2)] h0 (fun v h L => v = some (.int 1) ∧ Fr n0 L) := by
  refine Ct.of (plainFor_of_name pn_VerdictApplicationErrorPinLaw_784) ?_
  intro p e s m below meth c T0 X0 hx hby hml hown hnm hret hlk hZ e0
  have hown : s.vm.findClass "com/example/warrant/warrant/VerdictApplicationErrorPinLaw" = some m.cls := hown
  have hml : c.maxLocals = 7 := hml
  have N0 := Fr.nil n0
  refine Go.cast (g' := mkF m 0 #[.val (.int p0), .val (.int p1), .val (.int p2), .unset, .unset, .unset, .unset] []) (by first | (simp [entryFrame, mkF, argsToLocals, Value.category, maxLocals]; done) | rfl) ?_
  refine Go.by (T' := T0) (g' := (mkF m 3 #[.val (.int p0), .val (.int p1), .val (.int p2), .unset, .unset, .unset, .unset] [(.int (p2 &&& (1 : Int32)))])) (fun t k => ?_) ?_
  · show Steps p.tables e below (T0.setTop (mkF m 0 #[.val (.int p0), .val (.int p1), .val (.int p2), .unset, .unset, .unset, .unset] [])) _
    refine XS.iloadN X0.here hx rfl (hb hby at_0) rfl ?_
    show Steps p.tables e below (T0.setTop (mkF m 1 #[.val (.int p0), .val (.int p1), .val (.int p2), .unset, .unset, .unset, .unset] [(.int p2)])) _
    refine XS.iconst X0.here hx rfl (hb hby at_1) ?_
    show Steps p.tables e below (T0.setTop (mkF m 2 #[.val (.int p0), .val (.int p1), .val (.int p2), .unset, .unset, .unset, .unset] [(.int (1 : Int32)), (.int p2)])) _
    refine XS.iand X0.here hx rfl (hb hby at_2) rfl ?_
    exact k
  have J1 : ∀ (m1 : Int32), Go p e below (EndF s room_1.cells room_1.slots (fun v h L => v = some (.int 1) ∧ Fr n0 L)) T0 (mkF m 11 #[.val (.int p0), .val (.int p1), .val (.int p2), .unset, .unset, .unset, .unset] [(.int m1)]) := by
    intro m1
    refine Go.by (T' := T0) (g' := (mkF m 13 #[.val (.int p0), .val (.int p1), .val (.int p2), .val (.int m1), .unset, .unset, .unset] [(.int p0)])) (fun t k => ?_) ?_
    · show Steps p.tables e below (T0.setTop (mkF m 11 #[.val (.int p0), .val (.int p1), .val (.int p2), .unset, .unset, .unset, .unset] [(.int m1)])) _
      refine XS.istoreN X0.here hx rfl (hb hby at_11) rfl (l' := #[.val (.int p0), .val (.int p1), .val (.int p2), .val (.int m1), .unset, .unset, .unset]) rfl ?_
      show Steps p.tables e below (T0.setTop (mkF m 12 #[.val (.int p0), .val (.int p1), .val (.int p2), .val (.int m1), .unset, .unset, .unset] [])) _
      refine XS.iloadN X0.here hx rfl (hb hby at_12) rfl ?_
      exact k
    refine Go.callS X0 hx hZ (W := 0) (argsL := [(.int p0)]) (rest := []) hown (wd hw 0 rfl) (wd hw 1 rfl) (wd hw 2 rfl) (wd hw 3 rfl) (by decide) (ct_appErr l Z a0 hw w_AE w_EM S_AE S_EM E_EM F_EM p0 h0 n0 O ) e0 (by rw [hml]; rfl) (lenOf pd__I_Lcom_example_warrant_warrant_Verdict__1324 rfl) rfl rfl (hb hby at_13) (by decide) (by decide) (by decide) (by decide) ?_
    intro v2 T2 h2 L2 X2 e2 q2
    obtain ⟨o2, rfl, N2, K2, lb2, E_o2, F_o2_kind, F_o2_signedData, F_o2_invalidReason, F_o2_applicationErrorCode⟩ := q2
    replace N2 := Fr.app N0 N2
    have g_o2 : n0 ≤ o2 := Nat.le_trans (OwnKit.Old.le O) lb2
    replace O := O.keep K2 all0
    show Go p e below _ T2 (mkF m 16 #[.val (.int p0), .val (.int p1), .val (.int p2), .val (.int m1), .unset, .unset, .unset] [(.ref o2)])
    refine Go.by (T' := T2) (g' := (mkF m 19 #[.val (.int p0), .val (.int p1), .val (.int p2), .val (.int m1), .val (.ref o2), .unset, .unset] [(.int m1)])) (fun t k => ?_) ?_
    · show Steps p.tables e below (T2.setTop (mkF m 16 #[.val (.int p0), .val (.int p1), .val (.int p2), .val (.int m1), .unset, .unset, .unset] [(.ref o2)])) _
      refine XS.astore X2.here hx rfl (hb hby at_16) rfl rfl (l' := #[.val (.int p0), .val (.int p1), .val (.int p2), .val (.int m1), .val (.ref o2), .unset, .unset]) rfl ?_
      show Steps p.tables e below (T2.setTop (mkF m 18 #[.val (.int p0), .val (.int p1), .val (.int p2), .val (.int m1), .val (.ref o2), .unset, .unset] [])) _
      refine XS.iloadN X2.here hx rfl (hb hby at_18) rfl ?_
      exact k
    refine Go.callS X2 hx hZ (W := 0) (argsL := [(.int m1)]) (rest := []) hown (wd hw 0 rfl) (wd hw 1 rfl) (wd hw 2 rfl) (wd hw 3 rfl) (by decide) (ct_appErr l Z a0 hw w_AE w_EM S_AE S_EM E_EM F_EM m1 h2 n0 O ) e2 (by rw [hml]; rfl) (lenOf pd__I_Lcom_example_warrant_warrant_Verdict__1324 rfl) rfl rfl (hb hby at_19) (by decide) (by decide) (by decide) (by decide) ?_
    intro v3 T3 h3 L3 X3 e3 q3
    obtain ⟨o3, rfl, N3, K3, lb3, E_o3, F_o3_kind, F_o3_signedData, F_o3_invalidReason, F_o3_applicationErrorCode⟩ := q3
    replace N3 := Fr.app N2 N3
    have ne_o2_o3 : o2 ≠ o3 := Nat.ne_of_lt (Nat.lt_of_lt_of_le E_o2.lt lb3)
    have g_o3 : n0 ≤ o3 := Nat.le_trans (OwnKit.Old.le O) lb3
    replace E_o2 := E_o2.keep K3
    replace F_o2_kind := F_o2_kind.keep K3 nin0
    replace F_o2_signedData := F_o2_signedData.keep K3 nin0
    replace F_o2_invalidReason := F_o2_invalidReason.keep K3 nin0
    replace F_o2_applicationErrorCode := F_o2_applicationErrorCode.keep K3 nin0
    replace O := O.keep K3 all0
    show Go p e below _ T3 (mkF m 22 #[.val (.int p0), .val (.int p1), .val (.int p2), .val (.int m1), .val (.ref o2), .unset, .unset] [(.ref o3)])
    refine Go.by (T' := T3) (g' := (mkF m 26 #[.val (.int p0), .val (.int p1), .val (.int p2), .val (.int m1), .val (.ref o2), .val (.ref o3), .unset] [(.ref o2)])) (fun t k => ?_) ?_
    · show Steps p.tables e below (T3.setTop (mkF m 22 #[.val (.int p0), .val (.int p1), .val (.int p2), .val (.int m1), .val (.ref o2), .unset, .unset] [(.ref o3)])) _
      refine XS.astore X3.here hx rfl (hb hby at_22) rfl rfl (l' := #[.val (.int p0), .val (.int p1), .val (.int p2), .val (.int m1), .val (.ref o2), .val (.ref o3), .unset]) rfl ?_
      show Steps p.tables e below (T3.setTop (mkF m 24 #[.val (.int p0), .val (.int p1), .val (.int p2), .val (.int m1), .val (.ref o2), .val (.ref o3), .unset] [])) _
      refine XS.aload X3.here hx rfl (hb hby at_24) rfl rfl ?_
      exact k
    refine Go.callV X3 hx hZ (W := 0) (argsL := []) (rest := []) hown (wd hw 23 rfl) (wd hw 24 rfl) (notFace_of_selects (args := #[]) (mvT hZ (wd hw 26 rfl))) (wd hw 26 rfl) (wd hw 25 rfl) (wd hw 2 rfl) (wd hw 27 rfl) (by decide) E_o2 (ct_get_kind_R_0 l Z a0 hw  o2 w_AE h3 n0 O F_o2_kind) e3 (by rw [hml]; rfl) (lenOf pd___Lcom_example_warrant_warrant_Verdict_K_868 rfl) rfl rfl (hb hby at_26) (by decide) (by decide) (by decide) (by decide) ?_
    intro v4 T4 h4 L4 X4 e4 q4
    obtain ⟨rfl, N4, rfl⟩ := q4
    replace N4 := Fr.app N3 N4
    show Go p e below _ T4 (mkF m 29 #[.val (.int p0), .val (.int p1), .val (.int p2), .val (.int m1), .val (.ref o2), .val (.ref o3), .unset] [(.ref w_AE)])
    refine Go.getS X4 hx hZ hown (wd hw 28 rfl) Via.refl e4 (S_AE.ext O.2) (hb hby at_29) ?_
    intro T5 X5 e5
    show Go p e below _ T5 (mkF m 32 #[.val (.int p0), .val (.int p1), .val (.int p2), .val (.int m1), .val (.ref o2), .val (.ref o3), .unset] [(.ref w_AE), (.ref w_AE)])
    refine Go.by (T' := T5) (g' := (mkF m 39 #[.val (.int p0), .val (.int p1), .val (.int p2), .val (.int m1), .val (.ref o2), .val (.ref o3), .unset] [(.ref o2)])) (fun t k => ?_) ?_
    · show Steps p.tables e below (T5.setTop (mkF m 32 #[.val (.int p0), .val (.int p1), .val (.int p2), .val (.int m1), .val (.ref o2), .val (.ref o3), .unset] [(.ref w_AE), (.ref w_AE)])) _
      refine Jvm.RoadKit.acmp (g := (mkF m 32 #[.val (.int p0), .val (.int p1), .val (.int p2), .val (.int m1), .val (.ref o2), .val (.ref o3), .unset] [(.ref w_AE), (.ref w_AE)])) X5 hx rfl rfl rfl (pc0 := 32) (pc' := 37) (same := true) rfl (hb hby at_32) rfl (decide_eq_true rfl) (by decide) (by decide) ?_
      show Steps p.tables e below (T5.setTop (mkF m 37 #[.val (.int p0), .val (.int p1), .val (.int p2), .val (.int m1), .val (.ref o2), .val (.ref o3), .unset] [])) _
      refine XS.aload X5.here hx rfl (hb hby at_37) rfl rfl ?_
      exact k
    refine Go.callV X5 hx hZ (W := 0) (argsL := []) (rest := []) hown (wd hw 29 rfl) (wd hw 30 rfl) (notFace_of_selects (args := #[]) (mvT hZ (wd hw 32 rfl))) (wd hw 32 rfl) (wd hw 31 rfl) (wd hw 2 rfl) (wd hw 33 rfl) (by decide) E_o2 (ct_aec l Z a0 hw w_AE w_EM S_AE S_EM E_EM F_EM o2 p0 h3 n0 O F_o2_kind F_o2_applicationErrorCode) e5 (by rw [hml]; rfl) (lenOf pd___Ljava_util_OptionalInt__4070 rfl) rfl rfl (hb hby at_39) (by decide) (by decide) (by decide) (by decide) ?_
    intro v6 T6 h6 L6 X6 e6 q6
    obtain ⟨o6, rfl, N6, K6, lb6, E_o6, F_o6_isPresent, F_o6_value⟩ := q6
    replace N6 := Fr.app N4 N6
    have ne_o2_o6 : o2 ≠ o6 := Nat.ne_of_lt (Nat.lt_of_lt_of_le E_o2.lt lb6)
    have ne_o3_o6 : o3 ≠ o6 := Nat.ne_of_lt (Nat.lt_of_lt_of_le E_o3.lt lb6)
    have g_o6 : n0 ≤ o6 := Nat.le_trans (OwnKit.Old.le O) lb6
    replace E_o2 := E_o2.keep K6
    replace F_o2_kind := F_o2_kind.keep K6 nin0
    replace F_o2_signedData := F_o2_signedData.keep K6 nin0
    replace F_o2_invalidReason := F_o2_invalidReason.keep K6 nin0
    replace F_o2_applicationErrorCode := F_o2_applicationErrorCode.keep K6 nin0
    replace E_o3 := E_o3.keep K6
    replace F_o3_kind := F_o3_kind.keep K6 nin0
    replace F_o3_signedData := F_o3_signedData.keep K6 nin0
    replace F_o3_invalidReason := F_o3_invalidReason.keep K6 nin0
    replace F_o3_applicationErrorCode := F_o3_applicationErrorCode.keep K6 nin0
    replace O := O.keep K6 all0
    show Go p e below _ T6 (mkF m 42 #[.val (.int p0), .val (.int p1), .val (.int p2), .val (.int m1), .val (.ref o2), .val (.ref o3), .unset] [(.ref o6)])
    refine Go.by (T' := T6) (g' := (mkF m 46 #[.val (.int p0), .val (.int p1), .val (.int p2), .val (.int m1), .val (.ref o2), .val (.ref o3), .val (.ref o6)] [(.ref o6)])) (fun t k => ?_) ?_
    · show Steps p.tables e below (T6.setTop (mkF m 42 #[.val (.int p0), .val (.int p1), .val (.int p2), .val (.int m1), .val (.ref o2), .val (.ref o3), .unset] [(.ref o6)])) _
      refine XS.astore X6.here hx rfl (hb hby at_42) rfl rfl (l' := #[.val (.int p0), .val (.int p1), .val (.int p2), .val (.int m1), .val (.ref o2), .val (.ref o3), .val (.ref o6)]) rfl ?_
      show Steps p.tables e below (T6.setTop (mkF m 44 #[.val (.int p0), .val (.int p1), .val (.int p2), .val (.int m1), .val (.ref o2), .val (.ref o3), .val (.ref o6)] [])) _
      refine XS.aload X6.here hx rfl (hb hby at_44) rfl rfl ?_
      exact k
    refine Go.callV X6 hx hZ (W := 0) (argsL := []) (rest := []) hown (wd hw 49 rfl) (wd hw 50 rfl) (notFace_of_selects (args := #[]) (mvT hZ (wd hw 52 rfl))) (wd hw 52 rfl) (wd hw 51 rfl) (wd hw 36 rfl) (wd hw 53 rfl) (by decide) E_o6 (ct_get_isPresent_l_1___Int32__1 l Z a0 hw  o6 h6 n0 O F_o6_isPresent) e6 (by rw [hml]; rfl) (lenOf pd___Z_8338 rfl) rfl rfl (hb hby at_46) (by decide) (by decide) (by decide) (by decide) ?_
    intro v7 T7 h7 L7 X7 e7 q7
    obtain ⟨rfl, N7, rfl⟩ := q7
    replace N7 := Fr.app N6 N7
    show Go p e below _ T7 (mkF m 49 #[.val (.int p0), .val (.int p1), .val (.int p2), .val (.int m1), .val (.ref o2), .val (.ref o3), .val (.ref o6)] [(.int (1 : Int32))])
    refine Go.by (T' := T7) (g' := (mkF m 54 #[.val (.int p0), .val (.int p1), .val (.int p2), .val (.int m1), .val (.ref o2), .val (.ref o3), .val (.ref o6)] [(.ref o6)])) (fun t k => ?_) ?_
    · show Steps p.tables e below (T7.setTop (mkF m 49 #[.val (.int p0), .val (.int p1), .val (.int p2), .val (.int m1), .val (.ref o2), .val (.ref o3), .val (.ref o6)] [(.int (1 : Int32))])) _
      refine XS.ifNo X7.here hx rfl (hb hby at_49) rfl ((if0 _ _).trans (feq (by decide : ¬ (1 : Int32) = (0 : Int32))).1) ?_
      show Steps p.tables e below (T7.setTop (mkF m 52 #[.val (.int p0), .val (.int p1), .val (.int p2), .val (.int m1), .val (.ref o2), .val (.ref o3), .val (.ref o6)] [])) _
      refine XS.aload X7.here hx rfl (hb hby at_52) rfl rfl ?_
      exact k
    refine Go.callV X7 hx hZ (W := 0) (argsL := []) (rest := []) hown (wd hw 54 rfl) (wd hw 55 rfl) (notFace_of_selects (args := #[]) (mvT hZ (wd hw 57 rfl))) (wd hw 57 rfl) (wd hw 56 rfl) (wd hw 36 rfl) (wd hw 58 rfl) (by decide) E_o6 (ct_getAsInt l Z a0 hw w_AE w_EM S_AE S_EM E_EM F_EM o6 p0 h6 n0 O F_o6_isPresent F_o6_value) e7 (by rw [hml]; rfl) (lenOf pd___I_8321 rfl) rfl rfl (hb hby at_54) (by decide) (by decide) (by decide) (by decide) ?_
    intro v8 T8 h8 L8 X8 e8 q8
    obtain ⟨rfl, N8, rfl⟩ := q8
    replace N8 := Fr.app N7 N8
    show Go p e below _ T8 (mkF m 57 #[.val (.int p0), .val (.int p1), .val (.int p2), .val (.int m1), .val (.ref o2), .val (.ref o3), .val (.ref o6)] [(.int p0)])
    refine Go.by (T' := T8) (g' := (mkF m 65 #[.val (.int p0), .val (.int p1), .val (.int p2), .val (.int m1), .val (.ref o2), .val (.ref o3), .val (.ref o6)] [(.ref o2)])) (fun t k => ?_) ?_
    · show Steps p.tables e below (T8.setTop (mkF m 57 #[.val (.int p0), .val (.int p1), .val (.int p2), .val (.int m1), .val (.ref o2), .val (.ref o3), .val (.ref o6)] [(.int p0)])) _
      refine XS.iloadN X8.here hx rfl (hb hby at_57) rfl ?_
      show Steps p.tables e below (T8.setTop (mkF m 58 #[.val (.int p0), .val (.int p1), .val (.int p2), .val (.int m1), .val (.ref o2), .val (.ref o3), .val (.ref o6)] [(.int p0), (.int p0)])) _
      refine XS.icmpYes X8.here hx rfl (pc0 := 58) (pc' := 63) rfl (hb hby at_58) rfl (teq (rfl : p0 = p0)).1 (by decide) (by decide) ?_
      show Steps p.tables e below (T8.setTop (mkF m 63 #[.val (.int p0), .val (.int p1), .val (.int p2), .val (.int m1), .val (.ref o2), .val (.ref o3), .val (.ref o6)] [])) _
      refine XS.aload X8.here hx rfl (hb hby at_63) rfl rfl ?_
      exact k
    refine Go.callV X8 hx hZ (W := 0) (argsL := []) (rest := []) hown (wd hw 59 rfl) (wd hw 60 rfl) (notFace_of_selects (args := #[]) (mvT hZ (wd hw 62 rfl))) (wd hw 62 rfl) (wd hw 61 rfl) (wd hw 2 rfl) (wd hw 63 rfl) (by decide) E_o2 (ct_signedData l Z a0 hw w_AE w_EM S_AE S_EM E_EM F_EM o2 h6 n0 O F_o2_signedData) e8 (by rw [hml]; rfl) (lenOf pd___Ljava_util_Optional__2886 rfl) rfl rfl (hb hby at_65) (by decide) (by decide) (by decide) (by decide) ?_
    intro v9 T9 h9 L9 X9 e9 q9
    obtain ⟨rfl, N9, rfl⟩ := q9
    replace N9 := Fr.app N8 N9
    show Go p e below _ T9 (mkF m 68 #[.val (.int p0), .val (.int p1), .val (.int p2), .val (.int m1), .val (.ref o2), .val (.ref o3), .val (.ref o6)] [(.ref w_EM)])
    refine Go.callV X9 hx hZ (W := 0) (argsL := []) (rest := []) hown (wd hw 69 rfl) (wd hw 70 rfl) (notFace_of_selects (args := #[]) (mvT hZ (wd hw 72 rfl))) (wd hw 72 rfl) (wd hw 71 rfl) (wd hw 66 rfl) (wd hw 73 rfl) (by decide) (E_EM.ext O.2) (ct_isP l Z a0 hw w_AE w_EM S_AE S_EM E_EM F_EM w_EM h6 n0 O (F_EM.ext O.2)) e9 (by rw [hml]; rfl) (lenOf pd___Z_8338 rfl) rfl rfl (hb hby at_68) (by decide) (by decide) (by decide) (by decide) ?_
    intro v10 T10 h10 L10 X10 e10 q10
    obtain ⟨rfl, N10, rfl⟩ := q10
    replace N10 := Fr.app N9 N10
    show Go p e below _ T10 (mkF m 71 #[.val (.int p0), .val (.int p1), .val (.int p2), .val (.int m1), .val (.ref o2), .val (.ref o3), .val (.ref o6)] [(.int (0 : Int32))])
    refine Go.by (T' := T10) (g' := (mkF m 76 #[.val (.int p0), .val (.int p1), .val (.int p2), .val (.int m1), .val (.ref o2), .val (.ref o3), .val (.ref o6)] [(.ref o2)])) (fun t k => ?_) ?_
    · show Steps p.tables e below (T10.setTop (mkF m 71 #[.val (.int p0), .val (.int p1), .val (.int p2), .val (.int m1), .val (.ref o2), .val (.ref o3), .val (.ref o6)] [(.int (0 : Int32))])) _
      refine XS.ifNo X10.here hx rfl (hb hby at_71) rfl ((if0 _ _).trans (teq (by decide : (0 : Int32) = (0 : Int32))).2) ?_
      show Steps p.tables e below (T10.setTop (mkF m 74 #[.val (.int p0), .val (.int p1), .val (.int p2), .val (.int m1), .val (.ref o2), .val (.ref o3), .val (.ref o6)] [])) _
      refine XS.aload X10.here hx rfl (hb hby at_74) rfl rfl ?_
      exact k
    refine Go.callV X10 hx hZ (W := 0) (argsL := []) (rest := []) hown (wd hw 76 rfl) (wd hw 77 rfl) (notFace_of_selects (args := #[]) (mvT hZ (wd hw 79 rfl))) (wd hw 79 rfl) (wd hw 78 rfl) (wd hw 2 rfl) (wd hw 80 rfl) (by decide) E_o2 (ct_invalidReason l Z a0 hw w_AE w_EM S_AE S_EM E_EM F_EM o2 h6 n0 O F_o2_invalidReason) e10 (by rw [hml]; rfl) (lenOf pd___Ljava_util_Optional__2886 rfl) rfl rfl (hb hby at_76) (by decide) (by decide) (by decide) (by decide) ?_
    intro v11 T11 h11 L11 X11 e11 q11
    obtain ⟨rfl, N11, rfl⟩ := q11
    replace N11 := Fr.app N10 N11
    show Go p e below _ T11 (mkF m 79 #[.val (.int p0), .val (.int p1), .val (.int p2), .val (.int m1), .val (.ref o2), .val (.ref o3), .val (.ref o6)] [(.ref w_EM)])
    refine Go.callV X11 hx hZ (W := 0) (argsL := []) (rest := []) hown (wd hw 69 rfl) (wd hw 70 rfl) (notFace_of_selects (args := #[]) (mvT hZ (wd hw 72 rfl))) (wd hw 72 rfl) (wd hw 71 rfl) (wd hw 66 rfl) (wd hw 73 rfl) (by decide) (E_EM.ext O.2) (ct_isP l Z a0 hw w_AE w_EM S_AE S_EM E_EM F_EM w_EM h6 n0 O (F_EM.ext O.2)) e11 (by rw [hml]; rfl) (lenOf pd___Z_8338 rfl) rfl rfl (hb hby at_79) (by decide) (by decide) (by decide) (by decide) ?_
    intro v12 T12 h12 L12 X12 e12 q12
    obtain ⟨rfl, N12, rfl⟩ := q12
    replace N12 := Fr.app N11 N12
    show Go p e below _ T12 (mkF m 82 #[.val (.int p0), .val (.int p1), .val (.int p2), .val (.int m1), .val (.ref o2), .val (.ref o3), .val (.ref o6)] [(.int (0 : Int32))])
    refine Go.by (T' := T12) (g' := (mkF m 87 #[.val (.int p0), .val (.int p1), .val (.int p2), .val (.int m1), .val (.ref o2), .val (.ref o3), .val (.ref o6)] [(.ref o2)])) (fun t k => ?_) ?_
    · show Steps p.tables e below (T12.setTop (mkF m 82 #[.val (.int p0), .val (.int p1), .val (.int p2), .val (.int m1), .val (.ref o2), .val (.ref o3), .val (.ref o6)] [(.int (0 : Int32))])) _
      refine XS.ifNo X12.here hx rfl (hb hby at_82) rfl ((if0 _ _).trans (teq (by decide : (0 : Int32) = (0 : Int32))).2) ?_
      show Steps p.tables e below (T12.setTop (mkF m 85 #[.val (.int p0), .val (.int p1), .val (.int p2), .val (.int m1), .val (.ref o2), .val (.ref o3), .val (.ref o6)] [])) _
      refine XS.aload X12.here hx rfl (hb hby at_85) rfl rfl ?_
      exact k
    refine Go.callV X12 hx hZ (W := 0) (argsL := []) (rest := []) hown (wd hw 81 rfl) (wd hw 82 rfl) (notFace_of_selects (args := #[]) (mvT hZ (wd hw 84 rfl))) (wd hw 84 rfl) (wd hw 83 rfl) (wd hw 2 rfl) (wd hw 85 rfl) (by decide) E_o2 (ct_oldKey l Z a0 hw w_AE w_EM S_AE S_EM E_EM F_EM o2 h6 n0 O F_o2_signedData) e12 (by rw [hml]; rfl) (lenOf pd___Z_8338 rfl) rfl rfl (hb hby at_87) (by decide) (by decide) (by decide) (by decide) ?_
    intro v13 T13 h13 L13 X13 e13 q13
    obtain ⟨rfl, N13, rfl⟩ := q13
    replace N13 := Fr.app N12 N13
    show Go p e below _ T13 (mkF m 90 #[.val (.int p0), .val (.int p1), .val (.int p2), .val (.int m1), .val (.ref o2), .val (.ref o3), .val (.ref o6)] [(.int (0 : Int32))])
    refine Go.by (T' := T13) (g' := (mkF m 99 #[.val (.int p0), .val (.int p1), .val (.int p2), .val (.int m1), .val (.ref o2), .val (.ref o3), .val (.ref o6)] [(.ref o3), (.ref o2)])) (fun t k => ?_) ?_
    · show Steps p.tables e below (T13.setTop (mkF m 90 #[.val (.int p0), .val (.int p1), .val (.int p2), .val (.int m1), .val (.ref o2), .val (.ref o3), .val (.ref o6)] [(.int (0 : Int32))])) _
      refine XS.ifYes X13.here hx rfl (pc0 := 90) (pc' := 95) rfl (hb hby at_90) rfl ((if0 _ _).trans (teq (by decide : (0 : Int32) = (0 : Int32))).1) (by decide) (by decide) ?_
      show Steps p.tables e below (T13.setTop (mkF m 95 #[.val (.int p0), .val (.int p1), .val (.int p2), .val (.int m1), .val (.ref o2), .val (.ref o3), .val (.ref o6)] [])) _
      refine XS.aload X13.here hx rfl (hb hby at_95) rfl rfl ?_
      show Steps p.tables e below (T13.setTop (mkF m 97 #[.val (.int p0), .val (.int p1), .val (.int p2), .val (.int m1), .val (.ref o2), .val (.ref o3), .val (.ref o6)] [(.ref o2)])) _
      refine XS.aload X13.here hx rfl (hb hby at_97) rfl rfl ?_
      exact k
    refine Go.callV X13 hx hZ (W := 0) (argsL := [(.ref o3)]) (rest := []) hown (wd hw 86 rfl) (wd hw 87 rfl) (notFace_of_selects (args := #[]) (mvT hZ (wd hw 89 rfl))) (wd hw 89 rfl) (wd hw 88 rfl) (wd hw 2 rfl) (wd hw 90 rfl) (by decide) E_o2 (ct_veq l Z a0 hw w_AE w_EM S_AE S_EM E_EM F_EM o2 o3 p0 m1 (if p0 = m1 then (1 : Int32) else (0 : Int32)) h6 n0 O F_o2_kind F_o2_signedData F_o2_invalidReason F_o2_applicationErrorCode E_o3 F_o3_kind F_o3_signedData F_o3_invalidReason F_o3_applicationErrorCode rfl) e13 (by rw [hml]; rfl) (lenOf pd__Ljava_lang_Object__Z_1715 rfl) rfl rfl (hb hby at_99) (by decide) (by decide) (by decide) (by decide) ?_
    intro v14 T14 h14 L14 X14 e14 q14
    obtain ⟨rfl, N14, rfl⟩ := q14
    replace N14 := Fr.app N13 N14
    show Go p e below _ T14 (mkF m 102 #[.val (.int p0), .val (.int p1), .val (.int p2), .val (.int m1), .val (.ref o2), .val (.ref o3), .val (.ref o6)] [(.int (if p0 = m1 then (1 : Int32) else (0 : Int32)))])
    refine Go.by (T' := T14) (g' := (mkF m 104 #[.val (.int p0), .val (.int p1), .val (.int p2), .val (.int m1), .val (.ref o2), .val (.ref o3), .val (.ref o6)] [(.int m1), (.int p0), (.int (if p0 = m1 then (1 : Int32) else (0 : Int32)))])) (fun t k => ?_) ?_
    · show Steps p.tables e below (T14.setTop (mkF m 102 #[.val (.int p0), .val (.int p1), .val (.int p2), .val (.int m1), .val (.ref o2), .val (.ref o3), .val (.ref o6)] [(.int (if p0 = m1 then (1 : Int32) else (0 : Int32)))])) _
      refine XS.iloadN X14.here hx rfl (hb hby at_102) rfl ?_
      show Steps p.tables e below (T14.setTop (mkF m 103 #[.val (.int p0), .val (.int p1), .val (.int p2), .val (.int m1), .val (.ref o2), .val (.ref o3), .val (.ref o6)] [(.int p0), (.int (if p0 = m1 then (1 : Int32) else (0 : Int32)))])) _
      refine XS.iloadN X14.here hx rfl (hb hby at_103) rfl ?_
      exact k
    by_cases hy15 : p0 = m1
    · skip
      refine Go.by (T' := T14) (g' := (mkF m 120 #[.val (.int p0), .val (.int p1), .val (.int p2), .val (.int m1), .val (.ref o2), .val (.ref o3), .val (.ref o6)] [(.int (1 : Int32))])) (fun t k => ?_) ?_
      · show Steps p.tables e below (T14.setTop (mkF m 104 #[.val (.int p0), .val (.int p1), .val (.int p2), .val (.int m1), .val (.ref o2), .val (.ref o3), .val (.ref o6)] [(.int m1), (.int p0), (.int (if p0 = m1 then (1 : Int32) else (0 : Int32)))])) _
        refine XS.icmpNo X14.here hx rfl (hb hby at_104) rfl (teq hy15).2 ?_
        show Steps p.tables e below (T14.setTop (mkF m 107 #[.val (.int p0), .val (.int p1), .val (.int p2), .val (.int m1), .val (.ref o2), .val (.ref o3), .val (.ref o6)] [(.int (if p0 = m1 then (1 : Int32) else (0 : Int32)))])) _
        refine XS.iconst X14.here hx rfl (hb hby at_107) ?_
        show Steps p.tables e below (T14.setTop (mkF m 108 #[.val (.int p0), .val (.int p1), .val (.int p2), .val (.int m1), .val (.ref o2), .val (.ref o3), .val (.ref o6)] [(.int (1 : Int32)), (.int (if p0 = m1 then (1 : Int32) else (0 : Int32)))])) _
        refine XS.goto X14.here hx rfl (pc0 := 108) (pc' := 112) rfl (hb hby at_108) (by decide) (by decide) ?_
        show Steps p.tables e below (T14.setTop (mkF m 112 #[.val (.int p0), .val (.int p1), .val (.int p2), .val (.int m1), .val (.ref o2), .val (.ref o3), .val (.ref o6)] [(.int (1 : Int32)), (.int (if p0 = m1 then (1 : Int32) else (0 : Int32)))])) _
        refine XS.icmpNo X14.here hx rfl (hb hby at_112) rfl (teq (if_pos hy15)).2 ?_
        show Steps p.tables e below (T14.setTop (mkF m 115 #[.val (.int p0), .val (.int p1), .val (.int p2), .val (.int m1), .val (.ref o2), .val (.ref o3), .val (.ref o6)] [])) _
        refine XS.iconst X14.here hx rfl (hb hby at_115) ?_
        show Steps p.tables e below (T14.setTop (mkF m 116 #[.val (.int p0), .val (.int p1), .val (.int p2), .val (.int m1), .val (.ref o2), .val (.ref o3), .val (.ref o6)] [(.int (1 : Int32))])) _
        refine XS.goto X14.here hx rfl (pc0 := 116) (pc' := 120) rfl (hb hby at_116) (by decide) (by decide) ?_
        exact k
      refine Go.retZ X14 hx hlk hret (Or.inr rfl) (hb hby at_120) (by decide) (by decide) e14 ?_
      exact ⟨rfl, N14⟩
    · skip
      refine Go.by (T' := T14) (g' := (mkF m 120 #[.val (.int p0), .val (.int p1), .val (.int p2), .val (.int m1), .val (.ref o2), .val (.ref o3), .val (.ref o6)] [(.int (1 : Int32))])) (fun t k => ?_) ?_
      · show Steps p.tables e below (T14.setTop (mkF m 104 #[.val (.int p0), .val (.int p1), .val (.int p2), .val (.int m1), .val (.ref o2), .val (.ref o3), .val (.ref o6)] [(.int m1), (.int p0), (.int (if p0 = m1 then (1 : Int32) else (0 : Int32)))])) _
        refine XS.icmpYes X14.here hx rfl (pc0 := 104) (pc' := 111) rfl (hb hby at_104) rfl (feq hy15).2 (by decide) (by decide) ?_
        show Steps p.tables e below (T14.setTop (mkF m 111 #[.val (.int p0), .val (.int p1), .val (.int p2), .val (.int m1), .val (.ref o2), .val (.ref o3), .val (.ref o6)] [(.int (if p0 = m1 then (1 : Int32) else (0 : Int32)))])) _
        refine XS.iconst X14.here hx rfl (hb hby at_111) ?_
        show Steps p.tables e below (T14.setTop (mkF m 112 #[.val (.int p0), .val (.int p1), .val (.int p2), .val (.int m1), .val (.ref o2), .val (.ref o3), .val (.ref o6)] [(.int (0 : Int32)), (.int (if p0 = m1 then (1 : Int32) else (0 : Int32)))])) _
        refine XS.icmpNo X14.here hx rfl (hb hby at_112) rfl (teq (if_neg hy15)).2 ?_
        show Steps p.tables e below (T14.setTop (mkF m 115 #[.val (.int p0), .val (.int p1), .val (.int p2), .val (.int m1), .val (.ref o2), .val (.ref o3), .val (.ref o6)] [])) _
        refine XS.iconst X14.here hx rfl (hb hby at_115) ?_
        show Steps p.tables e below (T14.setTop (mkF m 116 #[.val (.int p0), .val (.int p1), .val (.int p2), .val (.int m1), .val (.ref o2), .val (.ref o3), .val (.ref o6)] [(.int (1 : Int32))])) _
        refine XS.goto X14.here hx rfl (pc0 := 116) (pc' := 120) rfl (hb hby at_116) (by decide) (by decide) ?_
        exact k
      refine Go.retZ X14 hx hlk hret (Or.inr rfl) (hb hby at_120) (by decide) (by decide) e14 ?_
      exact ⟨rfl, N14⟩
  by_cases hy1 : (p2 &&& (1 : Int32)) = (0 : Int32)
  · skip
    refine Go.by (T' := T0) (g' := (mkF m 11 #[.val (.int p0), .val (.int p1), .val (.int p2), .unset, .unset, .unset, .unset] [(.int p1)])) (fun t k => ?_) ?_
    · show Steps p.tables e below (T0.setTop (mkF m 3 #[.val (.int p0), .val (.int p1), .val (.int p2), .unset, .unset, .unset, .unset] [(.int (p2 &&& (1 : Int32)))])) _
      refine XS.ifYes X0.here hx rfl (pc0 := 3) (pc' := 10) rfl (hb hby at_3) rfl ((if0 _ _).trans (teq hy1).1) (by decide) (by decide) ?_
      show Steps p.tables e below (T0.setTop (mkF m 10 #[.val (.int p0), .val (.int p1), .val (.int p2), .unset, .unset, .unset, .unset] [])) _
      refine XS.iloadN X0.here hx rfl (hb hby at_10) rfl ?_
      exact k
    exact J1 p1
  · skip
    refine Go.by (T' := T0) (g' := (mkF m 11 #[.val (.int p0), .val (.int p1), .val (.int p2), .unset, .unset, .unset, .unset] [(.int p0)])) (fun t k => ?_) ?_
    · show Steps p.tables e below (T0.setTop (mkF m 3 #[.val (.int p0), .val (.int p1), .val (.int p2), .unset, .unset, .unset, .unset] [(.int (p2 &&& (1 : Int32)))])) _
      refine XS.ifNo X0.here hx rfl (hb hby at_3) rfl ((if0 _ _).trans (feq hy1).1) ?_
      show Steps p.tables e below (T0.setTop (mkF m 6 #[.val (.int p0), .val (.int p1), .val (.int p2), .unset, .unset, .unset, .unset] [])) _
      refine XS.iloadN X0.here hx rfl (hb hby at_6) rfl ?_
      show Steps p.tables e below (T0.setTop (mkF m 7 #[.val (.int p0), .val (.int p1), .val (.int p2), .unset, .unset, .unset, .unset] [(.int p0)])) _
      refine XS.goto X0.here hx rfl (pc0 := 7) (pc' := 11) rfl (hb hby at_7) (by decide) (by decide) ?_
      exact k
    exact J1 p0
set_option maxRecDepth 65536 in
set_option maxHeartbeats 40000000 in
theorem comes_1 {Post : Tables → Env → Array Value → State → Outcome → State → Prop} (hpost : ∀ tb e args s v u, (limb_1_1.after args s (.returned v) u = true ∧ limb_1_2.after args s (.returned v) u = true ∧ True) → FrameEnd s (.returned v) u (Jvm.fieldLocs frame_1_writes args s ++ Jvm.arrayLocs frame_1_arrays args s ++ Jvm.staticLocs frame_1_statics s) 16 128 → Post tb e args s (.returned v) u) :
    ArmFor flags0 classFile x code maxLocals ret World_1 tables_1 room_1 Calls_1 rest_1 Pre_1 Post := by
  intro l hfl _ _ p e ha hc hk s m args below hf hA hF happ hP
  obtain ⟨hcalls, hrest, hpre⟩ := hP
  obtain ⟨-, -, -, hnamed, -, -, -, hat⟩ := (Spec.applies_iff hf).mp happ
  obtain ⟨hg, hn⟩ := and_e (Cond.before_iff.mp (show (Jvm.Cond.and given_1 narrow_1).before args s = true from hpre))
  obtain ⟨hcnt, hg⟩ := and_e hg
  obtain ⟨ha0, hg⟩ := and_e hg
  obtain ⟨ha1, hg⟩ := and_e hg
  have ha2 := hg
  obtain ⟨u0, u1, u2, rfl⟩ : ∃ u0 u1 u2 : Value, args = #[u0, u1, u2] := by
    have hs : args.size = 3 := by simpa [Cond.value] using hcnt
    obtain ⟨L⟩ := args
    match L, hs with
    | [u0, u1, u2], _ => exact ⟨u0, u1, u2, rfl⟩
  have hw := fun d (hd : d ∈ tables_1) => atoms_spec (ws := Jvm.Cond.code x code maxLocals ret :: tables_1) hat d (List.mem_cons_of_mem _ hd)
  have hfit : Fit s := fun {y c} hc i hi => by
    obtain ⟨ha, rfl⟩ := Array.getElem?_eq_some_iff.mp hc
    have q := List.all_eq_true.mp ((Array.all_eq_true_iff_forall_mem.mp hF) _ (Array.getElem_mem ha)) i (List.mem_range.mpr hi)
    simpa [Array.getElem?_eq_getElem hi] using q
  obtain ⟨hsets, hown0⟩ := atoms_of _ (rest_1_c_eq ▸ (show rest_1_c.before _ s = true from hrest))
  obtain ⟨i0, ei0⟩ := is_v ha0
  obtain rfl : u0 = (.int i0) := Option.some.inj ei0
  obtain ⟨i1, ei1⟩ := is_v ha1
  obtain rfl : u1 = (.int i1) := Option.some.inj ei1
  obtain ⟨i2, ei2⟩ := is_v ha2
  obtain rfl : u2 = (.int i2) := Option.some.inj ei2
  obtain ⟨w_AE, ev_AE⟩ := exa_v hn
  have S_AE := Sta.start ev_AE (Or.inr ⟨(wd hw 7 rfl), (wd hw 8 rfl)⟩)
  have k_e := Cond.before_iff.mp (hsets _ (List.mem_of_getElem? (i := 2) rfl))
  obtain ⟨w_EM, ev_EM⟩ := exa_v k_e
  have S_EM := Sta.start ev_EM (Or.inl (hsets _ (List.mem_of_getElem? (i := 1) rfl)))
  have E_EM := Exa.start ev_EM k_e
  have F_EM := Fld.start ((fld_at ev_EM).symm.trans (null_v (Cond.before_iff.mp (hsets _ (List.mem_of_getElem? (i := 3) rfl)))))
  obtain ⟨n, o, h1, h2, h3, _, L, rfl, ⟨rfl, N⟩, hq⟩ := ct_law l s _ hw w_AE w_EM S_AE S_EM E_EM F_EM i0 i1 i2 s.heap s.heap.size (Old.start s)  tables_1 p e ha hc hk s m _ below hf ((Spec.applies_iff_loose hf).mp happ).1 ⟨rfl, State.Warmed39.refl s, rfl⟩ trivial
  refine ⟨n, _, h1, h2, h3, hpost _ _ _ _ _ _ ⟨Cond.after_iff.mpr rfl, Cond.after_iff.mpr (eq_i res_at (Term.int_eval (1)) rfl), trivial⟩ ⟨hq.1, hq.2.1, (hq.2.2.sift fun y hy => Or.inr (N y hy)).mono (by decide) (by decide)⟩⟩
theorem main_1_1 : Claimed_1_1 := comes_1 fun _ _ _ _ _ _ h hF => ⟨h.1, hF⟩
theorem main_1_2 : Claimed_1_2 := comes_1 fun _ _ _ _ _ _ h hF => ⟨h.2.1, hF⟩
end Jvm.Pilot.@@N@@
namespace Jvm.Pilot.@@N@@
open Jvm Jvm.ClassFile Sem Op Lib Jvm.Free Jvm.Stand Jvm.Pilot.@@N@@.Jvm.D
/-! MADE BY PROGRAM (witnessworld.py) out of the Statement's table words and the real class files: 16 classes; the members and pool entries that the words name. The judged class is class 1, her method 1. -/
namespace start1
open Jvm.ClassFile
def u (s : String) : CpInfo := .utf8 (stringToUtf16 s)
/-- a pool by its gaps: so many unusable entries, then the entry; so many at the end -/
def gap : Nat → List CpInfo → List CpInfo
  | 0, r => r
  | n + 1, r => .unusable :: gap n r
def poolList (es : List (Nat × CpInfo)) (last : Nat) : List CpInfo := es.foldr (fun e r => gap e.1 (e.2 :: r)) (gap last [])
def pool (es : List (Nat × CpInfo)) (last : Nat) : Array CpInfo := ⟨poolList es last⟩
def fileOf (pool : Array CpInfo) (this : Nat) (attrs : Array Attribute := #[]) (ms : Array MethodInfo := #[]) (fl : Nat := 33) (sup : Nat := 0) (ifs : Array Nat := #[]) (fds : Array FieldInfo := #[]) : ClassFile where
  minorVersion := 0
  majorVersion := 65
  constantPool := pool
  accessFlags := fl
  thisClass := this
  superClass := sup
  interfaces := ifs
  fields := fds
  methods := ms
  attributes := attrs
def plain (name : String) (sup : Option ClassId) : Class where
  name := name
  kind := .ordinary
  loader := none
  accessFlags := 33
  super := sup
  interfaces := #[]
  cf := none
  fields := #[]
  methods := #[]
  instanceTypes := #[]
  staticTypes := #[]
  resolved := #[]
  callSites := []
  init := .initialized
  statics := none
  mirror := none

def pool0 : Array CpInfo := pool [(5, u "<init>"), (0, u "()V"), (1, .class_ 10), (1, u "java/lang/Object")] 113

def k0c0 : Code := { maxStack := 0, maxLocals := 1, code := object_method_1_code, exceptionTable := #[], attributes := #[] }
def k0m0 : Method := { name := "<init>", desc := "()V", sig := { parameters := [], returnType := none }, accessFlags := 1, code := some k0c0 }
/-- java/lang/Object -/
def k0 : Class := { plain "java/lang/Object" none with
  accessFlags := 33
  interfaces := #[]
  cf := some (fileOf pool0 8 #[] #[{ accessFlags := 1, nameIndex := 5, descriptorIndex := 6, attributes := #[] }] 33 0 #[] #[])
  fields := #[]
  methods := #[k0m0]
  instanceTypes := #[]
  staticTypes := #[]
  resolved := Array.replicate 124 none
  statics := none }

def pool1 : Array CpInfo := pool [(2, .class_ 4), (1, u "java/lang/Object"), (0, u "<init>"), (0, u "()V"), (0, .methodref 8 9), (0, .class_ 10), (0, .nameAndType 11 12), (0, u "com/example/warrant/warrant/Verdict"), (0, u "applicationError"), (0, u "(I)Lcom/example/warrant/warrant/Verdict;"), (0, .methodref 8 14), (0, .nameAndType 15 16), (0, u "kind"), (0, u "()Lcom/example/warrant/warrant/Verdict$Kind;"), (0, .fieldref 18 19), (0, .class_ 20), (0, .nameAndType 21 22), (0, u "com/example/warrant/warrant/Verdict$Kind"), (0, u "APPLICATION_ERROR"), (0, u "Lcom/example/warrant/warrant/Verdict$Kind;"), (0, .methodref 8 24), (0, .nameAndType 25 26), (0, u "applicationErrorCode"), (0, u "()Ljava/util/OptionalInt;"), (0, .methodref 28 29), (0, .class_ 30), (0, .nameAndType 31 32), (0, u "java/util/OptionalInt"), (0, u "isPresent"), (0, u "()Z"), (0, .methodref 28 34), (0, .nameAndType 35 36), (0, u "getAsInt"), (0, u "()I"), (0, .methodref 8 38), (0, .nameAndType 39 40), (0, u "signedData"), (0, u "()Ljava/util/Optional;"), (0, .methodref 42 29), (0, .class_ 43), (0, u "java/util/Optional"), (0, .methodref 8 45), (0, .nameAndType 46 40), (0, u "invalidReason"), (0, .methodref 8 48), (0, .nameAndType 49 32), (0, u "oldKey"), (0, .methodref 8 51), (0, .nameAndType 52 53), (0, u "equals"), (0, u "(Ljava/lang/Object;)Z"), (0, .class_ 55), (0, u "com/example/warrant/warrant/VerdictApplicationErrorPinLaw"), (2, u "law"), (0, u "(III)Z")] 5

def k1m0 : Method := { name := "<init>", desc := "()V", sig := { parameters := [], returnType := none }, accessFlags := 2, code := none }
def k1c1 : Code := { maxStack := 3, maxLocals := 7, code := code, exceptionTable := #[], attributes := #[] }
def k1m1 : Method := { name := "law", desc := "(III)Z", sig := { parameters := [.int, .int, .int], returnType := some .boolean }, accessFlags := 9, code := some k1c1 }
/-- com/example/warrant/warrant/VerdictApplicationErrorPinLaw -/
def k1 : Class := { plain "com/example/warrant/warrant/VerdictApplicationErrorPinLaw" (some 0) with
  accessFlags := 49
  interfaces := #[]
  cf := some (fileOf pool1 54 #[] #[{ accessFlags := 2, nameIndex := 5, descriptorIndex := 6, attributes := #[] }, { accessFlags := 9, nameIndex := 58, descriptorIndex := 59, attributes := #[] }] 49 2 #[] #[])
  fields := #[]
  methods := #[k1m0, k1m1]
  instanceTypes := #[]
  staticTypes := #[]
  resolved := Array.replicate 65 none
  statics := none }

def pool2 : Array CpInfo := pool [(1, .methodref 2 3), (0, .class_ 4), (0, .nameAndType 5 6), (0, u "java/lang/Object"), (0, u "<init>"), (0, u "()V"), (0, .fieldref 8 9), (0, .class_ 10), (0, .nameAndType 11 12), (0, u "com/example/warrant/warrant/Verdict"), (0, u "kind"), (0, u "Lcom/example/warrant/warrant/Verdict$Kind;"), (0, .fieldref 8 14), (0, .nameAndType 15 16), (0, u "signedData"), (0, u "Lcom/example/warrant/warrant/SignedData;"), (0, .fieldref 8 18), (0, .nameAndType 19 20), (0, u "invalidReason"), (0, u "Lcom/example/warrant/warrant/InvalidReason;"), (0, .fieldref 8 22), (0, .nameAndType 23 24), (0, u "applicationErrorCode"), (0, u "I"), (3, .class_ 30), (1, u "java/util/Objects"), (30, .class_ 63), (1, u "com/example/warrant/warrant/Verdict$Kind"), (0, .methodref 8 65), (0, .nameAndType 5 66), (0, u "(Lcom/example/warrant/warrant/Verdict$Kind;Lcom/example/warrant/warrant/SignedData;Lcom/example/warrant/warrant/InvalidReason;I)V"), (2, u "NOT_LICENSED"), (0, u "Lcom/example/warrant/warrant/Verdict;"), (2, u "RETRY"), (0, .fieldref 61 75), (0, .nameAndType 76 12), (0, u "APPLICATION_ERROR"), (7, .methodref 85 86), (0, .class_ 87), (0, .nameAndType 88 89), (0, u "java/util/Optional"), (0, u "ofNullable"), (0, u "(Ljava/lang/Object;)Ljava/util/Optional;"), (0, .methodref 91 92), (0, .class_ 93), (0, .nameAndType 94 95), (0, u "java/util/OptionalInt"), (0, u "of"), (0, u "(I)Ljava/util/OptionalInt;"), (3, u "()Ljava/util/OptionalInt;"), (0, .methodref 28 101), (0, .nameAndType 102 103), (0, u "equals"), (0, u "(Ljava/lang/Object;Ljava/lang/Object;)Z"), (15, u "oldKey"), (0, u "()Z"), (28, u "applicationError"), (0, u "(I)Lcom/example/warrant/warrant/Verdict;"), (2, u "()Lcom/example/warrant/warrant/Verdict$Kind;"), (0, u "()Ljava/util/Optional;"), (3, u "(Ljava/lang/Object;)Z")] 26

def k2c0 : Code := { maxStack := 2, maxLocals := 5, code := prog_47_method_1_code, exceptionTable := #[], attributes := #[] }
def k2m0 : Method := { name := "<init>", desc := "(Lcom/example/warrant/warrant/Verdict$Kind;Lcom/example/warrant/warrant/SignedData;Lcom/example/warrant/warrant/InvalidReason;I)V", sig := { parameters := [(.object "com/example/warrant/warrant/Verdict$Kind"), (.object "com/example/warrant/warrant/SignedData"), (.object "com/example/warrant/warrant/InvalidReason"), .int], returnType := none }, accessFlags := 2, code := some k2c0 }
def k2c1 : Code := { maxStack := 6, maxLocals := 1, code := prog_47_method_5_code, exceptionTable := #[], attributes := #[] }
def k2m1 : Method := { name := "applicationError", desc := "(I)Lcom/example/warrant/warrant/Verdict;", sig := { parameters := [.int], returnType := some (.object "com/example/warrant/warrant/Verdict") }, accessFlags := 9, code := some k2c1 }
def k2c2 : Code := { maxStack := 1, maxLocals := 1, code := prog_47_method_7_code, exceptionTable := #[], attributes := #[] }
def k2m2 : Method := { name := "kind", desc := "()Lcom/example/warrant/warrant/Verdict$Kind;", sig := { parameters := [], returnType := some (.object "com/example/warrant/warrant/Verdict$Kind") }, accessFlags := 1, code := some k2c2 }
def k2c3 : Code := { maxStack := 2, maxLocals := 1, code := prog_47_method_8_code, exceptionTable := #[], attributes := #[] }
def k2m3 : Method := { name := "oldKey", desc := "()Z", sig := { parameters := [], returnType := some .boolean }, accessFlags := 1, code := some k2c3 }
def k2c4 : Code := { maxStack := 1, maxLocals := 1, code := prog_47_method_9_code, exceptionTable := #[], attributes := #[] }
def k2m4 : Method := { name := "signedData", desc := "()Ljava/util/Optional;", sig := { parameters := [], returnType := some (.object "java/util/Optional") }, accessFlags := 1, code := some k2c4 }
def k2c5 : Code := { maxStack := 1, maxLocals := 1, code := prog_47_method_10_code, exceptionTable := #[], attributes := #[] }
def k2m5 : Method := { name := "invalidReason", desc := "()Ljava/util/Optional;", sig := { parameters := [], returnType := some (.object "java/util/Optional") }, accessFlags := 1, code := some k2c5 }
def k2c6 : Code := { maxStack := 2, maxLocals := 1, code := prog_47_method_11_code, exceptionTable := #[], attributes := #[] }
def k2m6 : Method := { name := "applicationErrorCode", desc := "()Ljava/util/OptionalInt;", sig := { parameters := [], returnType := some (.object "java/util/OptionalInt") }, accessFlags := 1, code := some k2c6 }
def k2c7 : Code := { maxStack := 2, maxLocals := 3, code := prog_47_method_12_code, exceptionTable := #[], attributes := #[] }
def k2m7 : Method := { name := "equals", desc := "(Ljava/lang/Object;)Z", sig := { parameters := [(.object "java/lang/Object")], returnType := some .boolean }, accessFlags := 1, code := some k2c7 }
/-- com/example/warrant/warrant/Verdict -/
def k2 : Class := { plain "com/example/warrant/warrant/Verdict" (some 0) with
  accessFlags := 49
  interfaces := #[]
  cf := some (fileOf pool2 8 #[.nestMembers #[61]] #[{ accessFlags := 2, nameIndex := 5, descriptorIndex := 66, attributes := #[] }, { accessFlags := 9, nameIndex := 149, descriptorIndex := 150, attributes := #[] }, { accessFlags := 1, nameIndex := 11, descriptorIndex := 153, attributes := #[] }, { accessFlags := 1, nameIndex := 119, descriptorIndex := 120, attributes := #[] }, { accessFlags := 1, nameIndex := 15, descriptorIndex := 154, attributes := #[] }, { accessFlags := 1, nameIndex := 19, descriptorIndex := 154, attributes := #[] }, { accessFlags := 1, nameIndex := 23, descriptorIndex := 99, attributes := #[] }, { accessFlags := 1, nameIndex := 102, descriptorIndex := 158, attributes := #[] }] 49 2 #[] #[{ accessFlags := 26, nameIndex := 69, descriptorIndex := 70, attributes := #[] }, { accessFlags := 26, nameIndex := 73, descriptorIndex := 70, attributes := #[] }, { accessFlags := 18, nameIndex := 11, descriptorIndex := 12, attributes := #[] }, { accessFlags := 18, nameIndex := 15, descriptorIndex := 16, attributes := #[] }, { accessFlags := 18, nameIndex := 19, descriptorIndex := 20, attributes := #[] }, { accessFlags := 18, nameIndex := 23, descriptorIndex := 24, attributes := #[] }])
  fields := #[{ name := "NOT_LICENSED", type := (.object "com/example/warrant/warrant/Verdict"), accessFlags := 26, slot := 0, constantValue := 0 }, { name := "RETRY", type := (.object "com/example/warrant/warrant/Verdict"), accessFlags := 26, slot := 1, constantValue := 0 }, { name := "kind", type := (.object "com/example/warrant/warrant/Verdict$Kind"), accessFlags := 18, slot := 0, constantValue := 0 }, { name := "signedData", type := (.object "com/example/warrant/warrant/SignedData"), accessFlags := 18, slot := 1, constantValue := 0 }, { name := "invalidReason", type := (.object "com/example/warrant/warrant/InvalidReason"), accessFlags := 18, slot := 2, constantValue := 0 }, { name := "applicationErrorCode", type := .int, accessFlags := 18, slot := 3, constantValue := 0 }]
  methods := #[k2m0, k2m1, k2m2, k2m3, k2m4, k2m5, k2m6, k2m7]
  instanceTypes := #[(.object "com/example/warrant/warrant/Verdict$Kind"), (.object "com/example/warrant/warrant/SignedData"), (.object "com/example/warrant/warrant/InvalidReason"), .int]
  staticTypes := #[(.object "com/example/warrant/warrant/Verdict"), (.object "com/example/warrant/warrant/Verdict")]
  resolved := Array.replicate 185 none
  statics := none }

def pool3 : Array CpInfo := pool [(1, .class_ 2), (0, u "java/lang/constant/Constable"), (0, .class_ 4), (0, u "java/lang/Object")] 6

/-- java/lang/constant/Constable -/
def k3 : Class := { plain "java/lang/constant/Constable" (some 0) with
  accessFlags := 1537
  interfaces := #[]
  cf := some (fileOf pool3 1 #[] #[] 1537 3 #[] #[])
  fields := #[]
  methods := #[]
  instanceTypes := #[]
  staticTypes := #[]
  resolved := Array.replicate 11 none
  statics := none }

def pool4 : Array CpInfo := pool [(1, .class_ 2), (0, u "java/lang/Comparable"), (0, .class_ 4), (0, u "java/lang/Object")] 7

/-- java/lang/Comparable -/
def k4 : Class := { plain "java/lang/Comparable" (some 0) with
  accessFlags := 1537
  interfaces := #[]
  cf := some (fileOf pool4 1 #[] #[] 1537 3 #[] #[])
  fields := #[]
  methods := #[]
  instanceTypes := #[]
  staticTypes := #[]
  resolved := Array.replicate 12 none
  statics := none }

def pool5 : Array CpInfo := pool [(1, .class_ 2), (0, u "java/io/Serializable"), (0, .class_ 4), (0, u "java/lang/Object")] 2

/-- java/io/Serializable -/
def k5 : Class := { plain "java/io/Serializable" (some 0) with
  accessFlags := 1537
  interfaces := #[]
  cf := some (fileOf pool5 1 #[] #[] 1537 3 #[] #[])
  fields := #[]
  methods := #[]
  instanceTypes := #[]
  staticTypes := #[]
  resolved := Array.replicate 7 none
  statics := none }

def pool6 : Array CpInfo := pool [(2, .class_ 4), (1, u "java/lang/Enum"), (0, u "name"), (0, u "Ljava/lang/String;"), (2, u "ordinal"), (0, u "I"), (1, .class_ 14), (1, u "java/lang/Object"), (4, u "hash"), (86, .class_ 108), (1, u "java/lang/Enum$EnumDesc"), (2, .class_ 112), (0, u "java/lang/constant/Constable"), (0, .class_ 114), (0, u "java/lang/Comparable"), (0, .class_ 116), (0, u "java/io/Serializable")] 87

/-- java/lang/Enum -/
def k6 : Class := { plain "java/lang/Enum" (some 0) with
  accessFlags := 1057
  interfaces := #[3, 4, 5]
  cf := some (fileOf pool6 2 #[.nestMembers #[106]] #[] 1057 12 #[111, 113, 115] #[{ accessFlags := 18, nameIndex := 5, descriptorIndex := 6, attributes := #[] }, { accessFlags := 18, nameIndex := 9, descriptorIndex := 10, attributes := #[] }, { accessFlags := 2, nameIndex := 19, descriptorIndex := 10, attributes := #[] }])
  fields := #[{ name := "name", type := (.object "java/lang/String"), accessFlags := 18, slot := 0, constantValue := 0 }, { name := "ordinal", type := .int, accessFlags := 18, slot := 1, constantValue := 0 }, { name := "hash", type := .int, accessFlags := 2, slot := 2, constantValue := 0 }]
  methods := #[]
  instanceTypes := #[(.object "java/lang/String"), .int, .int]
  staticTypes := #[]
  resolved := Array.replicate 204 none
  statics := none }

def pool7 : Array CpInfo := pool [(1, .class_ 2), (0, u "com/example/warrant/warrant/Verdict$Kind"), (2, u "LICENSED"), (0, u "Lcom/example/warrant/warrant/Verdict$Kind;"), (2, u "NOT_LICENSED"), (2, u "RETRY"), (2, u "APPLICATION_ERROR"), (2, u "INVALID"), (2, u "$VALUES"), (0, u "[Lcom/example/warrant/warrant/Verdict$Kind;"), (6, .class_ 31), (1, u "java/lang/Enum"), (28, .class_ 61), (0, u "com/example/warrant/warrant/Verdict")] 2

/-- com/example/warrant/warrant/Verdict$Kind -/
def k7 : Class := { plain "com/example/warrant/warrant/Verdict$Kind" (some 6) with
  accessFlags := 16433
  interfaces := #[]
  cf := some (fileOf pool7 1 #[.nestHost 60] #[] 16433 29 #[] #[{ accessFlags := 16409, nameIndex := 5, descriptorIndex := 6, attributes := #[] }, { accessFlags := 16409, nameIndex := 9, descriptorIndex := 6, attributes := #[] }, { accessFlags := 16409, nameIndex := 12, descriptorIndex := 6, attributes := #[] }, { accessFlags := 16409, nameIndex := 15, descriptorIndex := 6, attributes := #[] }, { accessFlags := 16409, nameIndex := 18, descriptorIndex := 6, attributes := #[] }, { accessFlags := 4122, nameIndex := 21, descriptorIndex := 22, attributes := #[] }])
  fields := #[{ name := "LICENSED", type := (.object "com/example/warrant/warrant/Verdict$Kind"), accessFlags := 16409, slot := 0, constantValue := 0 }, { name := "NOT_LICENSED", type := (.object "com/example/warrant/warrant/Verdict$Kind"), accessFlags := 16409, slot := 1, constantValue := 0 }, { name := "RETRY", type := (.object "com/example/warrant/warrant/Verdict$Kind"), accessFlags := 16409, slot := 2, constantValue := 0 }, { name := "APPLICATION_ERROR", type := (.object "com/example/warrant/warrant/Verdict$Kind"), accessFlags := 16409, slot := 3, constantValue := 0 }, { name := "INVALID", type := (.object "com/example/warrant/warrant/Verdict$Kind"), accessFlags := 16409, slot := 4, constantValue := 0 }, { name := "$VALUES", type := (.array (.object "com/example/warrant/warrant/Verdict$Kind")), accessFlags := 4122, slot := 5, constantValue := 0 }]
  methods := #[]
  instanceTypes := #[(.object "java/lang/String"), .int, .int]
  staticTypes := #[(.object "com/example/warrant/warrant/Verdict$Kind"), (.object "com/example/warrant/warrant/Verdict$Kind"), (.object "com/example/warrant/warrant/Verdict$Kind"), (.object "com/example/warrant/warrant/Verdict$Kind"), (.object "com/example/warrant/warrant/Verdict$Kind"), (.array (.object "com/example/warrant/warrant/Verdict$Kind"))]
  resolved := Array.replicate 64 none
  statics := some 0 }

def pool8 : Array CpInfo := pool [(1, .methodref 2 3), (0, .class_ 4), (0, .nameAndType 5 6), (0, u "java/lang/Object"), (0, u "<init>"), (0, u "()V"), (0, .fieldref 8 9), (0, .class_ 10), (0, .nameAndType 11 12), (0, u "java/util/OptionalInt"), (0, u "isPresent"), (0, u "Z"), (0, .fieldref 8 14), (0, .nameAndType 15 16), (0, u "value"), (0, u "I"), (2, u "EMPTY"), (0, u "Ljava/util/OptionalInt;"), (0, .methodref 8 22), (0, .nameAndType 5 23), (0, u "(I)V"), (21, u "of"), (9, u "getAsInt"), (0, u "()I"), (40, u "(I)Ljava/util/OptionalInt;"), (1, u "()Z")] 36

def k8m0 : Method := { name := "<init>", desc := "()V", sig := { parameters := [], returnType := none }, accessFlags := 2, code := none }
def k8c1 : Code := { maxStack := 2, maxLocals := 2, code := jdk_2649_method_3_code, exceptionTable := #[], attributes := #[] }
def k8m1 : Method := { name := "<init>", desc := "(I)V", sig := { parameters := [.int], returnType := none }, accessFlags := 2, code := some k8c1 }
def k8c2 : Code := { maxStack := 3, maxLocals := 1, code := jdk_2649_method_4_code, exceptionTable := #[], attributes := #[] }
def k8m2 : Method := { name := "of", desc := "(I)Ljava/util/OptionalInt;", sig := { parameters := [.int], returnType := some (.object "java/util/OptionalInt") }, accessFlags := 9, code := some k8c2 }
def k8c3 : Code := { maxStack := 3, maxLocals := 1, code := jdk_2649_method_5_code, exceptionTable := #[], attributes := #[] }
def k8m3 : Method := { name := "getAsInt", desc := "()I", sig := { parameters := [], returnType := some .int }, accessFlags := 1, code := some k8c3 }
def k8c4 : Code := { maxStack := 1, maxLocals := 1, code := jdk_2649_method_6_code, exceptionTable := #[], attributes := #[] }
def k8m4 : Method := { name := "isPresent", desc := "()Z", sig := { parameters := [], returnType := some .boolean }, accessFlags := 1, code := some k8c4 }
/-- java/util/OptionalInt -/
def k8 : Class := { plain "java/util/OptionalInt" (some 0) with
  accessFlags := 49
  interfaces := #[]
  cf := some (fileOf pool8 8 #[] #[{ accessFlags := 2, nameIndex := 5, descriptorIndex := 6, attributes := #[] }, { accessFlags := 2, nameIndex := 5, descriptorIndex := 23, attributes := #[] }, { accessFlags := 9, nameIndex := 45, descriptorIndex := 97, attributes := #[] }, { accessFlags := 1, nameIndex := 55, descriptorIndex := 56, attributes := #[] }, { accessFlags := 1, nameIndex := 11, descriptorIndex := 99, attributes := #[] }] 49 2 #[] #[{ accessFlags := 26, nameIndex := 19, descriptorIndex := 20, attributes := #[] }, { accessFlags := 18, nameIndex := 11, descriptorIndex := 12, attributes := #[] }, { accessFlags := 18, nameIndex := 15, descriptorIndex := 16, attributes := #[] }])
  fields := #[{ name := "EMPTY", type := (.object "java/util/OptionalInt"), accessFlags := 26, slot := 0, constantValue := 0 }, { name := "isPresent", type := .boolean, accessFlags := 18, slot := 0, constantValue := 0 }, { name := "value", type := .int, accessFlags := 18, slot := 1, constantValue := 0 }]
  methods := #[k8m0, k8m1, k8m2, k8m3, k8m4]
  instanceTypes := #[.boolean, .int]
  staticTypes := #[(.object "java/util/OptionalInt")]
  resolved := Array.replicate 136 none
  statics := none }

def pool9 : Array CpInfo := pool [(1, .fieldref 2 3), (0, .class_ 4), (0, .nameAndType 5 6), (0, u "java/util/Optional"), (0, u "EMPTY"), (0, u "Ljava/util/Optional;"), (1, .class_ 10), (1, u "java/lang/Object"), (2, .fieldref 2 14), (0, .nameAndType 15 16), (0, u "value"), (0, u "Ljava/lang/Object;"), (29, u "()Z"), (17, u "ofNullable"), (0, u "(Ljava/lang/Object;)Ljava/util/Optional;"), (2, u "isPresent")] 118

def k9c0 : Code := { maxStack := 3, maxLocals := 1, code := jdk_32_method_4_code, exceptionTable := #[], attributes := #[] }
def k9m0 : Method := { name := "ofNullable", desc := "(Ljava/lang/Object;)Ljava/util/Optional;", sig := { parameters := [(.object "java/lang/Object")], returnType := some (.object "java/util/Optional") }, accessFlags := 9, code := some k9c0 }
def k9c1 : Code := { maxStack := 1, maxLocals := 1, code := jdk_32_method_6_code, exceptionTable := #[], attributes := #[] }
def k9m1 : Method := { name := "isPresent", desc := "()Z", sig := { parameters := [], returnType := some .boolean }, accessFlags := 1, code := some k9c1 }
/-- java/util/Optional -/
def k9 : Class := { plain "java/util/Optional" (some 0) with
  accessFlags := 49
  interfaces := #[]
  cf := some (fileOf pool9 2 #[] #[{ accessFlags := 9, nameIndex := 64, descriptorIndex := 65, attributes := #[] }, { accessFlags := 1, nameIndex := 68, descriptorIndex := 46, attributes := #[] }] 49 8 #[] #[{ accessFlags := 26, nameIndex := 5, descriptorIndex := 6, attributes := #[] }, { accessFlags := 18, nameIndex := 15, descriptorIndex := 16, attributes := #[] }])
  fields := #[{ name := "EMPTY", type := (.object "java/util/Optional"), accessFlags := 26, slot := 0, constantValue := 0 }, { name := "value", type := (.object "java/lang/Object"), accessFlags := 18, slot := 0, constantValue := 0 }]
  methods := #[k9m0, k9m1]
  instanceTypes := #[(.object "java/lang/Object")]
  staticTypes := #[(.object "java/util/Optional")]
  resolved := Array.replicate 187 none
  statics := some 1 }

def pool10 : Array CpInfo := pool [(2, .class_ 4), (1, u "java/lang/Object"), (0, u "<init>"), (0, u "()V"), (9, u "equals"), (6, u "(Ljava/lang/Object;Ljava/lang/Object;)Z"), (18, .class_ 44), (1, u "java/util/Objects")] 139

def k10m0 : Method := { name := "<init>", desc := "()V", sig := { parameters := [], returnType := none }, accessFlags := 2, code := none }
def k10c1 : Code := { maxStack := 2, maxLocals := 2, code := jdk_31_method_2_code, exceptionTable := #[], attributes := #[] }
def k10m1 : Method := { name := "equals", desc := "(Ljava/lang/Object;Ljava/lang/Object;)Z", sig := { parameters := [(.object "java/lang/Object"), (.object "java/lang/Object")], returnType := some .boolean }, accessFlags := 9, code := some k10c1 }
/-- java/util/Objects -/
def k10 : Class := { plain "java/util/Objects" (some 0) with
  accessFlags := 49
  interfaces := #[]
  cf := some (fileOf pool10 42 #[] #[{ accessFlags := 2, nameIndex := 5, descriptorIndex := 6, attributes := #[] }, { accessFlags := 9, nameIndex := 16, descriptorIndex := 23, attributes := #[] }] 49 2 #[] #[])
  fields := #[]
  methods := #[k10m0, k10m1]
  instanceTypes := #[]
  staticTypes := #[]
  resolved := Array.replicate 184 none
  statics := none }

def pool11 : Array CpInfo := pool [(1, u "java/lang/Cloneable"), (0, .class_ 1), (0, u "java/lang/Object"), (0, .class_ 3)] 3

/-- java/lang/Cloneable -/
def k11 : Class := { plain "java/lang/Cloneable" (some 0) with
  accessFlags := 1537
  interfaces := #[]
  cf := some (fileOf pool11 2 #[] #[] 1537 4 #[] #[])
  fields := #[]
  methods := #[]
  instanceTypes := #[]
  staticTypes := #[]
  resolved := Array.replicate 8 none
  statics := none }

/-- the primitive byte -/
def k12 : Class := { plain "byte" none with kind := .primitive 'B', accessFlags := 0x411 }
/-- [B -/
def k13 : Class := { plain "[B" (some 0) with kind := .array 12 .byte, interfaces := #[11, 5], accessFlags := 1041 }

/-- the primitive int -/
def k14 : Class := { plain "int" none with kind := .primitive 'I', accessFlags := 0x411 }
/-- [I -/
def k15 : Class := { plain "[I" (some 0) with kind := .array 14 .int, interfaces := #[11, 5], accessFlags := 1041 }

def heap : Heap := #[{ cls := 7, slots := #[.null, .null, .null, .ref 2, .null, .null], vm := .statics 7 },
  { cls := 9, slots := #[.ref 3], vm := .statics 9 },
  { cls := 7, slots := #[.null, .int 0, .int 0], vm := .none },
  { cls := 9, slots := #[.null], vm := .none }]
def classes : Array Class := #[k0, k1, k2, k3, k4, k5, k6, k7, k8, k9, k10, k11, k12, k13, k14, k15]
def interned : List (Array UInt16 × Addr) := []
def slotsUsed : Nat := 11
def theMethod : MethodId := ⟨1, 1⟩
def args0 : Array Value := #[.int 5, .int 5, .int 1]
def aboutOver (below : List Frame) : State where
  vm := { classes := classes, interned := interned.toArray }
  heap := heap
  slotsUsed := slotsUsed
  threads := #[{ frames := .invoking theMethod args0 :: below }]
def below0 : List Frame := [.native { method := ⟨0, 0⟩, args := #[] }]
def about1 : State := aboutOver below0
def p0 : Program := .bare "" "" ""
def e0 : Env := launch0.env 0 0 0
theorem w_frames : about1.frames = Frame.invoking theMethod args0 :: below0 := rfl
set_option maxRecDepth 65536 in
theorem w_args : argsFit about1.vm theMethod args0 = true := by decide +kernel
set_option maxRecDepth 65536 in
theorem w_heap : heapFits about1 = true := by decide +kernel
set_option maxRecDepth 65536 in
theorem w_runnable : about1.curStatus? = some .runnable := by decide +kernel
set_option maxRecDepth 65536 in
theorem w_alone : about1.alone = true := by decide +kernel
set_option maxRecDepth 65536 in
theorem w_named : about1.methodNamed? x = some theMethod := by decide +kernel
set_option maxRecDepth 65536 in
theorem w_hears : about1.hears theMethod below0 = true := by decide +kernel
set_option maxRecDepth 65536 in
theorem w_ripe : about1.ripe theMethod args0 below0 = true := by decide +kernel
theorem w_running : about1.status = .running := rfl
set_option maxRecDepth 65536 in
theorem w_room : about1.hasRoom e0.platform room_1 = true :=
  launch0.hasRoom_least _ room_1 (by decide +kernel) (by decide +kernel) (by decide +kernel) (by decide +kernel) (by decide +kernel) (by decide +kernel)
theorem allAtoms_all (ts : List Jvm.Cond) (a : Array Jvm.Value) (st : Jvm.State) : (allAtoms ts).before a st = ts.all (fun c => c.before a st) := by
  induction ts with
  | nil => rfl
  | cons c t ih =>
    show (Jvm.Cond.and c (allAtoms t)).before a st = _
    rw [Jvm.Cond.before_and, ih, List.all_cons]
def words1 : List Jvm.Cond := Jvm.Cond.code x code maxLocals ret :: tables_1
/-- a 'code' word, met by the world's own term for the bytes: nothing is compared byte by byte -/
theorem code_word {y : MethodName} {bytes : ByteArray} {mx : Nat} {rt : Option FieldType} {a : Array Value} {s : State} {m : MethodId} {meth : Method} {c : Code} (h1 : s.methodNamed? y = some m) (h2 : s.vm.method? m = some meth) (h3 : meth.code = some c) (h4 : c.code = bytes)
    (h5 : (c.maxLocals == mx && c.exceptionTable.isEmpty && decide (c.maxStack ≤ mostOperands) && decide (meth.sig.returnType = rt) && !meth.locks && decide (parseMethodDescriptor y.desc = some meth.sig)) = true) : (Jvm.Cond.code y bytes mx rt).before a s = true := by
  simp only [Bool.and_eq_true, beq_iff_eq, Bool.not_eq_true', decide_eq_true_eq] at h5
  obtain ⟨⟨⟨⟨⟨g1, g2⟩, g3⟩, g4⟩, g5⟩, g6⟩ := h5
  simp [Cond.before, Cond.holds, Cond.value, h1, h2, h3, h4, g1, g2, g3, g4, g5, g6]
def isCode : Jvm.Cond → Bool
  | .code _ _ _ _ => true
  | _ => false
theorem all_split {L : List Jvm.Cond} {P : Jvm.Cond → Bool} (h1 : L.all (fun c => isCode c || P c) = true) (h2 : ∀ c ∈ L.filter isCode, P c = true) : L.all P = true := by
  refine List.all_eq_true.mpr fun c hc => ?_
  have h := List.all_eq_true.mp h1 c hc
  rcases Bool.eq_false_or_eq_true (isCode c) with hi | hi
  · exact h2 c (List.mem_filter.mpr ⟨hc, hi⟩)
  · simpa [hi] using h
set_option maxRecDepth 65536 in
theorem w_c0 : (Jvm.Cond.code x code maxLocals ret).before args0 about1 = true := code_word (m := ⟨1, 1⟩) (meth := k1m1) (c := k1c1) (by decide +kernel) rfl rfl rfl (by decide +kernel)
set_option maxRecDepth 65536 in
theorem w_c1 : (Jvm.Cond.code ({ cls := "com/example/warrant/warrant/Verdict", name := "applicationError", desc := "(I)Lcom/example/warrant/warrant/Verdict;" } : Jvm.MethodName) prog_47_method_5_code (1 : Nat) (Option.some (Jvm.ClassFile.FieldType.object "com/example/warrant/warrant/Verdict"))).before args0 about1 = true := code_word (m := ⟨2, 1⟩) (meth := k2m1) (c := k2c1) (by decide +kernel) rfl rfl rfl (by decide +kernel)
set_option maxRecDepth 65536 in
theorem w_c2 : (Jvm.Cond.code ({ cls := "com/example/warrant/warrant/Verdict", name := "<init>", desc := "(Lcom/example/warrant/warrant/Verdict$Kind;Lcom/example/warrant/warrant/SignedData;Lcom/example/warrant/warrant/InvalidReason;I)V" } : Jvm.MethodName) prog_47_method_1_code (5 : Nat) (Option.none : Option Jvm.ClassFile.FieldType)).before args0 about1 = true := code_word (m := ⟨2, 0⟩) (meth := k2m0) (c := k2c0) (by decide +kernel) rfl rfl rfl (by decide +kernel)
set_option maxRecDepth 65536 in
theorem w_c3 : (Jvm.Cond.code ({ cls := "java/lang/Object", name := "<init>", desc := "()V" } : Jvm.MethodName) object_method_1_code (1 : Nat) (Option.none : Option Jvm.ClassFile.FieldType)).before args0 about1 = true := code_word (m := ⟨0, 0⟩) (meth := k0m0) (c := k0c0) (by decide +kernel) rfl rfl rfl (by decide +kernel)
set_option maxRecDepth 65536 in
theorem w_c4 : (Jvm.Cond.code ({ cls := "com/example/warrant/warrant/Verdict", name := "kind", desc := "()Lcom/example/warrant/warrant/Verdict$Kind;" } : Jvm.MethodName) prog_47_method_7_code (1 : Nat) (Option.some (Jvm.ClassFile.FieldType.object "com/example/warrant/warrant/Verdict$Kind"))).before args0 about1 = true := code_word (m := ⟨2, 2⟩) (meth := k2m2) (c := k2c2) (by decide +kernel) rfl rfl rfl (by decide +kernel)
set_option maxRecDepth 65536 in
theorem w_c5 : (Jvm.Cond.code ({ cls := "com/example/warrant/warrant/Verdict", name := "applicationErrorCode", desc := "()Ljava/util/OptionalInt;" } : Jvm.MethodName) prog_47_method_11_code (1 : Nat) (Option.some (Jvm.ClassFile.FieldType.object "java/util/OptionalInt"))).before args0 about1 = true := code_word (m := ⟨2, 6⟩) (meth := k2m6) (c := k2c6) (by decide +kernel) rfl rfl rfl (by decide +kernel)
set_option maxRecDepth 65536 in
theorem w_c6 : (Jvm.Cond.code ({ cls := "java/util/OptionalInt", name := "of", desc := "(I)Ljava/util/OptionalInt;" } : Jvm.MethodName) jdk_2649_method_4_code (1 : Nat) (Option.some (Jvm.ClassFile.FieldType.object "java/util/OptionalInt"))).before args0 about1 = true := code_word (m := ⟨8, 2⟩) (meth := k8m2) (c := k8c2) (by decide +kernel) rfl rfl rfl (by decide +kernel)
set_option maxRecDepth 65536 in
theorem w_c7 : (Jvm.Cond.code ({ cls := "java/util/OptionalInt", name := "<init>", desc := "(I)V" } : Jvm.MethodName) jdk_2649_method_3_code (2 : Nat) (Option.none : Option Jvm.ClassFile.FieldType)).before args0 about1 = true := code_word (m := ⟨8, 1⟩) (meth := k8m1) (c := k8c1) (by decide +kernel) rfl rfl rfl (by decide +kernel)
set_option maxRecDepth 65536 in
theorem w_c8 : (Jvm.Cond.code ({ cls := "java/util/OptionalInt", name := "isPresent", desc := "()Z" } : Jvm.MethodName) jdk_2649_method_6_code (1 : Nat) (Option.some Jvm.ClassFile.FieldType.boolean)).before args0 about1 = true := code_word (m := ⟨8, 4⟩) (meth := k8m4) (c := k8c4) (by decide +kernel) rfl rfl rfl (by decide +kernel)
set_option maxRecDepth 65536 in
theorem w_c9 : (Jvm.Cond.code ({ cls := "java/util/OptionalInt", name := "getAsInt", desc := "()I" } : Jvm.MethodName) jdk_2649_method_5_code (1 : Nat) (Option.some Jvm.ClassFile.FieldType.int)).before args0 about1 = true := code_word (m := ⟨8, 3⟩) (meth := k8m3) (c := k8c3) (by decide +kernel) rfl rfl rfl (by decide +kernel)
set_option maxRecDepth 65536 in
theorem w_c10 : (Jvm.Cond.code ({ cls := "com/example/warrant/warrant/Verdict", name := "signedData", desc := "()Ljava/util/Optional;" } : Jvm.MethodName) prog_47_method_9_code (1 : Nat) (Option.some (Jvm.ClassFile.FieldType.object "java/util/Optional"))).before args0 about1 = true := code_word (m := ⟨2, 4⟩) (meth := k2m4) (c := k2c4) (by decide +kernel) rfl rfl rfl (by decide +kernel)
set_option maxRecDepth 65536 in
theorem w_c11 : (Jvm.Cond.code ({ cls := "java/util/Optional", name := "ofNullable", desc := "(Ljava/lang/Object;)Ljava/util/Optional;" } : Jvm.MethodName) jdk_32_method_4_code (1 : Nat) (Option.some (Jvm.ClassFile.FieldType.object "java/util/Optional"))).before args0 about1 = true := code_word (m := ⟨9, 0⟩) (meth := k9m0) (c := k9c0) (by decide +kernel) rfl rfl rfl (by decide +kernel)
set_option maxRecDepth 65536 in
theorem w_c12 : (Jvm.Cond.code ({ cls := "java/util/Optional", name := "isPresent", desc := "()Z" } : Jvm.MethodName) jdk_32_method_6_code (1 : Nat) (Option.some Jvm.ClassFile.FieldType.boolean)).before args0 about1 = true := code_word (m := ⟨9, 1⟩) (meth := k9m1) (c := k9c1) (by decide +kernel) rfl rfl rfl (by decide +kernel)
set_option maxRecDepth 65536 in
theorem w_c13 : (Jvm.Cond.code ({ cls := "com/example/warrant/warrant/Verdict", name := "invalidReason", desc := "()Ljava/util/Optional;" } : Jvm.MethodName) prog_47_method_10_code (1 : Nat) (Option.some (Jvm.ClassFile.FieldType.object "java/util/Optional"))).before args0 about1 = true := code_word (m := ⟨2, 5⟩) (meth := k2m5) (c := k2c5) (by decide +kernel) rfl rfl rfl (by decide +kernel)
set_option maxRecDepth 65536 in
theorem w_c14 : (Jvm.Cond.code ({ cls := "com/example/warrant/warrant/Verdict", name := "oldKey", desc := "()Z" } : Jvm.MethodName) prog_47_method_8_code (1 : Nat) (Option.some Jvm.ClassFile.FieldType.boolean)).before args0 about1 = true := code_word (m := ⟨2, 3⟩) (meth := k2m3) (c := k2c3) (by decide +kernel) rfl rfl rfl (by decide +kernel)
set_option maxRecDepth 65536 in
theorem w_c15 : (Jvm.Cond.code ({ cls := "com/example/warrant/warrant/Verdict", name := "equals", desc := "(Ljava/lang/Object;)Z" } : Jvm.MethodName) prog_47_method_12_code (3 : Nat) (Option.some Jvm.ClassFile.FieldType.boolean)).before args0 about1 = true := code_word (m := ⟨2, 7⟩) (meth := k2m7) (c := k2c7) (by decide +kernel) rfl rfl rfl (by decide +kernel)
set_option maxRecDepth 65536 in
theorem w_c16 : (Jvm.Cond.code ({ cls := "java/util/Objects", name := "equals", desc := "(Ljava/lang/Object;Ljava/lang/Object;)Z" } : Jvm.MethodName) jdk_31_method_2_code (2 : Nat) (Option.some Jvm.ClassFile.FieldType.boolean)).before args0 about1 = true := code_word (m := ⟨10, 1⟩) (meth := k10m1) (c := k10c1) (by decide +kernel) rfl rfl rfl (by decide +kernel)
def codes1 : List Jvm.Cond := [Jvm.Cond.code x code maxLocals ret, Jvm.Cond.code ({ cls := "com/example/warrant/warrant/Verdict", name := "applicationError", desc := "(I)Lcom/example/warrant/warrant/Verdict;" } : Jvm.MethodName) prog_47_method_5_code (1 : Nat) (Option.some (Jvm.ClassFile.FieldType.object "com/example/warrant/warrant/Verdict")), Jvm.Cond.code ({ cls := "com/example/warrant/warrant/Verdict", name := "<init>", desc := "(Lcom/example/warrant/warrant/Verdict$Kind;Lcom/example/warrant/warrant/SignedData;Lcom/example/warrant/warrant/InvalidReason;I)V" } : Jvm.MethodName) prog_47_method_1_code (5 : Nat) (Option.none : Option Jvm.ClassFile.FieldType), Jvm.Cond.code ({ cls := "java/lang/Object", name := "<init>", desc := "()V" } : Jvm.MethodName) object_method_1_code (1 : Nat) (Option.none : Option Jvm.ClassFile.FieldType), Jvm.Cond.code ({ cls := "com/example/warrant/warrant/Verdict", name := "kind", desc := "()Lcom/example/warrant/warrant/Verdict$Kind;" } : Jvm.MethodName) prog_47_method_7_code (1 : Nat) (Option.some (Jvm.ClassFile.FieldType.object "com/example/warrant/warrant/Verdict$Kind")), Jvm.Cond.code ({ cls := "com/example/warrant/warrant/Verdict", name := "applicationErrorCode", desc := "()Ljava/util/OptionalInt;" } : Jvm.MethodName) prog_47_method_11_code (1 : Nat) (Option.some (Jvm.ClassFile.FieldType.object "java/util/OptionalInt")), Jvm.Cond.code ({ cls := "java/util/OptionalInt", name := "of", desc := "(I)Ljava/util/OptionalInt;" } : Jvm.MethodName) jdk_2649_method_4_code (1 : Nat) (Option.some (Jvm.ClassFile.FieldType.object "java/util/OptionalInt")), Jvm.Cond.code ({ cls := "java/util/OptionalInt", name := "<init>", desc := "(I)V" } : Jvm.MethodName) jdk_2649_method_3_code (2 : Nat) (Option.none : Option Jvm.ClassFile.FieldType), Jvm.Cond.code ({ cls := "java/util/OptionalInt", name := "isPresent", desc := "()Z" } : Jvm.MethodName) jdk_2649_method_6_code (1 : Nat) (Option.some Jvm.ClassFile.FieldType.boolean), Jvm.Cond.code ({ cls := "java/util/OptionalInt", name := "getAsInt", desc := "()I" } : Jvm.MethodName) jdk_2649_method_5_code (1 : Nat) (Option.some Jvm.ClassFile.FieldType.int), Jvm.Cond.code ({ cls := "com/example/warrant/warrant/Verdict", name := "signedData", desc := "()Ljava/util/Optional;" } : Jvm.MethodName) prog_47_method_9_code (1 : Nat) (Option.some (Jvm.ClassFile.FieldType.object "java/util/Optional")), Jvm.Cond.code ({ cls := "java/util/Optional", name := "ofNullable", desc := "(Ljava/lang/Object;)Ljava/util/Optional;" } : Jvm.MethodName) jdk_32_method_4_code (1 : Nat) (Option.some (Jvm.ClassFile.FieldType.object "java/util/Optional")), Jvm.Cond.code ({ cls := "java/util/Optional", name := "isPresent", desc := "()Z" } : Jvm.MethodName) jdk_32_method_6_code (1 : Nat) (Option.some Jvm.ClassFile.FieldType.boolean), Jvm.Cond.code ({ cls := "com/example/warrant/warrant/Verdict", name := "invalidReason", desc := "()Ljava/util/Optional;" } : Jvm.MethodName) prog_47_method_10_code (1 : Nat) (Option.some (Jvm.ClassFile.FieldType.object "java/util/Optional")), Jvm.Cond.code ({ cls := "com/example/warrant/warrant/Verdict", name := "oldKey", desc := "()Z" } : Jvm.MethodName) prog_47_method_8_code (1 : Nat) (Option.some Jvm.ClassFile.FieldType.boolean), Jvm.Cond.code ({ cls := "com/example/warrant/warrant/Verdict", name := "equals", desc := "(Ljava/lang/Object;)Z" } : Jvm.MethodName) prog_47_method_12_code (3 : Nat) (Option.some Jvm.ClassFile.FieldType.boolean), Jvm.Cond.code ({ cls := "java/util/Objects", name := "equals", desc := "(Ljava/lang/Object;Ljava/lang/Object;)Z" } : Jvm.MethodName) jdk_31_method_2_code (2 : Nat) (Option.some Jvm.ClassFile.FieldType.boolean)]
set_option maxRecDepth 65536 in
theorem codes_eq : words1.filter isCode = codes1 := rfl
theorem w_codes : ∀ c ∈ words1.filter isCode, c.before args0 about1 = true := by
  rw [codes_eq]
  intro c hc
  simp only [codes1, List.mem_cons, List.not_mem_nil, or_false] at hc
  rcases hc with rfl | rfl | rfl | rfl | rfl | rfl | rfl | rfl | rfl | rfl | rfl | rfl | rfl | rfl | rfl | rfl | rfl
  · exact w_c0
  · exact w_c1
  · exact w_c2
  · exact w_c3
  · exact w_c4
  · exact w_c5
  · exact w_c6
  · exact w_c7
  · exact w_c8
  · exact w_c9
  · exact w_c10
  · exact w_c11
  · exact w_c12
  · exact w_c13
  · exact w_c14
  · exact w_c15
  · exact w_c16
set_option maxRecDepth 65536 in
theorem w_t1 : (words1.take 24).all (fun c => isCode c || c.before args0 about1) = true := by decide +kernel
set_option maxRecDepth 65536 in
theorem w_t2 : ((words1.drop 24).take 24).all (fun c => isCode c || c.before args0 about1) = true := by decide +kernel
set_option maxRecDepth 65536 in
theorem w_t3 : (((words1.drop 24).drop 24).take 24).all (fun c => isCode c || c.before args0 about1) = true := by decide +kernel
set_option maxRecDepth 65536 in
theorem w_t4 : ((((words1.drop 24).drop 24).drop 24).take 24).all (fun c => isCode c || c.before args0 about1) = true := by decide +kernel
set_option maxRecDepth 65536 in
theorem w_t5 : ((((words1.drop 24).drop 24).drop 24).drop 24).all (fun c => isCode c || c.before args0 about1) = true := by decide +kernel
theorem w_tables : (allAtoms (Jvm.Cond.code x code maxLocals ret :: tables_1)).before args0 about1 = true := by
  rw [allAtoms_all]
  show words1.all (fun c => c.before args0 about1) = true
  refine all_split ?_ w_codes
  rw [← List.take_append_drop 24 words1, List.all_append, w_t1, ← List.take_append_drop 24 (words1.drop 24), List.all_append, w_t2, ← List.take_append_drop 24 ((words1.drop 24).drop 24), List.all_append, w_t3, ← List.take_append_drop 24 (((words1.drop 24).drop 24).drop 24), List.all_append, w_t4, w_t5]
  rfl
set_option maxRecDepth 65536 in
theorem w_rest : rest_1_c.before args0 about1 = true := by decide +kernel
set_option maxRecDepth 65536 in
theorem w_case : (Jvm.Cond.and given_1 narrow_1).before args0 about1 = true := by decide +kernel
theorem w_applies : (headSpec (Jvm.Cond.code x code maxLocals ret :: tables_1) room_1).applies x e0.platform about1 = true :=
  (Spec.applies_iff w_frames).mpr ⟨w_running, w_runnable, w_alone, w_named, w_hears, w_ripe, w_room, w_tables⟩
theorem atStart : AtStart classFile x code maxLocals ret World_1 tables_1 room_1 Calls_1 rest_1 Pre_1 launch0 p0 e0 about1 theMethod args0 below0 :=
  ⟨lists_1, trivial, launch0.admits_env _ _ _, launch0.least_env, fairChoices_fair.cas, fairChoices_fair.clock, w_frames, w_args, w_heap, w_applies, trivial, w_rest, w_case⟩
end start1
theorem witness_1 : WitnessClaimed_1 := ⟨start1.p0, start1.e0, start1.about1, start1.theMethod, start1.args0, start1.below0, start1.atStart⟩
end Jvm.Pilot.@@N@@
