import JvmDerived
import JvmDerived.Pilot.@@N@@Statement
import JvmDerived.Pilot.@@N@@Code
set_option linter.unusedVariables false
set_option linter.unusedSimpArgs false
namespace Jvm.OwnKit
open Jvm Sem ClassFile Op Lib Jvm.Stand Jvm.Free Jvm.LawKit Jvm.RoadKit
section K
variable {p : Program} {l : Launch} {e : Env} {R : Room} {s : State} {m : MethodId} {args : Array Value} {below : List Frame} {meth : Method} {c : Code} {T T' : State} {locs : List Loc} {cells slots : Nat} {Z : State} {a0 : Array Value} {h h0 : Heap} {ce sl : Nat} {Q : Option Value → Heap → List Loc → Prop} {P : Option Value → State → List Loc → Prop} {pc : Nat} {Ls : Array Slot} {rest : List Value}
/-- from this state and frame the body runs to its end, and Q holds there -/
def Go (p : Program) (e : Env) (below : List Frame) (P : Option Value → State → List Loc → Prop) (T : State) (g : JFrame) : Prop :=
  ∃ u v L, Steps p.tables e below (T.setTop g) u ∧ u.status = .running ∧ Ended u below (.returned v) ∧ P v u L
/-- the end of a body that interns nothing -/
def EndF (s : State) (ce sl : Nat) (Q : Option Value → Heap → List Loc → Prop) (v : Option Value) (u : State) (L : List Loc) : Prop := Q v u.heap L ∧ FrameEnd s (.returned v) u L ce sl
theorem Go.by {g g' : JFrame} (st : ∀ t, Steps p.tables e below (T'.setTop g') t → Steps p.tables e below (T.setTop g) t) (k : Go p e below P T' g') : Go p e below P T g := by
  obtain ⟨u, v, L, h1, r⟩ := k; exact ⟨u, v, L, st u h1, r⟩
theorem Go.cast {g g' : JFrame} (q : g = g') (k : Go p e below P T g') : Go p e below P T g := q ▸ k
/-- a body's contract at given arguments and a given heap -/
def Ct (l : Launch) (y : MethodName) (bytes : ByteArray) (maxL : Nat) (ret : Option FieldType) (rm : Room) (Z : State) (as' : Array Value) (h0 : Heap) (Q : Option Value → Heap → List Loc → Prop) : Prop :=
  ∀ ws : List Jvm.Cond, MetFree l y (head1 (Jvm.Cond.code y bytes maxL ret :: ws) rm) (fun a U => a = as' ∧ Z.Warmed39 U.vm ∧ U.heap = h0) (fun _ _ _ _ _ => True) (fun _ U o U' => ∃ v L, o = .returned v ∧ Q v U'.heap L ∧ FrameEnd U o U' L rm.cells rm.slots)
theorem Ct.of {y : MethodName} {bytes : ByteArray} {maxL : Nat} {ret : Option FieldType} {rm : Room} {as' : Array Value} (hpl : plainFor y = true)
    (body : ∀ (p : Program) (e : Env) (s : State) (m : MethodId) (below : List Frame) (meth : Method) (c : Code) (T : State), Stand p l e rm s m as' below meth c T [] 0 0 → p.tables.exec = Jvm.exec → c.code = bytes → c.maxLocals = maxL → s.vm.findClass y.cls = some m.cls → meth.name = y.name → meth.sig.returnType = ret → meth.locks = false → Z.Warmed39 s.vm → T.heap = h0 →
      Go p e below (EndF s rm.cells rm.slots Q) T (entryFrame m as' maxL)) : Ct l y bytes maxL ret rm Z as' h0 Q := by
  intro ws
  refine MetFree.of_bodySF hpl hisR ?_
  intro p e s m args below meth c s₁ Bd hml0 hP hK
  obtain ⟨rfl, hZ, hh⟩ := hP
  obtain ⟨u, v, L, h1, h2, h3, r⟩ := body p e s m below meth c s₁ (Stand.of_body Bd) Bd.exec Bd.bytes hml0 (findClass_of_methodNamed Bd.named) (name_of_methodNamed Bd.named Bd.method).1 Bd.returns (BodyLoose.notSynchronized Bd) hZ (by rw [← hh, Bd.state]; rfl)
  exact ⟨u, _, h1, h2, h3, v, L, rfl, r.1, r.2⟩
theorem Ct.mono {y : MethodName} {bytes : ByteArray} {maxL : Nat} {ret : Option FieldType} {rm : Room} {as' : Array Value} {Q' : Option Value → Heap → List Loc → Prop} (k : Ct l y bytes maxL ret rm Z as' h0 Q) (q : ∀ v h L, Q v h L → Q' v h L) : Ct l y bytes maxL ret rm Z as' h0 Q' := by
  intro ws p e ha hc hk s m args below hf happ hP hK
  obtain ⟨n, o, h1, h2, h3, v, L, h4, h5, h6⟩ := k ws p e ha hc hk s m args below hf happ hP hK
  exact ⟨n, o, h1, h2, h3, v, L, h4, q _ _ _ h5, h6⟩
theorem wd {ws : List Jvm.Cond} (hw : ∀ d ∈ ws, d.before a0 Z = true) {d : Jvm.Cond} (i : Nat) (q : ws[i]? = some d) : d.before a0 Z = true := hw _ (List.mem_of_getElem? q)
theorem Go.fin (X : Stand p l e R s m args below meth c T locs cells slots) (hlk : meth.locks = false) {v : Option Value} (hv : meth.sig.returnType = none → v = none) {g : JFrame}
    (st : ∀ fs, (∀ (f : JFrame) (acts : List Action), f.method = m → f.locked = none → f.entered = [] → (doReturn e (T.setTop f) acts v).1 = T.setFrames fs) → Steps p.tables e below (T.setTop g) (T.setFrames fs)) (hc : cells ≤ ce) (hs : slots ≤ sl) (eT : T.heap = h) (q : Q v h locs) : Go p e below (EndF s ce sl Q) T g := by
  obtain ⟨fs, hr, hrun, hended, hW, hsame⟩ := X.leave (v := v) hv hlk
  subst eT
  exact ⟨_, _, _, st fs hr, hrun, hended, q, ⟨_, rfl⟩, hW, hsame.mono hc hs⟩
theorem Go.retI (X : Stand p l e R s m args below meth c T locs cells slots) (hx : p.tables.exec = Jvm.exec) (hlk : meth.locks = false) (hret : meth.sig.returnType = some .int) {z : Int32} (hd : decode c.code pc = .ok (.ireturn, 1)) (hc : cells ≤ ce) (hs : slots ≤ sl) (eT : T.heap = h) (q : Q (some (.int z)) h locs) : Go p e below (EndF s ce sl Q) T (mkF m pc Ls (.int z :: rest)) :=
  Go.fin X hlk (fun h => by rw [hret] at h; cases h) (fun fs hl => retOut X hx hret rfl (Or.inl ⟨rfl, Or.inl rfl, z, rfl⟩) hd hl) hc hs eT q
theorem Go.retZ (X : Stand p l e R s m args below meth c T locs cells slots) (hx : p.tables.exec = Jvm.exec) (hlk : meth.locks = false) (hret : meth.sig.returnType = some .boolean) {z : Int32} (hz : z = 0 ∨ z = 1) (hd : decode c.code pc = .ok (.ireturn, 1)) (hc : cells ≤ ce) (hs : slots ≤ sl) (eT : T.heap = h) (q : Q (some (.int z)) h locs) : Go p e below (EndF s ce sl Q) T (mkF m pc Ls (.int z :: rest)) :=
  Go.fin X hlk (fun h => by rw [hret] at h; cases h) (fun fs hl => retOut X hx hret (by rcases hz with rfl | rfl <;> rfl) (Or.inl ⟨rfl, Or.inr (Or.inl rfl), z, rfl⟩) hd hl) hc hs eT q
theorem Go.retS (X : Stand p l e R s m args below meth c T locs cells slots) (hx : p.tables.exec = Jvm.exec) (hlk : meth.locks = false) {t : FieldType} (hret : meth.sig.returnType = some t) (ht : t = .byte ∨ t = .char ∨ t = .short) {z : Int32} (hz : narrow t (.int z) = .int z) (hd : decode c.code pc = .ok (.ireturn, 1)) (hc : cells ≤ ce) (hs : slots ≤ sl) (eT : T.heap = h) (q : Q (some (.int z)) h locs) : Go p e below (EndF s ce sl Q) T (mkF m pc Ls (.int z :: rest)) :=
  Go.fin X hlk (fun h => by rw [hret] at h; cases h) (fun fs hl => retOut X hx hret hz (Or.inl ⟨rfl, Or.inr (Or.inr ht), z, rfl⟩) hd hl) hc hs eT q
theorem Go.retJ (X : Stand p l e R s m args below meth c T locs cells slots) (hx : p.tables.exec = Jvm.exec) (hlk : meth.locks = false) (hret : meth.sig.returnType = some .long) {z : Int64} (hd : decode c.code pc = .ok (.lreturn, 1)) (hc : cells ≤ ce) (hs : slots ≤ sl) (eT : T.heap = h) (q : Q (some (.long z)) h locs) : Go p e below (EndF s ce sl Q) T (mkF m pc Ls (.long z :: rest)) :=
  Go.fin X hlk (fun h => by rw [hret] at h; cases h) (fun fs hl => retOut X hx hret rfl (Or.inr (Or.inl ⟨rfl, rfl, z, rfl⟩)) hd hl) hc hs eT q
theorem Go.retA (X : Stand p l e R s m args below meth c T locs cells slots) (hx : p.tables.exec = Jvm.exec) (hlk : meth.locks = false) {t : FieldType} (hret : meth.sig.returnType = some t) (ht : t.isReference = true) {v : Value} (hv : v.isRef = true) (hd : decode c.code pc = .ok (.areturn, 1)) (hc : cells ≤ ce) (hs : slots ≤ sl) (eT : T.heap = h) (q : Q (some v) h locs) : Go p e below (EndF s ce sl Q) T (mkF m pc Ls (v :: rest)) :=
  Go.fin X hlk (fun h => by rw [hret] at h; cases h) (fun fs hl => retOut X hx hret (by cases t <;> simp_all [FieldType.isReference, narrow]) (Or.inr (Or.inr (Or.inr (Or.inr ⟨rfl, ht, hv⟩)))) hd hl) hc hs eT q
theorem Go.retV (X : Stand p l e R s m args below meth c T locs cells slots) (hx : p.tables.exec = Jvm.exec) (hlk : meth.locks = false) (hret : meth.sig.returnType = none) (hd : decode c.code pc = .ok (.return_, 1)) (hc : cells ≤ ce) (hs : slots ≤ sl) (eT : T.heap = h) (q : Q none h locs) : Go p e below (EndF s ce sl Q) T (mkF m pc Ls []) :=
  Go.fin X hlk (fun _ => rfl) (fun fs hl => X.returnOut hx hret hd hl) hc hs eT q
/-! one law a step that reads the tables or the heap -/
theorem Go.getF (X : Stand p l e R s m args below meth c T locs cells slots) (hx : p.tables.exec = Jvm.exec) (hZ : Z.Warmed39 s.vm) {own R0 O n d : String} {index : Nat} (hown : s.vm.findClass own = some m.cls) (w : (Jvm.Cond.fieldLink own index R0 n d).before a0 Z = true) (via : Via Z R0 O n d) (eT : T.heap = h) {a : Addr} {v : Value} (F : Fld Z h a O n d v)
    (hd : decode c.code pc = .ok (.getfield index, 3)) (k : ∀ T', Stand p l e R s m args below meth c T' locs cells slots → T'.heap = h → Go p e below P T' (mkF m (pc + 3) Ls (v :: rest))) : Go p e below P T (mkF m pc Ls (.ref a :: rest)) := by
  obtain ⟨T', X', e', st⟩ := RoadKit.getF X hx hZ hown (host := "") (Or.inl w) via eT F (g := mkF m pc Ls (.ref a :: rest)) rfl rfl hd
  exact Go.by st (k T' X' e')
theorem Go.getFN (X : Stand p l e R s m args below meth c T locs cells slots) (hx : p.tables.exec = Jvm.exec) (hZ : Z.Warmed39 s.vm) {own R0 O n d host : String} {index : Nat} (hown : s.vm.findClass own = some m.cls) (w : (Jvm.Cond.fieldLinkNest own index R0 n d host).before a0 Z = true) (via : Via Z R0 O n d) (eT : T.heap = h) {a : Addr} {v : Value} (F : Fld Z h a O n d v)
    (hd : decode c.code pc = .ok (.getfield index, 3)) (k : ∀ T', Stand p l e R s m args below meth c T' locs cells slots → T'.heap = h → Go p e below P T' (mkF m (pc + 3) Ls (v :: rest))) : Go p e below P T (mkF m pc Ls (.ref a :: rest)) := by
  obtain ⟨T', X', e', st⟩ := RoadKit.getF X hx hZ hown (host := host) (Or.inr w) via eT F (g := mkF m pc Ls (.ref a :: rest)) rfl rfl hd
  exact Go.by st (k T' X' e')
theorem Go.putF (X : Stand p l e R s m args below meth c T locs cells slots) (hx : p.tables.exec = Jvm.exec) (hZ : Z.Warmed39 s.vm) {own R0 O n d C : String} {index kk : Nat} {ty : FieldType} (hown : s.vm.findClass own = some m.cls) (w : (Jvm.Cond.fieldLink own index R0 n d).before a0 Z = true) (via : Via Z R0 O n d) (eT : T.heap = h) {a : Addr} {v old : Value} (F : Fld Z h a O n d old) (E : Exa Z h a C)
    (L : (Jvm.Cond.lays C O n d).before a0 Z = true ∨ ((Jvm.Cond.laysFinal C O n d).before a0 Z = true ∧ own = O ∧ meth.name = "<init>")) (wi : (Jvm.Cond.instantiable C kk).before a0 Z = true) (hty : parseFieldDescriptor d = some ty) (hn : narrow ty v = v) (hf : fits ty v = true) (hd : decode c.code pc = .ok (.putfield index, 3))
    (k : ∀ T' h', Stand p l e R s m args below meth c T' (locs ++ [⟨a, RoadKit.slotOf Z O n d⟩]) cells slots → T'.heap = h' → Wr h h' a (RoadKit.slotOf Z O n d) v → Go p e below P T' (mkF m (pc + 3) Ls rest)) : Go p e below P T (mkF m pc Ls (v :: .ref a :: rest)) := by
  obtain ⟨T', h', X', e', W', st⟩ := RoadKit.putF X hx hZ hown (host := "") (Or.inl w) via eT F E L wi hty hn hf (g := mkF m pc Ls (v :: .ref a :: rest)) rfl rfl hd
  exact Go.by st (k T' h' X' e' W')
theorem Go.getS (X : Stand p l e R s m args below meth c T locs cells slots) (hx : p.tables.exec = Jvm.exec) (hZ : Z.Warmed39 s.vm) {own R0 O n d : String} {index : Nat} (hown : s.vm.findClass own = some m.cls) (w : (Jvm.Cond.fieldLink own index R0 n d).before a0 Z = true) (via : Via Z R0 O n d) (eT : T.heap = h) {v : Value} (F : Sta Z h O n d v) {st : List Value}
    (hd : decode c.code pc = .ok (.getstatic index, 3)) (k : ∀ T', Stand p l e R s m args below meth c T' locs cells slots → T'.heap = h → Go p e below P T' (mkF m (pc + 3) Ls (v :: st))) : Go p e below P T (mkF m pc Ls st) := by
  obtain ⟨T', X', e', st'⟩ := RoadKit.getS X hx hZ hown (host := "") w via eT F (g := mkF m pc Ls st) rfl hd
  exact Go.by st' (k T' X' e')
theorem Go.getSN (X : Stand p l e R s m args below meth c T locs cells slots) (hx : p.tables.exec = Jvm.exec) (hZ : Z.Warmed39 s.vm) {own R0 O n d host : String} {index : Nat} (hown : s.vm.findClass own = some m.cls) (w : (Jvm.Cond.fieldLinkNest own index R0 n d host).before a0 Z = true) (via : Via Z R0 O n d) (eT : T.heap = h) {v : Value} (F : Sta Z h O n d v) {st : List Value}
    (hd : decode c.code pc = .ok (.getstatic index, 3)) (k : ∀ T', Stand p l e R s m args below meth c T' locs cells slots → T'.heap = h → Go p e below P T' (mkF m (pc + 3) Ls (v :: st))) : Go p e below P T (mkF m pc Ls st) := by
  obtain ⟨T', X', e', st'⟩ := getS2 X hx hZ hown (Or.inr w) via eT F (g := mkF m pc Ls st) rfl hd
  exact Go.by st' (k T' X' e')
theorem Go.newO (X : Stand p l e R s m args below meth c T locs cells slots) (hx : p.tables.exec = Jvm.exec) (hZ : Z.Warmed39 s.vm) {own C : String} {index n : Nat} (hown : s.vm.findClass own = some m.cls) (w : (Jvm.Cond.classLink own index C).before a0 Z = true) (wi : (Jvm.Cond.instantiable C n).before a0 Z = true) (wz : (Jvm.Cond.initialized C).before a0 Z = true) (eT : T.heap = h) {st : List Value}
    (hd : decode c.code pc = .ok (.new index, 3)) (hc : cells + 1 ≤ R.cells) (hl : slots + n ≤ R.slots)
    (k : ∀ T' h' b, Stand p l e R s m args below meth c T' locs (cells + 1) (slots + n) → T'.heap = h' → Ext h h' → b = h.size → Exa Z h' b C → (∀ {O nm d : String} {ty : FieldType}, Laid Z a0 C O nm d → parseFieldDescriptor d = some ty → Fld Z h' b O nm d (defaultValue ty)) → Go p e below P T' (mkF m (pc + 3) Ls (.ref b :: st))) : Go p e below P T (mkF m pc Ls st) := by
  obtain ⟨T', h', X', e', E', A', D', -, st'⟩ := RoadKit.newO X hx hZ hown w wi wz eT (g := mkF m pc Ls st) rfl hd hc hl
  exact Go.by st' (k T' h' _ X' e' E' rfl A' D')
theorem Go.newP (X : Stand p l e R s m args below meth c T locs cells slots) (hx : p.tables.exec = Jvm.exec) (hZ : Z.Warmed39 s.vm) {aty : ArrayType} (w : (Jvm.Cond.arrayClass (newarray.typeOf aty)).before a0 Z = true) (eT : T.heap = h) {n : Int32} (hd : decode c.code pc = .ok (.newarray aty, 2)) (hn : ¬ n < 0) {cap : Nat} (hcap : n.toNatClampNeg ≤ cap) (hb : cap * 8 ≤ 536870912) (hc : cells + 1 ≤ R.cells) (hl : slots + cap ≤ R.slots)
    (k : ∀ T' h' b kA, Stand p l e R s m args below meth c T' locs (cells + 1) (slots + cap) → T'.heap = h' → Ext h h' → b = h.size → Arv Z h' b kA (newarray.typeOf aty) n [] (defaultValue (newarray.typeOf aty)) → Go p e below P T' (mkF m (pc + 2) Ls (.ref b :: rest))) : Go p e below P T (mkF m pc Ls (.int n :: rest)) := by
  obtain ⟨T', h', kA, X', e', E', A', st'⟩ := RoadKit.newP X hx hZ w eT (g := mkF m pc Ls (.int n :: rest)) rfl hd rfl hn hcap hb hc hl
  exact Go.by st' (k T' h' _ kA X' e' E' rfl (Arv.new A' hn))
theorem Go.initO (X : Stand p l e R s m args below meth c T locs cells slots) (hx : p.tables.exec = Jvm.exec) (hZ : Z.Warmed39 s.vm) {own : String} {idx : Nat} (hown : s.vm.findClass own = some m.cls) (w1 : (Jvm.Cond.methodLink own idx Lib.objectInit).before a0 Z = true) (w2 : (Jvm.Cond.instanceMethod Lib.objectInit).before a0 Z = true) (w3 : (Jvm.Cond.code Lib.objectInit ⟨#[0xb1]⟩ 1 none).before a0 Z = true) (eT : T.heap = h)
    {a : Addr} (hsz : Ls.size = c.maxLocals) (hd : decode c.code pc = .ok (.invokespecial idx, 3)) (hf : 1 ≤ R.frames) {W : Nat} (hW : (rest.map fun v => v.category).sum = W) (hl : W + 12 ≤ R.locals)
    (k : ∀ T', Stand p l e R s m args below meth c T' locs cells slots → T'.heap = h → Go p e below P T' (mkF m (pc + 3) Ls rest)) : Go p e below P T (mkF m pc Ls (.ref a :: rest)) := by
  obtain ⟨T', X', e', st⟩ := RoadKit.initO X hx hZ hown w1 w2 w3 eT (g := mkF m pc Ls (.ref a :: rest)) rfl hsz rfl hd hf (W := W) (by subst hW; show 2 * 0 + _ ≤ _; omega) hl
  exact Go.by st (k T' X' e')
theorem Go.castY (X : Stand p l e R s m args below meth c T locs cells slots) (hx : p.tables.exec = Jvm.exec) (hZ : Z.Warmed39 s.vm) {own K : String} {index : Nat} (hown : s.vm.findClass own = some m.cls) (w : (Jvm.Cond.classLink own index K).before a0 Z = true) (eT : T.heap = h) {a : Addr} (F : Ins Z h a K true) (hd : decode c.code pc = .ok (.checkcast index, 3))
    (k : ∀ T', Stand p l e R s m args below meth c T' locs cells slots → T'.heap = h → Go p e below P T' (mkF m (pc + 3) Ls (.ref a :: rest))) : Go p e below P T (mkF m pc Ls (.ref a :: rest)) := by
  obtain ⟨T', X', e', st⟩ := RoadKit.castY X hx hZ hown w eT F (g := mkF m pc Ls (.ref a :: rest)) rfl rfl hd
  exact Go.by st (k T' X' e')
theorem Go.instY (X : Stand p l e R s m args below meth c T locs cells slots) (hx : p.tables.exec = Jvm.exec) (hZ : Z.Warmed39 s.vm) {own K : String} {index : Nat} (hown : s.vm.findClass own = some m.cls) (w : (Jvm.Cond.classLink own index K).before a0 Z = true) (eT : T.heap = h) {a : Addr} (F : Ins Z h a K true) (hd : decode c.code pc = .ok (.instanceof index, 3))
    (k : ∀ T', Stand p l e R s m args below meth c T' locs cells slots → T'.heap = h → Go p e below P T' (mkF m (pc + 3) Ls (.int 1 :: rest))) : Go p e below P T (mkF m pc Ls (.ref a :: rest)) := by
  obtain ⟨T', X', e', st⟩ := RoadKit.instY X hx hZ hown w eT F (g := mkF m pc Ls (.ref a :: rest)) rfl rfl hd
  exact Go.by st (k T' X' e')
theorem Go.instN (X : Stand p l e R s m args below meth c T locs cells slots) (hx : p.tables.exec = Jvm.exec) (hZ : Z.Warmed39 s.vm) {own K C : String} {index : Nat} (hown : s.vm.findClass own = some m.cls) (w : (Jvm.Cond.classLink own index K).before a0 Z = true) (eT : T.heap = h) {a : Addr} (E : Exa Z h a C) (F : ∃ c t, Z.vm.findClass C = some c ∧ Z.vm.findClass K = some t ∧ Z.vm.assignable c t = false) (hd : decode c.code pc = .ok (.instanceof index, 3))
    (k : ∀ T', Stand p l e R s m args below meth c T' locs cells slots → T'.heap = h → Go p e below P T' (mkF m (pc + 3) Ls (.int 0 :: rest))) : Go p e below P T (mkF m pc Ls (.ref a :: rest)) := by
  obtain ⟨T', X', e', st⟩ := RoadKit.instNo X hx hZ hown w eT E F (g := mkF m pc Ls (.ref a :: rest)) rfl rfl hd
  exact Go.by st (k T' X' e')
theorem Go.aload (X : Stand p l e R s m args below meth c T locs cells slots) (hx : p.tables.exec = Jvm.exec) (hZ : Z.Warmed39 s.vm) (eT : T.heap = h) {a : Addr} {cl : Cell} {ty : FieldType} (A : Arr Z h a cl ty) {j : Int32} {v : Value} (hin : ¬ (j < 0 ∨ cl.slots.size ≤ j.toNatClampNeg)) (hat : cl.slots[j.toNatClampNeg]? = some v) {i : Instr}
    (hi : (i = .iaload ∧ ty = .int) ∨ (i = .laload ∧ ty = .long) ∨ (i = .aaload ∧ ty.isReference = true) ∨ (i = .caload ∧ ty = .char) ∨ (i = .saload ∧ ty = .short) ∨ (i = .baload ∧ ty = .byte)) (hd : decode c.code pc = .ok (i, 1)) (k : Go p e below P T (mkF m (pc + 1) Ls (v :: rest))) : Go p e below P T (mkF m pc Ls (.int j :: .ref a :: rest)) := by
  refine Go.by (fun t kk => ?_) k
  have hc : T.heap[a]? = some cl := by rw [eT]; exact A.1
  have ha := State.isArrayOf_alike hZ.alike A.2.1
  rcases hi with ⟨rfl, rfl⟩ | ⟨rfl, rfl⟩ | ⟨rfl, hr⟩ | ⟨rfl, rfl⟩ | ⟨rfl, rfl⟩ | ⟨rfl, rfl⟩
  · exact X.iaload hx hc ha A.2.2 hin hat (g := mkF m pc Ls (.int j :: .ref a :: rest)) rfl rfl hd _ kk
  · exact X.laload hx hc ha A.2.2 hin hat (g := mkF m pc Ls (.int j :: .ref a :: rest)) rfl rfl hd _ kk
  · exact X.aaload hx hc ha hr A.2.2 hin hat (g := mkF m pc Ls (.int j :: .ref a :: rest)) rfl rfl hd _ kk
  · exact X.caload hx hc ha A.2.2 hin hat (g := mkF m pc Ls (.int j :: .ref a :: rest)) rfl rfl hd _ kk
  · exact X.saload hx hc ha A.2.2 hin hat (g := mkF m pc Ls (.int j :: .ref a :: rest)) rfl rfl hd _ kk
  · exact X.baloadBytes hx hc ha A.2.2 hin hat (g := mkF m pc Ls (.int j :: .ref a :: rest)) rfl rfl hd _ kk
theorem Go.alen (X : Stand p l e R s m args below meth c T locs cells slots) (hx : p.tables.exec = Jvm.exec) (hZ : Z.Warmed39 s.vm) (eT : T.heap = h) {a : Addr} {cl : Cell} {ty : FieldType} (A : Arr Z h a cl ty) {z : Int32} (hz : cl.slots.size.toInt32 = z) (hd : decode c.code pc = .ok (.arraylength, 1)) (k : Go p e below P T (mkF m (pc + 1) Ls (.int z :: rest))) : Go p e below P T (mkF m pc Ls (.ref a :: rest)) := by
  refine Go.by (fun t kk => ?_) k
  subst hz
  exact X.arraylength hx (by rw [eT]; exact A.1) (State.isArrayOf_alike hZ.alike A.2.1) (g := mkF m pc Ls (.ref a :: rest)) rfl rfl hd _ kk
theorem Go.alenV (X : Stand p l e R s m args below meth c T locs cells slots) (hx : p.tables.exec = Jvm.exec) (hZ : Z.Warmed39 s.vm) (eT : T.heap = h) {a : Addr} {k : ClassId} {ty : FieldType} {z : Int32} {vs : List Value} {dv : Value} (F : Arv Z h a k ty z vs dv) (hd : decode c.code pc = .ok (.arraylength, 1)) (kk : Go p e below P T (mkF m (pc + 1) Ls (.int z :: rest))) : Go p e below P T (mkF m pc Ls (.ref a :: rest)) := by
  obtain ⟨cl, A, -, S, q, -, -⟩ := F; exact Go.alen X hx hZ eT A (len_of S q) hd kk
theorem Go.aloadV (X : Stand p l e R s m args below meth c T locs cells slots) (hx : p.tables.exec = Jvm.exec) (hZ : Z.Warmed39 s.vm) (eT : T.heap = h) {a : Addr} {k : ClassId} {ty : FieldType} {z : Int32} {vs : List Value} {dv : Value} (F : Arv Z h a k ty z vs dv) {j : Int32} {v : Value} (hj : ¬ j < 0 ∧ j < z) (hv : vs.getD j.toNatClampNeg dv = v) {i : Instr}
    (hi : (i = .iaload ∧ ty = .int) ∨ (i = .laload ∧ ty = .long) ∨ (i = .aaload ∧ ty.isReference = true) ∨ (i = .caload ∧ ty = .char) ∨ (i = .saload ∧ ty = .short) ∨ (i = .baload ∧ ty = .byte)) (hd : decode c.code pc = .ok (i, 1)) (kk : Go p e below P T (mkF m (pc + 1) Ls (v :: rest))) : Go p e below P T (mkF m pc Ls (.int j :: .ref a :: rest)) := by
  obtain ⟨cl, A, -, S, q, H, -⟩ := F
  have hin := inb_of S hj
  exact Go.aload X hx hZ eT A hin (H.at hin hv) hi hd kk
theorem Go.istV (X : Stand p l e R s m args below meth c T locs cells slots) (hx : p.tables.exec = Jvm.exec) (hZ : Z.Warmed39 s.vm) (eT : T.heap = h) {a : Addr} {k : ClassId} {z : Int32} {vs : List Value} {dv : Value} (F : Arv Z h a k .int z vs dv) {j x : Int32} (hj : ¬ j < 0 ∧ j < z) (i : Nat) (hji : j.toNatClampNeg = i) (hi : i < vs.length) (hd : decode c.code pc = .ok (.iastore, 1))
    (kk : ∀ T' h', Stand p l e R s m args below meth c T' (locs ++ [⟨a, j.toNatClampNeg⟩]) cells slots → T'.heap = h' → Wr h h' a j.toNatClampNeg (.int x) → Arv Z h' a k .int z (vs.set i (.int x)) dv → Go p e below P T' (mkF m (pc + 1) Ls rest)) : Go p e below P T (mkF m pc Ls (.int x :: .int j :: .ref a :: rest)) := by
  obtain ⟨cl, A, q1, S, q3, H, G⟩ := F
  have hin := inb_of S hj
  obtain ⟨T', h', X', e', W', st⟩ := stI X hx hZ eT A (j := j) (x := x) hin (g := mkF m pc Ls (.int x :: .int j :: .ref a :: rest)) rfl rfl hd
  exact Go.by st (kk T' h' X' e' W' (Arv.set A q1 S q3 H G rfl W' i hji hi))
theorem Go.jstV (X : Stand p l e R s m args below meth c T locs cells slots) (hx : p.tables.exec = Jvm.exec) (hZ : Z.Warmed39 s.vm) (eT : T.heap = h) {a : Addr} {k : ClassId} {z : Int32} {vs : List Value} {dv : Value} (F : Arv Z h a k .long z vs dv) {j : Int32} {x : Int64} (hj : ¬ j < 0 ∧ j < z) (i : Nat) (hji : j.toNatClampNeg = i) (hi : i < vs.length) (hd : decode c.code pc = .ok (.lastore, 1))
    (kk : ∀ T' h', Stand p l e R s m args below meth c T' (locs ++ [⟨a, j.toNatClampNeg⟩]) cells slots → T'.heap = h' → Wr h h' a j.toNatClampNeg (.long x) → Arv Z h' a k .long z (vs.set i (.long x)) dv → Go p e below P T' (mkF m (pc + 1) Ls rest)) : Go p e below P T (mkF m pc Ls (.long x :: .int j :: .ref a :: rest)) := by
  obtain ⟨cl, A, q1, S, q3, H, G⟩ := F
  have hin := inb_of S hj
  obtain ⟨T', h', X', e', W', st⟩ := stJ X hx hZ eT A (j := j) (x := x) hin (g := mkF m pc Ls (.long x :: .int j :: .ref a :: rest)) rfl rfl hd
  exact Go.by st (kk T' h' X' e' W' (Arv.set A q1 S q3 H G rfl W' i hji hi))
theorem Go.cloneA (X : Stand p l e R s m args below meth c T locs cells slots) (hx : p.tables.exec = Jvm.exec) (hZ : Z.Warmed39 s.vm) {own ad : String} {index : Nat} (hown : s.vm.findClass own = some m.cls) (w1 : (Jvm.Cond.methodLink own index ⟨ad, "clone", "()Ljava/lang/Object;"⟩).before a0 Z = true) (w2 : (Jvm.Cond.sameMethod ad "java/lang/Object" "clone" "()Ljava/lang/Object;").before a0 Z = true) (w3 : (Jvm.Cond.native ⟨"java/lang/Object", "clone", "()Ljava/lang/Object;"⟩).before a0 Z = true)
    (w4 : (Jvm.Cond.instanceMethod ⟨"java/lang/Object", "clone", "()Ljava/lang/Object;"⟩).before a0 Z = true) (w5 : (Jvm.Cond.selects ad ⟨ad, "clone", "()Ljava/lang/Object;"⟩ ⟨"java/lang/Object", "clone", "()Ljava/lang/Object;"⟩).before a0 Z = true) (w6 : (Jvm.Cond.castable ad "java/lang/Cloneable").before a0 Z = true) (eT : T.heap = h) {a : Addr} {cl : Cell} {ty : FieldType} (A : Arr Z h a cl ty) (E : Exa Z h a ad) (F : FitC Z cl)
    (hsz : Ls.size = c.maxLocals) (hd : decode c.code pc = .ok (.invokevirtual index, 3)) (hf : 1 ≤ R.frames) {W cap : Nat} (hW : (rest.map fun v => v.category).sum = W) (hl : W + 14 ≤ R.locals) (hcap : cl.slots.size ≤ cap) (hc : cells + 1 ≤ R.cells) (hsl : slots + cap ≤ R.slots)
    (k : ∀ T' h' b, Stand p l e R s m args below meth c T' locs (cells + 1) (slots + cap) → T'.heap = h' → Ext h h' → b = h.size → Arr Z h' b (cloneOf cl) ty → Exa Z h' b ad → Go p e below P T' (mkF m (pc + 3) Ls (.ref b :: rest))) : Go p e below P T (mkF m pc Ls (.ref a :: rest)) := by
  obtain ⟨T', h', X', e', E', A', X2, st⟩ := RoadKit.cloneA X hx hZ hown w1 w2 w3 w4 w5 w6 eT A E F (g := mkF m pc Ls (.ref a :: rest)) rfl hsz rfl hd hf (W := W) (cap := cap) (by subst hW; show 2 * 0 + _ ≤ _; omega) hl hcap hc hsl
  exact Go.by st (k T' h' _ X' e' E' rfl A' X2)
/-! calls by the callee's contract -/
section Call
variable {own : String} {index : Nat} {y : MethodName} {bytes : ByteArray} {maxL : Nat} {ret : Option FieldType} {rm : Room} {argsL : List Value} {Q' : Option Value → Heap → List Loc → Prop} {st : List Value} {W : Nat}
theorem Go.callS (X : Stand p l e R s m args below meth c T locs cells slots) (hx : p.tables.exec = Jvm.exec) (hZ : Z.Warmed39 s.vm) (hown : s.vm.findClass own = some m.cls) (w1 : (Jvm.Cond.methodLink own index y).before a0 Z = true) (w2 : (Jvm.Cond.static y).before a0 Z = true) (w3 : (Jvm.Cond.initialized y.cls).before a0 Z = true) (w4 : (Jvm.Cond.code y bytes maxL ret).before a0 Z = true)
    (hy : y.cls ≠ "java/lang/invoke/MethodHandle" ∧ y.cls ≠ "java/lang/invoke/VarHandle") (ct : Ct l y bytes maxL ret rm Z argsL.toArray h Q') (eT : T.heap = h) (hsz : Ls.size = c.maxLocals) (hlen : ∀ sig, parseMethodDescriptor y.desc = some sig → argsL.length = sig.parameters.length) (hst : st = argsL.reverse ++ rest) (hW : (rest.map fun v => v.category).sum = W)
    (hd : decode c.code pc = .ok (.invokestatic index, 3)) (hf : rm.frames + 1 ≤ R.frames) (hl : W + (maxL + 11) + rm.locals ≤ R.locals) (hc : cells + rm.cells ≤ R.cells) (hs : slots + rm.slots ≤ R.slots)
    (k : ∀ v T' h' L, Stand p l e R s m args below meth c T' (locs ++ L) (cells + rm.cells) (slots + rm.slots) → T'.heap = h' → Q' v h' L → Go p e below P T' (mkF m (pc + 3) Ls (v.toList ++ rest))) : Go p e below P T (mkF m pc Ls st) := by
  obtain ⟨v, _, ⟨T', L, k', n'⟩, -, X', ⟨Lc, hQ, hl', hk', hn'⟩, st'⟩ := Jvm.LawKit.callS X hx (y := y) hown (mvT hZ w1) (mvT hZ w2) (mvT hZ w3) (mvT hZ w4) hy (backOf (W := W) (ct []) hZ w4 w3 hf hl) (g := mkF m pc Ls st) rfl hsz (argsL := argsL) (rest := rest) hlen hst (by subst hW; show 2 * 0 + _ ≤ _; omega) hd (fun _ _ => ⟨rfl, eT, hc, hs⟩)
  dsimp only [Pt.U, Pt.locs, Pt.cells, Pt.slots] at X' hl' hk' hn' st' hQ
  subst hl' hk' hn'
  exact Go.by st' (k v T' _ Lc X' rfl hQ)
theorem Go.callC (X : Stand p l e R s m args below meth c T locs cells slots) (hx : p.tables.exec = Jvm.exec) (hZ : Z.Warmed39 s.vm) (hown : s.vm.findClass own = some m.cls) (hy1 : y.name = "<init>") (w1 : (Jvm.Cond.methodLink own index y).before a0 Z = true) (w2 : (Jvm.Cond.instanceMethod y).before a0 Z = true) (w3 : (Jvm.Cond.initialized y.cls).before a0 Z = true) (w4 : (Jvm.Cond.code y bytes maxL none).before a0 Z = true)
    (hy : y.cls ≠ "java/lang/invoke/MethodHandle" ∧ y.cls ≠ "java/lang/invoke/VarHandle") {a : Addr} (ct : Ct l y bytes maxL none rm Z (.ref a :: argsL).toArray h Q') (eT : T.heap = h) (hsz : Ls.size = c.maxLocals) (hlen : ∀ sig, parseMethodDescriptor y.desc = some sig → argsL.length = sig.parameters.length) (hst : st = argsL.reverse ++ .ref a :: rest) (hW : (rest.map fun v => v.category).sum = W)
    (hd : decode c.code pc = .ok (.invokespecial index, 3)) (hf : rm.frames + 1 ≤ R.frames) (hl : W + (maxL + 11) + rm.locals ≤ R.locals) (hc : cells + rm.cells ≤ R.cells) (hs : slots + rm.slots ≤ R.slots)
    (k : ∀ v T' h' L, Stand p l e R s m args below meth c T' (locs ++ L) (cells + rm.cells) (slots + rm.slots) → T'.heap = h' → Q' v h' L → Go p e below P T' (mkF m (pc + 3) Ls (v.toList ++ rest))) : Go p e below P T (mkF m pc Ls st) := by
  obtain ⟨v, _, ⟨T', L, k', n'⟩, -, X', ⟨Lc, hQ, hl', hk', hn'⟩, st'⟩ := X.specialBack hx (y := y) hy1 hown (mvT hZ w1) (mvT hZ w2) (mvT hZ w4) hy (backOf (W := W) (ct []) hZ w4 w3 hf hl) (g := mkF m pc Ls st) rfl hsz (Steps.refl _) (a := a) (argsL := argsL) (rest := rest) hlen hst (by subst hW; show 2 * 0 + _ ≤ _; omega) hd (fun _ _ => ⟨rfl, eT, hc, hs⟩)
  dsimp only [Pt.U, Pt.locs, Pt.cells, Pt.slots] at X' hl' hk' hn' st' hQ
  subst hl' hk' hn'
  exact Go.by (fun _ kk => st'.trans kk) (k v T' _ Lc X' rfl hQ)
theorem Go.callV (X : Stand p l e R s m args below meth c T locs cells slots) (hx : p.tables.exec = Jvm.exec) (hZ : Z.Warmed39 s.vm) (hown : s.vm.findClass own = some m.cls) {C : String} {z : MethodName} (w1 : (Jvm.Cond.methodLink own index y).before a0 Z = true) (w2 : (Jvm.Cond.declares y).before a0 Z = true) (nf : NotFace s y) (w5 : (Jvm.Cond.selects C y z).before a0 Z = true) (w6 : (Jvm.Cond.instanceMethod z).before a0 Z = true) (w3 : (Jvm.Cond.initialized z.cls).before a0 Z = true) (w4 : (Jvm.Cond.code z bytes maxL ret).before a0 Z = true)
    (hy : y.cls ≠ "java/lang/invoke/MethodHandle" ∧ y.cls ≠ "java/lang/invoke/VarHandle") {a : Addr} (E : Exa Z h a C) (ct : Ct l z bytes maxL ret rm Z (.ref a :: argsL).toArray h Q') (eT : T.heap = h) (hsz : Ls.size = c.maxLocals) (hlen : ∀ sig, parseMethodDescriptor y.desc = some sig → argsL.length = sig.parameters.length) (hst : st = argsL.reverse ++ .ref a :: rest) (hW : (rest.map fun v => v.category).sum = W)
    (hd : decode c.code pc = .ok (.invokevirtual index, 3)) (hf : rm.frames + 1 ≤ R.frames) (hl : W + (maxL + 11) + rm.locals ≤ R.locals) (hc : cells + rm.cells ≤ R.cells) (hs : slots + rm.slots ≤ R.slots)
    (k : ∀ v T' h' L, Stand p l e R s m args below meth c T' (locs ++ L) (cells + rm.cells) (slots + rm.slots) → T'.heap = h' → Q' v h' L → Go p e below P T' (mkF m (pc + 3) Ls (v.toList ++ rest))) : Go p e below P T (mkF m pc Ls st) := by
  obtain ⟨cq, kq, qa, qb, qc⟩ := isOf hZ eT E
  obtain ⟨v, _, ⟨T', L, k', n'⟩, -, X', ⟨Lc, hQ, hl', hk', hn'⟩, st'⟩ := X.virtualBack hx (y := y) (z := z) hown (mvT hZ w1) (mvT hZ w2) nf (mvT hZ w5) (mvT hZ w6) hy (backOf (W := W) (ct []) hZ w4 w3 hf hl) qa qc (g := mkF m pc Ls st) rfl hsz (Steps.refl _) (argsL := argsL) (rest := rest) hlen hst (by subst hW; show 2 * 0 + _ ≤ _; omega) hd (fun _ _ => ⟨rfl, eT, hc, hs⟩)
  dsimp only [Pt.U, Pt.locs, Pt.cells, Pt.slots] at X' hl' hk' hn' st' hQ
  subst hl' hk' hn'
  exact Go.by (fun _ kk => st'.trans kk) (k v T' _ Lc X' rfl hQ)
theorem Go.callVU (X : Stand p l e R s m args below meth c T locs cells slots) (hx : p.tables.exec = Jvm.exec) (hZ : Z.Warmed39 s.vm) (hown : s.vm.findClass own = some m.cls) {C owner : String} {z : MethodName} (w1 : (Jvm.Cond.methodLink own index y).before a0 Z = true) (ws : (Jvm.Cond.sameMethod y.cls owner y.name y.desc).before a0 Z = true) (w2 : (Jvm.Cond.declares ⟨owner, y.name, y.desc⟩).before a0 Z = true) (ho : owner ≠ "java/lang/invoke/MethodHandle" ∧ owner ≠ "java/lang/invoke/VarHandle") (w5 : (Jvm.Cond.selects C y z).before a0 Z = true) (w6 : (Jvm.Cond.instanceMethod z).before a0 Z = true) (w3 : (Jvm.Cond.initialized z.cls).before a0 Z = true) (w4 : (Jvm.Cond.code z bytes maxL ret).before a0 Z = true)
    {a : Addr} (E : Exa Z h a C) (ct : Ct l z bytes maxL ret rm Z (.ref a :: argsL).toArray h Q') (eT : T.heap = h) (hsz : Ls.size = c.maxLocals) (hlen : ∀ sig, parseMethodDescriptor y.desc = some sig → argsL.length = sig.parameters.length) (hst : st = argsL.reverse ++ .ref a :: rest) (hW : (rest.map fun v => v.category).sum = W)
    (hd : decode c.code pc = .ok (.invokevirtual index, 3)) (hf : rm.frames + 1 ≤ R.frames) (hl : W + (maxL + 11) + rm.locals ≤ R.locals) (hc : cells + rm.cells ≤ R.cells) (hs : slots + rm.slots ≤ R.slots)
    (k : ∀ v T' h' L, Stand p l e R s m args below meth c T' (locs ++ L) (cells + rm.cells) (slots + rm.slots) → T'.heap = h' → Q' v h' L → Go p e below P T' (mkF m (pc + 3) Ls (v.toList ++ rest))) : Go p e below P T (mkF m pc Ls st) := by
  obtain ⟨cq, kq, qa, qb, qc⟩ := isOf hZ eT E
  obtain ⟨v, _, ⟨T', L, k', n'⟩, -, X', ⟨Lc, hQ, hl', hk', hn'⟩, st'⟩ := X.virtualBackUp hx (x := y) (y := z) (owner := owner) hown (mvT hZ w1) (mvT hZ ws) (mvT hZ w2) ho (mvT hZ w5) (mvT hZ w6) (backOf (W := W) (ct []) hZ w4 w3 hf hl) qa qc (g := mkF m pc Ls st) rfl hsz (Steps.refl _) (argsL := argsL) (rest := rest) hlen hst (by subst hW; show 2 * 0 + _ ≤ _; omega) hd (fun _ _ => ⟨rfl, eT, hc, hs⟩)
  dsimp only [Pt.U, Pt.locs, Pt.cells, Pt.slots] at X' hl' hk' hn' st' hQ
  subst hl' hk' hn'
  exact Go.by (fun _ kk => st'.trans kk) (k v T' _ Lc X' rfl hQ)
end Call
theorem eqI_v {args : Array Value} {first s : State} {o : Option Outcome} {idx : List Nat} {t : Term} {n : Int32} (h : (Jvm.Cond.eq t (.int n)).value args first o s idx = some true) : t.eval args first o idx s = some (.int n) := by
  simp only [Cond.value, Term.eval] at h
  cases ht : t.eval args first o idx s with
  | none => simp [ht] at h
  | some x => cases x <;> simp [ht] at h ⊢; exact h
theorem nsRoot {O K : String} {n : Nat} (w : (Jvm.Cond.noSuperclass O).before a0 Z = true) (wk : (Jvm.Cond.instantiable K n).before a0 Z = true) (hn : O ≠ K) : NS Z O K := by
  obtain ⟨c, k, h1, h2, h3, -, -⟩ := Cond.noSuperclass_spec w
  obtain ⟨t, kt, g1, -⟩ := Cond.instantiable_spec wk
  have ne := ids_ne h1 g1 hn
  refine ⟨c, t, h1, g1, fun fuel => ?_⟩
  cases fuel with
  | zero => rfl
  | succ f => simp [Vm.isSubclassAux, ne, h2, h3]
theorem nsNo {C S K : String} {n : Nat} (w : (Jvm.Cond.superclass C S).before a0 Z = true) (wk : (Jvm.Cond.instantiable K n).before a0 Z = true) (ns : NS Z C K) (hn : C ≠ K) : ∃ c t, Z.vm.findClass C = some c ∧ Z.vm.findClass K = some t ∧ Z.vm.assignable c t = false := by
  obtain ⟨c, t, h0, g0, n3⟩ := ns
  obtain ⟨p, k, kp, h1, h2, h3, h4, h5, -, h7⟩ := Cond.superclass_spec h0 w
  obtain ⟨t', k', g1, g2, g3, g4, -⟩ := Cond.instantiable_spec wk
  cases g0.symm.trans g1
  have ne := ids_ne h0 g0 hn
  have g5 : k'.isInterface = false := by cases hq : k'.isInterface <;> simp [hq] at g4 ⊢
  refine ⟨c, t, h0, g0, ?_⟩
  show Z.vm.assignableAux (255 + 1) c t = false
  simp [Vm.assignableAux, ne, h2, g2, h5, g3, g5, Vm.isSubclass, n3]
theorem lenI_v {args : Array Value} {first s : State} {o : Option Outcome} {idx : List Nat} {t : Term} {a : Addr} {cl : Cell} {n : Int32} (h : (Term.length t).eval args first o idx s = some (.int n)) (ht : t.eval args first o idx s = some (.ref a)) (ha : s.arrayAt? a = some cl) : cl.slots.size < 2 ^ 31 ∧ cl.slots.size.toInt32 = n := by
  simp [Term.eval, ht, ha] at h; exact h
theorem size_le {cl : Cell} {n : Int32} {k : Nat} (q : cl.slots.size < 2 ^ 31 ∧ cl.slots.size.toInt32 = n) (hn : n.toInt = k) : cl.slots.size = k := by
  have := len_toInt q.1; rw [q.2, hn] at this; exact (Int.ofNat.inj this).symm
theorem eqR_v {args : Array Value} {first s : State} {o : Option Outcome} {idx : List Nat} {t u : Term} {w : Addr} (hu : u.eval args first o idx s = some (.ref w)) (h : (Jvm.Cond.eq t u).value args first o s idx = some true) : t.eval args first o idx s = some (.ref w) := by
  simp only [Cond.value, hu] at h
  cases ht : t.eval args first o idx s with
  | none => simp [ht] at h
  | some x => cases x <;> simp [ht] at h ⊢; exact h
theorem Old.le {n0 : Nat} (O : Old Z n0 h) : n0 ≤ h.size := O.1 ▸ O.2.1
end K
end Jvm.OwnKit
namespace Jvm.OwnKit
open Jvm Sem ClassFile Op Lib Jvm.Stand Jvm.Free Jvm.LawKit Jvm.RoadKit
section KS
variable {p : Program} {l : Launch} {e : Env} {R : Room} {s : State} {vm0 : Vm} {m : MethodId} {args : Array Value} {below : List Frame} {meth : Method} {c : Code} {T T' : State} {locs : List Loc} {cells slots : Nat} {Z : State} {a0 : Array Value} {h h0 : Heap} {ce sl k0 : Nat} {Q : Option Value → Heap → List Loc → Prop} {P : Option Value → State → List Loc → Prop} {pc : Nat} {Ls : Array Slot} {rest : List Value}
/-- the end of a body that may intern -/
def EndW (s : State) (ce sl : Nat) (Q : Option Value → Heap → List Loc → Prop) (v : Option Value) (u : State) (L : List Loc) : Prop := Q v u.heap L ∧ ReturnedEndW s (.returned v) u L ce sl
def CtW (l : Launch) (y : MethodName) (bytes : ByteArray) (maxL : Nat) (ret : Option FieldType) (rm : Room) (Z : State) (as' : Array Value) (h0 : Heap) (Q : Option Value → Heap → List Loc → Prop) : Prop :=
  ∀ ws : List Jvm.Cond, MetFree l y (head1 (Jvm.Cond.code y bytes maxL ret :: ws) rm) (fun a U => a = as' ∧ Z.Warmed39 U.vm ∧ U.heap = h0) (fun _ _ _ _ _ => True) (fun _ U o U' => ∃ v L, o = .returned v ∧ Q v U'.heap L ∧ ReturnedEndW U o U' L rm.cells rm.slots)
theorem CtW.of {y : MethodName} {bytes : ByteArray} {maxL : Nat} {ret : Option FieldType} {rm : Room} {as' : Array Value} (hpl : plainFor y = true)
    (body : ∀ (p : Program) (e : Env) (s : State) (vm0 : Vm) (m : MethodId) (below : List Frame) (meth : Method) (c : Code) (T : State), Stand p l e rm (s.setVm vm0) m as' below meth c T [] 0 0 → p.tables.exec = Jvm.exec → c.code = bytes → c.maxLocals = maxL → vm0.findClass y.cls = some m.cls → meth.name = y.name → meth.sig.returnType = ret → meth.locks = false → Z.Warmed39 vm0 → T.heap = h0 → s.Since vm0 0 → 0 ≤ h0.size →
      Go p e below (EndW s rm.cells rm.slots Q) T (entryFrame m as' maxL)) : CtW l y bytes maxL ret rm Z as' h0 Q := by
  intro ws
  refine MetFree.of_bodySF hpl hisR ?_
  intro p e s m args below meth c s₁ Bd hml0 hP hK
  obtain ⟨rfl, hZ, hh⟩ := hP
  obtain ⟨u, v, L, h1, h2, h3, r⟩ := body p e s s.vm m below meth c s₁ (Stand.of_body Bd) Bd.exec Bd.bytes hml0 (findClass_of_methodNamed Bd.named) (name_of_methodNamed Bd.named Bd.method).1 Bd.returns (BodyLoose.notSynchronized Bd) hZ (by rw [← hh, Bd.state]; rfl) ((State.WarmedH.refl s).since 0) (Nat.zero_le _)
  exact ⟨u, _, h1, h2, h3, v, L, rfl, r.1, r.2⟩
theorem Go.finW (X : Stand p l e R (s.setVm vm0) m args below meth c T locs cells slots) (hS : s.Since vm0 k0) (hk : k0 ≤ h.size) (hlk : meth.locks = false) {v : Option Value} (hv : meth.sig.returnType = none → v = none) {g : JFrame}
    (st : ∀ fs, (∀ (f : JFrame) (acts : List Action), f.method = m → f.locked = none → f.entered = [] → (doReturn e (T.setTop f) acts v).1 = T.setFrames fs) → Steps p.tables e below (T.setTop g) (T.setFrames fs)) (hc : cells ≤ ce) (hs : slots ≤ sl) (eT : T.heap = h) (q : Q v h locs) : Go p e below (EndW s ce sl Q) T g := by
  subst eT
  obtain ⟨fs, hr, hrun, hended, e1, e2, e3, e4⟩ := X.leaveW hS hk (v := v) hv hlk
  exact ⟨_, _, _, st fs hr, hrun, hended, q, e1, e2, e3, e4.mono hc hs⟩
theorem Go.retIW (X : Stand p l e R (s.setVm vm0) m args below meth c T locs cells slots) (hx : p.tables.exec = Jvm.exec) (hlk : meth.locks = false) (hret : meth.sig.returnType = some .int) {z : Int32} (hd : decode c.code pc = .ok (.ireturn, 1)) (hc : cells ≤ ce) (hs : slots ≤ sl) (eT : T.heap = h) (hS : s.Since vm0 k0) (hk : k0 ≤ h.size) (q : Q (some (.int z)) h locs) : Go p e below (EndW s ce sl Q) T (mkF m pc Ls (.int z :: rest)) :=
  Go.finW X hS hk hlk (fun h => by rw [hret] at h; cases h) (fun fs hl => retOut X hx hret rfl (Or.inl ⟨rfl, Or.inl rfl, z, rfl⟩) hd hl) hc hs eT q
theorem Go.retZW (X : Stand p l e R (s.setVm vm0) m args below meth c T locs cells slots) (hx : p.tables.exec = Jvm.exec) (hlk : meth.locks = false) (hret : meth.sig.returnType = some .boolean) {z : Int32} (hz : z = 0 ∨ z = 1) (hd : decode c.code pc = .ok (.ireturn, 1)) (hc : cells ≤ ce) (hs : slots ≤ sl) (eT : T.heap = h) (hS : s.Since vm0 k0) (hk : k0 ≤ h.size) (q : Q (some (.int z)) h locs) : Go p e below (EndW s ce sl Q) T (mkF m pc Ls (.int z :: rest)) :=
  Go.finW X hS hk hlk (fun h => by rw [hret] at h; cases h) (fun fs hl => retOut X hx hret (by rcases hz with rfl | rfl <;> rfl) (Or.inl ⟨rfl, Or.inr (Or.inl rfl), z, rfl⟩) hd hl) hc hs eT q
theorem Go.retAW (X : Stand p l e R (s.setVm vm0) m args below meth c T locs cells slots) (hx : p.tables.exec = Jvm.exec) (hlk : meth.locks = false) {t : FieldType} (hret : meth.sig.returnType = some t) (ht : t.isReference = true) {v : Value} (hv : v.isRef = true) (hd : decode c.code pc = .ok (.areturn, 1)) (hc : cells ≤ ce) (hs : slots ≤ sl) (eT : T.heap = h) (hS : s.Since vm0 k0) (hk : k0 ≤ h.size) (q : Q (some v) h locs) : Go p e below (EndW s ce sl Q) T (mkF m pc Ls (v :: rest)) :=
  Go.finW X hS hk hlk (fun h => by rw [hret] at h; cases h) (fun fs hl => retOut X hx hret (by cases t <;> simp_all [FieldType.isReference, narrow]) (Or.inr (Or.inr (Or.inr (Or.inr ⟨rfl, ht, hv⟩)))) hd hl) hc hs eT q
theorem Go.retVW (X : Stand p l e R (s.setVm vm0) m args below meth c T locs cells slots) (hx : p.tables.exec = Jvm.exec) (hlk : meth.locks = false) (hret : meth.sig.returnType = none) (hd : decode c.code pc = .ok (.return_, 1)) (hc : cells ≤ ce) (hs : slots ≤ sl) (eT : T.heap = h) (hS : s.Since vm0 k0) (hk : k0 ≤ h.size) (q : Q none h locs) : Go p e below (EndW s ce sl Q) T (mkF m pc Ls []) :=
  Go.finW X hS hk hlk (fun _ => rfl) (fun fs hl => X.returnOut hx hret hd hl) hc hs eT q
theorem Go.ldcS (X : Stand p l e R (s.setVm vm0) m args below meth c T locs cells slots) (hx : p.tables.exec = Jvm.exec) (hZ : Z.Warmed39 vm0) {own text : String} {index : Nat} (hown : vm0.findClass own = some m.cls) (w : (Jvm.Cond.stringLink own index text).before a0 Z = true) (wS : ∀ a ∈ Bundle.stringAtoms, a.before a0 Z = true) (eT : T.heap = h) (hS : s.Since vm0 k0) (hk : k0 ≤ h.size) {st : List Value}
    (hd : decode c.code pc = .ok (.ldc index, 2)) {n : Nat} (hn : 4 * text.toList.length ≤ n) (hbig : n ≤ 536870912) (hc : cells + 2 ≤ R.cells) (hl : slots + (n + 4) ≤ R.slots)
    (k : ∀ a T' h' vm1 k1, Stand p l e R (s.setVm vm1) m args below meth c T' locs (cells + 2) (slots + (n + 4)) → T'.heap = h' → Ext h h' → s.Since vm1 k1 → k1 ≤ h'.size → Z.Warmed39 vm1 → vm1.findClass own = some m.cls → Go p e below P T' (mkF m (pc + 2) Ls (.ref a :: st))) : Go p e below P T (mkF m pc Ls st) := by
  obtain ⟨a, T', h', k1, X', e', E', hS', hk', hZ', hown', st'⟩ := RoadKit.ldcS X hx hZ hown w wS eT hS hk (g := mkF m pc Ls st) rfl hd hn hbig hc hl
  exact Go.by st' (k a T' h' T'.vm k1 X' e' E' hS' hk' hZ' hown')
section Call
variable {own : String} {index : Nat} {y : MethodName} {bytes : ByteArray} {maxL : Nat} {ret : Option FieldType} {rm : Room} {argsL : List Value} {Q' : Option Value → Heap → List Loc → Prop} {st : List Value} {W : Nat}
theorem Go.callSW (X : Stand p l e R (s.setVm vm0) m args below meth c T locs cells slots) (hx : p.tables.exec = Jvm.exec) (hZ : Z.Warmed39 vm0) (hown : vm0.findClass own = some m.cls) (w1 : (Jvm.Cond.methodLink own index y).before a0 Z = true) (w2 : (Jvm.Cond.static y).before a0 Z = true) (w3 : (Jvm.Cond.initialized y.cls).before a0 Z = true) (w4 : (Jvm.Cond.code y bytes maxL ret).before a0 Z = true)
    (hy : y.cls ≠ "java/lang/invoke/MethodHandle" ∧ y.cls ≠ "java/lang/invoke/VarHandle") (ct : CtW l y bytes maxL ret rm Z argsL.toArray h Q') (eT : T.heap = h) (hS : s.Since vm0 k0) (hk : k0 ≤ h.size) (hsz : Ls.size = c.maxLocals) (hlen : ∀ sig, parseMethodDescriptor y.desc = some sig → argsL.length = sig.parameters.length) (hst : st = argsL.reverse ++ rest) (hW : (rest.map fun v => v.category).sum = W)
    (hd : decode c.code pc = .ok (.invokestatic index, 3)) (hf : rm.frames + 1 ≤ R.frames) (hl : W + (maxL + 11) + rm.locals ≤ R.locals) (hc : cells + rm.cells ≤ R.cells) (hs : slots + rm.slots ≤ R.slots)
    (k : ∀ v T' h' L vm1 k1, Stand p l e R (s.setVm vm1) m args below meth c T' (locs ++ L) (cells + rm.cells) (slots + rm.slots) → T'.heap = h' → Q' v h' L → s.Since vm1 k1 → k1 ≤ h'.size → Z.Warmed39 vm1 → vm1.findClass own = some m.cls → Go p e below P T' (mkF m (pc + 3) Ls (v.toList ++ rest))) : Go p e below P T (mkF m pc Ls st) := by
  have hZ' : Z.Warmed39 (s.setVm vm0).vm := hZ
  have hown' : (s.setVm vm0).vm.findClass own = some m.cls := hown
  obtain ⟨v, _, ⟨T', L, k', n'⟩, -, X', hS', hge, ⟨Lc, hQ, hl', hk', hn'⟩, st'⟩ := callSS X hx (y := y) hown' (mvT hZ' w1) (mvT hZ' w2) (mvT hZ' w3) (mvT hZ' w4) hy (backOfS (W := W) (ct []) hZ' w4 w3 hf hl) (g := mkF m pc Ls st) rfl hsz (argsL := argsL) (rest := rest) hlen hst (by subst hW; show 2 * 0 + _ ≤ _; omega) hd (fun _ _ => ⟨rfl, eT, hc, hs⟩)
  dsimp only [Pt.U, Pt.locs, Pt.cells, Pt.slots] at X' hl' hk' hn' st' hQ hS' hge
  subst hl' hk' hn'
  refine Go.by (fun _ kk => st'.trans kk) (k v T' _ Lc T'.vm T'.heap.size X' rfl hQ (hS.trans hS' (Nat.le_trans hk (eT ▸ hge))) (Nat.le_refl _) (State.Warmed39.trans hZ' hS'.1) ?_)
  rw [hS'.1.alike.findClass]; exact hown
end Call
end KS
end Jvm.OwnKit
namespace Jvm.Pilot.@@N@@
open Jvm Jvm.ClassFile Sem Op Lib Jvm.Free Jvm.Stand Jvm.LawKit Jvm.RoadKit Jvm.OwnKit Bundle Jvm.Pilot.@@N@@.Jvm.D
theorem own_wS {Z : State} {a0 : Array Value} (hw : ∀ d ∈ tables_1, d.before a0 Z = true) : ∀ a ∈ Bundle.stringAtoms, a.before a0 Z = true := fun a ha => hw a ((by decide +kernel : ∀ w ∈ Bundle.stringAtoms, w ∈ tables_1) a ha)
theorem own_five {z : Int32} (hz : 0 ≤ z.toInt ∧ z.toInt ≤ 5) (h0 : ¬ z = (0 : Int32)) (h1 : ¬ z = (1 : Int32)) (h2 : ¬ z = (2 : Int32)) (h3 : ¬ z = (3 : Int32)) (h4 : ¬ z = (4 : Int32)) : z = (5 : Int32) := by
  have q0 : z.toInt ≠ 0 := fun q => h0 (Int32.toInt_inj.mp q)
  have q1 : z.toInt ≠ 1 := fun q => h1 (Int32.toInt_inj.mp q)
  have q2 : z.toInt ≠ 2 := fun q => h2 (Int32.toInt_inj.mp q)
  have q3 : z.toInt ≠ 3 := fun q => h3 (Int32.toInt_inj.mp q)
  have q4 : z.toInt ≠ 4 := fun q => h4 (Int32.toInt_inj.mp q)
  apply Int32.toInt_inj.mp
  have e : (5 : Int32).toInt = 5 := rfl
  omega
theorem own_i (p0 : Int32) : 0 ≤ ((p0 &&& (2147483647 : Int32)) % (6 : Int32)).toInt ∧ ((p0 &&& (2147483647 : Int32)) % (6 : Int32)).toInt ≤ 5 := by
  have h1 := c_and p0 (2147483647 : Int32) (by decide)
  have h2 := (c_iremV (p0 &&& (2147483647 : Int32)) (6 : Int32)).1 h1.1 (by decide)
  have e : (6 : Int32).toInt = 6 := rfl
  omega
theorem own_t (p1 : Int32) : 0 ≤ ((p1 &&& (2147483647 : Int32)) % (5 : Int32)).toInt ∧ ((p1 &&& (2147483647 : Int32)) % (5 : Int32)).toInt ≤ 4 := by
  have h1 := c_and p1 (2147483647 : Int32) (by decide)
  have h2 := (c_iremV (p1 &&& (2147483647 : Int32)) (5 : Int32)).1 h1.1 (by decide)
  have e : (5 : Int32).toInt = 5 := rfl
  omega
theorem own_jv (p0 p1 : Int32) : (((((p0 &&& (2147483647 : Int32)) % (6 : Int32)) + (1 : Int32)) + ((p1 &&& (2147483647 : Int32)) % (5 : Int32))) % (6 : Int32)).toInt = (((p0 &&& (2147483647 : Int32)) % (6 : Int32)).toInt + 1 + ((p1 &&& (2147483647 : Int32)) % (5 : Int32)).toInt) % 6 := by
  have hi := own_i p0
  have ht := own_t p1
  generalize ((p0 &&& (2147483647 : Int32)) % (6 : Int32)) = i at *
  generalize ((p1 &&& (2147483647 : Int32)) % (5 : Int32)) = t at *
  have e1 : (1 : Int32).toInt = 1 := rfl
  have q1 := c_iadd i (1 : Int32)
  have r1 := rng32 (i + (1 : Int32))
  have q2 := c_iadd (i + (1 : Int32)) t
  have r2 := rng32 (i + (1 : Int32) + t)
  have q3 := (c_irem (i + (1 : Int32) + t) (6 : Int32) 6 rfl).1 (by omega)
  rw [q3]
  have : (i + (1 : Int32) + t).toInt = i.toInt + 1 + t.toInt := by omega
  rw [this]
theorem own_j (p0 p1 : Int32) : 0 ≤ (((((p0 &&& (2147483647 : Int32)) % (6 : Int32)) + (1 : Int32)) + ((p1 &&& (2147483647 : Int32)) % (5 : Int32))) % (6 : Int32)).toInt ∧ (((((p0 &&& (2147483647 : Int32)) % (6 : Int32)) + (1 : Int32)) + ((p1 &&& (2147483647 : Int32)) % (5 : Int32))) % (6 : Int32)).toInt ≤ 5 := by rw [own_jv]; omega
theorem own_ij (p0 p1 : Int32) : ¬ ((p0 &&& (2147483647 : Int32)) % (6 : Int32)) = (((((p0 &&& (2147483647 : Int32)) % (6 : Int32)) + (1 : Int32)) + ((p1 &&& (2147483647 : Int32)) % (5 : Int32))) % (6 : Int32)) := fun q => by
  have h := own_jv p0 p1
  rw [← q] at h
  have hi := own_i p0
  have ht := own_t p1
  omega
theorem d_m2_0 : decode method_2_code 0 = .ok (.iload_n 0, 1) := by decide +kernel
theorem d_m2_1 : decode method_2_code 1 = .ok (.ifCond .ne 7, 3) := by decide +kernel
theorem d_m2_4 : decode method_2_code 4 = .ok (.getstatic 7, 3) := by decide +kernel
theorem d_m2_7 : decode method_2_code 7 = .ok (.areturn, 1) := by decide +kernel
theorem d_m2_8 : decode method_2_code 8 = .ok (.iload_n 0, 1) := by decide +kernel
theorem d_m2_9 : decode method_2_code 9 = .ok (.iconst 1, 1) := by decide +kernel
theorem d_m2_10 : decode method_2_code 10 = .ok (.if_icmp .ne 7, 3) := by decide +kernel
theorem d_m2_13 : decode method_2_code 13 = .ok (.getstatic 13, 3) := by decide +kernel
theorem d_m2_16 : decode method_2_code 16 = .ok (.areturn, 1) := by decide +kernel
theorem d_m2_17 : decode method_2_code 17 = .ok (.iload_n 0, 1) := by decide +kernel
theorem d_m2_18 : decode method_2_code 18 = .ok (.iconst 2, 1) := by decide +kernel
theorem d_m2_19 : decode method_2_code 19 = .ok (.if_icmp .ne 7, 3) := by decide +kernel
theorem d_m2_22 : decode method_2_code 22 = .ok (.getstatic 16, 3) := by decide +kernel
theorem d_m2_25 : decode method_2_code 25 = .ok (.areturn, 1) := by decide +kernel
theorem d_m2_26 : decode method_2_code 26 = .ok (.iload_n 0, 1) := by decide +kernel
theorem d_m2_27 : decode method_2_code 27 = .ok (.iconst 3, 1) := by decide +kernel
theorem d_m2_28 : decode method_2_code 28 = .ok (.if_icmp .ne 7, 3) := by decide +kernel
theorem d_m2_31 : decode method_2_code 31 = .ok (.getstatic 19, 3) := by decide +kernel
theorem d_m2_34 : decode method_2_code 34 = .ok (.areturn, 1) := by decide +kernel
theorem d_m2_35 : decode method_2_code 35 = .ok (.iload_n 0, 1) := by decide +kernel
theorem d_m2_36 : decode method_2_code 36 = .ok (.iconst 4, 1) := by decide +kernel
theorem d_m2_37 : decode method_2_code 37 = .ok (.if_icmp .ne 7, 3) := by decide +kernel
theorem d_m2_40 : decode method_2_code 40 = .ok (.getstatic 22, 3) := by decide +kernel
theorem d_m2_43 : decode method_2_code 43 = .ok (.areturn, 1) := by decide +kernel
theorem d_m2_44 : decode method_2_code 44 = .ok (.getstatic 25, 3) := by decide +kernel
theorem d_m2_47 : decode method_2_code 47 = .ok (.areturn, 1) := by decide +kernel
theorem pn_VerdictInvalidPinLaw_944 : plainName "com/example/warrant/warrant/VerdictInvalidPinLaw" = true := by first | (simp [plainName, overriddenIn]; done) | decide +kernel
theorem d_j31_m11_0 : decode jdk_31_method_11_code 0 = .ok (.aload_n 0, 1) := by decide +kernel
theorem d_j31_m11_1 : decode jdk_31_method_11_code 1 = .ok (.ifnonnull 12, 3) := by decide +kernel
theorem d_j31_m11_13 : decode jdk_31_method_11_code 13 = .ok (.aload_n 0, 1) := by decide +kernel
theorem d_j31_m11_14 : decode jdk_31_method_11_code 14 = .ok (.areturn, 1) := by decide +kernel
theorem pn_Objects_297 : plainName "java/util/Objects" = true := by first | (simp [plainName, overriddenIn]; done) | decide +kernel
theorem d_p47_m1_0 : decode prog_47_method_1_code 0 = .ok (.aload_n 0, 1) := by decide +kernel
theorem d_p47_m1_1 : decode prog_47_method_1_code 1 = .ok (.invokespecial 1, 3) := by decide +kernel
theorem d_p47_m1_4 : decode prog_47_method_1_code 4 = .ok (.aload_n 0, 1) := by decide +kernel
theorem d_p47_m1_5 : decode prog_47_method_1_code 5 = .ok (.aload_n 1, 1) := by decide +kernel
theorem d_p47_m1_6 : decode prog_47_method_1_code 6 = .ok (.putfield 7, 3) := by decide +kernel
theorem d_p47_m1_9 : decode prog_47_method_1_code 9 = .ok (.aload_n 0, 1) := by decide +kernel
theorem d_p47_m1_10 : decode prog_47_method_1_code 10 = .ok (.aload_n 2, 1) := by decide +kernel
theorem d_p47_m1_11 : decode prog_47_method_1_code 11 = .ok (.putfield 13, 3) := by decide +kernel
theorem d_p47_m1_14 : decode prog_47_method_1_code 14 = .ok (.aload_n 0, 1) := by decide +kernel
theorem d_p47_m1_15 : decode prog_47_method_1_code 15 = .ok (.aload_n 3, 1) := by decide +kernel
theorem d_p47_m1_16 : decode prog_47_method_1_code 16 = .ok (.putfield 17, 3) := by decide +kernel
theorem d_p47_m1_19 : decode prog_47_method_1_code 19 = .ok (.aload_n 0, 1) := by decide +kernel
theorem d_p47_m1_20 : decode prog_47_method_1_code 20 = .ok (.iload 4, 2) := by decide +kernel
theorem d_p47_m1_22 : decode prog_47_method_1_code 22 = .ok (.putfield 21, 3) := by decide +kernel
theorem d_p47_m1_25 : decode prog_47_method_1_code 25 = .ok (.return_, 1) := by decide +kernel
theorem pn_Verdict_984 : plainName "com/example/warrant/warrant/Verdict" = true := by first | (simp [plainName, overriddenIn]; done) | decide +kernel
theorem d_p47_m6_0 : decode prog_47_method_6_code 0 = .ok (.new 8, 3) := by decide +kernel
theorem d_p47_m6_3 : decode prog_47_method_6_code 3 = .ok (.dup, 1) := by decide +kernel
theorem d_p47_m6_4 : decode prog_47_method_6_code 4 = .ok (.getstatic 77, 3) := by decide +kernel
theorem d_p47_m6_7 : decode prog_47_method_6_code 7 = .ok (.aconst_null, 1) := by decide +kernel
theorem d_p47_m6_8 : decode prog_47_method_6_code 8 = .ok (.aload_n 0, 1) := by decide +kernel
theorem d_p47_m6_9 : decode prog_47_method_6_code 9 = .ok (.ldc 80, 2) := by decide +kernel
theorem pd__Ljava_lang_Object_Ljava_lang_String__Lj_6911 : parseMethodDescriptor "(Ljava/lang/Object;Ljava/lang/String;)Ljava/lang/Object;" = some ⟨[(.object "java/lang/Object"), (.object "java/lang/String")], some (.object "java/lang/Object")⟩ := by decide +kernel
theorem d_p47_m6_11 : decode prog_47_method_6_code 11 = .ok (.invokestatic 27, 3) := by decide +kernel
theorem d_p47_m6_14 : decode prog_47_method_6_code 14 = .ok (.checkcast 82, 3) := by decide +kernel
theorem d_p47_m6_17 : decode prog_47_method_6_code 17 = .ok (.iconst 0, 1) := by decide +kernel
theorem pd__Lcom_example_warrant_warrant_Verdict_Ki_4944 : parseMethodDescriptor "(Lcom/example/warrant/warrant/Verdict$Kind;Lcom/example/warrant/warrant/SignedData;Lcom/example/warrant/warrant/InvalidReason;I)V" = some ⟨[(.object "com/example/warrant/warrant/Verdict$Kind"), (.object "com/example/warrant/warrant/SignedData"), (.object "com/example/warrant/warrant/InvalidReason"), .int], none⟩ := by decide +kernel
theorem d_p47_m6_18 : decode prog_47_method_6_code 18 = .ok (.invokespecial 64, 3) := by decide +kernel
theorem d_p47_m6_21 : decode prog_47_method_6_code 21 = .ok (.areturn, 1) := by decide +kernel
theorem d_j32_m2_0 : decode jdk_32_method_2_code 0 = .ok (.aload_n 0, 1) := by decide +kernel
theorem d_j32_m2_1 : decode jdk_32_method_2_code 1 = .ok (.invokespecial 7, 3) := by decide +kernel
theorem d_j32_m2_4 : decode jdk_32_method_2_code 4 = .ok (.aload_n 0, 1) := by decide +kernel
theorem d_j32_m2_5 : decode jdk_32_method_2_code 5 = .ok (.aload_n 1, 1) := by decide +kernel
theorem d_j32_m2_6 : decode jdk_32_method_2_code 6 = .ok (.putfield 13, 3) := by decide +kernel
theorem d_j32_m2_9 : decode jdk_32_method_2_code 9 = .ok (.return_, 1) := by decide +kernel
theorem pn_Optional_457 : plainName "java/util/Optional" = true := by first | (simp [plainName, overriddenIn]; done) | decide +kernel
theorem d_j32_m4_0 : decode jdk_32_method_4_code 0 = .ok (.aload_n 0, 1) := by decide +kernel
theorem d_j32_m4_1 : decode jdk_32_method_4_code 1 = .ok (.ifnonnull 9, 3) := by decide +kernel
theorem d_j32_m4_10 : decode jdk_32_method_4_code 10 = .ok (.new 2, 3) := by decide +kernel
theorem d_j32_m4_13 : decode jdk_32_method_4_code 13 = .ok (.dup, 1) := by decide +kernel
theorem d_j32_m4_14 : decode jdk_32_method_4_code 14 = .ok (.aload_n 0, 1) := by decide +kernel
theorem pd__Ljava_lang_Object__V_1711 : parseMethodDescriptor "(Ljava/lang/Object;)V" = some ⟨[(.object "java/lang/Object")], none⟩ := by decide +kernel
theorem d_j32_m4_15 : decode jdk_32_method_4_code 15 = .ok (.invokespecial 23, 3) := by decide +kernel
theorem d_j32_m4_18 : decode jdk_32_method_4_code 18 = .ok (.areturn, 1) := by decide +kernel
theorem d_j32_m4_4 : decode jdk_32_method_4_code 4 = .ok (.getstatic 1, 3) := by decide +kernel
theorem d_j32_m4_7 : decode jdk_32_method_4_code 7 = .ok (.goto 11, 3) := by decide +kernel
theorem d_p47_m9_0 : decode prog_47_method_9_code 0 = .ok (.aload_n 0, 1) := by decide +kernel
theorem d_p47_m9_1 : decode prog_47_method_9_code 1 = .ok (.getfield 13, 3) := by decide +kernel
theorem pd__Ljava_lang_Object__Ljava_util_Optional__9874 : parseMethodDescriptor "(Ljava/lang/Object;)Ljava/util/Optional;" = some ⟨[(.object "java/lang/Object")], some (.object "java/util/Optional")⟩ := by decide +kernel
theorem d_p47_m9_4 : decode prog_47_method_9_code 4 = .ok (.invokestatic 84, 3) := by decide +kernel
theorem d_p47_m9_7 : decode prog_47_method_9_code 7 = .ok (.areturn, 1) := by decide +kernel
theorem d_p47_m10_0 : decode prog_47_method_10_code 0 = .ok (.aload_n 0, 1) := by decide +kernel
theorem d_p47_m10_1 : decode prog_47_method_10_code 1 = .ok (.getfield 17, 3) := by decide +kernel
theorem d_p47_m10_4 : decode prog_47_method_10_code 4 = .ok (.invokestatic 84, 3) := by decide +kernel
theorem d_p47_m10_7 : decode prog_47_method_10_code 7 = .ok (.areturn, 1) := by decide +kernel
theorem d_j32_m6_0 : decode jdk_32_method_6_code 0 = .ok (.aload_n 0, 1) := by decide +kernel
theorem d_j32_m6_1 : decode jdk_32_method_6_code 1 = .ok (.getfield 13, 3) := by decide +kernel
theorem d_j32_m6_4 : decode jdk_32_method_6_code 4 = .ok (.ifnull 7, 3) := by decide +kernel
theorem d_j32_m6_11 : decode jdk_32_method_6_code 11 = .ok (.iconst 0, 1) := by decide +kernel
theorem d_j32_m6_12 : decode jdk_32_method_6_code 12 = .ok (.ireturn, 1) := by decide +kernel
theorem d_j32_m6_7 : decode jdk_32_method_6_code 7 = .ok (.iconst 1, 1) := by decide +kernel
theorem d_j32_m6_8 : decode jdk_32_method_6_code 8 = .ok (.goto 4, 3) := by decide +kernel
theorem d_j32_m5_0 : decode jdk_32_method_5_code 0 = .ok (.aload_n 0, 1) := by decide +kernel
theorem d_j32_m5_1 : decode jdk_32_method_5_code 1 = .ok (.getfield 13, 3) := by decide +kernel
theorem d_j32_m5_4 : decode jdk_32_method_5_code 4 = .ok (.ifnonnull 13, 3) := by decide +kernel
theorem d_j32_m5_17 : decode jdk_32_method_5_code 17 = .ok (.aload_n 0, 1) := by decide +kernel
theorem d_j32_m5_18 : decode jdk_32_method_5_code 18 = .ok (.getfield 13, 3) := by decide +kernel
theorem d_j32_m5_21 : decode jdk_32_method_5_code 21 = .ok (.areturn, 1) := by decide +kernel
theorem d_j2649_m2_0 : decode jdk_2649_method_2_code 0 = .ok (.getstatic 17, 3) := by decide +kernel
theorem d_j2649_m2_3 : decode jdk_2649_method_2_code 3 = .ok (.areturn, 1) := by decide +kernel
theorem pn_OptionalInt_269 : plainName "java/util/OptionalInt" = true := by first | (simp [plainName, overriddenIn]; done) | decide +kernel
theorem d_p47_m11_0 : decode prog_47_method_11_code 0 = .ok (.aload_n 0, 1) := by decide +kernel
theorem d_p47_m11_1 : decode prog_47_method_11_code 1 = .ok (.getfield 7, 3) := by decide +kernel
theorem d_p47_m11_4 : decode prog_47_method_11_code 4 = .ok (.getstatic 74, 3) := by decide +kernel
theorem d_p47_m11_7 : decode prog_47_method_11_code 7 = .ok (.if_acmp .ne 13, 3) := by decide +kernel
theorem pd___Ljava_util_OptionalInt__4070 : parseMethodDescriptor "()Ljava/util/OptionalInt;" = some ⟨[], some (.object "java/util/OptionalInt")⟩ := by decide +kernel
theorem d_p47_m11_20 : decode prog_47_method_11_code 20 = .ok (.invokestatic 96, 3) := by decide +kernel
theorem d_p47_m11_23 : decode prog_47_method_11_code 23 = .ok (.areturn, 1) := by decide +kernel
theorem d_p47_m8_0 : decode prog_47_method_8_code 0 = .ok (.aload_n 0, 1) := by decide +kernel
theorem d_p47_m8_1 : decode prog_47_method_8_code 1 = .ok (.getfield 13, 3) := by decide +kernel
theorem d_p47_m8_4 : decode prog_47_method_8_code 4 = .ok (.ifnull 23, 3) := by decide +kernel
theorem d_p47_m8_27 : decode prog_47_method_8_code 27 = .ok (.iconst 0, 1) := by decide +kernel
theorem d_p47_m8_28 : decode prog_47_method_8_code 28 = .ok (.ireturn, 1) := by decide +kernel
theorem d_j31_m2_0 : decode jdk_31_method_2_code 0 = .ok (.aload_n 0, 1) := by decide +kernel
theorem d_j31_m2_1 : decode jdk_31_method_2_code 1 = .ok (.aload_n 1, 1) := by decide +kernel
theorem d_j31_m2_2 : decode jdk_31_method_2_code 2 = .ok (.if_acmp .eq 15, 3) := by decide +kernel
theorem d_j31_m2_17 : decode jdk_31_method_2_code 17 = .ok (.iconst 1, 1) := by decide +kernel
theorem d_j31_m2_18 : decode jdk_31_method_2_code 18 = .ok (.goto 4, 3) := by decide +kernel
theorem d_j31_m2_22 : decode jdk_31_method_2_code 22 = .ok (.ireturn, 1) := by decide +kernel
theorem d_p47_m12_0 : decode prog_47_method_12_code 0 = .ok (.aload_n 1, 1) := by decide +kernel
theorem d_p47_m12_1 : decode prog_47_method_12_code 1 = .ok (.instanceof 8, 3) := by decide +kernel
theorem d_p47_m12_4 : decode prog_47_method_12_code 4 = .ok (.ifCond .eq 59, 3) := by decide +kernel
theorem d_p47_m12_7 : decode prog_47_method_12_code 7 = .ok (.aload_n 1, 1) := by decide +kernel
theorem d_p47_m12_8 : decode prog_47_method_12_code 8 = .ok (.checkcast 8, 3) := by decide +kernel
theorem d_p47_m12_11 : decode prog_47_method_12_code 11 = .ok (.astore_n 2, 1) := by decide +kernel
theorem d_p47_m12_12 : decode prog_47_method_12_code 12 = .ok (.aload_n 0, 1) := by decide +kernel
theorem d_p47_m12_13 : decode prog_47_method_12_code 13 = .ok (.getfield 7, 3) := by decide +kernel
theorem d_p47_m12_16 : decode prog_47_method_12_code 16 = .ok (.aload_n 2, 1) := by decide +kernel
theorem d_p47_m12_17 : decode prog_47_method_12_code 17 = .ok (.getfield 7, 3) := by decide +kernel
theorem d_p47_m12_20 : decode prog_47_method_12_code 20 = .ok (.if_acmp .ne 43, 3) := by decide +kernel
theorem d_p47_m12_23 : decode prog_47_method_12_code 23 = .ok (.aload_n 0, 1) := by decide +kernel
theorem d_p47_m12_24 : decode prog_47_method_12_code 24 = .ok (.getfield 13, 3) := by decide +kernel
theorem d_p47_m12_27 : decode prog_47_method_12_code 27 = .ok (.aload_n 2, 1) := by decide +kernel
theorem d_p47_m12_28 : decode prog_47_method_12_code 28 = .ok (.getfield 13, 3) := by decide +kernel
theorem pd__Ljava_lang_Object_Ljava_lang_Object__Z_1294 : parseMethodDescriptor "(Ljava/lang/Object;Ljava/lang/Object;)Z" = some ⟨[(.object "java/lang/Object"), (.object "java/lang/Object")], some .boolean⟩ := by decide +kernel
theorem d_p47_m12_31 : decode prog_47_method_12_code 31 = .ok (.invokestatic 100, 3) := by decide +kernel
theorem d_p47_m12_34 : decode prog_47_method_12_code 34 = .ok (.ifCond .eq 29, 3) := by decide +kernel
theorem d_p47_m12_37 : decode prog_47_method_12_code 37 = .ok (.aload_n 0, 1) := by decide +kernel
theorem d_p47_m12_38 : decode prog_47_method_12_code 38 = .ok (.getfield 17, 3) := by decide +kernel
theorem d_p47_m12_41 : decode prog_47_method_12_code 41 = .ok (.aload_n 2, 1) := by decide +kernel
theorem d_p47_m12_42 : decode prog_47_method_12_code 42 = .ok (.getfield 17, 3) := by decide +kernel
theorem d_p47_m12_45 : decode prog_47_method_12_code 45 = .ok (.if_acmp .ne 18, 3) := by decide +kernel
theorem d_p47_m12_48 : decode prog_47_method_12_code 48 = .ok (.aload_n 0, 1) := by decide +kernel
theorem d_p47_m12_49 : decode prog_47_method_12_code 49 = .ok (.getfield 21, 3) := by decide +kernel
theorem d_p47_m12_52 : decode prog_47_method_12_code 52 = .ok (.aload_n 2, 1) := by decide +kernel
theorem d_p47_m12_53 : decode prog_47_method_12_code 53 = .ok (.getfield 21, 3) := by decide +kernel
theorem d_p47_m12_56 : decode prog_47_method_12_code 56 = .ok (.if_icmp .ne 7, 3) := by decide +kernel
theorem d_p47_m12_59 : decode prog_47_method_12_code 59 = .ok (.iconst 1, 1) := by decide +kernel
theorem d_p47_m12_60 : decode prog_47_method_12_code 60 = .ok (.goto 4, 3) := by decide +kernel
theorem d_p47_m12_64 : decode prog_47_method_12_code 64 = .ok (.ireturn, 1) := by decide +kernel
theorem d_p47_m12_63 : decode prog_47_method_12_code 63 = .ok (.iconst 0, 1) := by decide +kernel
theorem pd__I_Lcom_example_warrant_warrant_InvalidR_504 : parseMethodDescriptor "(I)Lcom/example/warrant/warrant/InvalidReason;" = some ⟨[.int], some (.object "com/example/warrant/warrant/InvalidReason")⟩ := by decide +kernel
theorem pd__Lcom_example_warrant_warrant_InvalidRea_8450 : parseMethodDescriptor "(Lcom/example/warrant/warrant/InvalidReason;)Lcom/example/warrant/warrant/Verdict;" = some ⟨[(.object "com/example/warrant/warrant/InvalidReason")], some (.object "com/example/warrant/warrant/Verdict")⟩ := by decide +kernel
theorem d_p47_m7_0 : decode prog_47_method_7_code 0 = .ok (.aload_n 0, 1) := by decide +kernel
theorem d_p47_m7_1 : decode prog_47_method_7_code 1 = .ok (.getfield 7, 3) := by decide +kernel
theorem d_p47_m7_4 : decode prog_47_method_7_code 4 = .ok (.areturn, 1) := by decide +kernel
theorem pd___Lcom_example_warrant_warrant_Verdict_K_868 : parseMethodDescriptor "()Lcom/example/warrant/warrant/Verdict$Kind;" = some ⟨[], some (.object "com/example/warrant/warrant/Verdict$Kind")⟩ := by decide +kernel
theorem pd___Ljava_util_Optional__2886 : parseMethodDescriptor "()Ljava/util/Optional;" = some ⟨[], some (.object "java/util/Optional")⟩ := by decide +kernel
theorem pd___Z_8338 : parseMethodDescriptor "()Z" = some ⟨[], some .boolean⟩ := by decide +kernel
theorem pd___Ljava_lang_Object__2200 : parseMethodDescriptor "()Ljava/lang/Object;" = some ⟨[], some (.object "java/lang/Object")⟩ := by decide +kernel
theorem d_j2649_m6_0 : decode jdk_2649_method_6_code 0 = .ok (.aload_n 0, 1) := by decide +kernel
theorem d_j2649_m6_1 : decode jdk_2649_method_6_code 1 = .ok (.getfield 7, 3) := by decide +kernel
theorem d_j2649_m6_4 : decode jdk_2649_method_6_code 4 = .ok (.ireturn, 1) := by decide +kernel
theorem pd__Ljava_lang_Object__Z_1715 : parseMethodDescriptor "(Ljava/lang/Object;)Z" = some ⟨[(.object "java/lang/Object")], some .boolean⟩ := by decide +kernel
set_option maxRecDepth 65536 in
set_option maxHeartbeats 40000000 in
theorem ct_pick (l : Launch) (Z : State) (a0 : Array Value) (hw : ∀ d ∈ tables_1, d.before a0 Z = true) (w_BAD_SIGNATURE : Addr) (w_MALFORMED : Addr) (w_CODE_MISMATCH : Addr) (w_NONCE_MISMATCH : Addr) (w_PACKAGE_MISMATCH : Addr) (w_VERSION_MISMATCH : Addr) (w_AE : Addr) (w_IN : Addr) (w_EM : Addr) (w_EI : Addr) (S_BAD_SIGNATURE : Sta Z Z.heap "com/example/warrant/warrant/InvalidReason" "BAD_SIGNATURE" "Lcom/example/warrant/warrant/InvalidReason;" (.ref w_BAD_SIGNATURE)) (S_MALFORMED : Sta Z Z.heap "com/example/warrant/warrant/InvalidReason" "MALFORMED" "Lcom/example/warrant/warrant/InvalidReason;" (.ref w_MALFORMED)) (S_CODE_MISMATCH : Sta Z Z.heap "com/example/warrant/warrant/InvalidReason" "CODE_MISMATCH" "Lcom/example/warrant/warrant/InvalidReason;" (.ref w_CODE_MISMATCH)) (S_NONCE_MISMATCH : Sta Z Z.heap "com/example/warrant/warrant/InvalidReason" "NONCE_MISMATCH" "Lcom/example/warrant/warrant/InvalidReason;" (.ref w_NONCE_MISMATCH)) (S_PACKAGE_MISMATCH : Sta Z Z.heap "com/example/warrant/warrant/InvalidReason" "PACKAGE_MISMATCH" "Lcom/example/warrant/warrant/InvalidReason;" (.ref w_PACKAGE_MISMATCH)) (S_VERSION_MISMATCH : Sta Z Z.heap "com/example/warrant/warrant/InvalidReason" "VERSION_MISMATCH" "Lcom/example/warrant/warrant/InvalidReason;" (.ref w_VERSION_MISMATCH)) (E_BAD_SIGNATURE : Exa Z Z.heap w_BAD_SIGNATURE "com/example/warrant/warrant/InvalidReason") (E_MALFORMED : Exa Z Z.heap w_MALFORMED "com/example/warrant/warrant/InvalidReason") (E_CODE_MISMATCH : Exa Z Z.heap w_CODE_MISMATCH "com/example/warrant/warrant/InvalidReason") (E_NONCE_MISMATCH : Exa Z Z.heap w_NONCE_MISMATCH "com/example/warrant/warrant/InvalidReason") (E_PACKAGE_MISMATCH : Exa Z Z.heap w_PACKAGE_MISMATCH "com/example/warrant/warrant/InvalidReason") (E_VERSION_MISMATCH : Exa Z Z.heap w_VERSION_MISMATCH "com/example/warrant/warrant/InvalidReason") (F_BAD_SIGNATURE : Fld Z Z.heap w_BAD_SIGNATURE "java/lang/Enum" "ordinal" "I" (.int (0 : Int32))) (F_MALFORMED : Fld Z Z.heap w_MALFORMED "java/lang/Enum" "ordinal" "I" (.int (1 : Int32))) (F_CODE_MISMATCH : Fld Z Z.heap w_CODE_MISMATCH "java/lang/Enum" "ordinal" "I" (.int (2 : Int32))) (F_NONCE_MISMATCH : Fld Z Z.heap w_NONCE_MISMATCH "java/lang/Enum" "ordinal" "I" (.int (3 : Int32))) (F_PACKAGE_MISMATCH : Fld Z Z.heap w_PACKAGE_MISMATCH "java/lang/Enum" "ordinal" "I" (.int (4 : Int32))) (F_VERSION_MISMATCH : Fld Z Z.heap w_VERSION_MISMATCH "java/lang/Enum" "ordinal" "I" (.int (5 : Int32))) (S_AE : Sta Z Z.heap "com/example/warrant/warrant/Verdict$Kind" "APPLICATION_ERROR" "Lcom/example/warrant/warrant/Verdict$Kind;" (.ref w_AE)) (S_IN : Sta Z Z.heap "com/example/warrant/warrant/Verdict$Kind" "INVALID" "Lcom/example/warrant/warrant/Verdict$Kind;" (.ref w_IN)) (neK : w_IN ≠ w_AE) (S_EM : Sta Z Z.heap "java/util/Optional" "EMPTY" "Ljava/util/Optional;" (.ref w_EM)) (E_EM : Exa Z Z.heap w_EM "java/util/Optional") (F_EM : Fld Z Z.heap w_EM "java/util/Optional" "value" "Ljava/lang/Object;" .null) (S_EI : Sta Z Z.heap "java/util/OptionalInt" "EMPTY" "Ljava/util/OptionalInt;" (.ref w_EI)) (E_EI : Exa Z Z.heap w_EI "java/util/OptionalInt") (F_EI : Fld Z Z.heap w_EI "java/util/OptionalInt" "isPresent" "Z" (.int (0 : Int32))) (z1 : Int32) (h0 : Heap) (n0 : Nat) (O : Old Z n0 h0) (hz : 0 ≤ z1.toInt ∧ z1.toInt ≤ 5) :
    Ct l (⟨"com/example/warrant/warrant/VerdictInvalidPinLaw", "pick", "(I)Lcom/example/warrant/warrant/InvalidReason;"⟩ : MethodName) method_2_code 1 (some (.object "com/example/warrant/warrant/InvalidReason")) ({ frames := 0, cells := 0, slots := 0, locals := 0 } : Room) Z #[(.int z1)] h0 (fun v h L => ∃ r, v = some (.ref r) ∧ Fr n0 L ∧ h0 = h ∧ Exa Z Z.heap r "com/example/warrant/warrant/InvalidReason" ∧ Fld Z Z.heap r "java/lang/Enum" "ordinal" "I" (.int z1)) := by
  refine Ct.of (plainFor_of_name pn_VerdictInvalidPinLaw_944) ?_
  intro p e s m below meth c T0 X0 hx hby hml hown hnm hret hlk hZ e0
  have hown : s.vm.findClass "com/example/warrant/warrant/VerdictInvalidPinLaw" = some m.cls := hown
  have hml : c.maxLocals = 1 := hml
  have N0 := Fr.nil n0
  refine Go.cast (g' := mkF m 0 #[.val (.int z1)] []) (by first | (simp [entryFrame, mkF, argsToLocals, Value.category]; done) | rfl) ?_
  refine Go.by (T' := T0) (g' := (mkF m 1 #[.val (.int z1)] [(.int z1)])) (fun t k => ?_) ?_
  · show Steps p.tables e below (T0.setTop (mkF m 0 #[.val (.int z1)] [])) _
    refine XS.iloadN X0.here hx rfl (hb hby d_m2_0) rfl ?_
    exact k
  by_cases hy1 : z1 = (0 : Int32)
  · skip
    refine Go.by (T' := T0) (g' := (mkF m 4 #[.val (.int z1)] [])) (fun t k => ?_) ?_
    · show Steps p.tables e below (T0.setTop (mkF m 1 #[.val (.int z1)] [(.int z1)])) _
      refine XS.ifNo X0.here hx rfl (hb hby d_m2_1) rfl ((if0 _ _).trans (teq hy1).2) ?_
      exact k
    refine Go.getS X0 hx hZ hown (wd hw 5 rfl) Via.refl e0 (S_BAD_SIGNATURE.ext O.2) (hb hby d_m2_4) ?_
    intro T2 X2 e2
    show Go p e below _ T2 (mkF m 7 #[.val (.int z1)] [(.ref w_BAD_SIGNATURE)])
    refine Go.retA X2 hx hlk hret rfl rfl (hb hby d_m2_7) (by decide) (by decide) e2 ?_
    exact ⟨w_BAD_SIGNATURE, rfl, N0, rfl, E_BAD_SIGNATURE, by rw [hy1]; exact F_BAD_SIGNATURE⟩
  · skip
    refine Go.by (T' := T0) (g' := (mkF m 10 #[.val (.int z1)] [(.int (1 : Int32)), (.int z1)])) (fun t k => ?_) ?_
    · show Steps p.tables e below (T0.setTop (mkF m 1 #[.val (.int z1)] [(.int z1)])) _
      refine XS.ifYes X0.here hx rfl (pc0 := 1) (pc' := 8) rfl (hb hby d_m2_1) rfl ((if0 _ _).trans (feq hy1).2) (by decide) (by decide) ?_
      show Steps p.tables e below (T0.setTop (mkF m 8 #[.val (.int z1)] [])) _
      refine XS.iloadN X0.here hx rfl (hb hby d_m2_8) rfl ?_
      show Steps p.tables e below (T0.setTop (mkF m 9 #[.val (.int z1)] [(.int z1)])) _
      refine XS.iconst X0.here hx rfl (hb hby d_m2_9) ?_
      exact k
    by_cases hy3 : z1 = (1 : Int32)
    · skip
      refine Go.by (T' := T0) (g' := (mkF m 13 #[.val (.int z1)] [])) (fun t k => ?_) ?_
      · show Steps p.tables e below (T0.setTop (mkF m 10 #[.val (.int z1)] [(.int (1 : Int32)), (.int z1)])) _
        refine XS.icmpNo X0.here hx rfl (hb hby d_m2_10) rfl (teq hy3).2 ?_
        exact k
      refine Go.getS X0 hx hZ hown (wd hw 124 rfl) Via.refl e0 (S_MALFORMED.ext O.2) (hb hby d_m2_13) ?_
      intro T4 X4 e4
      show Go p e below _ T4 (mkF m 16 #[.val (.int z1)] [(.ref w_MALFORMED)])
      refine Go.retA X4 hx hlk hret rfl rfl (hb hby d_m2_16) (by decide) (by decide) e4 ?_
      exact ⟨w_MALFORMED, rfl, N0, rfl, E_MALFORMED, by rw [hy3]; exact F_MALFORMED⟩
    · skip
      refine Go.by (T' := T0) (g' := (mkF m 19 #[.val (.int z1)] [(.int (2 : Int32)), (.int z1)])) (fun t k => ?_) ?_
      · show Steps p.tables e below (T0.setTop (mkF m 10 #[.val (.int z1)] [(.int (1 : Int32)), (.int z1)])) _
        refine XS.icmpYes X0.here hx rfl (pc0 := 10) (pc' := 17) rfl (hb hby d_m2_10) rfl (feq hy3).2 (by decide) (by decide) ?_
        show Steps p.tables e below (T0.setTop (mkF m 17 #[.val (.int z1)] [])) _
        refine XS.iloadN X0.here hx rfl (hb hby d_m2_17) rfl ?_
        show Steps p.tables e below (T0.setTop (mkF m 18 #[.val (.int z1)] [(.int z1)])) _
        refine XS.iconst X0.here hx rfl (hb hby d_m2_18) ?_
        exact k
      by_cases hy5 : z1 = (2 : Int32)
      · skip
        refine Go.by (T' := T0) (g' := (mkF m 22 #[.val (.int z1)] [])) (fun t k => ?_) ?_
        · show Steps p.tables e below (T0.setTop (mkF m 19 #[.val (.int z1)] [(.int (2 : Int32)), (.int z1)])) _
          refine XS.icmpNo X0.here hx rfl (hb hby d_m2_19) rfl (teq hy5).2 ?_
          exact k
        refine Go.getS X0 hx hZ hown (wd hw 120 rfl) Via.refl e0 (S_CODE_MISMATCH.ext O.2) (hb hby d_m2_22) ?_
        intro T6 X6 e6
        show Go p e below _ T6 (mkF m 25 #[.val (.int z1)] [(.ref w_CODE_MISMATCH)])
        refine Go.retA X6 hx hlk hret rfl rfl (hb hby d_m2_25) (by decide) (by decide) e6 ?_
        exact ⟨w_CODE_MISMATCH, rfl, N0, rfl, E_CODE_MISMATCH, by rw [hy5]; exact F_CODE_MISMATCH⟩
      · skip
        refine Go.by (T' := T0) (g' := (mkF m 28 #[.val (.int z1)] [(.int (3 : Int32)), (.int z1)])) (fun t k => ?_) ?_
        · show Steps p.tables e below (T0.setTop (mkF m 19 #[.val (.int z1)] [(.int (2 : Int32)), (.int z1)])) _
          refine XS.icmpYes X0.here hx rfl (pc0 := 19) (pc' := 26) rfl (hb hby d_m2_19) rfl (feq hy5).2 (by decide) (by decide) ?_
          show Steps p.tables e below (T0.setTop (mkF m 26 #[.val (.int z1)] [])) _
          refine XS.iloadN X0.here hx rfl (hb hby d_m2_26) rfl ?_
          show Steps p.tables e below (T0.setTop (mkF m 27 #[.val (.int z1)] [(.int z1)])) _
          refine XS.iconst X0.here hx rfl (hb hby d_m2_27) ?_
          exact k
        by_cases hy7 : z1 = (3 : Int32)
        · skip
          refine Go.by (T' := T0) (g' := (mkF m 31 #[.val (.int z1)] [])) (fun t k => ?_) ?_
          · show Steps p.tables e below (T0.setTop (mkF m 28 #[.val (.int z1)] [(.int (3 : Int32)), (.int z1)])) _
            refine XS.icmpNo X0.here hx rfl (hb hby d_m2_28) rfl (teq hy7).2 ?_
            exact k
          refine Go.getS X0 hx hZ hown (wd hw 126 rfl) Via.refl e0 (S_NONCE_MISMATCH.ext O.2) (hb hby d_m2_31) ?_
          intro T8 X8 e8
          show Go p e below _ T8 (mkF m 34 #[.val (.int z1)] [(.ref w_NONCE_MISMATCH)])
          refine Go.retA X8 hx hlk hret rfl rfl (hb hby d_m2_34) (by decide) (by decide) e8 ?_
          exact ⟨w_NONCE_MISMATCH, rfl, N0, rfl, E_NONCE_MISMATCH, by rw [hy7]; exact F_NONCE_MISMATCH⟩
        · skip
          refine Go.by (T' := T0) (g' := (mkF m 37 #[.val (.int z1)] [(.int (4 : Int32)), (.int z1)])) (fun t k => ?_) ?_
          · show Steps p.tables e below (T0.setTop (mkF m 28 #[.val (.int z1)] [(.int (3 : Int32)), (.int z1)])) _
            refine XS.icmpYes X0.here hx rfl (pc0 := 28) (pc' := 35) rfl (hb hby d_m2_28) rfl (feq hy7).2 (by decide) (by decide) ?_
            show Steps p.tables e below (T0.setTop (mkF m 35 #[.val (.int z1)] [])) _
            refine XS.iloadN X0.here hx rfl (hb hby d_m2_35) rfl ?_
            show Steps p.tables e below (T0.setTop (mkF m 36 #[.val (.int z1)] [(.int z1)])) _
            refine XS.iconst X0.here hx rfl (hb hby d_m2_36) ?_
            exact k
          by_cases hy9 : z1 = (4 : Int32)
          · skip
            refine Go.by (T' := T0) (g' := (mkF m 40 #[.val (.int z1)] [])) (fun t k => ?_) ?_
            · show Steps p.tables e below (T0.setTop (mkF m 37 #[.val (.int z1)] [(.int (4 : Int32)), (.int z1)])) _
              refine XS.icmpNo X0.here hx rfl (hb hby d_m2_37) rfl (teq hy9).2 ?_
              exact k
            refine Go.getS X0 hx hZ hown (wd hw 8 rfl) Via.refl e0 (S_PACKAGE_MISMATCH.ext O.2) (hb hby d_m2_40) ?_
            intro T10 X10 e10
            show Go p e below _ T10 (mkF m 43 #[.val (.int z1)] [(.ref w_PACKAGE_MISMATCH)])
            refine Go.retA X10 hx hlk hret rfl rfl (hb hby d_m2_43) (by decide) (by decide) e10 ?_
            exact ⟨w_PACKAGE_MISMATCH, rfl, N0, rfl, E_PACKAGE_MISMATCH, by rw [hy9]; exact F_PACKAGE_MISMATCH⟩
          · skip
            refine Go.by (T' := T0) (g' := (mkF m 44 #[.val (.int z1)] [])) (fun t k => ?_) ?_
            · show Steps p.tables e below (T0.setTop (mkF m 37 #[.val (.int z1)] [(.int (4 : Int32)), (.int z1)])) _
              refine XS.icmpYes X0.here hx rfl (pc0 := 37) (pc' := 44) rfl (hb hby d_m2_37) rfl (feq hy9).2 (by decide) (by decide) ?_
              exact k
            refine Go.getS X0 hx hZ hown (wd hw 122 rfl) Via.refl e0 (S_VERSION_MISMATCH.ext O.2) (hb hby d_m2_44) ?_
            intro T11 X11 e11
            show Go p e below _ T11 (mkF m 47 #[.val (.int z1)] [(.ref w_VERSION_MISMATCH)])
            refine Go.retA X11 hx hlk hret rfl rfl (hb hby d_m2_47) (by decide) (by decide) e11 ?_
            exact ⟨w_VERSION_MISMATCH, rfl, N0, rfl, E_VERSION_MISMATCH, by rw [own_five hz hy1 hy3 hy5 hy7 hy9]; exact F_VERSION_MISMATCH⟩
set_option maxRecDepth 65536 in
set_option maxHeartbeats 40000000 in
theorem ct_rnn (l : Launch) (Z : State) (a0 : Array Value) (hw : ∀ d ∈ tables_1, d.before a0 Z = true) (w_BAD_SIGNATURE : Addr) (w_MALFORMED : Addr) (w_CODE_MISMATCH : Addr) (w_NONCE_MISMATCH : Addr) (w_PACKAGE_MISMATCH : Addr) (w_VERSION_MISMATCH : Addr) (w_AE : Addr) (w_IN : Addr) (w_EM : Addr) (w_EI : Addr) (S_BAD_SIGNATURE : Sta Z Z.heap "com/example/warrant/warrant/InvalidReason" "BAD_SIGNATURE" "Lcom/example/warrant/warrant/InvalidReason;" (.ref w_BAD_SIGNATURE)) (S_MALFORMED : Sta Z Z.heap "com/example/warrant/warrant/InvalidReason" "MALFORMED" "Lcom/example/warrant/warrant/InvalidReason;" (.ref w_MALFORMED)) (S_CODE_MISMATCH : Sta Z Z.heap "com/example/warrant/warrant/InvalidReason" "CODE_MISMATCH" "Lcom/example/warrant/warrant/InvalidReason;" (.ref w_CODE_MISMATCH)) (S_NONCE_MISMATCH : Sta Z Z.heap "com/example/warrant/warrant/InvalidReason" "NONCE_MISMATCH" "Lcom/example/warrant/warrant/InvalidReason;" (.ref w_NONCE_MISMATCH)) (S_PACKAGE_MISMATCH : Sta Z Z.heap "com/example/warrant/warrant/InvalidReason" "PACKAGE_MISMATCH" "Lcom/example/warrant/warrant/InvalidReason;" (.ref w_PACKAGE_MISMATCH)) (S_VERSION_MISMATCH : Sta Z Z.heap "com/example/warrant/warrant/InvalidReason" "VERSION_MISMATCH" "Lcom/example/warrant/warrant/InvalidReason;" (.ref w_VERSION_MISMATCH)) (E_BAD_SIGNATURE : Exa Z Z.heap w_BAD_SIGNATURE "com/example/warrant/warrant/InvalidReason") (E_MALFORMED : Exa Z Z.heap w_MALFORMED "com/example/warrant/warrant/InvalidReason") (E_CODE_MISMATCH : Exa Z Z.heap w_CODE_MISMATCH "com/example/warrant/warrant/InvalidReason") (E_NONCE_MISMATCH : Exa Z Z.heap w_NONCE_MISMATCH "com/example/warrant/warrant/InvalidReason") (E_PACKAGE_MISMATCH : Exa Z Z.heap w_PACKAGE_MISMATCH "com/example/warrant/warrant/InvalidReason") (E_VERSION_MISMATCH : Exa Z Z.heap w_VERSION_MISMATCH "com/example/warrant/warrant/InvalidReason") (F_BAD_SIGNATURE : Fld Z Z.heap w_BAD_SIGNATURE "java/lang/Enum" "ordinal" "I" (.int (0 : Int32))) (F_MALFORMED : Fld Z Z.heap w_MALFORMED "java/lang/Enum" "ordinal" "I" (.int (1 : Int32))) (F_CODE_MISMATCH : Fld Z Z.heap w_CODE_MISMATCH "java/lang/Enum" "ordinal" "I" (.int (2 : Int32))) (F_NONCE_MISMATCH : Fld Z Z.heap w_NONCE_MISMATCH "java/lang/Enum" "ordinal" "I" (.int (3 : Int32))) (F_PACKAGE_MISMATCH : Fld Z Z.heap w_PACKAGE_MISMATCH "java/lang/Enum" "ordinal" "I" (.int (4 : Int32))) (F_VERSION_MISMATCH : Fld Z Z.heap w_VERSION_MISMATCH "java/lang/Enum" "ordinal" "I" (.int (5 : Int32))) (S_AE : Sta Z Z.heap "com/example/warrant/warrant/Verdict$Kind" "APPLICATION_ERROR" "Lcom/example/warrant/warrant/Verdict$Kind;" (.ref w_AE)) (S_IN : Sta Z Z.heap "com/example/warrant/warrant/Verdict$Kind" "INVALID" "Lcom/example/warrant/warrant/Verdict$Kind;" (.ref w_IN)) (neK : w_IN ≠ w_AE) (S_EM : Sta Z Z.heap "java/util/Optional" "EMPTY" "Ljava/util/Optional;" (.ref w_EM)) (E_EM : Exa Z Z.heap w_EM "java/util/Optional") (F_EM : Fld Z Z.heap w_EM "java/util/Optional" "value" "Ljava/lang/Object;" .null) (S_EI : Sta Z Z.heap "java/util/OptionalInt" "EMPTY" "Ljava/util/OptionalInt;" (.ref w_EI)) (E_EI : Exa Z Z.heap w_EI "java/util/OptionalInt") (F_EI : Fld Z Z.heap w_EI "java/util/OptionalInt" "isPresent" "Z" (.int (0 : Int32))) (a1 : Addr) (a2 : Addr) (h0 : Heap) (n0 : Nat) (O : Old Z n0 h0)  :
    Ct l (⟨"java/util/Objects", "requireNonNull", "(Ljava/lang/Object;Ljava/lang/String;)Ljava/lang/Object;"⟩ : MethodName) jdk_31_method_11_code 2 (some (.object "java/lang/Object")) ({ frames := 0, cells := 0, slots := 0, locals := 0 } : Room) Z #[(.ref a1), (.ref a2)] h0 (fun v h L => v = some (.ref a1) ∧ Fr n0 L ∧ h0 = h) := by
  refine Ct.of (plainFor_of_name pn_Objects_297) ?_
  intro p e s m below meth c T0 X0 hx hby hml hown hnm hret hlk hZ e0
  have hown : s.vm.findClass "java/util/Objects" = some m.cls := hown
  have hml : c.maxLocals = 2 := hml
  have N0 := Fr.nil n0
  refine Go.cast (g' := mkF m 0 #[.val (.ref a1), .val (.ref a2)] []) (by first | (simp [entryFrame, mkF, argsToLocals, Value.category]; done) | rfl) ?_
  refine Go.by (T' := T0) (g' := (mkF m 14 #[.val (.ref a1), .val (.ref a2)] [(.ref a1)])) (fun t k => ?_) ?_
  · show Steps p.tables e below (T0.setTop (mkF m 0 #[.val (.ref a1), .val (.ref a2)] [])) _
    refine XS.aloadN X0.here hx rfl (hb hby d_j31_m11_0) rfl rfl ?_
    show Steps p.tables e below (T0.setTop (mkF m 1 #[.val (.ref a1), .val (.ref a2)] [(.ref a1)])) _
    refine XS.ifnonnullYes X0.here hx rfl (pc0 := 1) (pc' := 13) rfl (hb hby d_j31_m11_1) rfl (by decide) (by decide) ?_
    show Steps p.tables e below (T0.setTop (mkF m 13 #[.val (.ref a1), .val (.ref a2)] [])) _
    refine XS.aloadN X0.here hx rfl (hb hby d_j31_m11_13) rfl rfl ?_
    exact k
  refine Go.retA X0 hx hlk hret rfl rfl (hb hby d_j31_m11_14) (by decide) (by decide) e0 ?_
  exact ⟨rfl, N0, rfl⟩
set_option maxRecDepth 65536 in
set_option maxHeartbeats 40000000 in
theorem ct_vinit (l : Launch) (Z : State) (a0 : Array Value) (hw : ∀ d ∈ tables_1, d.before a0 Z = true) (w_BAD_SIGNATURE : Addr) (w_MALFORMED : Addr) (w_CODE_MISMATCH : Addr) (w_NONCE_MISMATCH : Addr) (w_PACKAGE_MISMATCH : Addr) (w_VERSION_MISMATCH : Addr) (w_AE : Addr) (w_IN : Addr) (w_EM : Addr) (w_EI : Addr) (S_BAD_SIGNATURE : Sta Z Z.heap "com/example/warrant/warrant/InvalidReason" "BAD_SIGNATURE" "Lcom/example/warrant/warrant/InvalidReason;" (.ref w_BAD_SIGNATURE)) (S_MALFORMED : Sta Z Z.heap "com/example/warrant/warrant/InvalidReason" "MALFORMED" "Lcom/example/warrant/warrant/InvalidReason;" (.ref w_MALFORMED)) (S_CODE_MISMATCH : Sta Z Z.heap "com/example/warrant/warrant/InvalidReason" "CODE_MISMATCH" "Lcom/example/warrant/warrant/InvalidReason;" (.ref w_CODE_MISMATCH)) (S_NONCE_MISMATCH : Sta Z Z.heap "com/example/warrant/warrant/InvalidReason" "NONCE_MISMATCH" "Lcom/example/warrant/warrant/InvalidReason;" (.ref w_NONCE_MISMATCH)) (S_PACKAGE_MISMATCH : Sta Z Z.heap "com/example/warrant/warrant/InvalidReason" "PACKAGE_MISMATCH" "Lcom/example/warrant/warrant/InvalidReason;" (.ref w_PACKAGE_MISMATCH)) (S_VERSION_MISMATCH : Sta Z Z.heap "com/example/warrant/warrant/InvalidReason" "VERSION_MISMATCH" "Lcom/example/warrant/warrant/InvalidReason;" (.ref w_VERSION_MISMATCH)) (E_BAD_SIGNATURE : Exa Z Z.heap w_BAD_SIGNATURE "com/example/warrant/warrant/InvalidReason") (E_MALFORMED : Exa Z Z.heap w_MALFORMED "com/example/warrant/warrant/InvalidReason") (E_CODE_MISMATCH : Exa Z Z.heap w_CODE_MISMATCH "com/example/warrant/warrant/InvalidReason") (E_NONCE_MISMATCH : Exa Z Z.heap w_NONCE_MISMATCH "com/example/warrant/warrant/InvalidReason") (E_PACKAGE_MISMATCH : Exa Z Z.heap w_PACKAGE_MISMATCH "com/example/warrant/warrant/InvalidReason") (E_VERSION_MISMATCH : Exa Z Z.heap w_VERSION_MISMATCH "com/example/warrant/warrant/InvalidReason") (F_BAD_SIGNATURE : Fld Z Z.heap w_BAD_SIGNATURE "java/lang/Enum" "ordinal" "I" (.int (0 : Int32))) (F_MALFORMED : Fld Z Z.heap w_MALFORMED "java/lang/Enum" "ordinal" "I" (.int (1 : Int32))) (F_CODE_MISMATCH : Fld Z Z.heap w_CODE_MISMATCH "java/lang/Enum" "ordinal" "I" (.int (2 : Int32))) (F_NONCE_MISMATCH : Fld Z Z.heap w_NONCE_MISMATCH "java/lang/Enum" "ordinal" "I" (.int (3 : Int32))) (F_PACKAGE_MISMATCH : Fld Z Z.heap w_PACKAGE_MISMATCH "java/lang/Enum" "ordinal" "I" (.int (4 : Int32))) (F_VERSION_MISMATCH : Fld Z Z.heap w_VERSION_MISMATCH "java/lang/Enum" "ordinal" "I" (.int (5 : Int32))) (S_AE : Sta Z Z.heap "com/example/warrant/warrant/Verdict$Kind" "APPLICATION_ERROR" "Lcom/example/warrant/warrant/Verdict$Kind;" (.ref w_AE)) (S_IN : Sta Z Z.heap "com/example/warrant/warrant/Verdict$Kind" "INVALID" "Lcom/example/warrant/warrant/Verdict$Kind;" (.ref w_IN)) (neK : w_IN ≠ w_AE) (S_EM : Sta Z Z.heap "java/util/Optional" "EMPTY" "Ljava/util/Optional;" (.ref w_EM)) (E_EM : Exa Z Z.heap w_EM "java/util/Optional") (F_EM : Fld Z Z.heap w_EM "java/util/Optional" "value" "Ljava/lang/Object;" .null) (S_EI : Sta Z Z.heap "java/util/OptionalInt" "EMPTY" "Ljava/util/OptionalInt;" (.ref w_EI)) (E_EI : Exa Z Z.heap w_EI "java/util/OptionalInt") (F_EI : Fld Z Z.heap w_EI "java/util/OptionalInt" "isPresent" "Z" (.int (0 : Int32))) (a1 : Addr) (a2 : Addr) (a3 : Addr) (h0 : Heap) (n0 : Nat) (O : Old Z n0 h0) (E_a1 : Exa Z h0 a1 "com/example/warrant/warrant/Verdict") (F_a1_kind : Fld Z h0 a1 "com/example/warrant/warrant/Verdict" "kind" "Lcom/example/warrant/warrant/Verdict$Kind;" .null) (F_a1_signedData : Fld Z h0 a1 "com/example/warrant/warrant/Verdict" "signedData" "Lcom/example/warrant/warrant/SignedData;" .null) (F_a1_invalidReason : Fld Z h0 a1 "com/example/warrant/warrant/Verdict" "invalidReason" "Lcom/example/warrant/warrant/InvalidReason;" .null) (F_a1_applicationErrorCode : Fld Z h0 a1 "com/example/warrant/warrant/Verdict" "applicationErrorCode" "I" (.int (0 : Int32))) (g_a1 : n0 ≤ a1) :
    Ct l (⟨"com/example/warrant/warrant/Verdict", "<init>", "(Lcom/example/warrant/warrant/Verdict$Kind;Lcom/example/warrant/warrant/SignedData;Lcom/example/warrant/warrant/InvalidReason;I)V"⟩ : MethodName) prog_47_method_1_code 5 none ({ frames := 1, cells := 0, slots := 0, locals := 12 } : Room) Z #[(.ref a1), (.ref a2), .null, (.ref a3), (.int (0 : Int32))] h0 (fun v h L => v = none ∧ Fr n0 L ∧ Keep h0 h [a1] ∧ Fld Z h a1 "com/example/warrant/warrant/Verdict" "kind" "Lcom/example/warrant/warrant/Verdict$Kind;" (.ref a2) ∧ Fld Z h a1 "com/example/warrant/warrant/Verdict" "signedData" "Lcom/example/warrant/warrant/SignedData;" .null ∧ Fld Z h a1 "com/example/warrant/warrant/Verdict" "invalidReason" "Lcom/example/warrant/warrant/InvalidReason;" (.ref a3) ∧ Fld Z h a1 "com/example/warrant/warrant/Verdict" "applicationErrorCode" "I" (.int (0 : Int32))) := by
  refine Ct.of (plainFor_of_name pn_Verdict_984) ?_
  intro p e s m below meth c T0 X0 hx hby hml hown hnm hret hlk hZ e0
  have hown : s.vm.findClass "com/example/warrant/warrant/Verdict" = some m.cls := hown
  have hml : c.maxLocals = 5 := hml
  have N0 := Fr.nil n0
  refine Go.cast (g' := mkF m 0 #[.val (.ref a1), .val (.ref a2), .val .null, .val (.ref a3), .val (.int (0 : Int32))] []) (by first | (simp [entryFrame, mkF, argsToLocals, Value.category]; done) | rfl) ?_
  have K : Keep h0 h0 [a1] := Keep.refl _ _
  refine Go.by (T' := T0) (g' := (mkF m 1 #[.val (.ref a1), .val (.ref a2), .val .null, .val (.ref a3), .val (.int (0 : Int32))] [(.ref a1)])) (fun t k => ?_) ?_
  · show Steps p.tables e below (T0.setTop (mkF m 0 #[.val (.ref a1), .val (.ref a2), .val .null, .val (.ref a3), .val (.int (0 : Int32))] [])) _
    refine XS.aloadN X0.here hx rfl (hb hby d_p47_m1_0) rfl rfl ?_
    exact k
  refine Go.initO X0 hx hZ hown (wd hw 36 rfl) (wd hw 37 rfl) (wd hw 38 rfl) e0 (by rw [hml]; rfl) (hb hby d_p47_m1_1) (by decide) (W := 0) rfl (by decide) ?_
  intro T1 X1 e1
  show Go p e below _ T1 (mkF m 4 #[.val (.ref a1), .val (.ref a2), .val .null, .val (.ref a3), .val (.int (0 : Int32))] [])
  refine Go.by (T' := T1) (g' := (mkF m 6 #[.val (.ref a1), .val (.ref a2), .val .null, .val (.ref a3), .val (.int (0 : Int32))] [(.ref a2), (.ref a1)])) (fun t k => ?_) ?_
  · show Steps p.tables e below (T1.setTop (mkF m 4 #[.val (.ref a1), .val (.ref a2), .val .null, .val (.ref a3), .val (.int (0 : Int32))] [])) _
    refine XS.aloadN X1.here hx rfl (hb hby d_p47_m1_4) rfl rfl ?_
    show Steps p.tables e below (T1.setTop (mkF m 5 #[.val (.ref a1), .val (.ref a2), .val .null, .val (.ref a3), .val (.int (0 : Int32))] [(.ref a1)])) _
    refine XS.aloadN X1.here hx rfl (hb hby d_p47_m1_5) rfl rfl ?_
    exact k
  refine Go.putF X1 hx hZ hown (wd hw 39 rfl) Via.refl e1 F_a1_kind E_a1 (Or.inr ⟨(wd hw 40 rfl), rfl, hnm⟩) (wd hw 15 rfl) (ty := (.object "com/example/warrant/warrant/Verdict$Kind")) (by decide) rfl rfl (hb hby d_p47_m1_6) ?_
  intro T2 h2 X2 e2 W2
  replace E_a1 := E_a1.wr W2
  replace F_a1_kind := F_a1_kind.same W2
  replace F_a1_signedData := F_a1_signedData.other W2 (Or.inr (slot_ne (a0 := a0) (Or.inr (wd hw 42 rfl)) (Or.inr (wd hw 40 rfl)) (by decide) (t := (.object "com/example/warrant/warrant/SignedData")) (t' := (.object "com/example/warrant/warrant/Verdict$Kind")) (by decide) (by decide)))
  replace F_a1_invalidReason := F_a1_invalidReason.other W2 (Or.inr (slot_ne (a0 := a0) (Or.inr (wd hw 44 rfl)) (Or.inr (wd hw 40 rfl)) (by decide) (t := (.object "com/example/warrant/warrant/InvalidReason")) (t' := (.object "com/example/warrant/warrant/Verdict$Kind")) (by decide) (by decide)))
  replace F_a1_applicationErrorCode := F_a1_applicationErrorCode.other W2 (Or.inr (slot_ne (a0 := a0) (Or.inr (wd hw 46 rfl)) (Or.inr (wd hw 40 rfl)) (by decide) (t := .int) (t' := (.object "com/example/warrant/warrant/Verdict$Kind")) (by decide) (by decide)))
  replace O := O.wr W2 g_a1
  have N2 := Fr.snoc X2 N0 g_a1
  replace K := K.wr W2 (Or.inl (List.mem_of_getElem? (i := 0) rfl))
  show Go p e below _ T2 (mkF m 9 #[.val (.ref a1), .val (.ref a2), .val .null, .val (.ref a3), .val (.int (0 : Int32))] [])
  refine Go.by (T' := T2) (g' := (mkF m 11 #[.val (.ref a1), .val (.ref a2), .val .null, .val (.ref a3), .val (.int (0 : Int32))] [.null, (.ref a1)])) (fun t k => ?_) ?_
  · show Steps p.tables e below (T2.setTop (mkF m 9 #[.val (.ref a1), .val (.ref a2), .val .null, .val (.ref a3), .val (.int (0 : Int32))] [])) _
    refine XS.aloadN X2.here hx rfl (hb hby d_p47_m1_9) rfl rfl ?_
    show Steps p.tables e below (T2.setTop (mkF m 10 #[.val (.ref a1), .val (.ref a2), .val .null, .val (.ref a3), .val (.int (0 : Int32))] [(.ref a1)])) _
    refine XS.aloadN X2.here hx rfl (hb hby d_p47_m1_10) rfl rfl ?_
    exact k
  refine Go.putF X2 hx hZ hown (wd hw 41 rfl) Via.refl e2 F_a1_signedData E_a1 (Or.inr ⟨(wd hw 42 rfl), rfl, hnm⟩) (wd hw 15 rfl) (ty := (.object "com/example/warrant/warrant/SignedData")) (by decide) rfl rfl (hb hby d_p47_m1_11) ?_
  intro T3 h3 X3 e3 W3
  replace E_a1 := E_a1.wr W3
  replace F_a1_kind := F_a1_kind.other W3 (Or.inr (slot_ne (a0 := a0) (Or.inr (wd hw 40 rfl)) (Or.inr (wd hw 42 rfl)) (by decide) (t := (.object "com/example/warrant/warrant/Verdict$Kind")) (t' := (.object "com/example/warrant/warrant/SignedData")) (by decide) (by decide)))
  replace F_a1_signedData := F_a1_signedData.same W3
  replace F_a1_invalidReason := F_a1_invalidReason.other W3 (Or.inr (slot_ne (a0 := a0) (Or.inr (wd hw 44 rfl)) (Or.inr (wd hw 42 rfl)) (by decide) (t := (.object "com/example/warrant/warrant/InvalidReason")) (t' := (.object "com/example/warrant/warrant/SignedData")) (by decide) (by decide)))
  replace F_a1_applicationErrorCode := F_a1_applicationErrorCode.other W3 (Or.inr (slot_ne (a0 := a0) (Or.inr (wd hw 46 rfl)) (Or.inr (wd hw 42 rfl)) (by decide) (t := .int) (t' := (.object "com/example/warrant/warrant/SignedData")) (by decide) (by decide)))
  replace O := O.wr W3 g_a1
  have N3 := Fr.snoc X3 N2 g_a1
  replace K := K.wr W3 (Or.inl (List.mem_of_getElem? (i := 0) rfl))
  show Go p e below _ T3 (mkF m 14 #[.val (.ref a1), .val (.ref a2), .val .null, .val (.ref a3), .val (.int (0 : Int32))] [])
  refine Go.by (T' := T3) (g' := (mkF m 16 #[.val (.ref a1), .val (.ref a2), .val .null, .val (.ref a3), .val (.int (0 : Int32))] [(.ref a3), (.ref a1)])) (fun t k => ?_) ?_
  · show Steps p.tables e below (T3.setTop (mkF m 14 #[.val (.ref a1), .val (.ref a2), .val .null, .val (.ref a3), .val (.int (0 : Int32))] [])) _
    refine XS.aloadN X3.here hx rfl (hb hby d_p47_m1_14) rfl rfl ?_
    show Steps p.tables e below (T3.setTop (mkF m 15 #[.val (.ref a1), .val (.ref a2), .val .null, .val (.ref a3), .val (.int (0 : Int32))] [(.ref a1)])) _
    refine XS.aloadN X3.here hx rfl (hb hby d_p47_m1_15) rfl rfl ?_
    exact k
  refine Go.putF X3 hx hZ hown (wd hw 43 rfl) Via.refl e3 F_a1_invalidReason E_a1 (Or.inr ⟨(wd hw 44 rfl), rfl, hnm⟩) (wd hw 15 rfl) (ty := (.object "com/example/warrant/warrant/InvalidReason")) (by decide) rfl rfl (hb hby d_p47_m1_16) ?_
  intro T4 h4 X4 e4 W4
  replace E_a1 := E_a1.wr W4
  replace F_a1_kind := F_a1_kind.other W4 (Or.inr (slot_ne (a0 := a0) (Or.inr (wd hw 40 rfl)) (Or.inr (wd hw 44 rfl)) (by decide) (t := (.object "com/example/warrant/warrant/Verdict$Kind")) (t' := (.object "com/example/warrant/warrant/InvalidReason")) (by decide) (by decide)))
  replace F_a1_signedData := F_a1_signedData.other W4 (Or.inr (slot_ne (a0 := a0) (Or.inr (wd hw 42 rfl)) (Or.inr (wd hw 44 rfl)) (by decide) (t := (.object "com/example/warrant/warrant/SignedData")) (t' := (.object "com/example/warrant/warrant/InvalidReason")) (by decide) (by decide)))
  replace F_a1_invalidReason := F_a1_invalidReason.same W4
  replace F_a1_applicationErrorCode := F_a1_applicationErrorCode.other W4 (Or.inr (slot_ne (a0 := a0) (Or.inr (wd hw 46 rfl)) (Or.inr (wd hw 44 rfl)) (by decide) (t := .int) (t' := (.object "com/example/warrant/warrant/InvalidReason")) (by decide) (by decide)))
  replace O := O.wr W4 g_a1
  have N4 := Fr.snoc X4 N3 g_a1
  replace K := K.wr W4 (Or.inl (List.mem_of_getElem? (i := 0) rfl))
  show Go p e below _ T4 (mkF m 19 #[.val (.ref a1), .val (.ref a2), .val .null, .val (.ref a3), .val (.int (0 : Int32))] [])
  refine Go.by (T' := T4) (g' := (mkF m 22 #[.val (.ref a1), .val (.ref a2), .val .null, .val (.ref a3), .val (.int (0 : Int32))] [(.int (0 : Int32)), (.ref a1)])) (fun t k => ?_) ?_
  · show Steps p.tables e below (T4.setTop (mkF m 19 #[.val (.ref a1), .val (.ref a2), .val .null, .val (.ref a3), .val (.int (0 : Int32))] [])) _
    refine XS.aloadN X4.here hx rfl (hb hby d_p47_m1_19) rfl rfl ?_
    show Steps p.tables e below (T4.setTop (mkF m 20 #[.val (.ref a1), .val (.ref a2), .val .null, .val (.ref a3), .val (.int (0 : Int32))] [(.ref a1)])) _
    refine XS.iload X4.here hx rfl (hb hby d_p47_m1_20) rfl ?_
    exact k
  refine Go.putF X4 hx hZ hown (wd hw 45 rfl) Via.refl e4 F_a1_applicationErrorCode E_a1 (Or.inr ⟨(wd hw 46 rfl), rfl, hnm⟩) (wd hw 15 rfl) (ty := .int) (by decide) rfl rfl (hb hby d_p47_m1_22) ?_
  intro T5 h5 X5 e5 W5
  replace E_a1 := E_a1.wr W5
  replace F_a1_kind := F_a1_kind.other W5 (Or.inr (slot_ne (a0 := a0) (Or.inr (wd hw 40 rfl)) (Or.inr (wd hw 46 rfl)) (by decide) (t := (.object "com/example/warrant/warrant/Verdict$Kind")) (t' := .int) (by decide) (by decide)))
  replace F_a1_signedData := F_a1_signedData.other W5 (Or.inr (slot_ne (a0 := a0) (Or.inr (wd hw 42 rfl)) (Or.inr (wd hw 46 rfl)) (by decide) (t := (.object "com/example/warrant/warrant/SignedData")) (t' := .int) (by decide) (by decide)))
  replace F_a1_invalidReason := F_a1_invalidReason.other W5 (Or.inr (slot_ne (a0 := a0) (Or.inr (wd hw 44 rfl)) (Or.inr (wd hw 46 rfl)) (by decide) (t := (.object "com/example/warrant/warrant/InvalidReason")) (t' := .int) (by decide) (by decide)))
  replace F_a1_applicationErrorCode := F_a1_applicationErrorCode.same W5
  replace O := O.wr W5 g_a1
  have N5 := Fr.snoc X5 N4 g_a1
  replace K := K.wr W5 (Or.inl (List.mem_of_getElem? (i := 0) rfl))
  show Go p e below _ T5 (mkF m 25 #[.val (.ref a1), .val (.ref a2), .val .null, .val (.ref a3), .val (.int (0 : Int32))] [])
  refine Go.retV X5 hx hlk hret (hb hby d_p47_m1_25) (by decide) (by decide) e5 ?_
  exact ⟨rfl, N5, K, F_a1_kind, F_a1_signedData, F_a1_invalidReason, F_a1_applicationErrorCode⟩
set_option maxRecDepth 65536 in
set_option maxHeartbeats 40000000 in
theorem ct_invalid (l : Launch) (Z : State) (a0 : Array Value) (hw : ∀ d ∈ tables_1, d.before a0 Z = true) (w_BAD_SIGNATURE : Addr) (w_MALFORMED : Addr) (w_CODE_MISMATCH : Addr) (w_NONCE_MISMATCH : Addr) (w_PACKAGE_MISMATCH : Addr) (w_VERSION_MISMATCH : Addr) (w_AE : Addr) (w_IN : Addr) (w_EM : Addr) (w_EI : Addr) (S_BAD_SIGNATURE : Sta Z Z.heap "com/example/warrant/warrant/InvalidReason" "BAD_SIGNATURE" "Lcom/example/warrant/warrant/InvalidReason;" (.ref w_BAD_SIGNATURE)) (S_MALFORMED : Sta Z Z.heap "com/example/warrant/warrant/InvalidReason" "MALFORMED" "Lcom/example/warrant/warrant/InvalidReason;" (.ref w_MALFORMED)) (S_CODE_MISMATCH : Sta Z Z.heap "com/example/warrant/warrant/InvalidReason" "CODE_MISMATCH" "Lcom/example/warrant/warrant/InvalidReason;" (.ref w_CODE_MISMATCH)) (S_NONCE_MISMATCH : Sta Z Z.heap "com/example/warrant/warrant/InvalidReason" "NONCE_MISMATCH" "Lcom/example/warrant/warrant/InvalidReason;" (.ref w_NONCE_MISMATCH)) (S_PACKAGE_MISMATCH : Sta Z Z.heap "com/example/warrant/warrant/InvalidReason" "PACKAGE_MISMATCH" "Lcom/example/warrant/warrant/InvalidReason;" (.ref w_PACKAGE_MISMATCH)) (S_VERSION_MISMATCH : Sta Z Z.heap "com/example/warrant/warrant/InvalidReason" "VERSION_MISMATCH" "Lcom/example/warrant/warrant/InvalidReason;" (.ref w_VERSION_MISMATCH)) (E_BAD_SIGNATURE : Exa Z Z.heap w_BAD_SIGNATURE "com/example/warrant/warrant/InvalidReason") (E_MALFORMED : Exa Z Z.heap w_MALFORMED "com/example/warrant/warrant/InvalidReason") (E_CODE_MISMATCH : Exa Z Z.heap w_CODE_MISMATCH "com/example/warrant/warrant/InvalidReason") (E_NONCE_MISMATCH : Exa Z Z.heap w_NONCE_MISMATCH "com/example/warrant/warrant/InvalidReason") (E_PACKAGE_MISMATCH : Exa Z Z.heap w_PACKAGE_MISMATCH "com/example/warrant/warrant/InvalidReason") (E_VERSION_MISMATCH : Exa Z Z.heap w_VERSION_MISMATCH "com/example/warrant/warrant/InvalidReason") (F_BAD_SIGNATURE : Fld Z Z.heap w_BAD_SIGNATURE "java/lang/Enum" "ordinal" "I" (.int (0 : Int32))) (F_MALFORMED : Fld Z Z.heap w_MALFORMED "java/lang/Enum" "ordinal" "I" (.int (1 : Int32))) (F_CODE_MISMATCH : Fld Z Z.heap w_CODE_MISMATCH "java/lang/Enum" "ordinal" "I" (.int (2 : Int32))) (F_NONCE_MISMATCH : Fld Z Z.heap w_NONCE_MISMATCH "java/lang/Enum" "ordinal" "I" (.int (3 : Int32))) (F_PACKAGE_MISMATCH : Fld Z Z.heap w_PACKAGE_MISMATCH "java/lang/Enum" "ordinal" "I" (.int (4 : Int32))) (F_VERSION_MISMATCH : Fld Z Z.heap w_VERSION_MISMATCH "java/lang/Enum" "ordinal" "I" (.int (5 : Int32))) (S_AE : Sta Z Z.heap "com/example/warrant/warrant/Verdict$Kind" "APPLICATION_ERROR" "Lcom/example/warrant/warrant/Verdict$Kind;" (.ref w_AE)) (S_IN : Sta Z Z.heap "com/example/warrant/warrant/Verdict$Kind" "INVALID" "Lcom/example/warrant/warrant/Verdict$Kind;" (.ref w_IN)) (neK : w_IN ≠ w_AE) (S_EM : Sta Z Z.heap "java/util/Optional" "EMPTY" "Ljava/util/Optional;" (.ref w_EM)) (E_EM : Exa Z Z.heap w_EM "java/util/Optional") (F_EM : Fld Z Z.heap w_EM "java/util/Optional" "value" "Ljava/lang/Object;" .null) (S_EI : Sta Z Z.heap "java/util/OptionalInt" "EMPTY" "Ljava/util/OptionalInt;" (.ref w_EI)) (E_EI : Exa Z Z.heap w_EI "java/util/OptionalInt") (F_EI : Fld Z Z.heap w_EI "java/util/OptionalInt" "isPresent" "Z" (.int (0 : Int32))) (a1i : Addr) (h0 : Heap) (n0 : Nat) (O : Old Z n0 h0) (E_a1i : Exa Z Z.heap a1i "com/example/warrant/warrant/InvalidReason") :
    CtW l (⟨"com/example/warrant/warrant/Verdict", "invalid", "(Lcom/example/warrant/warrant/InvalidReason;)Lcom/example/warrant/warrant/Verdict;"⟩ : MethodName) prog_47_method_6_code 1 (some (.object "com/example/warrant/warrant/Verdict")) ({ frames := 2, cells := 3, slots := 32, locals := 29 } : Room) Z #[(.ref a1i)] h0 (fun v h L => ∃ b, v = some (.ref b) ∧ Fr n0 L ∧ Keep h0 h [] ∧ h0.size ≤ b ∧ Exa Z h b "com/example/warrant/warrant/Verdict" ∧ Fld Z h b "com/example/warrant/warrant/Verdict" "kind" "Lcom/example/warrant/warrant/Verdict$Kind;" (.ref w_IN) ∧ Fld Z h b "com/example/warrant/warrant/Verdict" "signedData" "Lcom/example/warrant/warrant/SignedData;" .null ∧ Fld Z h b "com/example/warrant/warrant/Verdict" "invalidReason" "Lcom/example/warrant/warrant/InvalidReason;" (.ref a1i) ∧ Fld Z h b "com/example/warrant/warrant/Verdict" "applicationErrorCode" "I" (.int (0 : Int32))) := by
  refine CtW.of (plainFor_of_name pn_Verdict_984) ?_
  intro p e s vm0 m below meth c T0 X0 hx hby hml hown hnm hret hlk hZ e0 hS hk
  have hown : vm0.findClass "com/example/warrant/warrant/Verdict" = some m.cls := hown
  have hml : c.maxLocals = 1 := hml
  have N0 := Fr.nil n0
  refine Go.cast (g' := mkF m 0 #[.val (.ref a1i)] []) (by first | (simp [entryFrame, mkF, argsToLocals, Value.category]; done) | rfl) ?_
  have K : Keep h0 h0 [] := Keep.refl _ _
  refine Go.newO X0 hx hZ hown (wd hw 14 rfl) (wd hw 15 rfl) (wd hw 12 rfl) e0 (hb hby d_p47_m6_0) (by decide) (by decide) ?_
  intro T1 h1 b1 X1 e1 E1 g1 A1 D1
  have lb1 := Nat.le_of_eq g1.symm
  have g_b1 : n0 ≤ b1 := Nat.le_trans (OwnKit.Old.le O) lb1
  have sz_b1 : h0.size ≤ b1 := Nat.le_trans K.1 lb1
  replace O := O.ext E1
  replace K := K.ext E1
  replace hk := Nat.le_trans hk E1.1
  have E_b1 := A1
  have F_b1_kind : Fld Z h1 b1 "com/example/warrant/warrant/Verdict" "kind" "Lcom/example/warrant/warrant/Verdict$Kind;" .null := D1 (Or.inr (wd hw 40 rfl)) (ty := (.object "com/example/warrant/warrant/Verdict$Kind")) (by decide)
  have F_b1_signedData : Fld Z h1 b1 "com/example/warrant/warrant/Verdict" "signedData" "Lcom/example/warrant/warrant/SignedData;" .null := D1 (Or.inr (wd hw 42 rfl)) (ty := (.object "com/example/warrant/warrant/SignedData")) (by decide)
  have F_b1_invalidReason : Fld Z h1 b1 "com/example/warrant/warrant/Verdict" "invalidReason" "Lcom/example/warrant/warrant/InvalidReason;" .null := D1 (Or.inr (wd hw 44 rfl)) (ty := (.object "com/example/warrant/warrant/InvalidReason")) (by decide)
  have F_b1_applicationErrorCode : Fld Z h1 b1 "com/example/warrant/warrant/Verdict" "applicationErrorCode" "I" (.int (0 : Int32)) := D1 (Or.inr (wd hw 46 rfl)) (ty := .int) (by decide)
  show Go p e below _ T1 (mkF m 3 #[.val (.ref a1i)] [(.ref b1)])
  refine Go.by (T' := T1) (g' := (mkF m 4 #[.val (.ref a1i)] [(.ref b1), (.ref b1)])) (fun t k => ?_) ?_
  · show Steps p.tables e below (T1.setTop (mkF m 3 #[.val (.ref a1i)] [(.ref b1)])) _
    refine XS.dup X1.here hx rfl (hb hby d_p47_m6_3) rfl rfl ?_
    exact k
  refine Go.getS X1 hx hZ hown (wd hw 16 rfl) Via.refl e1 (S_IN.ext O.2) (hb hby d_p47_m6_4) ?_
  intro T2 X2 e2
  show Go p e below _ T2 (mkF m 7 #[.val (.ref a1i)] [(.ref w_IN), (.ref b1), (.ref b1)])
  refine Go.by (T' := T2) (g' := (mkF m 9 #[.val (.ref a1i)] [(.ref a1i), .null, (.ref w_IN), (.ref b1), (.ref b1)])) (fun t k => ?_) ?_
  · show Steps p.tables e below (T2.setTop (mkF m 7 #[.val (.ref a1i)] [(.ref w_IN), (.ref b1), (.ref b1)])) _
    refine XS.aconstNull X2.here hx rfl (hb hby d_p47_m6_7) ?_
    show Steps p.tables e below (T2.setTop (mkF m 8 #[.val (.ref a1i)] [.null, (.ref w_IN), (.ref b1), (.ref b1)])) _
    refine XS.aloadN X2.here hx rfl (hb hby d_p47_m6_8) rfl rfl ?_
    exact k
  refine Go.ldcS X2 hx hZ hown (wd hw 19 rfl) (own_wS hw) e2 hS hk (hb hby d_p47_m6_9) (n := 24) (by decide) (by decide) (by decide) (by decide) ?_
  intro a3 T3 h3 vm3 k3 X3 e3 E3 hS hk hZ hown
  replace E_b1 := E_b1.ext E3
  replace F_b1_kind := F_b1_kind.ext E3
  replace F_b1_signedData := F_b1_signedData.ext E3
  replace F_b1_invalidReason := F_b1_invalidReason.ext E3
  replace F_b1_applicationErrorCode := F_b1_applicationErrorCode.ext E3
  replace O := O.ext E3
  replace K := K.ext E3
  show Go p e below _ T3 (mkF m 11 #[.val (.ref a1i)] [(.ref a3), (.ref a1i), .null, (.ref w_IN), (.ref b1), (.ref b1)])
  refine Go.callS X3 hx hZ (W := 4) (argsL := [(.ref a1i), (.ref a3)]) (rest := [.null, (.ref w_IN), (.ref b1), (.ref b1)]) hown (wd hw 27 rfl) (wd hw 28 rfl) (wd hw 29 rfl) (wd hw 30 rfl) (by decide) (ct_rnn l Z a0 hw w_BAD_SIGNATURE w_MALFORMED w_CODE_MISMATCH w_NONCE_MISMATCH w_PACKAGE_MISMATCH w_VERSION_MISMATCH w_AE w_IN w_EM w_EI S_BAD_SIGNATURE S_MALFORMED S_CODE_MISMATCH S_NONCE_MISMATCH S_PACKAGE_MISMATCH S_VERSION_MISMATCH E_BAD_SIGNATURE E_MALFORMED E_CODE_MISMATCH E_NONCE_MISMATCH E_PACKAGE_MISMATCH E_VERSION_MISMATCH F_BAD_SIGNATURE F_MALFORMED F_CODE_MISMATCH F_NONCE_MISMATCH F_PACKAGE_MISMATCH F_VERSION_MISMATCH S_AE S_IN neK S_EM E_EM F_EM S_EI E_EI F_EI a1i a3 h3 n0 O ) e3 (by rw [hml]; rfl) (lenOf pd__Ljava_lang_Object_Ljava_lang_String__Lj_6911 rfl) rfl rfl (hb hby d_p47_m6_11) (by decide) (by decide) (by decide) (by decide) ?_
  intro v4 T4 h4 L4 X4 e4 q4
  obtain ⟨rfl, N4, rfl⟩ := q4
  replace N4 := Fr.app N0 N4
  show Go p e below _ T4 (mkF m 14 #[.val (.ref a1i)] [(.ref a1i), .null, (.ref w_IN), (.ref b1), (.ref b1)])
  refine Go.castY X4 hx hZ hown (wd hw 31 rfl) e4 (Ins.self (E_a1i.ext O.2)) (hb hby d_p47_m6_14) ?_
  intro T5 X5 e5
  show Go p e below _ T5 (mkF m 17 #[.val (.ref a1i)] [(.ref a1i), .null, (.ref w_IN), (.ref b1), (.ref b1)])
  refine Go.by (T' := T5) (g' := (mkF m 18 #[.val (.ref a1i)] [(.int (0 : Int32)), (.ref a1i), .null, (.ref w_IN), (.ref b1), (.ref b1)])) (fun t k => ?_) ?_
  · show Steps p.tables e below (T5.setTop (mkF m 17 #[.val (.ref a1i)] [(.ref a1i), .null, (.ref w_IN), (.ref b1), (.ref b1)])) _
    refine XS.iconst X5.here hx rfl (hb hby d_p47_m6_17) ?_
    exact k
  refine Go.callC X5 hx hZ (W := 1) (argsL := [(.ref w_IN), .null, (.ref a1i), (.int (0 : Int32))]) (rest := [(.ref b1)]) hown rfl (wd hw 33 rfl) (wd hw 34 rfl) (wd hw 12 rfl) (wd hw 35 rfl) (by decide) (ct_vinit l Z a0 hw w_BAD_SIGNATURE w_MALFORMED w_CODE_MISMATCH w_NONCE_MISMATCH w_PACKAGE_MISMATCH w_VERSION_MISMATCH w_AE w_IN w_EM w_EI S_BAD_SIGNATURE S_MALFORMED S_CODE_MISMATCH S_NONCE_MISMATCH S_PACKAGE_MISMATCH S_VERSION_MISMATCH E_BAD_SIGNATURE E_MALFORMED E_CODE_MISMATCH E_NONCE_MISMATCH E_PACKAGE_MISMATCH E_VERSION_MISMATCH F_BAD_SIGNATURE F_MALFORMED F_CODE_MISMATCH F_NONCE_MISMATCH F_PACKAGE_MISMATCH F_VERSION_MISMATCH S_AE S_IN neK S_EM E_EM F_EM S_EI E_EI F_EI b1 w_IN a1i h3 n0 O E_b1 F_b1_kind F_b1_signedData F_b1_invalidReason F_b1_applicationErrorCode g_b1) e5 (by rw [hml]; rfl) (lenOf pd__Lcom_example_warrant_warrant_Verdict_Ki_4944 rfl) rfl rfl (hb hby d_p47_m6_18) (by decide) (by decide) (by decide) (by decide) ?_
  intro v6 T6 h6 L6 X6 e6 q6
  obtain ⟨rfl, N6, K6, F0_6, F1_6, F2_6, F3_6⟩ := q6
  replace N6 := Fr.app N4 N6
  replace E_b1 := E_b1.keep K6
  clear F_b1_kind
  clear F_b1_signedData
  clear F_b1_invalidReason
  clear F_b1_applicationErrorCode
  replace O := O.keep K6 (allS g_b1 all0)
  replace K := K.trans K6 (allS (Or.inr sz_b1) all0)
  replace hk := Nat.le_trans hk K6.1
  show Go p e below _ T6 (mkF m 21 #[.val (.ref a1i)] [(.ref b1)])
  refine Go.retAW X6 hx hlk hret rfl rfl (hb hby d_p47_m6_21) (by decide) (by decide) e6 hS hk ?_
  exact ⟨b1, rfl, N6, K, sz_b1, E_b1, F0_6, F1_6, F2_6, F3_6⟩
set_option maxRecDepth 65536 in
set_option maxHeartbeats 40000000 in
theorem ct_opinit (l : Launch) (Z : State) (a0 : Array Value) (hw : ∀ d ∈ tables_1, d.before a0 Z = true) (w_BAD_SIGNATURE : Addr) (w_MALFORMED : Addr) (w_CODE_MISMATCH : Addr) (w_NONCE_MISMATCH : Addr) (w_PACKAGE_MISMATCH : Addr) (w_VERSION_MISMATCH : Addr) (w_AE : Addr) (w_IN : Addr) (w_EM : Addr) (w_EI : Addr) (S_BAD_SIGNATURE : Sta Z Z.heap "com/example/warrant/warrant/InvalidReason" "BAD_SIGNATURE" "Lcom/example/warrant/warrant/InvalidReason;" (.ref w_BAD_SIGNATURE)) (S_MALFORMED : Sta Z Z.heap "com/example/warrant/warrant/InvalidReason" "MALFORMED" "Lcom/example/warrant/warrant/InvalidReason;" (.ref w_MALFORMED)) (S_CODE_MISMATCH : Sta Z Z.heap "com/example/warrant/warrant/InvalidReason" "CODE_MISMATCH" "Lcom/example/warrant/warrant/InvalidReason;" (.ref w_CODE_MISMATCH)) (S_NONCE_MISMATCH : Sta Z Z.heap "com/example/warrant/warrant/InvalidReason" "NONCE_MISMATCH" "Lcom/example/warrant/warrant/InvalidReason;" (.ref w_NONCE_MISMATCH)) (S_PACKAGE_MISMATCH : Sta Z Z.heap "com/example/warrant/warrant/InvalidReason" "PACKAGE_MISMATCH" "Lcom/example/warrant/warrant/InvalidReason;" (.ref w_PACKAGE_MISMATCH)) (S_VERSION_MISMATCH : Sta Z Z.heap "com/example/warrant/warrant/InvalidReason" "VERSION_MISMATCH" "Lcom/example/warrant/warrant/InvalidReason;" (.ref w_VERSION_MISMATCH)) (E_BAD_SIGNATURE : Exa Z Z.heap w_BAD_SIGNATURE "com/example/warrant/warrant/InvalidReason") (E_MALFORMED : Exa Z Z.heap w_MALFORMED "com/example/warrant/warrant/InvalidReason") (E_CODE_MISMATCH : Exa Z Z.heap w_CODE_MISMATCH "com/example/warrant/warrant/InvalidReason") (E_NONCE_MISMATCH : Exa Z Z.heap w_NONCE_MISMATCH "com/example/warrant/warrant/InvalidReason") (E_PACKAGE_MISMATCH : Exa Z Z.heap w_PACKAGE_MISMATCH "com/example/warrant/warrant/InvalidReason") (E_VERSION_MISMATCH : Exa Z Z.heap w_VERSION_MISMATCH "com/example/warrant/warrant/InvalidReason") (F_BAD_SIGNATURE : Fld Z Z.heap w_BAD_SIGNATURE "java/lang/Enum" "ordinal" "I" (.int (0 : Int32))) (F_MALFORMED : Fld Z Z.heap w_MALFORMED "java/lang/Enum" "ordinal" "I" (.int (1 : Int32))) (F_CODE_MISMATCH : Fld Z Z.heap w_CODE_MISMATCH "java/lang/Enum" "ordinal" "I" (.int (2 : Int32))) (F_NONCE_MISMATCH : Fld Z Z.heap w_NONCE_MISMATCH "java/lang/Enum" "ordinal" "I" (.int (3 : Int32))) (F_PACKAGE_MISMATCH : Fld Z Z.heap w_PACKAGE_MISMATCH "java/lang/Enum" "ordinal" "I" (.int (4 : Int32))) (F_VERSION_MISMATCH : Fld Z Z.heap w_VERSION_MISMATCH "java/lang/Enum" "ordinal" "I" (.int (5 : Int32))) (S_AE : Sta Z Z.heap "com/example/warrant/warrant/Verdict$Kind" "APPLICATION_ERROR" "Lcom/example/warrant/warrant/Verdict$Kind;" (.ref w_AE)) (S_IN : Sta Z Z.heap "com/example/warrant/warrant/Verdict$Kind" "INVALID" "Lcom/example/warrant/warrant/Verdict$Kind;" (.ref w_IN)) (neK : w_IN ≠ w_AE) (S_EM : Sta Z Z.heap "java/util/Optional" "EMPTY" "Ljava/util/Optional;" (.ref w_EM)) (E_EM : Exa Z Z.heap w_EM "java/util/Optional") (F_EM : Fld Z Z.heap w_EM "java/util/Optional" "value" "Ljava/lang/Object;" .null) (S_EI : Sta Z Z.heap "java/util/OptionalInt" "EMPTY" "Ljava/util/OptionalInt;" (.ref w_EI)) (E_EI : Exa Z Z.heap w_EI "java/util/OptionalInt") (F_EI : Fld Z Z.heap w_EI "java/util/OptionalInt" "isPresent" "Z" (.int (0 : Int32))) (a1 : Addr) (a2 : Addr) (h0 : Heap) (n0 : Nat) (O : Old Z n0 h0) (E_a1 : Exa Z h0 a1 "java/util/Optional") (F_a1_value : Fld Z h0 a1 "java/util/Optional" "value" "Ljava/lang/Object;" .null) (g_a1 : n0 ≤ a1) :
    Ct l (⟨"java/util/Optional", "<init>", "(Ljava/lang/Object;)V"⟩ : MethodName) jdk_32_method_2_code 2 none ({ frames := 1, cells := 0, slots := 0, locals := 12 } : Room) Z #[(.ref a1), (.ref a2)] h0 (fun v h L => v = none ∧ Fr n0 L ∧ Keep h0 h [a1] ∧ Fld Z h a1 "java/util/Optional" "value" "Ljava/lang/Object;" (.ref a2)) := by
  refine Ct.of (plainFor_of_name pn_Optional_457) ?_
  intro p e s m below meth c T0 X0 hx hby hml hown hnm hret hlk hZ e0
  have hown : s.vm.findClass "java/util/Optional" = some m.cls := hown
  have hml : c.maxLocals = 2 := hml
  have N0 := Fr.nil n0
  refine Go.cast (g' := mkF m 0 #[.val (.ref a1), .val (.ref a2)] []) (by first | (simp [entryFrame, mkF, argsToLocals, Value.category]; done) | rfl) ?_
  have K : Keep h0 h0 [a1] := Keep.refl _ _
  refine Go.by (T' := T0) (g' := (mkF m 1 #[.val (.ref a1), .val (.ref a2)] [(.ref a1)])) (fun t k => ?_) ?_
  · show Steps p.tables e below (T0.setTop (mkF m 0 #[.val (.ref a1), .val (.ref a2)] [])) _
    refine XS.aloadN X0.here hx rfl (hb hby d_j32_m2_0) rfl rfl ?_
    exact k
  refine Go.initO X0 hx hZ hown (wd hw 68 rfl) (wd hw 37 rfl) (wd hw 38 rfl) e0 (by rw [hml]; rfl) (hb hby d_j32_m2_1) (by decide) (W := 0) rfl (by decide) ?_
  intro T1 X1 e1
  show Go p e below _ T1 (mkF m 4 #[.val (.ref a1), .val (.ref a2)] [])
  refine Go.by (T' := T1) (g' := (mkF m 6 #[.val (.ref a1), .val (.ref a2)] [(.ref a2), (.ref a1)])) (fun t k => ?_) ?_
  · show Steps p.tables e below (T1.setTop (mkF m 4 #[.val (.ref a1), .val (.ref a2)] [])) _
    refine XS.aloadN X1.here hx rfl (hb hby d_j32_m2_4) rfl rfl ?_
    show Steps p.tables e below (T1.setTop (mkF m 5 #[.val (.ref a1), .val (.ref a2)] [(.ref a1)])) _
    refine XS.aloadN X1.here hx rfl (hb hby d_j32_m2_5) rfl rfl ?_
    exact k
  refine Go.putF X1 hx hZ hown (wd hw 69 rfl) Via.refl e1 F_a1_value E_a1 (Or.inr ⟨(wd hw 70 rfl), rfl, hnm⟩) (wd hw 63 rfl) (ty := (.object "java/lang/Object")) (by decide) rfl rfl (hb hby d_j32_m2_6) ?_
  intro T2 h2 X2 e2 W2
  replace E_a1 := E_a1.wr W2
  replace F_a1_value := F_a1_value.same W2
  replace O := O.wr W2 g_a1
  have N2 := Fr.snoc X2 N0 g_a1
  replace K := K.wr W2 (Or.inl (List.mem_of_getElem? (i := 0) rfl))
  show Go p e below _ T2 (mkF m 9 #[.val (.ref a1), .val (.ref a2)] [])
  refine Go.retV X2 hx hlk hret (hb hby d_j32_m2_9) (by decide) (by decide) e2 ?_
  exact ⟨rfl, N2, K, F_a1_value⟩
set_option maxRecDepth 65536 in
set_option maxHeartbeats 40000000 in
theorem ct_ofnR (l : Launch) (Z : State) (a0 : Array Value) (hw : ∀ d ∈ tables_1, d.before a0 Z = true) (w_BAD_SIGNATURE : Addr) (w_MALFORMED : Addr) (w_CODE_MISMATCH : Addr) (w_NONCE_MISMATCH : Addr) (w_PACKAGE_MISMATCH : Addr) (w_VERSION_MISMATCH : Addr) (w_AE : Addr) (w_IN : Addr) (w_EM : Addr) (w_EI : Addr) (S_BAD_SIGNATURE : Sta Z Z.heap "com/example/warrant/warrant/InvalidReason" "BAD_SIGNATURE" "Lcom/example/warrant/warrant/InvalidReason;" (.ref w_BAD_SIGNATURE)) (S_MALFORMED : Sta Z Z.heap "com/example/warrant/warrant/InvalidReason" "MALFORMED" "Lcom/example/warrant/warrant/InvalidReason;" (.ref w_MALFORMED)) (S_CODE_MISMATCH : Sta Z Z.heap "com/example/warrant/warrant/InvalidReason" "CODE_MISMATCH" "Lcom/example/warrant/warrant/InvalidReason;" (.ref w_CODE_MISMATCH)) (S_NONCE_MISMATCH : Sta Z Z.heap "com/example/warrant/warrant/InvalidReason" "NONCE_MISMATCH" "Lcom/example/warrant/warrant/InvalidReason;" (.ref w_NONCE_MISMATCH)) (S_PACKAGE_MISMATCH : Sta Z Z.heap "com/example/warrant/warrant/InvalidReason" "PACKAGE_MISMATCH" "Lcom/example/warrant/warrant/InvalidReason;" (.ref w_PACKAGE_MISMATCH)) (S_VERSION_MISMATCH : Sta Z Z.heap "com/example/warrant/warrant/InvalidReason" "VERSION_MISMATCH" "Lcom/example/warrant/warrant/InvalidReason;" (.ref w_VERSION_MISMATCH)) (E_BAD_SIGNATURE : Exa Z Z.heap w_BAD_SIGNATURE "com/example/warrant/warrant/InvalidReason") (E_MALFORMED : Exa Z Z.heap w_MALFORMED "com/example/warrant/warrant/InvalidReason") (E_CODE_MISMATCH : Exa Z Z.heap w_CODE_MISMATCH "com/example/warrant/warrant/InvalidReason") (E_NONCE_MISMATCH : Exa Z Z.heap w_NONCE_MISMATCH "com/example/warrant/warrant/InvalidReason") (E_PACKAGE_MISMATCH : Exa Z Z.heap w_PACKAGE_MISMATCH "com/example/warrant/warrant/InvalidReason") (E_VERSION_MISMATCH : Exa Z Z.heap w_VERSION_MISMATCH "com/example/warrant/warrant/InvalidReason") (F_BAD_SIGNATURE : Fld Z Z.heap w_BAD_SIGNATURE "java/lang/Enum" "ordinal" "I" (.int (0 : Int32))) (F_MALFORMED : Fld Z Z.heap w_MALFORMED "java/lang/Enum" "ordinal" "I" (.int (1 : Int32))) (F_CODE_MISMATCH : Fld Z Z.heap w_CODE_MISMATCH "java/lang/Enum" "ordinal" "I" (.int (2 : Int32))) (F_NONCE_MISMATCH : Fld Z Z.heap w_NONCE_MISMATCH "java/lang/Enum" "ordinal" "I" (.int (3 : Int32))) (F_PACKAGE_MISMATCH : Fld Z Z.heap w_PACKAGE_MISMATCH "java/lang/Enum" "ordinal" "I" (.int (4 : Int32))) (F_VERSION_MISMATCH : Fld Z Z.heap w_VERSION_MISMATCH "java/lang/Enum" "ordinal" "I" (.int (5 : Int32))) (S_AE : Sta Z Z.heap "com/example/warrant/warrant/Verdict$Kind" "APPLICATION_ERROR" "Lcom/example/warrant/warrant/Verdict$Kind;" (.ref w_AE)) (S_IN : Sta Z Z.heap "com/example/warrant/warrant/Verdict$Kind" "INVALID" "Lcom/example/warrant/warrant/Verdict$Kind;" (.ref w_IN)) (neK : w_IN ≠ w_AE) (S_EM : Sta Z Z.heap "java/util/Optional" "EMPTY" "Ljava/util/Optional;" (.ref w_EM)) (E_EM : Exa Z Z.heap w_EM "java/util/Optional") (F_EM : Fld Z Z.heap w_EM "java/util/Optional" "value" "Ljava/lang/Object;" .null) (S_EI : Sta Z Z.heap "java/util/OptionalInt" "EMPTY" "Ljava/util/OptionalInt;" (.ref w_EI)) (E_EI : Exa Z Z.heap w_EI "java/util/OptionalInt") (F_EI : Fld Z Z.heap w_EI "java/util/OptionalInt" "isPresent" "Z" (.int (0 : Int32))) (a1 : Addr) (h0 : Heap) (n0 : Nat) (O : Old Z n0 h0)  :
    Ct l (⟨"java/util/Optional", "ofNullable", "(Ljava/lang/Object;)Ljava/util/Optional;"⟩ : MethodName) jdk_32_method_4_code 1 (some (.object "java/util/Optional")) ({ frames := 2, cells := 1, slots := 1, locals := 26 } : Room) Z #[(.ref a1)] h0 (fun v h L => ∃ b, v = some (.ref b) ∧ Fr n0 L ∧ Keep h0 h [] ∧ h0.size ≤ b ∧ Exa Z h b "java/util/Optional" ∧ Fld Z h b "java/util/Optional" "value" "Ljava/lang/Object;" (.ref a1)) := by
  refine Ct.of (plainFor_of_name pn_Optional_457) ?_
  intro p e s m below meth c T0 X0 hx hby hml hown hnm hret hlk hZ e0
  have hown : s.vm.findClass "java/util/Optional" = some m.cls := hown
  have hml : c.maxLocals = 1 := hml
  have N0 := Fr.nil n0
  refine Go.cast (g' := mkF m 0 #[.val (.ref a1)] []) (by first | (simp [entryFrame, mkF, argsToLocals, Value.category]; done) | rfl) ?_
  have K : Keep h0 h0 [] := Keep.refl _ _
  refine Go.by (T' := T0) (g' := (mkF m 10 #[.val (.ref a1)] [])) (fun t k => ?_) ?_
  · show Steps p.tables e below (T0.setTop (mkF m 0 #[.val (.ref a1)] [])) _
    refine XS.aloadN X0.here hx rfl (hb hby d_j32_m4_0) rfl rfl ?_
    show Steps p.tables e below (T0.setTop (mkF m 1 #[.val (.ref a1)] [(.ref a1)])) _
    refine XS.ifnonnullYes X0.here hx rfl (pc0 := 1) (pc' := 10) rfl (hb hby d_j32_m4_1) rfl (by decide) (by decide) ?_
    exact k
  refine Go.newO X0 hx hZ hown (wd hw 62 rfl) (wd hw 63 rfl) (wd hw 60 rfl) e0 (hb hby d_j32_m4_10) (by decide) (by decide) ?_
  intro T1 h1 b1 X1 e1 E1 g1 A1 D1
  have lb1 := Nat.le_of_eq g1.symm
  have g_b1 : n0 ≤ b1 := Nat.le_trans (OwnKit.Old.le O) lb1
  have sz_b1 : h0.size ≤ b1 := Nat.le_trans K.1 lb1
  replace O := O.ext E1
  replace K := K.ext E1
  have E_b1 := A1
  have F_b1_value : Fld Z h1 b1 "java/util/Optional" "value" "Ljava/lang/Object;" .null := D1 (Or.inr (wd hw 70 rfl)) (ty := (.object "java/lang/Object")) (by decide)
  show Go p e below _ T1 (mkF m 13 #[.val (.ref a1)] [(.ref b1)])
  refine Go.by (T' := T1) (g' := (mkF m 15 #[.val (.ref a1)] [(.ref a1), (.ref b1), (.ref b1)])) (fun t k => ?_) ?_
  · show Steps p.tables e below (T1.setTop (mkF m 13 #[.val (.ref a1)] [(.ref b1)])) _
    refine XS.dup X1.here hx rfl (hb hby d_j32_m4_13) rfl rfl ?_
    show Steps p.tables e below (T1.setTop (mkF m 14 #[.val (.ref a1)] [(.ref b1), (.ref b1)])) _
    refine XS.aloadN X1.here hx rfl (hb hby d_j32_m4_14) rfl rfl ?_
    exact k
  refine Go.callC X1 hx hZ (W := 1) (argsL := [(.ref a1)]) (rest := [(.ref b1)]) hown rfl (wd hw 64 rfl) (wd hw 65 rfl) (wd hw 60 rfl) (wd hw 67 rfl) (by decide) (ct_opinit l Z a0 hw w_BAD_SIGNATURE w_MALFORMED w_CODE_MISMATCH w_NONCE_MISMATCH w_PACKAGE_MISMATCH w_VERSION_MISMATCH w_AE w_IN w_EM w_EI S_BAD_SIGNATURE S_MALFORMED S_CODE_MISMATCH S_NONCE_MISMATCH S_PACKAGE_MISMATCH S_VERSION_MISMATCH E_BAD_SIGNATURE E_MALFORMED E_CODE_MISMATCH E_NONCE_MISMATCH E_PACKAGE_MISMATCH E_VERSION_MISMATCH F_BAD_SIGNATURE F_MALFORMED F_CODE_MISMATCH F_NONCE_MISMATCH F_PACKAGE_MISMATCH F_VERSION_MISMATCH S_AE S_IN neK S_EM E_EM F_EM S_EI E_EI F_EI b1 a1 h1 n0 O E_b1 F_b1_value g_b1) e1 (by rw [hml]; rfl) (lenOf pd__Ljava_lang_Object__V_1711 rfl) rfl rfl (hb hby d_j32_m4_15) (by decide) (by decide) (by decide) (by decide) ?_
  intro v2 T2 h2 L2 X2 e2 q2
  obtain ⟨rfl, N2, K2, F0_2⟩ := q2
  replace N2 := Fr.app N0 N2
  replace E_b1 := E_b1.keep K2
  clear F_b1_value
  replace O := O.keep K2 (allS g_b1 all0)
  replace K := K.trans K2 (allS (Or.inr sz_b1) all0)
  show Go p e below _ T2 (mkF m 18 #[.val (.ref a1)] [(.ref b1)])
  refine Go.retA X2 hx hlk hret rfl rfl (hb hby d_j32_m4_18) (by decide) (by decide) e2 ?_
  exact ⟨b1, rfl, N2, K, sz_b1, E_b1, F0_2⟩
set_option maxRecDepth 65536 in
set_option maxHeartbeats 40000000 in
theorem ct_ofnN (l : Launch) (Z : State) (a0 : Array Value) (hw : ∀ d ∈ tables_1, d.before a0 Z = true) (w_BAD_SIGNATURE : Addr) (w_MALFORMED : Addr) (w_CODE_MISMATCH : Addr) (w_NONCE_MISMATCH : Addr) (w_PACKAGE_MISMATCH : Addr) (w_VERSION_MISMATCH : Addr) (w_AE : Addr) (w_IN : Addr) (w_EM : Addr) (w_EI : Addr) (S_BAD_SIGNATURE : Sta Z Z.heap "com/example/warrant/warrant/InvalidReason" "BAD_SIGNATURE" "Lcom/example/warrant/warrant/InvalidReason;" (.ref w_BAD_SIGNATURE)) (S_MALFORMED : Sta Z Z.heap "com/example/warrant/warrant/InvalidReason" "MALFORMED" "Lcom/example/warrant/warrant/InvalidReason;" (.ref w_MALFORMED)) (S_CODE_MISMATCH : Sta Z Z.heap "com/example/warrant/warrant/InvalidReason" "CODE_MISMATCH" "Lcom/example/warrant/warrant/InvalidReason;" (.ref w_CODE_MISMATCH)) (S_NONCE_MISMATCH : Sta Z Z.heap "com/example/warrant/warrant/InvalidReason" "NONCE_MISMATCH" "Lcom/example/warrant/warrant/InvalidReason;" (.ref w_NONCE_MISMATCH)) (S_PACKAGE_MISMATCH : Sta Z Z.heap "com/example/warrant/warrant/InvalidReason" "PACKAGE_MISMATCH" "Lcom/example/warrant/warrant/InvalidReason;" (.ref w_PACKAGE_MISMATCH)) (S_VERSION_MISMATCH : Sta Z Z.heap "com/example/warrant/warrant/InvalidReason" "VERSION_MISMATCH" "Lcom/example/warrant/warrant/InvalidReason;" (.ref w_VERSION_MISMATCH)) (E_BAD_SIGNATURE : Exa Z Z.heap w_BAD_SIGNATURE "com/example/warrant/warrant/InvalidReason") (E_MALFORMED : Exa Z Z.heap w_MALFORMED "com/example/warrant/warrant/InvalidReason") (E_CODE_MISMATCH : Exa Z Z.heap w_CODE_MISMATCH "com/example/warrant/warrant/InvalidReason") (E_NONCE_MISMATCH : Exa Z Z.heap w_NONCE_MISMATCH "com/example/warrant/warrant/InvalidReason") (E_PACKAGE_MISMATCH : Exa Z Z.heap w_PACKAGE_MISMATCH "com/example/warrant/warrant/InvalidReason") (E_VERSION_MISMATCH : Exa Z Z.heap w_VERSION_MISMATCH "com/example/warrant/warrant/InvalidReason") (F_BAD_SIGNATURE : Fld Z Z.heap w_BAD_SIGNATURE "java/lang/Enum" "ordinal" "I" (.int (0 : Int32))) (F_MALFORMED : Fld Z Z.heap w_MALFORMED "java/lang/Enum" "ordinal" "I" (.int (1 : Int32))) (F_CODE_MISMATCH : Fld Z Z.heap w_CODE_MISMATCH "java/lang/Enum" "ordinal" "I" (.int (2 : Int32))) (F_NONCE_MISMATCH : Fld Z Z.heap w_NONCE_MISMATCH "java/lang/Enum" "ordinal" "I" (.int (3 : Int32))) (F_PACKAGE_MISMATCH : Fld Z Z.heap w_PACKAGE_MISMATCH "java/lang/Enum" "ordinal" "I" (.int (4 : Int32))) (F_VERSION_MISMATCH : Fld Z Z.heap w_VERSION_MISMATCH "java/lang/Enum" "ordinal" "I" (.int (5 : Int32))) (S_AE : Sta Z Z.heap "com/example/warrant/warrant/Verdict$Kind" "APPLICATION_ERROR" "Lcom/example/warrant/warrant/Verdict$Kind;" (.ref w_AE)) (S_IN : Sta Z Z.heap "com/example/warrant/warrant/Verdict$Kind" "INVALID" "Lcom/example/warrant/warrant/Verdict$Kind;" (.ref w_IN)) (neK : w_IN ≠ w_AE) (S_EM : Sta Z Z.heap "java/util/Optional" "EMPTY" "Ljava/util/Optional;" (.ref w_EM)) (E_EM : Exa Z Z.heap w_EM "java/util/Optional") (F_EM : Fld Z Z.heap w_EM "java/util/Optional" "value" "Ljava/lang/Object;" .null) (S_EI : Sta Z Z.heap "java/util/OptionalInt" "EMPTY" "Ljava/util/OptionalInt;" (.ref w_EI)) (E_EI : Exa Z Z.heap w_EI "java/util/OptionalInt") (F_EI : Fld Z Z.heap w_EI "java/util/OptionalInt" "isPresent" "Z" (.int (0 : Int32))) (h0 : Heap) (n0 : Nat) (O : Old Z n0 h0)  :
    Ct l (⟨"java/util/Optional", "ofNullable", "(Ljava/lang/Object;)Ljava/util/Optional;"⟩ : MethodName) jdk_32_method_4_code 1 (some (.object "java/util/Optional")) ({ frames := 0, cells := 0, slots := 0, locals := 0 } : Room) Z #[.null] h0 (fun v h L => v = some (.ref w_EM) ∧ Fr n0 L ∧ h0 = h) := by
  refine Ct.of (plainFor_of_name pn_Optional_457) ?_
  intro p e s m below meth c T0 X0 hx hby hml hown hnm hret hlk hZ e0
  have hown : s.vm.findClass "java/util/Optional" = some m.cls := hown
  have hml : c.maxLocals = 1 := hml
  have N0 := Fr.nil n0
  refine Go.cast (g' := mkF m 0 #[.val .null] []) (by first | (simp [entryFrame, mkF, argsToLocals, Value.category]; done) | rfl) ?_
  refine Go.by (T' := T0) (g' := (mkF m 4 #[.val .null] [])) (fun t k => ?_) ?_
  · show Steps p.tables e below (T0.setTop (mkF m 0 #[.val .null] [])) _
    refine XS.aloadN X0.here hx rfl (hb hby d_j32_m4_0) rfl rfl ?_
    show Steps p.tables e below (T0.setTop (mkF m 1 #[.val .null] [.null])) _
    refine XS.ifnonnullNo X0.here hx rfl (hb hby d_j32_m4_1) rfl ?_
    exact k
  refine Go.getS X0 hx hZ hown (wd hw 86 rfl) Via.refl e0 (S_EM.ext O.2) (hb hby d_j32_m4_4) ?_
  intro T1 X1 e1
  show Go p e below _ T1 (mkF m 7 #[.val .null] [(.ref w_EM)])
  refine Go.by (T' := T1) (g' := (mkF m 18 #[.val .null] [(.ref w_EM)])) (fun t k => ?_) ?_
  · show Steps p.tables e below (T1.setTop (mkF m 7 #[.val .null] [(.ref w_EM)])) _
    refine XS.goto X1.here hx rfl (pc0 := 7) (pc' := 18) rfl (hb hby d_j32_m4_7) (by decide) (by decide) ?_
    exact k
  refine Go.retA X1 hx hlk hret rfl rfl (hb hby d_j32_m4_18) (by decide) (by decide) e1 ?_
  exact ⟨rfl, N0, rfl⟩
set_option maxRecDepth 65536 in
set_option maxHeartbeats 40000000 in
theorem ct_sd (l : Launch) (Z : State) (a0 : Array Value) (hw : ∀ d ∈ tables_1, d.before a0 Z = true) (w_BAD_SIGNATURE : Addr) (w_MALFORMED : Addr) (w_CODE_MISMATCH : Addr) (w_NONCE_MISMATCH : Addr) (w_PACKAGE_MISMATCH : Addr) (w_VERSION_MISMATCH : Addr) (w_AE : Addr) (w_IN : Addr) (w_EM : Addr) (w_EI : Addr) (S_BAD_SIGNATURE : Sta Z Z.heap "com/example/warrant/warrant/InvalidReason" "BAD_SIGNATURE" "Lcom/example/warrant/warrant/InvalidReason;" (.ref w_BAD_SIGNATURE)) (S_MALFORMED : Sta Z Z.heap "com/example/warrant/warrant/InvalidReason" "MALFORMED" "Lcom/example/warrant/warrant/InvalidReason;" (.ref w_MALFORMED)) (S_CODE_MISMATCH : Sta Z Z.heap "com/example/warrant/warrant/InvalidReason" "CODE_MISMATCH" "Lcom/example/warrant/warrant/InvalidReason;" (.ref w_CODE_MISMATCH)) (S_NONCE_MISMATCH : Sta Z Z.heap "com/example/warrant/warrant/InvalidReason" "NONCE_MISMATCH" "Lcom/example/warrant/warrant/InvalidReason;" (.ref w_NONCE_MISMATCH)) (S_PACKAGE_MISMATCH : Sta Z Z.heap "com/example/warrant/warrant/InvalidReason" "PACKAGE_MISMATCH" "Lcom/example/warrant/warrant/InvalidReason;" (.ref w_PACKAGE_MISMATCH)) (S_VERSION_MISMATCH : Sta Z Z.heap "com/example/warrant/warrant/InvalidReason" "VERSION_MISMATCH" "Lcom/example/warrant/warrant/InvalidReason;" (.ref w_VERSION_MISMATCH)) (E_BAD_SIGNATURE : Exa Z Z.heap w_BAD_SIGNATURE "com/example/warrant/warrant/InvalidReason") (E_MALFORMED : Exa Z Z.heap w_MALFORMED "com/example/warrant/warrant/InvalidReason") (E_CODE_MISMATCH : Exa Z Z.heap w_CODE_MISMATCH "com/example/warrant/warrant/InvalidReason") (E_NONCE_MISMATCH : Exa Z Z.heap w_NONCE_MISMATCH "com/example/warrant/warrant/InvalidReason") (E_PACKAGE_MISMATCH : Exa Z Z.heap w_PACKAGE_MISMATCH "com/example/warrant/warrant/InvalidReason") (E_VERSION_MISMATCH : Exa Z Z.heap w_VERSION_MISMATCH "com/example/warrant/warrant/InvalidReason") (F_BAD_SIGNATURE : Fld Z Z.heap w_BAD_SIGNATURE "java/lang/Enum" "ordinal" "I" (.int (0 : Int32))) (F_MALFORMED : Fld Z Z.heap w_MALFORMED "java/lang/Enum" "ordinal" "I" (.int (1 : Int32))) (F_CODE_MISMATCH : Fld Z Z.heap w_CODE_MISMATCH "java/lang/Enum" "ordinal" "I" (.int (2 : Int32))) (F_NONCE_MISMATCH : Fld Z Z.heap w_NONCE_MISMATCH "java/lang/Enum" "ordinal" "I" (.int (3 : Int32))) (F_PACKAGE_MISMATCH : Fld Z Z.heap w_PACKAGE_MISMATCH "java/lang/Enum" "ordinal" "I" (.int (4 : Int32))) (F_VERSION_MISMATCH : Fld Z Z.heap w_VERSION_MISMATCH "java/lang/Enum" "ordinal" "I" (.int (5 : Int32))) (S_AE : Sta Z Z.heap "com/example/warrant/warrant/Verdict$Kind" "APPLICATION_ERROR" "Lcom/example/warrant/warrant/Verdict$Kind;" (.ref w_AE)) (S_IN : Sta Z Z.heap "com/example/warrant/warrant/Verdict$Kind" "INVALID" "Lcom/example/warrant/warrant/Verdict$Kind;" (.ref w_IN)) (neK : w_IN ≠ w_AE) (S_EM : Sta Z Z.heap "java/util/Optional" "EMPTY" "Ljava/util/Optional;" (.ref w_EM)) (E_EM : Exa Z Z.heap w_EM "java/util/Optional") (F_EM : Fld Z Z.heap w_EM "java/util/Optional" "value" "Ljava/lang/Object;" .null) (S_EI : Sta Z Z.heap "java/util/OptionalInt" "EMPTY" "Ljava/util/OptionalInt;" (.ref w_EI)) (E_EI : Exa Z Z.heap w_EI "java/util/OptionalInt") (F_EI : Fld Z Z.heap w_EI "java/util/OptionalInt" "isPresent" "Z" (.int (0 : Int32))) (a1 : Addr) (h0 : Heap) (n0 : Nat) (O : Old Z n0 h0) (F1 : Fld Z h0 a1 "com/example/warrant/warrant/Verdict" "signedData" "Lcom/example/warrant/warrant/SignedData;" .null) :
    Ct l (⟨"com/example/warrant/warrant/Verdict", "signedData", "()Ljava/util/Optional;"⟩ : MethodName) prog_47_method_9_code 1 (some (.object "java/util/Optional")) ({ frames := 1, cells := 0, slots := 0, locals := 12 } : Room) Z #[(.ref a1)] h0 (fun v h L => v = some (.ref w_EM) ∧ Fr n0 L ∧ h0 = h) := by
  refine Ct.of (plainFor_of_name pn_Verdict_984) ?_
  intro p e s m below meth c T0 X0 hx hby hml hown hnm hret hlk hZ e0
  have hown : s.vm.findClass "com/example/warrant/warrant/Verdict" = some m.cls := hown
  have hml : c.maxLocals = 1 := hml
  have N0 := Fr.nil n0
  refine Go.cast (g' := mkF m 0 #[.val (.ref a1)] []) (by first | (simp [entryFrame, mkF, argsToLocals, Value.category]; done) | rfl) ?_
  refine Go.by (T' := T0) (g' := (mkF m 1 #[.val (.ref a1)] [(.ref a1)])) (fun t k => ?_) ?_
  · show Steps p.tables e below (T0.setTop (mkF m 0 #[.val (.ref a1)] [])) _
    refine XS.aloadN X0.here hx rfl (hb hby d_p47_m9_0) rfl rfl ?_
    exact k
  refine Go.getF X0 hx hZ hown (wd hw 41 rfl) Via.refl e0 F1 (hb hby d_p47_m9_1) ?_
  intro T1 X1 e1
  show Go p e below _ T1 (mkF m 4 #[.val (.ref a1)] [.null])
  refine Go.callS X1 hx hZ (W := 0) (argsL := [.null]) (rest := []) hown (wd hw 58 rfl) (wd hw 59 rfl) (wd hw 60 rfl) (wd hw 61 rfl) (by decide) (ct_ofnN l Z a0 hw w_BAD_SIGNATURE w_MALFORMED w_CODE_MISMATCH w_NONCE_MISMATCH w_PACKAGE_MISMATCH w_VERSION_MISMATCH w_AE w_IN w_EM w_EI S_BAD_SIGNATURE S_MALFORMED S_CODE_MISMATCH S_NONCE_MISMATCH S_PACKAGE_MISMATCH S_VERSION_MISMATCH E_BAD_SIGNATURE E_MALFORMED E_CODE_MISMATCH E_NONCE_MISMATCH E_PACKAGE_MISMATCH E_VERSION_MISMATCH F_BAD_SIGNATURE F_MALFORMED F_CODE_MISMATCH F_NONCE_MISMATCH F_PACKAGE_MISMATCH F_VERSION_MISMATCH S_AE S_IN neK S_EM E_EM F_EM S_EI E_EI F_EI  h0 n0 O ) e1 (by rw [hml]; rfl) (lenOf pd__Ljava_lang_Object__Ljava_util_Optional__9874 rfl) rfl rfl (hb hby d_p47_m9_4) (by decide) (by decide) (by decide) (by decide) ?_
  intro v2 T2 h2 L2 X2 e2 q2
  obtain ⟨rfl, N2, rfl⟩ := q2
  replace N2 := Fr.app N0 N2
  show Go p e below _ T2 (mkF m 7 #[.val (.ref a1)] [(.ref w_EM)])
  refine Go.retA X2 hx hlk hret rfl rfl (hb hby d_p47_m9_7) (by decide) (by decide) e2 ?_
  exact ⟨rfl, N2, rfl⟩
set_option maxRecDepth 65536 in
set_option maxHeartbeats 40000000 in
theorem ct_ir (l : Launch) (Z : State) (a0 : Array Value) (hw : ∀ d ∈ tables_1, d.before a0 Z = true) (w_BAD_SIGNATURE : Addr) (w_MALFORMED : Addr) (w_CODE_MISMATCH : Addr) (w_NONCE_MISMATCH : Addr) (w_PACKAGE_MISMATCH : Addr) (w_VERSION_MISMATCH : Addr) (w_AE : Addr) (w_IN : Addr) (w_EM : Addr) (w_EI : Addr) (S_BAD_SIGNATURE : Sta Z Z.heap "com/example/warrant/warrant/InvalidReason" "BAD_SIGNATURE" "Lcom/example/warrant/warrant/InvalidReason;" (.ref w_BAD_SIGNATURE)) (S_MALFORMED : Sta Z Z.heap "com/example/warrant/warrant/InvalidReason" "MALFORMED" "Lcom/example/warrant/warrant/InvalidReason;" (.ref w_MALFORMED)) (S_CODE_MISMATCH : Sta Z Z.heap "com/example/warrant/warrant/InvalidReason" "CODE_MISMATCH" "Lcom/example/warrant/warrant/InvalidReason;" (.ref w_CODE_MISMATCH)) (S_NONCE_MISMATCH : Sta Z Z.heap "com/example/warrant/warrant/InvalidReason" "NONCE_MISMATCH" "Lcom/example/warrant/warrant/InvalidReason;" (.ref w_NONCE_MISMATCH)) (S_PACKAGE_MISMATCH : Sta Z Z.heap "com/example/warrant/warrant/InvalidReason" "PACKAGE_MISMATCH" "Lcom/example/warrant/warrant/InvalidReason;" (.ref w_PACKAGE_MISMATCH)) (S_VERSION_MISMATCH : Sta Z Z.heap "com/example/warrant/warrant/InvalidReason" "VERSION_MISMATCH" "Lcom/example/warrant/warrant/InvalidReason;" (.ref w_VERSION_MISMATCH)) (E_BAD_SIGNATURE : Exa Z Z.heap w_BAD_SIGNATURE "com/example/warrant/warrant/InvalidReason") (E_MALFORMED : Exa Z Z.heap w_MALFORMED "com/example/warrant/warrant/InvalidReason") (E_CODE_MISMATCH : Exa Z Z.heap w_CODE_MISMATCH "com/example/warrant/warrant/InvalidReason") (E_NONCE_MISMATCH : Exa Z Z.heap w_NONCE_MISMATCH "com/example/warrant/warrant/InvalidReason") (E_PACKAGE_MISMATCH : Exa Z Z.heap w_PACKAGE_MISMATCH "com/example/warrant/warrant/InvalidReason") (E_VERSION_MISMATCH : Exa Z Z.heap w_VERSION_MISMATCH "com/example/warrant/warrant/InvalidReason") (F_BAD_SIGNATURE : Fld Z Z.heap w_BAD_SIGNATURE "java/lang/Enum" "ordinal" "I" (.int (0 : Int32))) (F_MALFORMED : Fld Z Z.heap w_MALFORMED "java/lang/Enum" "ordinal" "I" (.int (1 : Int32))) (F_CODE_MISMATCH : Fld Z Z.heap w_CODE_MISMATCH "java/lang/Enum" "ordinal" "I" (.int (2 : Int32))) (F_NONCE_MISMATCH : Fld Z Z.heap w_NONCE_MISMATCH "java/lang/Enum" "ordinal" "I" (.int (3 : Int32))) (F_PACKAGE_MISMATCH : Fld Z Z.heap w_PACKAGE_MISMATCH "java/lang/Enum" "ordinal" "I" (.int (4 : Int32))) (F_VERSION_MISMATCH : Fld Z Z.heap w_VERSION_MISMATCH "java/lang/Enum" "ordinal" "I" (.int (5 : Int32))) (S_AE : Sta Z Z.heap "com/example/warrant/warrant/Verdict$Kind" "APPLICATION_ERROR" "Lcom/example/warrant/warrant/Verdict$Kind;" (.ref w_AE)) (S_IN : Sta Z Z.heap "com/example/warrant/warrant/Verdict$Kind" "INVALID" "Lcom/example/warrant/warrant/Verdict$Kind;" (.ref w_IN)) (neK : w_IN ≠ w_AE) (S_EM : Sta Z Z.heap "java/util/Optional" "EMPTY" "Ljava/util/Optional;" (.ref w_EM)) (E_EM : Exa Z Z.heap w_EM "java/util/Optional") (F_EM : Fld Z Z.heap w_EM "java/util/Optional" "value" "Ljava/lang/Object;" .null) (S_EI : Sta Z Z.heap "java/util/OptionalInt" "EMPTY" "Ljava/util/OptionalInt;" (.ref w_EI)) (E_EI : Exa Z Z.heap w_EI "java/util/OptionalInt") (F_EI : Fld Z Z.heap w_EI "java/util/OptionalInt" "isPresent" "Z" (.int (0 : Int32))) (a1 : Addr) (a2 : Addr) (h0 : Heap) (n0 : Nat) (O : Old Z n0 h0) (F1 : Fld Z h0 a1 "com/example/warrant/warrant/Verdict" "invalidReason" "Lcom/example/warrant/warrant/InvalidReason;" (.ref a2)) :
    Ct l (⟨"com/example/warrant/warrant/Verdict", "invalidReason", "()Ljava/util/Optional;"⟩ : MethodName) prog_47_method_10_code 1 (some (.object "java/util/Optional")) ({ frames := 3, cells := 1, slots := 1, locals := 38 } : Room) Z #[(.ref a1)] h0 (fun v h L => ∃ b, v = some (.ref b) ∧ Fr n0 L ∧ Keep h0 h [] ∧ h0.size ≤ b ∧ Exa Z h b "java/util/Optional" ∧ Fld Z h b "java/util/Optional" "value" "Ljava/lang/Object;" (.ref a2)) := by
  refine Ct.of (plainFor_of_name pn_Verdict_984) ?_
  intro p e s m below meth c T0 X0 hx hby hml hown hnm hret hlk hZ e0
  have hown : s.vm.findClass "com/example/warrant/warrant/Verdict" = some m.cls := hown
  have hml : c.maxLocals = 1 := hml
  have N0 := Fr.nil n0
  refine Go.cast (g' := mkF m 0 #[.val (.ref a1)] []) (by first | (simp [entryFrame, mkF, argsToLocals, Value.category]; done) | rfl) ?_
  have K : Keep h0 h0 [] := Keep.refl _ _
  refine Go.by (T' := T0) (g' := (mkF m 1 #[.val (.ref a1)] [(.ref a1)])) (fun t k => ?_) ?_
  · show Steps p.tables e below (T0.setTop (mkF m 0 #[.val (.ref a1)] [])) _
    refine XS.aloadN X0.here hx rfl (hb hby d_p47_m10_0) rfl rfl ?_
    exact k
  refine Go.getF X0 hx hZ hown (wd hw 43 rfl) Via.refl e0 F1 (hb hby d_p47_m10_1) ?_
  intro T1 X1 e1
  show Go p e below _ T1 (mkF m 4 #[.val (.ref a1)] [(.ref a2)])
  refine Go.callS X1 hx hZ (W := 0) (argsL := [(.ref a2)]) (rest := []) hown (wd hw 58 rfl) (wd hw 59 rfl) (wd hw 60 rfl) (wd hw 61 rfl) (by decide) (ct_ofnR l Z a0 hw w_BAD_SIGNATURE w_MALFORMED w_CODE_MISMATCH w_NONCE_MISMATCH w_PACKAGE_MISMATCH w_VERSION_MISMATCH w_AE w_IN w_EM w_EI S_BAD_SIGNATURE S_MALFORMED S_CODE_MISMATCH S_NONCE_MISMATCH S_PACKAGE_MISMATCH S_VERSION_MISMATCH E_BAD_SIGNATURE E_MALFORMED E_CODE_MISMATCH E_NONCE_MISMATCH E_PACKAGE_MISMATCH E_VERSION_MISMATCH F_BAD_SIGNATURE F_MALFORMED F_CODE_MISMATCH F_NONCE_MISMATCH F_PACKAGE_MISMATCH F_VERSION_MISMATCH S_AE S_IN neK S_EM E_EM F_EM S_EI E_EI F_EI a2 h0 n0 O ) e1 (by rw [hml]; rfl) (lenOf pd__Ljava_lang_Object__Ljava_util_Optional__9874 rfl) rfl rfl (hb hby d_p47_m10_4) (by decide) (by decide) (by decide) (by decide) ?_
  intro v2 T2 h2 L2 X2 e2 q2
  obtain ⟨o2, rfl, N2, K2, lb2, E_o2, F_o2_value⟩ := q2
  replace N2 := Fr.app N0 N2
  have ne_a1_o2 : a1 ≠ o2 := Nat.ne_of_lt (Nat.lt_of_lt_of_le F1.lt lb2)
  have g_o2 : n0 ≤ o2 := Nat.le_trans (OwnKit.Old.le O) lb2
  have sz_o2 : h0.size ≤ o2 := Nat.le_trans K.1 lb2
  replace F1 := F1.keep K2 nin0
  replace O := O.keep K2 all0
  replace K := K.trans K2 all0
  show Go p e below _ T2 (mkF m 7 #[.val (.ref a1)] [(.ref o2)])
  refine Go.retA X2 hx hlk hret rfl rfl (hb hby d_p47_m10_7) (by decide) (by decide) e2 ?_
  exact ⟨o2, rfl, N2, K, sz_o2, E_o2, F_o2_value⟩
set_option maxRecDepth 65536 in
set_option maxHeartbeats 40000000 in
theorem ct_isP_n (l : Launch) (Z : State) (a0 : Array Value) (hw : ∀ d ∈ tables_1, d.before a0 Z = true) (w_BAD_SIGNATURE : Addr) (w_MALFORMED : Addr) (w_CODE_MISMATCH : Addr) (w_NONCE_MISMATCH : Addr) (w_PACKAGE_MISMATCH : Addr) (w_VERSION_MISMATCH : Addr) (w_AE : Addr) (w_IN : Addr) (w_EM : Addr) (w_EI : Addr) (S_BAD_SIGNATURE : Sta Z Z.heap "com/example/warrant/warrant/InvalidReason" "BAD_SIGNATURE" "Lcom/example/warrant/warrant/InvalidReason;" (.ref w_BAD_SIGNATURE)) (S_MALFORMED : Sta Z Z.heap "com/example/warrant/warrant/InvalidReason" "MALFORMED" "Lcom/example/warrant/warrant/InvalidReason;" (.ref w_MALFORMED)) (S_CODE_MISMATCH : Sta Z Z.heap "com/example/warrant/warrant/InvalidReason" "CODE_MISMATCH" "Lcom/example/warrant/warrant/InvalidReason;" (.ref w_CODE_MISMATCH)) (S_NONCE_MISMATCH : Sta Z Z.heap "com/example/warrant/warrant/InvalidReason" "NONCE_MISMATCH" "Lcom/example/warrant/warrant/InvalidReason;" (.ref w_NONCE_MISMATCH)) (S_PACKAGE_MISMATCH : Sta Z Z.heap "com/example/warrant/warrant/InvalidReason" "PACKAGE_MISMATCH" "Lcom/example/warrant/warrant/InvalidReason;" (.ref w_PACKAGE_MISMATCH)) (S_VERSION_MISMATCH : Sta Z Z.heap "com/example/warrant/warrant/InvalidReason" "VERSION_MISMATCH" "Lcom/example/warrant/warrant/InvalidReason;" (.ref w_VERSION_MISMATCH)) (E_BAD_SIGNATURE : Exa Z Z.heap w_BAD_SIGNATURE "com/example/warrant/warrant/InvalidReason") (E_MALFORMED : Exa Z Z.heap w_MALFORMED "com/example/warrant/warrant/InvalidReason") (E_CODE_MISMATCH : Exa Z Z.heap w_CODE_MISMATCH "com/example/warrant/warrant/InvalidReason") (E_NONCE_MISMATCH : Exa Z Z.heap w_NONCE_MISMATCH "com/example/warrant/warrant/InvalidReason") (E_PACKAGE_MISMATCH : Exa Z Z.heap w_PACKAGE_MISMATCH "com/example/warrant/warrant/InvalidReason") (E_VERSION_MISMATCH : Exa Z Z.heap w_VERSION_MISMATCH "com/example/warrant/warrant/InvalidReason") (F_BAD_SIGNATURE : Fld Z Z.heap w_BAD_SIGNATURE "java/lang/Enum" "ordinal" "I" (.int (0 : Int32))) (F_MALFORMED : Fld Z Z.heap w_MALFORMED "java/lang/Enum" "ordinal" "I" (.int (1 : Int32))) (F_CODE_MISMATCH : Fld Z Z.heap w_CODE_MISMATCH "java/lang/Enum" "ordinal" "I" (.int (2 : Int32))) (F_NONCE_MISMATCH : Fld Z Z.heap w_NONCE_MISMATCH "java/lang/Enum" "ordinal" "I" (.int (3 : Int32))) (F_PACKAGE_MISMATCH : Fld Z Z.heap w_PACKAGE_MISMATCH "java/lang/Enum" "ordinal" "I" (.int (4 : Int32))) (F_VERSION_MISMATCH : Fld Z Z.heap w_VERSION_MISMATCH "java/lang/Enum" "ordinal" "I" (.int (5 : Int32))) (S_AE : Sta Z Z.heap "com/example/warrant/warrant/Verdict$Kind" "APPLICATION_ERROR" "Lcom/example/warrant/warrant/Verdict$Kind;" (.ref w_AE)) (S_IN : Sta Z Z.heap "com/example/warrant/warrant/Verdict$Kind" "INVALID" "Lcom/example/warrant/warrant/Verdict$Kind;" (.ref w_IN)) (neK : w_IN ≠ w_AE) (S_EM : Sta Z Z.heap "java/util/Optional" "EMPTY" "Ljava/util/Optional;" (.ref w_EM)) (E_EM : Exa Z Z.heap w_EM "java/util/Optional") (F_EM : Fld Z Z.heap w_EM "java/util/Optional" "value" "Ljava/lang/Object;" .null) (S_EI : Sta Z Z.heap "java/util/OptionalInt" "EMPTY" "Ljava/util/OptionalInt;" (.ref w_EI)) (E_EI : Exa Z Z.heap w_EI "java/util/OptionalInt") (F_EI : Fld Z Z.heap w_EI "java/util/OptionalInt" "isPresent" "Z" (.int (0 : Int32))) (a1 : Addr) (h0 : Heap) (n0 : Nat) (O : Old Z n0 h0) (F1 : Fld Z h0 a1 "java/util/Optional" "value" "Ljava/lang/Object;" .null) :
    Ct l (⟨"java/util/Optional", "isPresent", "()Z"⟩ : MethodName) jdk_32_method_6_code 1 (some .boolean) ({ frames := 0, cells := 0, slots := 0, locals := 0 } : Room) Z #[(.ref a1)] h0 (fun v h L => v = some (.int 0) ∧ Fr n0 L ∧ h0 = h) := by
  refine Ct.of (plainFor_of_name pn_Optional_457) ?_
  intro p e s m below meth c T0 X0 hx hby hml hown hnm hret hlk hZ e0
  have hown : s.vm.findClass "java/util/Optional" = some m.cls := hown
  have hml : c.maxLocals = 1 := hml
  have N0 := Fr.nil n0
  refine Go.cast (g' := mkF m 0 #[.val (.ref a1)] []) (by first | (simp [entryFrame, mkF, argsToLocals, Value.category]; done) | rfl) ?_
  refine Go.by (T' := T0) (g' := (mkF m 1 #[.val (.ref a1)] [(.ref a1)])) (fun t k => ?_) ?_
  · show Steps p.tables e below (T0.setTop (mkF m 0 #[.val (.ref a1)] [])) _
    refine XS.aloadN X0.here hx rfl (hb hby d_j32_m6_0) rfl rfl ?_
    exact k
  refine Go.getF X0 hx hZ hown (wd hw 69 rfl) Via.refl e0 F1 (hb hby d_j32_m6_1) ?_
  intro T1 X1 e1
  show Go p e below _ T1 (mkF m 4 #[.val (.ref a1)] [.null])
  refine Go.by (T' := T1) (g' := (mkF m 12 #[.val (.ref a1)] [(.int (0 : Int32))])) (fun t k => ?_) ?_
  · show Steps p.tables e below (T1.setTop (mkF m 4 #[.val (.ref a1)] [.null])) _
    refine XS.ifnullYes X1.here hx rfl (pc0 := 4) (pc' := 11) rfl (hb hby d_j32_m6_4) rfl (by decide) (by decide) ?_
    show Steps p.tables e below (T1.setTop (mkF m 11 #[.val (.ref a1)] [])) _
    refine XS.iconst X1.here hx rfl (hb hby d_j32_m6_11) ?_
    exact k
  refine Go.retZ X1 hx hlk hret (Or.inl rfl) (hb hby d_j32_m6_12) (by decide) (by decide) e1 ?_
  exact ⟨rfl, N0, rfl⟩
set_option maxRecDepth 65536 in
set_option maxHeartbeats 40000000 in
theorem ct_isP_r (l : Launch) (Z : State) (a0 : Array Value) (hw : ∀ d ∈ tables_1, d.before a0 Z = true) (w_BAD_SIGNATURE : Addr) (w_MALFORMED : Addr) (w_CODE_MISMATCH : Addr) (w_NONCE_MISMATCH : Addr) (w_PACKAGE_MISMATCH : Addr) (w_VERSION_MISMATCH : Addr) (w_AE : Addr) (w_IN : Addr) (w_EM : Addr) (w_EI : Addr) (S_BAD_SIGNATURE : Sta Z Z.heap "com/example/warrant/warrant/InvalidReason" "BAD_SIGNATURE" "Lcom/example/warrant/warrant/InvalidReason;" (.ref w_BAD_SIGNATURE)) (S_MALFORMED : Sta Z Z.heap "com/example/warrant/warrant/InvalidReason" "MALFORMED" "Lcom/example/warrant/warrant/InvalidReason;" (.ref w_MALFORMED)) (S_CODE_MISMATCH : Sta Z Z.heap "com/example/warrant/warrant/InvalidReason" "CODE_MISMATCH" "Lcom/example/warrant/warrant/InvalidReason;" (.ref w_CODE_MISMATCH)) (S_NONCE_MISMATCH : Sta Z Z.heap "com/example/warrant/warrant/InvalidReason" "NONCE_MISMATCH" "Lcom/example/warrant/warrant/InvalidReason;" (.ref w_NONCE_MISMATCH)) (S_PACKAGE_MISMATCH : Sta Z Z.heap "com/example/warrant/warrant/InvalidReason" "PACKAGE_MISMATCH" "Lcom/example/warrant/warrant/InvalidReason;" (.ref w_PACKAGE_MISMATCH)) (S_VERSION_MISMATCH : Sta Z Z.heap "com/example/warrant/warrant/InvalidReason" "VERSION_MISMATCH" "Lcom/example/warrant/warrant/InvalidReason;" (.ref w_VERSION_MISMATCH)) (E_BAD_SIGNATURE : Exa Z Z.heap w_BAD_SIGNATURE "com/example/warrant/warrant/InvalidReason") (E_MALFORMED : Exa Z Z.heap w_MALFORMED "com/example/warrant/warrant/InvalidReason") (E_CODE_MISMATCH : Exa Z Z.heap w_CODE_MISMATCH "com/example/warrant/warrant/InvalidReason") (E_NONCE_MISMATCH : Exa Z Z.heap w_NONCE_MISMATCH "com/example/warrant/warrant/InvalidReason") (E_PACKAGE_MISMATCH : Exa Z Z.heap w_PACKAGE_MISMATCH "com/example/warrant/warrant/InvalidReason") (E_VERSION_MISMATCH : Exa Z Z.heap w_VERSION_MISMATCH "com/example/warrant/warrant/InvalidReason") (F_BAD_SIGNATURE : Fld Z Z.heap w_BAD_SIGNATURE "java/lang/Enum" "ordinal" "I" (.int (0 : Int32))) (F_MALFORMED : Fld Z Z.heap w_MALFORMED "java/lang/Enum" "ordinal" "I" (.int (1 : Int32))) (F_CODE_MISMATCH : Fld Z Z.heap w_CODE_MISMATCH "java/lang/Enum" "ordinal" "I" (.int (2 : Int32))) (F_NONCE_MISMATCH : Fld Z Z.heap w_NONCE_MISMATCH "java/lang/Enum" "ordinal" "I" (.int (3 : Int32))) (F_PACKAGE_MISMATCH : Fld Z Z.heap w_PACKAGE_MISMATCH "java/lang/Enum" "ordinal" "I" (.int (4 : Int32))) (F_VERSION_MISMATCH : Fld Z Z.heap w_VERSION_MISMATCH "java/lang/Enum" "ordinal" "I" (.int (5 : Int32))) (S_AE : Sta Z Z.heap "com/example/warrant/warrant/Verdict$Kind" "APPLICATION_ERROR" "Lcom/example/warrant/warrant/Verdict$Kind;" (.ref w_AE)) (S_IN : Sta Z Z.heap "com/example/warrant/warrant/Verdict$Kind" "INVALID" "Lcom/example/warrant/warrant/Verdict$Kind;" (.ref w_IN)) (neK : w_IN ≠ w_AE) (S_EM : Sta Z Z.heap "java/util/Optional" "EMPTY" "Ljava/util/Optional;" (.ref w_EM)) (E_EM : Exa Z Z.heap w_EM "java/util/Optional") (F_EM : Fld Z Z.heap w_EM "java/util/Optional" "value" "Ljava/lang/Object;" .null) (S_EI : Sta Z Z.heap "java/util/OptionalInt" "EMPTY" "Ljava/util/OptionalInt;" (.ref w_EI)) (E_EI : Exa Z Z.heap w_EI "java/util/OptionalInt") (F_EI : Fld Z Z.heap w_EI "java/util/OptionalInt" "isPresent" "Z" (.int (0 : Int32))) (a1 : Addr) (a2 : Addr) (h0 : Heap) (n0 : Nat) (O : Old Z n0 h0) (F1 : Fld Z h0 a1 "java/util/Optional" "value" "Ljava/lang/Object;" (.ref a2)) :
    Ct l (⟨"java/util/Optional", "isPresent", "()Z"⟩ : MethodName) jdk_32_method_6_code 1 (some .boolean) ({ frames := 0, cells := 0, slots := 0, locals := 0 } : Room) Z #[(.ref a1)] h0 (fun v h L => v = some (.int 1) ∧ Fr n0 L ∧ h0 = h) := by
  refine Ct.of (plainFor_of_name pn_Optional_457) ?_
  intro p e s m below meth c T0 X0 hx hby hml hown hnm hret hlk hZ e0
  have hown : s.vm.findClass "java/util/Optional" = some m.cls := hown
  have hml : c.maxLocals = 1 := hml
  have N0 := Fr.nil n0
  refine Go.cast (g' := mkF m 0 #[.val (.ref a1)] []) (by first | (simp [entryFrame, mkF, argsToLocals, Value.category]; done) | rfl) ?_
  refine Go.by (T' := T0) (g' := (mkF m 1 #[.val (.ref a1)] [(.ref a1)])) (fun t k => ?_) ?_
  · show Steps p.tables e below (T0.setTop (mkF m 0 #[.val (.ref a1)] [])) _
    refine XS.aloadN X0.here hx rfl (hb hby d_j32_m6_0) rfl rfl ?_
    exact k
  refine Go.getF X0 hx hZ hown (wd hw 69 rfl) Via.refl e0 F1 (hb hby d_j32_m6_1) ?_
  intro T1 X1 e1
  show Go p e below _ T1 (mkF m 4 #[.val (.ref a1)] [(.ref a2)])
  refine Go.by (T' := T1) (g' := (mkF m 12 #[.val (.ref a1)] [(.int (1 : Int32))])) (fun t k => ?_) ?_
  · show Steps p.tables e below (T1.setTop (mkF m 4 #[.val (.ref a1)] [(.ref a2)])) _
    refine XS.ifnullNo X1.here hx rfl (hb hby d_j32_m6_4) rfl ?_
    show Steps p.tables e below (T1.setTop (mkF m 7 #[.val (.ref a1)] [])) _
    refine XS.iconst X1.here hx rfl (hb hby d_j32_m6_7) ?_
    show Steps p.tables e below (T1.setTop (mkF m 8 #[.val (.ref a1)] [(.int (1 : Int32))])) _
    refine XS.goto X1.here hx rfl (pc0 := 8) (pc' := 12) rfl (hb hby d_j32_m6_8) (by decide) (by decide) ?_
    exact k
  refine Go.retZ X1 hx hlk hret (Or.inr rfl) (hb hby d_j32_m6_12) (by decide) (by decide) e1 ?_
  exact ⟨rfl, N0, rfl⟩
set_option maxRecDepth 65536 in
set_option maxHeartbeats 40000000 in
theorem ct_opget (l : Launch) (Z : State) (a0 : Array Value) (hw : ∀ d ∈ tables_1, d.before a0 Z = true) (w_BAD_SIGNATURE : Addr) (w_MALFORMED : Addr) (w_CODE_MISMATCH : Addr) (w_NONCE_MISMATCH : Addr) (w_PACKAGE_MISMATCH : Addr) (w_VERSION_MISMATCH : Addr) (w_AE : Addr) (w_IN : Addr) (w_EM : Addr) (w_EI : Addr) (S_BAD_SIGNATURE : Sta Z Z.heap "com/example/warrant/warrant/InvalidReason" "BAD_SIGNATURE" "Lcom/example/warrant/warrant/InvalidReason;" (.ref w_BAD_SIGNATURE)) (S_MALFORMED : Sta Z Z.heap "com/example/warrant/warrant/InvalidReason" "MALFORMED" "Lcom/example/warrant/warrant/InvalidReason;" (.ref w_MALFORMED)) (S_CODE_MISMATCH : Sta Z Z.heap "com/example/warrant/warrant/InvalidReason" "CODE_MISMATCH" "Lcom/example/warrant/warrant/InvalidReason;" (.ref w_CODE_MISMATCH)) (S_NONCE_MISMATCH : Sta Z Z.heap "com/example/warrant/warrant/InvalidReason" "NONCE_MISMATCH" "Lcom/example/warrant/warrant/InvalidReason;" (.ref w_NONCE_MISMATCH)) (S_PACKAGE_MISMATCH : Sta Z Z.heap "com/example/warrant/warrant/InvalidReason" "PACKAGE_MISMATCH" "Lcom/example/warrant/warrant/InvalidReason;" (.ref w_PACKAGE_MISMATCH)) (S_VERSION_MISMATCH : Sta Z Z.heap "com/example/warrant/warrant/InvalidReason" "VERSION_MISMATCH" "Lcom/example/warrant/warrant/InvalidReason;" (.ref w_VERSION_MISMATCH)) (E_BAD_SIGNATURE : Exa Z Z.heap w_BAD_SIGNATURE "com/example/warrant/warrant/InvalidReason") (E_MALFORMED : Exa Z Z.heap w_MALFORMED "com/example/warrant/warrant/InvalidReason") (E_CODE_MISMATCH : Exa Z Z.heap w_CODE_MISMATCH "com/example/warrant/warrant/InvalidReason") (E_NONCE_MISMATCH : Exa Z Z.heap w_NONCE_MISMATCH "com/example/warrant/warrant/InvalidReason") (E_PACKAGE_MISMATCH : Exa Z Z.heap w_PACKAGE_MISMATCH "com/example/warrant/warrant/InvalidReason") (E_VERSION_MISMATCH : Exa Z Z.heap w_VERSION_MISMATCH "com/example/warrant/warrant/InvalidReason") (F_BAD_SIGNATURE : Fld Z Z.heap w_BAD_SIGNATURE "java/lang/Enum" "ordinal" "I" (.int (0 : Int32))) (F_MALFORMED : Fld Z Z.heap w_MALFORMED "java/lang/Enum" "ordinal" "I" (.int (1 : Int32))) (F_CODE_MISMATCH : Fld Z Z.heap w_CODE_MISMATCH "java/lang/Enum" "ordinal" "I" (.int (2 : Int32))) (F_NONCE_MISMATCH : Fld Z Z.heap w_NONCE_MISMATCH "java/lang/Enum" "ordinal" "I" (.int (3 : Int32))) (F_PACKAGE_MISMATCH : Fld Z Z.heap w_PACKAGE_MISMATCH "java/lang/Enum" "ordinal" "I" (.int (4 : Int32))) (F_VERSION_MISMATCH : Fld Z Z.heap w_VERSION_MISMATCH "java/lang/Enum" "ordinal" "I" (.int (5 : Int32))) (S_AE : Sta Z Z.heap "com/example/warrant/warrant/Verdict$Kind" "APPLICATION_ERROR" "Lcom/example/warrant/warrant/Verdict$Kind;" (.ref w_AE)) (S_IN : Sta Z Z.heap "com/example/warrant/warrant/Verdict$Kind" "INVALID" "Lcom/example/warrant/warrant/Verdict$Kind;" (.ref w_IN)) (neK : w_IN ≠ w_AE) (S_EM : Sta Z Z.heap "java/util/Optional" "EMPTY" "Ljava/util/Optional;" (.ref w_EM)) (E_EM : Exa Z Z.heap w_EM "java/util/Optional") (F_EM : Fld Z Z.heap w_EM "java/util/Optional" "value" "Ljava/lang/Object;" .null) (S_EI : Sta Z Z.heap "java/util/OptionalInt" "EMPTY" "Ljava/util/OptionalInt;" (.ref w_EI)) (E_EI : Exa Z Z.heap w_EI "java/util/OptionalInt") (F_EI : Fld Z Z.heap w_EI "java/util/OptionalInt" "isPresent" "Z" (.int (0 : Int32))) (a1 : Addr) (a2 : Addr) (h0 : Heap) (n0 : Nat) (O : Old Z n0 h0) (F1 : Fld Z h0 a1 "java/util/Optional" "value" "Ljava/lang/Object;" (.ref a2)) :
    Ct l (⟨"java/util/Optional", "get", "()Ljava/lang/Object;"⟩ : MethodName) jdk_32_method_5_code 1 (some (.object "java/lang/Object")) ({ frames := 0, cells := 0, slots := 0, locals := 0 } : Room) Z #[(.ref a1)] h0 (fun v h L => v = some (.ref a2) ∧ Fr n0 L ∧ h0 = h) := by
  refine Ct.of (plainFor_of_name pn_Optional_457) ?_
  intro p e s m below meth c T0 X0 hx hby hml hown hnm hret hlk hZ e0
  have hown : s.vm.findClass "java/util/Optional" = some m.cls := hown
  have hml : c.maxLocals = 1 := hml
  have N0 := Fr.nil n0
  refine Go.cast (g' := mkF m 0 #[.val (.ref a1)] []) (by first | (simp [entryFrame, mkF, argsToLocals, Value.category]; done) | rfl) ?_
  refine Go.by (T' := T0) (g' := (mkF m 1 #[.val (.ref a1)] [(.ref a1)])) (fun t k => ?_) ?_
  · show Steps p.tables e below (T0.setTop (mkF m 0 #[.val (.ref a1)] [])) _
    refine XS.aloadN X0.here hx rfl (hb hby d_j32_m5_0) rfl rfl ?_
    exact k
  refine Go.getF X0 hx hZ hown (wd hw 69 rfl) Via.refl e0 F1 (hb hby d_j32_m5_1) ?_
  intro T1 X1 e1
  show Go p e below _ T1 (mkF m 4 #[.val (.ref a1)] [(.ref a2)])
  refine Go.by (T' := T1) (g' := (mkF m 18 #[.val (.ref a1)] [(.ref a1)])) (fun t k => ?_) ?_
  · show Steps p.tables e below (T1.setTop (mkF m 4 #[.val (.ref a1)] [(.ref a2)])) _
    refine XS.ifnonnullYes X1.here hx rfl (pc0 := 4) (pc' := 17) rfl (hb hby d_j32_m5_4) rfl (by decide) (by decide) ?_
    show Steps p.tables e below (T1.setTop (mkF m 17 #[.val (.ref a1)] [])) _
    refine XS.aloadN X1.here hx rfl (hb hby d_j32_m5_17) rfl rfl ?_
    exact k
  refine Go.getF X1 hx hZ hown (wd hw 69 rfl) Via.refl e1 F1 (hb hby d_j32_m5_18) ?_
  intro T2 X2 e2
  show Go p e below _ T2 (mkF m 21 #[.val (.ref a1)] [(.ref a2)])
  refine Go.retA X2 hx hlk hret rfl rfl (hb hby d_j32_m5_21) (by decide) (by decide) e2 ?_
  exact ⟨rfl, N0, rfl⟩
set_option maxRecDepth 65536 in
set_option maxHeartbeats 40000000 in
theorem ct_oie (l : Launch) (Z : State) (a0 : Array Value) (hw : ∀ d ∈ tables_1, d.before a0 Z = true) (w_BAD_SIGNATURE : Addr) (w_MALFORMED : Addr) (w_CODE_MISMATCH : Addr) (w_NONCE_MISMATCH : Addr) (w_PACKAGE_MISMATCH : Addr) (w_VERSION_MISMATCH : Addr) (w_AE : Addr) (w_IN : Addr) (w_EM : Addr) (w_EI : Addr) (S_BAD_SIGNATURE : Sta Z Z.heap "com/example/warrant/warrant/InvalidReason" "BAD_SIGNATURE" "Lcom/example/warrant/warrant/InvalidReason;" (.ref w_BAD_SIGNATURE)) (S_MALFORMED : Sta Z Z.heap "com/example/warrant/warrant/InvalidReason" "MALFORMED" "Lcom/example/warrant/warrant/InvalidReason;" (.ref w_MALFORMED)) (S_CODE_MISMATCH : Sta Z Z.heap "com/example/warrant/warrant/InvalidReason" "CODE_MISMATCH" "Lcom/example/warrant/warrant/InvalidReason;" (.ref w_CODE_MISMATCH)) (S_NONCE_MISMATCH : Sta Z Z.heap "com/example/warrant/warrant/InvalidReason" "NONCE_MISMATCH" "Lcom/example/warrant/warrant/InvalidReason;" (.ref w_NONCE_MISMATCH)) (S_PACKAGE_MISMATCH : Sta Z Z.heap "com/example/warrant/warrant/InvalidReason" "PACKAGE_MISMATCH" "Lcom/example/warrant/warrant/InvalidReason;" (.ref w_PACKAGE_MISMATCH)) (S_VERSION_MISMATCH : Sta Z Z.heap "com/example/warrant/warrant/InvalidReason" "VERSION_MISMATCH" "Lcom/example/warrant/warrant/InvalidReason;" (.ref w_VERSION_MISMATCH)) (E_BAD_SIGNATURE : Exa Z Z.heap w_BAD_SIGNATURE "com/example/warrant/warrant/InvalidReason") (E_MALFORMED : Exa Z Z.heap w_MALFORMED "com/example/warrant/warrant/InvalidReason") (E_CODE_MISMATCH : Exa Z Z.heap w_CODE_MISMATCH "com/example/warrant/warrant/InvalidReason") (E_NONCE_MISMATCH : Exa Z Z.heap w_NONCE_MISMATCH "com/example/warrant/warrant/InvalidReason") (E_PACKAGE_MISMATCH : Exa Z Z.heap w_PACKAGE_MISMATCH "com/example/warrant/warrant/InvalidReason") (E_VERSION_MISMATCH : Exa Z Z.heap w_VERSION_MISMATCH "com/example/warrant/warrant/InvalidReason") (F_BAD_SIGNATURE : Fld Z Z.heap w_BAD_SIGNATURE "java/lang/Enum" "ordinal" "I" (.int (0 : Int32))) (F_MALFORMED : Fld Z Z.heap w_MALFORMED "java/lang/Enum" "ordinal" "I" (.int (1 : Int32))) (F_CODE_MISMATCH : Fld Z Z.heap w_CODE_MISMATCH "java/lang/Enum" "ordinal" "I" (.int (2 : Int32))) (F_NONCE_MISMATCH : Fld Z Z.heap w_NONCE_MISMATCH "java/lang/Enum" "ordinal" "I" (.int (3 : Int32))) (F_PACKAGE_MISMATCH : Fld Z Z.heap w_PACKAGE_MISMATCH "java/lang/Enum" "ordinal" "I" (.int (4 : Int32))) (F_VERSION_MISMATCH : Fld Z Z.heap w_VERSION_MISMATCH "java/lang/Enum" "ordinal" "I" (.int (5 : Int32))) (S_AE : Sta Z Z.heap "com/example/warrant/warrant/Verdict$Kind" "APPLICATION_ERROR" "Lcom/example/warrant/warrant/Verdict$Kind;" (.ref w_AE)) (S_IN : Sta Z Z.heap "com/example/warrant/warrant/Verdict$Kind" "INVALID" "Lcom/example/warrant/warrant/Verdict$Kind;" (.ref w_IN)) (neK : w_IN ≠ w_AE) (S_EM : Sta Z Z.heap "java/util/Optional" "EMPTY" "Ljava/util/Optional;" (.ref w_EM)) (E_EM : Exa Z Z.heap w_EM "java/util/Optional") (F_EM : Fld Z Z.heap w_EM "java/util/Optional" "value" "Ljava/lang/Object;" .null) (S_EI : Sta Z Z.heap "java/util/OptionalInt" "EMPTY" "Ljava/util/OptionalInt;" (.ref w_EI)) (E_EI : Exa Z Z.heap w_EI "java/util/OptionalInt") (F_EI : Fld Z Z.heap w_EI "java/util/OptionalInt" "isPresent" "Z" (.int (0 : Int32))) (h0 : Heap) (n0 : Nat) (O : Old Z n0 h0)  :
    Ct l (⟨"java/util/OptionalInt", "empty", "()Ljava/util/OptionalInt;"⟩ : MethodName) jdk_2649_method_2_code 0 (some (.object "java/util/OptionalInt")) ({ frames := 0, cells := 0, slots := 0, locals := 0 } : Room) Z #[] h0 (fun v h L => v = some (.ref w_EI) ∧ Fr n0 L ∧ h0 = h) := by
  refine Ct.of (plainFor_of_name pn_OptionalInt_269) ?_
  intro p e s m below meth c T0 X0 hx hby hml hown hnm hret hlk hZ e0
  have hown : s.vm.findClass "java/util/OptionalInt" = some m.cls := hown
  have hml : c.maxLocals = 0 := hml
  have N0 := Fr.nil n0
  refine Go.cast (g' := mkF m 0 #[] []) (by first | (simp [entryFrame, mkF, argsToLocals, Value.category]; done) | rfl) ?_
  refine Go.getS X0 hx hZ hown (wd hw 98 rfl) Via.refl e0 (S_EI.ext O.2) (hb hby d_j2649_m2_0) ?_
  intro T1 X1 e1
  show Go p e below _ T1 (mkF m 3 #[] [(.ref w_EI)])
  refine Go.retA X1 hx hlk hret rfl rfl (hb hby d_j2649_m2_3) (by decide) (by decide) e1 ?_
  exact ⟨rfl, N0, rfl⟩
set_option maxRecDepth 65536 in
set_option maxHeartbeats 40000000 in
theorem ct_aec (l : Launch) (Z : State) (a0 : Array Value) (hw : ∀ d ∈ tables_1, d.before a0 Z = true) (w_BAD_SIGNATURE : Addr) (w_MALFORMED : Addr) (w_CODE_MISMATCH : Addr) (w_NONCE_MISMATCH : Addr) (w_PACKAGE_MISMATCH : Addr) (w_VERSION_MISMATCH : Addr) (w_AE : Addr) (w_IN : Addr) (w_EM : Addr) (w_EI : Addr) (S_BAD_SIGNATURE : Sta Z Z.heap "com/example/warrant/warrant/InvalidReason" "BAD_SIGNATURE" "Lcom/example/warrant/warrant/InvalidReason;" (.ref w_BAD_SIGNATURE)) (S_MALFORMED : Sta Z Z.heap "com/example/warrant/warrant/InvalidReason" "MALFORMED" "Lcom/example/warrant/warrant/InvalidReason;" (.ref w_MALFORMED)) (S_CODE_MISMATCH : Sta Z Z.heap "com/example/warrant/warrant/InvalidReason" "CODE_MISMATCH" "Lcom/example/warrant/warrant/InvalidReason;" (.ref w_CODE_MISMATCH)) (S_NONCE_MISMATCH : Sta Z Z.heap "com/example/warrant/warrant/InvalidReason" "NONCE_MISMATCH" "Lcom/example/warrant/warrant/InvalidReason;" (.ref w_NONCE_MISMATCH)) (S_PACKAGE_MISMATCH : Sta Z Z.heap "com/example/warrant/warrant/InvalidReason" "PACKAGE_MISMATCH" "Lcom/example/warrant/warrant/InvalidReason;" (.ref w_PACKAGE_MISMATCH)) (S_VERSION_MISMATCH : Sta Z Z.heap "com/example/warrant/warrant/InvalidReason" "VERSION_MISMATCH" "Lcom/example/warrant/warrant/InvalidReason;" (.ref w_VERSION_MISMATCH)) (E_BAD_SIGNATURE : Exa Z Z.heap w_BAD_SIGNATURE "com/example/warrant/warrant/InvalidReason") (E_MALFORMED : Exa Z Z.heap w_MALFORMED "com/example/warrant/warrant/InvalidReason") (E_CODE_MISMATCH : Exa Z Z.heap w_CODE_MISMATCH "com/example/warrant/warrant/InvalidReason") (E_NONCE_MISMATCH : Exa Z Z.heap w_NONCE_MISMATCH "com/example/warrant/warrant/InvalidReason") (E_PACKAGE_MISMATCH : Exa Z Z.heap w_PACKAGE_MISMATCH "com/example/warrant/warrant/InvalidReason") (E_VERSION_MISMATCH : Exa Z Z.heap w_VERSION_MISMATCH "com/example/warrant/warrant/InvalidReason") (F_BAD_SIGNATURE : Fld Z Z.heap w_BAD_SIGNATURE "java/lang/Enum" "ordinal" "I" (.int (0 : Int32))) (F_MALFORMED : Fld Z Z.heap w_MALFORMED "java/lang/Enum" "ordinal" "I" (.int (1 : Int32))) (F_CODE_MISMATCH : Fld Z Z.heap w_CODE_MISMATCH "java/lang/Enum" "ordinal" "I" (.int (2 : Int32))) (F_NONCE_MISMATCH : Fld Z Z.heap w_NONCE_MISMATCH "java/lang/Enum" "ordinal" "I" (.int (3 : Int32))) (F_PACKAGE_MISMATCH : Fld Z Z.heap w_PACKAGE_MISMATCH "java/lang/Enum" "ordinal" "I" (.int (4 : Int32))) (F_VERSION_MISMATCH : Fld Z Z.heap w_VERSION_MISMATCH "java/lang/Enum" "ordinal" "I" (.int (5 : Int32))) (S_AE : Sta Z Z.heap "com/example/warrant/warrant/Verdict$Kind" "APPLICATION_ERROR" "Lcom/example/warrant/warrant/Verdict$Kind;" (.ref w_AE)) (S_IN : Sta Z Z.heap "com/example/warrant/warrant/Verdict$Kind" "INVALID" "Lcom/example/warrant/warrant/Verdict$Kind;" (.ref w_IN)) (neK : w_IN ≠ w_AE) (S_EM : Sta Z Z.heap "java/util/Optional" "EMPTY" "Ljava/util/Optional;" (.ref w_EM)) (E_EM : Exa Z Z.heap w_EM "java/util/Optional") (F_EM : Fld Z Z.heap w_EM "java/util/Optional" "value" "Ljava/lang/Object;" .null) (S_EI : Sta Z Z.heap "java/util/OptionalInt" "EMPTY" "Ljava/util/OptionalInt;" (.ref w_EI)) (E_EI : Exa Z Z.heap w_EI "java/util/OptionalInt") (F_EI : Fld Z Z.heap w_EI "java/util/OptionalInt" "isPresent" "Z" (.int (0 : Int32))) (a1 : Addr) (h0 : Heap) (n0 : Nat) (O : Old Z n0 h0) (F1 : Fld Z h0 a1 "com/example/warrant/warrant/Verdict" "kind" "Lcom/example/warrant/warrant/Verdict$Kind;" (.ref w_IN)) :
    Ct l (⟨"com/example/warrant/warrant/Verdict", "applicationErrorCode", "()Ljava/util/OptionalInt;"⟩ : MethodName) prog_47_method_11_code 1 (some (.object "java/util/OptionalInt")) ({ frames := 1, cells := 0, slots := 0, locals := 11 } : Room) Z #[(.ref a1)] h0 (fun v h L => v = some (.ref w_EI) ∧ Fr n0 L ∧ h0 = h) := by
  refine Ct.of (plainFor_of_name pn_Verdict_984) ?_
  intro p e s m below meth c T0 X0 hx hby hml hown hnm hret hlk hZ e0
  have hown : s.vm.findClass "com/example/warrant/warrant/Verdict" = some m.cls := hown
  have hml : c.maxLocals = 1 := hml
  have N0 := Fr.nil n0
  refine Go.cast (g' := mkF m 0 #[.val (.ref a1)] []) (by first | (simp [entryFrame, mkF, argsToLocals, Value.category]; done) | rfl) ?_
  refine Go.by (T' := T0) (g' := (mkF m 1 #[.val (.ref a1)] [(.ref a1)])) (fun t k => ?_) ?_
  · show Steps p.tables e below (T0.setTop (mkF m 0 #[.val (.ref a1)] [])) _
    refine XS.aloadN X0.here hx rfl (hb hby d_p47_m11_0) rfl rfl ?_
    exact k
  refine Go.getF X0 hx hZ hown (wd hw 39 rfl) Via.refl e0 F1 (hb hby d_p47_m11_1) ?_
  intro T1 X1 e1
  show Go p e below _ T1 (mkF m 4 #[.val (.ref a1)] [(.ref w_IN)])
  refine Go.getS X1 hx hZ hown (wd hw 92 rfl) Via.refl e1 (S_AE.ext O.2) (hb hby d_p47_m11_4) ?_
  intro T2 X2 e2
  show Go p e below _ T2 (mkF m 7 #[.val (.ref a1)] [(.ref w_AE), (.ref w_IN)])
  refine Go.by (T' := T2) (g' := (mkF m 20 #[.val (.ref a1)] [])) (fun t k => ?_) ?_
  · show Steps p.tables e below (T2.setTop (mkF m 7 #[.val (.ref a1)] [(.ref w_AE), (.ref w_IN)])) _
    refine Jvm.RoadKit.acmp (g := (mkF m 7 #[.val (.ref a1)] [(.ref w_AE), (.ref w_IN)])) X2 hx rfl rfl rfl (pc0 := 7) (pc' := 20) (same := false) rfl (hb hby d_p47_m11_7) rfl (decide_eq_false fun q => neK (Value.ref.inj q)) (by decide) (by decide) ?_
    exact k
  refine Go.callS X2 hx hZ (W := 0) (argsL := []) (rest := []) hown (wd hw 94 rfl) (wd hw 95 rfl) (wd hw 96 rfl) (wd hw 97 rfl) (by decide) (ct_oie l Z a0 hw w_BAD_SIGNATURE w_MALFORMED w_CODE_MISMATCH w_NONCE_MISMATCH w_PACKAGE_MISMATCH w_VERSION_MISMATCH w_AE w_IN w_EM w_EI S_BAD_SIGNATURE S_MALFORMED S_CODE_MISMATCH S_NONCE_MISMATCH S_PACKAGE_MISMATCH S_VERSION_MISMATCH E_BAD_SIGNATURE E_MALFORMED E_CODE_MISMATCH E_NONCE_MISMATCH E_PACKAGE_MISMATCH E_VERSION_MISMATCH F_BAD_SIGNATURE F_MALFORMED F_CODE_MISMATCH F_NONCE_MISMATCH F_PACKAGE_MISMATCH F_VERSION_MISMATCH S_AE S_IN neK S_EM E_EM F_EM S_EI E_EI F_EI  h0 n0 O ) e2 (by rw [hml]; rfl) (lenOf pd___Ljava_util_OptionalInt__4070 rfl) rfl rfl (hb hby d_p47_m11_20) (by decide) (by decide) (by decide) (by decide) ?_
  intro v3 T3 h3 L3 X3 e3 q3
  obtain ⟨rfl, N3, rfl⟩ := q3
  replace N3 := Fr.app N0 N3
  show Go p e below _ T3 (mkF m 23 #[.val (.ref a1)] [(.ref w_EI)])
  refine Go.retA X3 hx hlk hret rfl rfl (hb hby d_p47_m11_23) (by decide) (by decide) e3 ?_
  exact ⟨rfl, N3, rfl⟩
set_option maxRecDepth 65536 in
set_option maxHeartbeats 40000000 in
theorem ct_oldKey (l : Launch) (Z : State) (a0 : Array Value) (hw : ∀ d ∈ tables_1, d.before a0 Z = true) (w_BAD_SIGNATURE : Addr) (w_MALFORMED : Addr) (w_CODE_MISMATCH : Addr) (w_NONCE_MISMATCH : Addr) (w_PACKAGE_MISMATCH : Addr) (w_VERSION_MISMATCH : Addr) (w_AE : Addr) (w_IN : Addr) (w_EM : Addr) (w_EI : Addr) (S_BAD_SIGNATURE : Sta Z Z.heap "com/example/warrant/warrant/InvalidReason" "BAD_SIGNATURE" "Lcom/example/warrant/warrant/InvalidReason;" (.ref w_BAD_SIGNATURE)) (S_MALFORMED : Sta Z Z.heap "com/example/warrant/warrant/InvalidReason" "MALFORMED" "Lcom/example/warrant/warrant/InvalidReason;" (.ref w_MALFORMED)) (S_CODE_MISMATCH : Sta Z Z.heap "com/example/warrant/warrant/InvalidReason" "CODE_MISMATCH" "Lcom/example/warrant/warrant/InvalidReason;" (.ref w_CODE_MISMATCH)) (S_NONCE_MISMATCH : Sta Z Z.heap "com/example/warrant/warrant/InvalidReason" "NONCE_MISMATCH" "Lcom/example/warrant/warrant/InvalidReason;" (.ref w_NONCE_MISMATCH)) (S_PACKAGE_MISMATCH : Sta Z Z.heap "com/example/warrant/warrant/InvalidReason" "PACKAGE_MISMATCH" "Lcom/example/warrant/warrant/InvalidReason;" (.ref w_PACKAGE_MISMATCH)) (S_VERSION_MISMATCH : Sta Z Z.heap "com/example/warrant/warrant/InvalidReason" "VERSION_MISMATCH" "Lcom/example/warrant/warrant/InvalidReason;" (.ref w_VERSION_MISMATCH)) (E_BAD_SIGNATURE : Exa Z Z.heap w_BAD_SIGNATURE "com/example/warrant/warrant/InvalidReason") (E_MALFORMED : Exa Z Z.heap w_MALFORMED "com/example/warrant/warrant/InvalidReason") (E_CODE_MISMATCH : Exa Z Z.heap w_CODE_MISMATCH "com/example/warrant/warrant/InvalidReason") (E_NONCE_MISMATCH : Exa Z Z.heap w_NONCE_MISMATCH "com/example/warrant/warrant/InvalidReason") (E_PACKAGE_MISMATCH : Exa Z Z.heap w_PACKAGE_MISMATCH "com/example/warrant/warrant/InvalidReason") (E_VERSION_MISMATCH : Exa Z Z.heap w_VERSION_MISMATCH "com/example/warrant/warrant/InvalidReason") (F_BAD_SIGNATURE : Fld Z Z.heap w_BAD_SIGNATURE "java/lang/Enum" "ordinal" "I" (.int (0 : Int32))) (F_MALFORMED : Fld Z Z.heap w_MALFORMED "java/lang/Enum" "ordinal" "I" (.int (1 : Int32))) (F_CODE_MISMATCH : Fld Z Z.heap w_CODE_MISMATCH "java/lang/Enum" "ordinal" "I" (.int (2 : Int32))) (F_NONCE_MISMATCH : Fld Z Z.heap w_NONCE_MISMATCH "java/lang/Enum" "ordinal" "I" (.int (3 : Int32))) (F_PACKAGE_MISMATCH : Fld Z Z.heap w_PACKAGE_MISMATCH "java/lang/Enum" "ordinal" "I" (.int (4 : Int32))) (F_VERSION_MISMATCH : Fld Z Z.heap w_VERSION_MISMATCH "java/lang/Enum" "ordinal" "I" (.int (5 : Int32))) (S_AE : Sta Z Z.heap "com/example/warrant/warrant/Verdict$Kind" "APPLICATION_ERROR" "Lcom/example/warrant/warrant/Verdict$Kind;" (.ref w_AE)) (S_IN : Sta Z Z.heap "com/example/warrant/warrant/Verdict$Kind" "INVALID" "Lcom/example/warrant/warrant/Verdict$Kind;" (.ref w_IN)) (neK : w_IN ≠ w_AE) (S_EM : Sta Z Z.heap "java/util/Optional" "EMPTY" "Ljava/util/Optional;" (.ref w_EM)) (E_EM : Exa Z Z.heap w_EM "java/util/Optional") (F_EM : Fld Z Z.heap w_EM "java/util/Optional" "value" "Ljava/lang/Object;" .null) (S_EI : Sta Z Z.heap "java/util/OptionalInt" "EMPTY" "Ljava/util/OptionalInt;" (.ref w_EI)) (E_EI : Exa Z Z.heap w_EI "java/util/OptionalInt") (F_EI : Fld Z Z.heap w_EI "java/util/OptionalInt" "isPresent" "Z" (.int (0 : Int32))) (a1 : Addr) (h0 : Heap) (n0 : Nat) (O : Old Z n0 h0) (F1 : Fld Z h0 a1 "com/example/warrant/warrant/Verdict" "signedData" "Lcom/example/warrant/warrant/SignedData;" .null) :
    Ct l (⟨"com/example/warrant/warrant/Verdict", "oldKey", "()Z"⟩ : MethodName) prog_47_method_8_code 1 (some .boolean) ({ frames := 0, cells := 0, slots := 0, locals := 0 } : Room) Z #[(.ref a1)] h0 (fun v h L => v = some (.int 0) ∧ Fr n0 L ∧ h0 = h) := by
  refine Ct.of (plainFor_of_name pn_Verdict_984) ?_
  intro p e s m below meth c T0 X0 hx hby hml hown hnm hret hlk hZ e0
  have hown : s.vm.findClass "com/example/warrant/warrant/Verdict" = some m.cls := hown
  have hml : c.maxLocals = 1 := hml
  have N0 := Fr.nil n0
  refine Go.cast (g' := mkF m 0 #[.val (.ref a1)] []) (by first | (simp [entryFrame, mkF, argsToLocals, Value.category]; done) | rfl) ?_
  refine Go.by (T' := T0) (g' := (mkF m 1 #[.val (.ref a1)] [(.ref a1)])) (fun t k => ?_) ?_
  · show Steps p.tables e below (T0.setTop (mkF m 0 #[.val (.ref a1)] [])) _
    refine XS.aloadN X0.here hx rfl (hb hby d_p47_m8_0) rfl rfl ?_
    exact k
  refine Go.getF X0 hx hZ hown (wd hw 41 rfl) Via.refl e0 F1 (hb hby d_p47_m8_1) ?_
  intro T1 X1 e1
  show Go p e below _ T1 (mkF m 4 #[.val (.ref a1)] [.null])
  refine Go.by (T' := T1) (g' := (mkF m 28 #[.val (.ref a1)] [(.int (0 : Int32))])) (fun t k => ?_) ?_
  · show Steps p.tables e below (T1.setTop (mkF m 4 #[.val (.ref a1)] [.null])) _
    refine XS.ifnullYes X1.here hx rfl (pc0 := 4) (pc' := 27) rfl (hb hby d_p47_m8_4) rfl (by decide) (by decide) ?_
    show Steps p.tables e below (T1.setTop (mkF m 27 #[.val (.ref a1)] [])) _
    refine XS.iconst X1.here hx rfl (hb hby d_p47_m8_27) ?_
    exact k
  refine Go.retZ X1 hx hlk hret (Or.inl rfl) (hb hby d_p47_m8_28) (by decide) (by decide) e1 ?_
  exact ⟨rfl, N0, rfl⟩
set_option maxRecDepth 65536 in
set_option maxHeartbeats 40000000 in
theorem ct_oeq (l : Launch) (Z : State) (a0 : Array Value) (hw : ∀ d ∈ tables_1, d.before a0 Z = true) (w_BAD_SIGNATURE : Addr) (w_MALFORMED : Addr) (w_CODE_MISMATCH : Addr) (w_NONCE_MISMATCH : Addr) (w_PACKAGE_MISMATCH : Addr) (w_VERSION_MISMATCH : Addr) (w_AE : Addr) (w_IN : Addr) (w_EM : Addr) (w_EI : Addr) (S_BAD_SIGNATURE : Sta Z Z.heap "com/example/warrant/warrant/InvalidReason" "BAD_SIGNATURE" "Lcom/example/warrant/warrant/InvalidReason;" (.ref w_BAD_SIGNATURE)) (S_MALFORMED : Sta Z Z.heap "com/example/warrant/warrant/InvalidReason" "MALFORMED" "Lcom/example/warrant/warrant/InvalidReason;" (.ref w_MALFORMED)) (S_CODE_MISMATCH : Sta Z Z.heap "com/example/warrant/warrant/InvalidReason" "CODE_MISMATCH" "Lcom/example/warrant/warrant/InvalidReason;" (.ref w_CODE_MISMATCH)) (S_NONCE_MISMATCH : Sta Z Z.heap "com/example/warrant/warrant/InvalidReason" "NONCE_MISMATCH" "Lcom/example/warrant/warrant/InvalidReason;" (.ref w_NONCE_MISMATCH)) (S_PACKAGE_MISMATCH : Sta Z Z.heap "com/example/warrant/warrant/InvalidReason" "PACKAGE_MISMATCH" "Lcom/example/warrant/warrant/InvalidReason;" (.ref w_PACKAGE_MISMATCH)) (S_VERSION_MISMATCH : Sta Z Z.heap "com/example/warrant/warrant/InvalidReason" "VERSION_MISMATCH" "Lcom/example/warrant/warrant/InvalidReason;" (.ref w_VERSION_MISMATCH)) (E_BAD_SIGNATURE : Exa Z Z.heap w_BAD_SIGNATURE "com/example/warrant/warrant/InvalidReason") (E_MALFORMED : Exa Z Z.heap w_MALFORMED "com/example/warrant/warrant/InvalidReason") (E_CODE_MISMATCH : Exa Z Z.heap w_CODE_MISMATCH "com/example/warrant/warrant/InvalidReason") (E_NONCE_MISMATCH : Exa Z Z.heap w_NONCE_MISMATCH "com/example/warrant/warrant/InvalidReason") (E_PACKAGE_MISMATCH : Exa Z Z.heap w_PACKAGE_MISMATCH "com/example/warrant/warrant/InvalidReason") (E_VERSION_MISMATCH : Exa Z Z.heap w_VERSION_MISMATCH "com/example/warrant/warrant/InvalidReason") (F_BAD_SIGNATURE : Fld Z Z.heap w_BAD_SIGNATURE "java/lang/Enum" "ordinal" "I" (.int (0 : Int32))) (F_MALFORMED : Fld Z Z.heap w_MALFORMED "java/lang/Enum" "ordinal" "I" (.int (1 : Int32))) (F_CODE_MISMATCH : Fld Z Z.heap w_CODE_MISMATCH "java/lang/Enum" "ordinal" "I" (.int (2 : Int32))) (F_NONCE_MISMATCH : Fld Z Z.heap w_NONCE_MISMATCH "java/lang/Enum" "ordinal" "I" (.int (3 : Int32))) (F_PACKAGE_MISMATCH : Fld Z Z.heap w_PACKAGE_MISMATCH "java/lang/Enum" "ordinal" "I" (.int (4 : Int32))) (F_VERSION_MISMATCH : Fld Z Z.heap w_VERSION_MISMATCH "java/lang/Enum" "ordinal" "I" (.int (5 : Int32))) (S_AE : Sta Z Z.heap "com/example/warrant/warrant/Verdict$Kind" "APPLICATION_ERROR" "Lcom/example/warrant/warrant/Verdict$Kind;" (.ref w_AE)) (S_IN : Sta Z Z.heap "com/example/warrant/warrant/Verdict$Kind" "INVALID" "Lcom/example/warrant/warrant/Verdict$Kind;" (.ref w_IN)) (neK : w_IN ≠ w_AE) (S_EM : Sta Z Z.heap "java/util/Optional" "EMPTY" "Ljava/util/Optional;" (.ref w_EM)) (E_EM : Exa Z Z.heap w_EM "java/util/Optional") (F_EM : Fld Z Z.heap w_EM "java/util/Optional" "value" "Ljava/lang/Object;" .null) (S_EI : Sta Z Z.heap "java/util/OptionalInt" "EMPTY" "Ljava/util/OptionalInt;" (.ref w_EI)) (E_EI : Exa Z Z.heap w_EI "java/util/OptionalInt") (F_EI : Fld Z Z.heap w_EI "java/util/OptionalInt" "isPresent" "Z" (.int (0 : Int32))) (h0 : Heap) (n0 : Nat) (O : Old Z n0 h0)  :
    Ct l (⟨"java/util/Objects", "equals", "(Ljava/lang/Object;Ljava/lang/Object;)Z"⟩ : MethodName) jdk_31_method_2_code 2 (some .boolean) ({ frames := 0, cells := 0, slots := 0, locals := 0 } : Room) Z #[.null, .null] h0 (fun v h L => v = some (.int 1) ∧ Fr n0 L ∧ h0 = h) := by
  refine Ct.of (plainFor_of_name pn_Objects_297) ?_
  intro p e s m below meth c T0 X0 hx hby hml hown hnm hret hlk hZ e0
  have hown : s.vm.findClass "java/util/Objects" = some m.cls := hown
  have hml : c.maxLocals = 2 := hml
  have N0 := Fr.nil n0
  refine Go.cast (g' := mkF m 0 #[.val .null, .val .null] []) (by first | (simp [entryFrame, mkF, argsToLocals, Value.category]; done) | rfl) ?_
  refine Go.by (T' := T0) (g' := (mkF m 22 #[.val .null, .val .null] [(.int (1 : Int32))])) (fun t k => ?_) ?_
  · show Steps p.tables e below (T0.setTop (mkF m 0 #[.val .null, .val .null] [])) _
    refine XS.aloadN X0.here hx rfl (hb hby d_j31_m2_0) rfl rfl ?_
    show Steps p.tables e below (T0.setTop (mkF m 1 #[.val .null, .val .null] [.null])) _
    refine XS.aloadN X0.here hx rfl (hb hby d_j31_m2_1) rfl rfl ?_
    show Steps p.tables e below (T0.setTop (mkF m 2 #[.val .null, .val .null] [.null, .null])) _
    refine Jvm.RoadKit.acmp (g := (mkF m 2 #[.val .null, .val .null] [.null, .null])) X0 hx rfl rfl rfl (pc0 := 2) (pc' := 17) (same := true) rfl (hb hby d_j31_m2_2) rfl (decide_eq_true rfl) (by decide) (by decide) ?_
    show Steps p.tables e below (T0.setTop (mkF m 17 #[.val .null, .val .null] [])) _
    refine XS.iconst X0.here hx rfl (hb hby d_j31_m2_17) ?_
    show Steps p.tables e below (T0.setTop (mkF m 18 #[.val .null, .val .null] [(.int (1 : Int32))])) _
    refine XS.goto X0.here hx rfl (pc0 := 18) (pc' := 22) rfl (hb hby d_j31_m2_18) (by decide) (by decide) ?_
    exact k
  refine Go.retZ X0 hx hlk hret (Or.inr rfl) (hb hby d_j31_m2_22) (by decide) (by decide) e0 ?_
  exact ⟨rfl, N0, rfl⟩
set_option maxRecDepth 65536 in
set_option maxHeartbeats 40000000 in
theorem ct_veq (l : Launch) (Z : State) (a0 : Array Value) (hw : ∀ d ∈ tables_1, d.before a0 Z = true) (w_BAD_SIGNATURE : Addr) (w_MALFORMED : Addr) (w_CODE_MISMATCH : Addr) (w_NONCE_MISMATCH : Addr) (w_PACKAGE_MISMATCH : Addr) (w_VERSION_MISMATCH : Addr) (w_AE : Addr) (w_IN : Addr) (w_EM : Addr) (w_EI : Addr) (S_BAD_SIGNATURE : Sta Z Z.heap "com/example/warrant/warrant/InvalidReason" "BAD_SIGNATURE" "Lcom/example/warrant/warrant/InvalidReason;" (.ref w_BAD_SIGNATURE)) (S_MALFORMED : Sta Z Z.heap "com/example/warrant/warrant/InvalidReason" "MALFORMED" "Lcom/example/warrant/warrant/InvalidReason;" (.ref w_MALFORMED)) (S_CODE_MISMATCH : Sta Z Z.heap "com/example/warrant/warrant/InvalidReason" "CODE_MISMATCH" "Lcom/example/warrant/warrant/InvalidReason;" (.ref w_CODE_MISMATCH)) (S_NONCE_MISMATCH : Sta Z Z.heap "com/example/warrant/warrant/InvalidReason" "NONCE_MISMATCH" "Lcom/example/warrant/warrant/InvalidReason;" (.ref w_NONCE_MISMATCH)) (S_PACKAGE_MISMATCH : Sta Z Z.heap "com/example/warrant/warrant/InvalidReason" "PACKAGE_MISMATCH" "Lcom/example/warrant/warrant/InvalidReason;" (.ref w_PACKAGE_MISMATCH)) (S_VERSION_MISMATCH : Sta Z Z.heap "com/example/warrant/warrant/InvalidReason" "VERSION_MISMATCH" "Lcom/example/warrant/warrant/InvalidReason;" (.ref w_VERSION_MISMATCH)) (E_BAD_SIGNATURE : Exa Z Z.heap w_BAD_SIGNATURE "com/example/warrant/warrant/InvalidReason") (E_MALFORMED : Exa Z Z.heap w_MALFORMED "com/example/warrant/warrant/InvalidReason") (E_CODE_MISMATCH : Exa Z Z.heap w_CODE_MISMATCH "com/example/warrant/warrant/InvalidReason") (E_NONCE_MISMATCH : Exa Z Z.heap w_NONCE_MISMATCH "com/example/warrant/warrant/InvalidReason") (E_PACKAGE_MISMATCH : Exa Z Z.heap w_PACKAGE_MISMATCH "com/example/warrant/warrant/InvalidReason") (E_VERSION_MISMATCH : Exa Z Z.heap w_VERSION_MISMATCH "com/example/warrant/warrant/InvalidReason") (F_BAD_SIGNATURE : Fld Z Z.heap w_BAD_SIGNATURE "java/lang/Enum" "ordinal" "I" (.int (0 : Int32))) (F_MALFORMED : Fld Z Z.heap w_MALFORMED "java/lang/Enum" "ordinal" "I" (.int (1 : Int32))) (F_CODE_MISMATCH : Fld Z Z.heap w_CODE_MISMATCH "java/lang/Enum" "ordinal" "I" (.int (2 : Int32))) (F_NONCE_MISMATCH : Fld Z Z.heap w_NONCE_MISMATCH "java/lang/Enum" "ordinal" "I" (.int (3 : Int32))) (F_PACKAGE_MISMATCH : Fld Z Z.heap w_PACKAGE_MISMATCH "java/lang/Enum" "ordinal" "I" (.int (4 : Int32))) (F_VERSION_MISMATCH : Fld Z Z.heap w_VERSION_MISMATCH "java/lang/Enum" "ordinal" "I" (.int (5 : Int32))) (S_AE : Sta Z Z.heap "com/example/warrant/warrant/Verdict$Kind" "APPLICATION_ERROR" "Lcom/example/warrant/warrant/Verdict$Kind;" (.ref w_AE)) (S_IN : Sta Z Z.heap "com/example/warrant/warrant/Verdict$Kind" "INVALID" "Lcom/example/warrant/warrant/Verdict$Kind;" (.ref w_IN)) (neK : w_IN ≠ w_AE) (S_EM : Sta Z Z.heap "java/util/Optional" "EMPTY" "Ljava/util/Optional;" (.ref w_EM)) (E_EM : Exa Z Z.heap w_EM "java/util/Optional") (F_EM : Fld Z Z.heap w_EM "java/util/Optional" "value" "Ljava/lang/Object;" .null) (S_EI : Sta Z Z.heap "java/util/OptionalInt" "EMPTY" "Ljava/util/OptionalInt;" (.ref w_EI)) (E_EI : Exa Z Z.heap w_EI "java/util/OptionalInt") (F_EI : Fld Z Z.heap w_EI "java/util/OptionalInt" "isPresent" "Z" (.int (0 : Int32))) (a1 : Addr) (a2 : Addr) (r1 : Addr) (r2 : Addr) (r : Int32) (h0 : Heap) (n0 : Nat) (O : Old Z n0 h0) (F_a1_kind : Fld Z h0 a1 "com/example/warrant/warrant/Verdict" "kind" "Lcom/example/warrant/warrant/Verdict$Kind;" (.ref w_IN)) (F_a1_signedData : Fld Z h0 a1 "com/example/warrant/warrant/Verdict" "signedData" "Lcom/example/warrant/warrant/SignedData;" .null) (F_a1_invalidReason : Fld Z h0 a1 "com/example/warrant/warrant/Verdict" "invalidReason" "Lcom/example/warrant/warrant/InvalidReason;" (.ref r1)) (F_a1_applicationErrorCode : Fld Z h0 a1 "com/example/warrant/warrant/Verdict" "applicationErrorCode" "I" (.int (0 : Int32))) (E_a2 : Exa Z h0 a2 "com/example/warrant/warrant/Verdict") (F_a2_kind : Fld Z h0 a2 "com/example/warrant/warrant/Verdict" "kind" "Lcom/example/warrant/warrant/Verdict$Kind;" (.ref w_IN)) (F_a2_signedData : Fld Z h0 a2 "com/example/warrant/warrant/Verdict" "signedData" "Lcom/example/warrant/warrant/SignedData;" .null) (F_a2_invalidReason : Fld Z h0 a2 "com/example/warrant/warrant/Verdict" "invalidReason" "Lcom/example/warrant/warrant/InvalidReason;" (.ref r2)) (F_a2_applicationErrorCode : Fld Z h0 a2 "com/example/warrant/warrant/Verdict" "applicationErrorCode" "I" (.int (0 : Int32))) (hr : r = if r1 = r2 then 1 else 0) :
    Ct l (⟨"com/example/warrant/warrant/Verdict", "equals", "(Ljava/lang/Object;)Z"⟩ : MethodName) prog_47_method_12_code 3 (some .boolean) ({ frames := 1, cells := 0, slots := 0, locals := 13 } : Room) Z #[(.ref a1), (.ref a2)] h0 (fun v h L => v = some (.int r) ∧ Fr n0 L ∧ h0 = h) := by
  refine Ct.of (plainFor_of_name pn_Verdict_984) ?_
  intro p e s m below meth c T0 X0 hx hby hml hown hnm hret hlk hZ e0
  have hown : s.vm.findClass "com/example/warrant/warrant/Verdict" = some m.cls := hown
  have hml : c.maxLocals = 3 := hml
  have N0 := Fr.nil n0
  refine Go.cast (g' := mkF m 0 #[.val (.ref a1), .val (.ref a2), .unset] []) (by first | (simp [entryFrame, mkF, argsToLocals, Value.category]; done) | rfl) ?_
  refine Go.by (T' := T0) (g' := (mkF m 1 #[.val (.ref a1), .val (.ref a2), .unset] [(.ref a2)])) (fun t k => ?_) ?_
  · show Steps p.tables e below (T0.setTop (mkF m 0 #[.val (.ref a1), .val (.ref a2), .unset] [])) _
    refine XS.aloadN X0.here hx rfl (hb hby d_p47_m12_0) rfl rfl ?_
    exact k
  refine Go.instY X0 hx hZ hown (wd hw 14 rfl) e0 (Ins.self E_a2) (hb hby d_p47_m12_1) ?_
  intro T1 X1 e1
  show Go p e below _ T1 (mkF m 4 #[.val (.ref a1), .val (.ref a2), .unset] [(.int (1 : Int32))])
  refine Go.by (T' := T1) (g' := (mkF m 8 #[.val (.ref a1), .val (.ref a2), .unset] [(.ref a2)])) (fun t k => ?_) ?_
  · show Steps p.tables e below (T1.setTop (mkF m 4 #[.val (.ref a1), .val (.ref a2), .unset] [(.int (1 : Int32))])) _
    refine XS.ifNo X1.here hx rfl (hb hby d_p47_m12_4) rfl ((if0 _ _).trans (feq (by decide : ¬ (1 : Int32) = (0 : Int32))).1) ?_
    show Steps p.tables e below (T1.setTop (mkF m 7 #[.val (.ref a1), .val (.ref a2), .unset] [])) _
    refine XS.aloadN X1.here hx rfl (hb hby d_p47_m12_7) rfl rfl ?_
    exact k
  refine Go.castY X1 hx hZ hown (wd hw 14 rfl) e1 (Ins.self E_a2) (hb hby d_p47_m12_8) ?_
  intro T2 X2 e2
  show Go p e below _ T2 (mkF m 11 #[.val (.ref a1), .val (.ref a2), .unset] [(.ref a2)])
  refine Go.by (T' := T2) (g' := (mkF m 13 #[.val (.ref a1), .val (.ref a2), .val (.ref a2)] [(.ref a1)])) (fun t k => ?_) ?_
  · show Steps p.tables e below (T2.setTop (mkF m 11 #[.val (.ref a1), .val (.ref a2), .unset] [(.ref a2)])) _
    refine XS.astoreN X2.here hx rfl (hb hby d_p47_m12_11) rfl rfl (l' := #[.val (.ref a1), .val (.ref a2), .val (.ref a2)]) rfl ?_
    show Steps p.tables e below (T2.setTop (mkF m 12 #[.val (.ref a1), .val (.ref a2), .val (.ref a2)] [])) _
    refine XS.aloadN X2.here hx rfl (hb hby d_p47_m12_12) rfl rfl ?_
    exact k
  refine Go.getF X2 hx hZ hown (wd hw 39 rfl) Via.refl e2 F_a1_kind (hb hby d_p47_m12_13) ?_
  intro T3 X3 e3
  show Go p e below _ T3 (mkF m 16 #[.val (.ref a1), .val (.ref a2), .val (.ref a2)] [(.ref w_IN)])
  refine Go.by (T' := T3) (g' := (mkF m 17 #[.val (.ref a1), .val (.ref a2), .val (.ref a2)] [(.ref a2), (.ref w_IN)])) (fun t k => ?_) ?_
  · show Steps p.tables e below (T3.setTop (mkF m 16 #[.val (.ref a1), .val (.ref a2), .val (.ref a2)] [(.ref w_IN)])) _
    refine XS.aloadN X3.here hx rfl (hb hby d_p47_m12_16) rfl rfl ?_
    exact k
  refine Go.getF X3 hx hZ hown (wd hw 39 rfl) Via.refl e3 F_a2_kind (hb hby d_p47_m12_17) ?_
  intro T4 X4 e4
  show Go p e below _ T4 (mkF m 20 #[.val (.ref a1), .val (.ref a2), .val (.ref a2)] [(.ref w_IN), (.ref w_IN)])
  refine Go.by (T' := T4) (g' := (mkF m 24 #[.val (.ref a1), .val (.ref a2), .val (.ref a2)] [(.ref a1)])) (fun t k => ?_) ?_
  · show Steps p.tables e below (T4.setTop (mkF m 20 #[.val (.ref a1), .val (.ref a2), .val (.ref a2)] [(.ref w_IN), (.ref w_IN)])) _
    refine Jvm.RoadKit.acmp (g := (mkF m 20 #[.val (.ref a1), .val (.ref a2), .val (.ref a2)] [(.ref w_IN), (.ref w_IN)])) X4 hx rfl rfl rfl (pc0 := 20) (pc' := 23) (same := true) rfl (hb hby d_p47_m12_20) rfl (decide_eq_true rfl) (by decide) (by decide) ?_
    show Steps p.tables e below (T4.setTop (mkF m 23 #[.val (.ref a1), .val (.ref a2), .val (.ref a2)] [])) _
    refine XS.aloadN X4.here hx rfl (hb hby d_p47_m12_23) rfl rfl ?_
    exact k
  refine Go.getF X4 hx hZ hown (wd hw 41 rfl) Via.refl e4 F_a1_signedData (hb hby d_p47_m12_24) ?_
  intro T5 X5 e5
  show Go p e below _ T5 (mkF m 27 #[.val (.ref a1), .val (.ref a2), .val (.ref a2)] [.null])
  refine Go.by (T' := T5) (g' := (mkF m 28 #[.val (.ref a1), .val (.ref a2), .val (.ref a2)] [(.ref a2), .null])) (fun t k => ?_) ?_
  · show Steps p.tables e below (T5.setTop (mkF m 27 #[.val (.ref a1), .val (.ref a2), .val (.ref a2)] [.null])) _
    refine XS.aloadN X5.here hx rfl (hb hby d_p47_m12_27) rfl rfl ?_
    exact k
  refine Go.getF X5 hx hZ hown (wd hw 41 rfl) Via.refl e5 F_a2_signedData (hb hby d_p47_m12_28) ?_
  intro T6 X6 e6
  show Go p e below _ T6 (mkF m 31 #[.val (.ref a1), .val (.ref a2), .val (.ref a2)] [.null, .null])
  refine Go.callS X6 hx hZ (W := 0) (argsL := [.null, .null]) (rest := []) hown (wd hw 117 rfl) (wd hw 118 rfl) (wd hw 29 rfl) (wd hw 119 rfl) (by decide) (ct_oeq l Z a0 hw w_BAD_SIGNATURE w_MALFORMED w_CODE_MISMATCH w_NONCE_MISMATCH w_PACKAGE_MISMATCH w_VERSION_MISMATCH w_AE w_IN w_EM w_EI S_BAD_SIGNATURE S_MALFORMED S_CODE_MISMATCH S_NONCE_MISMATCH S_PACKAGE_MISMATCH S_VERSION_MISMATCH E_BAD_SIGNATURE E_MALFORMED E_CODE_MISMATCH E_NONCE_MISMATCH E_PACKAGE_MISMATCH E_VERSION_MISMATCH F_BAD_SIGNATURE F_MALFORMED F_CODE_MISMATCH F_NONCE_MISMATCH F_PACKAGE_MISMATCH F_VERSION_MISMATCH S_AE S_IN neK S_EM E_EM F_EM S_EI E_EI F_EI  h0 n0 O ) e6 (by rw [hml]; rfl) (lenOf pd__Ljava_lang_Object_Ljava_lang_Object__Z_1294 rfl) rfl rfl (hb hby d_p47_m12_31) (by decide) (by decide) (by decide) (by decide) ?_
  intro v7 T7 h7 L7 X7 e7 q7
  obtain ⟨rfl, N7, rfl⟩ := q7
  replace N7 := Fr.app N0 N7
  show Go p e below _ T7 (mkF m 34 #[.val (.ref a1), .val (.ref a2), .val (.ref a2)] [(.int (1 : Int32))])
  refine Go.by (T' := T7) (g' := (mkF m 38 #[.val (.ref a1), .val (.ref a2), .val (.ref a2)] [(.ref a1)])) (fun t k => ?_) ?_
  · show Steps p.tables e below (T7.setTop (mkF m 34 #[.val (.ref a1), .val (.ref a2), .val (.ref a2)] [(.int (1 : Int32))])) _
    refine XS.ifNo X7.here hx rfl (hb hby d_p47_m12_34) rfl ((if0 _ _).trans (feq (by decide : ¬ (1 : Int32) = (0 : Int32))).1) ?_
    show Steps p.tables e below (T7.setTop (mkF m 37 #[.val (.ref a1), .val (.ref a2), .val (.ref a2)] [])) _
    refine XS.aloadN X7.here hx rfl (hb hby d_p47_m12_37) rfl rfl ?_
    exact k
  refine Go.getF X7 hx hZ hown (wd hw 43 rfl) Via.refl e7 F_a1_invalidReason (hb hby d_p47_m12_38) ?_
  intro T8 X8 e8
  show Go p e below _ T8 (mkF m 41 #[.val (.ref a1), .val (.ref a2), .val (.ref a2)] [(.ref r1)])
  refine Go.by (T' := T8) (g' := (mkF m 42 #[.val (.ref a1), .val (.ref a2), .val (.ref a2)] [(.ref a2), (.ref r1)])) (fun t k => ?_) ?_
  · show Steps p.tables e below (T8.setTop (mkF m 41 #[.val (.ref a1), .val (.ref a2), .val (.ref a2)] [(.ref r1)])) _
    refine XS.aloadN X8.here hx rfl (hb hby d_p47_m12_41) rfl rfl ?_
    exact k
  refine Go.getF X8 hx hZ hown (wd hw 43 rfl) Via.refl e8 F_a2_invalidReason (hb hby d_p47_m12_42) ?_
  intro T9 X9 e9
  show Go p e below _ T9 (mkF m 45 #[.val (.ref a1), .val (.ref a2), .val (.ref a2)] [(.ref r2), (.ref r1)])
  by_cases hy10 : r1 = r2
  · skip
    refine Go.by (T' := T9) (g' := (mkF m 49 #[.val (.ref a1), .val (.ref a2), .val (.ref a2)] [(.ref a1)])) (fun t k => ?_) ?_
    · show Steps p.tables e below (T9.setTop (mkF m 45 #[.val (.ref a1), .val (.ref a2), .val (.ref a2)] [(.ref r2), (.ref r1)])) _
      refine Jvm.RoadKit.acmp (g := (mkF m 45 #[.val (.ref a1), .val (.ref a2), .val (.ref a2)] [(.ref r2), (.ref r1)])) X9 hx rfl rfl rfl (pc0 := 45) (pc' := 48) (same := true) rfl (hb hby d_p47_m12_45) rfl (decide_eq_true (congrArg Value.ref hy10)) (by decide) (by decide) ?_
      show Steps p.tables e below (T9.setTop (mkF m 48 #[.val (.ref a1), .val (.ref a2), .val (.ref a2)] [])) _
      refine XS.aloadN X9.here hx rfl (hb hby d_p47_m12_48) rfl rfl ?_
      exact k
    refine Go.getF X9 hx hZ hown (wd hw 45 rfl) Via.refl e9 F_a1_applicationErrorCode (hb hby d_p47_m12_49) ?_
    intro T11 X11 e11
    show Go p e below _ T11 (mkF m 52 #[.val (.ref a1), .val (.ref a2), .val (.ref a2)] [(.int (0 : Int32))])
    refine Go.by (T' := T11) (g' := (mkF m 53 #[.val (.ref a1), .val (.ref a2), .val (.ref a2)] [(.ref a2), (.int (0 : Int32))])) (fun t k => ?_) ?_
    · show Steps p.tables e below (T11.setTop (mkF m 52 #[.val (.ref a1), .val (.ref a2), .val (.ref a2)] [(.int (0 : Int32))])) _
      refine XS.aloadN X11.here hx rfl (hb hby d_p47_m12_52) rfl rfl ?_
      exact k
    refine Go.getF X11 hx hZ hown (wd hw 45 rfl) Via.refl e11 F_a2_applicationErrorCode (hb hby d_p47_m12_53) ?_
    intro T12 X12 e12
    show Go p e below _ T12 (mkF m 56 #[.val (.ref a1), .val (.ref a2), .val (.ref a2)] [(.int (0 : Int32)), (.int (0 : Int32))])
    refine Go.by (T' := T12) (g' := (mkF m 64 #[.val (.ref a1), .val (.ref a2), .val (.ref a2)] [(.int (1 : Int32))])) (fun t k => ?_) ?_
    · show Steps p.tables e below (T12.setTop (mkF m 56 #[.val (.ref a1), .val (.ref a2), .val (.ref a2)] [(.int (0 : Int32)), (.int (0 : Int32))])) _
      refine XS.icmpNo X12.here hx rfl (hb hby d_p47_m12_56) rfl (teq (by decide : (0 : Int32) = (0 : Int32))).2 ?_
      show Steps p.tables e below (T12.setTop (mkF m 59 #[.val (.ref a1), .val (.ref a2), .val (.ref a2)] [])) _
      refine XS.iconst X12.here hx rfl (hb hby d_p47_m12_59) ?_
      show Steps p.tables e below (T12.setTop (mkF m 60 #[.val (.ref a1), .val (.ref a2), .val (.ref a2)] [(.int (1 : Int32))])) _
      refine XS.goto X12.here hx rfl (pc0 := 60) (pc' := 64) rfl (hb hby d_p47_m12_60) (by decide) (by decide) ?_
      exact k
    refine Go.retZ X12 hx hlk hret (Or.inr rfl) (hb hby d_p47_m12_64) (by decide) (by decide) e12 ?_
    exact ⟨by simp only [hr, if_pos hy10], N7, rfl⟩
  · skip
    refine Go.by (T' := T9) (g' := (mkF m 64 #[.val (.ref a1), .val (.ref a2), .val (.ref a2)] [(.int (0 : Int32))])) (fun t k => ?_) ?_
    · show Steps p.tables e below (T9.setTop (mkF m 45 #[.val (.ref a1), .val (.ref a2), .val (.ref a2)] [(.ref r2), (.ref r1)])) _
      refine Jvm.RoadKit.acmp (g := (mkF m 45 #[.val (.ref a1), .val (.ref a2), .val (.ref a2)] [(.ref r2), (.ref r1)])) X9 hx rfl rfl rfl (pc0 := 45) (pc' := 63) (same := false) rfl (hb hby d_p47_m12_45) rfl (decide_eq_false fun q => hy10 (Value.ref.inj q)) (by decide) (by decide) ?_
      show Steps p.tables e below (T9.setTop (mkF m 63 #[.val (.ref a1), .val (.ref a2), .val (.ref a2)] [])) _
      refine XS.iconst X9.here hx rfl (hb hby d_p47_m12_63) ?_
      exact k
    refine Go.retZ X9 hx hlk hret (Or.inl rfl) (hb hby d_p47_m12_64) (by decide) (by decide) e9 ?_
    exact ⟨by simp only [hr, if_neg hy10], N7, rfl⟩
set_option maxRecDepth 65536 in
set_option maxHeartbeats 40000000 in
theorem ct_get_kind_R_0 (l : Launch) (Z : State) (a0 : Array Value) (hw : ∀ d ∈ tables_1, d.before a0 Z = true) (a1 : Addr) (a2 : Addr) (h0 : Heap) (n0 : Nat) (O : Old Z n0 h0) (F_a1 : Fld Z h0 a1 "com/example/warrant/warrant/Verdict" "kind" "Lcom/example/warrant/warrant/Verdict$Kind;" (.ref a2)) :
    Ct l (⟨"com/example/warrant/warrant/Verdict", "kind", "()Lcom/example/warrant/warrant/Verdict$Kind;"⟩ : MethodName) prog_47_method_7_code 1 (some (.object "com/example/warrant/warrant/Verdict$Kind")) ({ frames := 0, cells := 0, slots := 0, locals := 0 } : Room) Z #[(.ref a1)] h0 (fun v h L => v = some (.ref a2) ∧ Fr n0 L ∧ h0 = h) := by
  refine Ct.of (plainFor_of_name pn_Verdict_984) ?_
  intro p e s m below meth c T0 X0 hx hby hml hown hnm hret hlk hZ e0
  have hown : s.vm.findClass "com/example/warrant/warrant/Verdict" = some m.cls := hown
  have hml : c.maxLocals = 1 := hml
  have N0 := Fr.nil n0
  refine Go.cast (g' := mkF m 0 #[.val (.ref a1)] []) (by first | (simp [entryFrame, mkF, argsToLocals, Value.category]; done) | rfl) ?_
  refine Go.by (T' := T0) (g' := (mkF m 1 #[.val (.ref a1)] [(.ref a1)])) (fun t k => ?_) ?_
  · show Steps p.tables e below (T0.setTop (mkF m 0 #[.val (.ref a1)] [])) _
    refine XS.aloadN X0.here hx rfl (hb hby d_p47_m7_0) rfl rfl ?_
    exact k
  refine Go.getF X0 hx hZ hown (wd hw 39 rfl) Via.refl e0 F_a1 (hb hby d_p47_m7_1) ?_
  intro T1 X1 e1
  show Go p e below _ T1 (mkF m 4 #[.val (.ref a1)] [(.ref a2)])
  refine Go.retA X1 hx hlk hret rfl rfl (hb hby d_p47_m7_4) (by decide) (by decide) e1 ?_
  exact ⟨rfl, N0, rfl⟩
set_option maxRecDepth 65536 in
set_option maxHeartbeats 40000000 in
theorem ct_get_isPresent_l_0___Int32__1 (l : Launch) (Z : State) (a0 : Array Value) (hw : ∀ d ∈ tables_1, d.before a0 Z = true) (a1 : Addr) (h0 : Heap) (n0 : Nat) (O : Old Z n0 h0) (F_a1 : Fld Z h0 a1 "java/util/OptionalInt" "isPresent" "Z" (.int (0 : Int32))) :
    Ct l (⟨"java/util/OptionalInt", "isPresent", "()Z"⟩ : MethodName) jdk_2649_method_6_code 1 (some .boolean) ({ frames := 0, cells := 0, slots := 0, locals := 0 } : Room) Z #[(.ref a1)] h0 (fun v h L => v = some (.int (0 : Int32)) ∧ Fr n0 L ∧ h0 = h) := by
  refine Ct.of (plainFor_of_name pn_OptionalInt_269) ?_
  intro p e s m below meth c T0 X0 hx hby hml hown hnm hret hlk hZ e0
  have hown : s.vm.findClass "java/util/OptionalInt" = some m.cls := hown
  have hml : c.maxLocals = 1 := hml
  have N0 := Fr.nil n0
  refine Go.cast (g' := mkF m 0 #[.val (.ref a1)] []) (by first | (simp [entryFrame, mkF, argsToLocals, Value.category]; done) | rfl) ?_
  refine Go.by (T' := T0) (g' := (mkF m 1 #[.val (.ref a1)] [(.ref a1)])) (fun t k => ?_) ?_
  · show Steps p.tables e below (T0.setTop (mkF m 0 #[.val (.ref a1)] [])) _
    refine XS.aloadN X0.here hx rfl (hb hby d_j2649_m6_0) rfl rfl ?_
    exact k
  refine Go.getF X0 hx hZ hown (wd hw 104 rfl) Via.refl e0 F_a1 (hb hby d_j2649_m6_1) ?_
  intro T1 X1 e1
  show Go p e below _ T1 (mkF m 4 #[.val (.ref a1)] [(.int (0 : Int32))])
  refine Go.retZ X1 hx hlk hret (Or.inl rfl) (hb hby d_j2649_m6_4) (by decide) (by decide) e1 ?_
  exact ⟨rfl, N0, rfl⟩
set_option maxRecDepth 65536 in
set_option maxHeartbeats 40000000 in
theorem ct_law (l : Launch) (Z : State) (a0 : Array Value) (hw : ∀ d ∈ tables_1, d.before a0 Z = true) (w_BAD_SIGNATURE : Addr) (w_MALFORMED : Addr) (w_CODE_MISMATCH : Addr) (w_NONCE_MISMATCH : Addr) (w_PACKAGE_MISMATCH : Addr) (w_VERSION_MISMATCH : Addr) (w_AE : Addr) (w_IN : Addr) (w_EM : Addr) (w_EI : Addr) (S_BAD_SIGNATURE : Sta Z Z.heap "com/example/warrant/warrant/InvalidReason" "BAD_SIGNATURE" "Lcom/example/warrant/warrant/InvalidReason;" (.ref w_BAD_SIGNATURE)) (S_MALFORMED : Sta Z Z.heap "com/example/warrant/warrant/InvalidReason" "MALFORMED" "Lcom/example/warrant/warrant/InvalidReason;" (.ref w_MALFORMED)) (S_CODE_MISMATCH : Sta Z Z.heap "com/example/warrant/warrant/InvalidReason" "CODE_MISMATCH" "Lcom/example/warrant/warrant/InvalidReason;" (.ref w_CODE_MISMATCH)) (S_NONCE_MISMATCH : Sta Z Z.heap "com/example/warrant/warrant/InvalidReason" "NONCE_MISMATCH" "Lcom/example/warrant/warrant/InvalidReason;" (.ref w_NONCE_MISMATCH)) (S_PACKAGE_MISMATCH : Sta Z Z.heap "com/example/warrant/warrant/InvalidReason" "PACKAGE_MISMATCH" "Lcom/example/warrant/warrant/InvalidReason;" (.ref w_PACKAGE_MISMATCH)) (S_VERSION_MISMATCH : Sta Z Z.heap "com/example/warrant/warrant/InvalidReason" "VERSION_MISMATCH" "Lcom/example/warrant/warrant/InvalidReason;" (.ref w_VERSION_MISMATCH)) (E_BAD_SIGNATURE : Exa Z Z.heap w_BAD_SIGNATURE "com/example/warrant/warrant/InvalidReason") (E_MALFORMED : Exa Z Z.heap w_MALFORMED "com/example/warrant/warrant/InvalidReason") (E_CODE_MISMATCH : Exa Z Z.heap w_CODE_MISMATCH "com/example/warrant/warrant/InvalidReason") (E_NONCE_MISMATCH : Exa Z Z.heap w_NONCE_MISMATCH "com/example/warrant/warrant/InvalidReason") (E_PACKAGE_MISMATCH : Exa Z Z.heap w_PACKAGE_MISMATCH "com/example/warrant/warrant/InvalidReason") (E_VERSION_MISMATCH : Exa Z Z.heap w_VERSION_MISMATCH "com/example/warrant/warrant/InvalidReason") (F_BAD_SIGNATURE : Fld Z Z.heap w_BAD_SIGNATURE "java/lang/Enum" "ordinal" "I" (.int (0 : Int32))) (F_MALFORMED : Fld Z Z.heap w_MALFORMED "java/lang/Enum" "ordinal" "I" (.int (1 : Int32))) (F_CODE_MISMATCH : Fld Z Z.heap w_CODE_MISMATCH "java/lang/Enum" "ordinal" "I" (.int (2 : Int32))) (F_NONCE_MISMATCH : Fld Z Z.heap w_NONCE_MISMATCH "java/lang/Enum" "ordinal" "I" (.int (3 : Int32))) (F_PACKAGE_MISMATCH : Fld Z Z.heap w_PACKAGE_MISMATCH "java/lang/Enum" "ordinal" "I" (.int (4 : Int32))) (F_VERSION_MISMATCH : Fld Z Z.heap w_VERSION_MISMATCH "java/lang/Enum" "ordinal" "I" (.int (5 : Int32))) (S_AE : Sta Z Z.heap "com/example/warrant/warrant/Verdict$Kind" "APPLICATION_ERROR" "Lcom/example/warrant/warrant/Verdict$Kind;" (.ref w_AE)) (S_IN : Sta Z Z.heap "com/example/warrant/warrant/Verdict$Kind" "INVALID" "Lcom/example/warrant/warrant/Verdict$Kind;" (.ref w_IN)) (neK : w_IN ≠ w_AE) (S_EM : Sta Z Z.heap "java/util/Optional" "EMPTY" "Ljava/util/Optional;" (.ref w_EM)) (E_EM : Exa Z Z.heap w_EM "java/util/Optional") (F_EM : Fld Z Z.heap w_EM "java/util/Optional" "value" "Ljava/lang/Object;" .null) (S_EI : Sta Z Z.heap "java/util/OptionalInt" "EMPTY" "Ljava/util/OptionalInt;" (.ref w_EI)) (E_EI : Exa Z Z.heap w_EI "java/util/OptionalInt") (F_EI : Fld Z Z.heap w_EI "java/util/OptionalInt" "isPresent" "Z" (.int (0 : Int32))) (p0 : Int32) (p1 : Int32) (h0 : Heap) (n0 : Nat) (O : Old Z n0 h0)  :
    CtW l x code maxLocals ret room_1 Z #[(.int p0), (.int p1)] h0 (fun v h L => v = some (.int 1) ∧ Fr n0 L) := by
  refine CtW.of (plainFor_of_name pn_VerdictInvalidPinLaw_944) ?_
  intro p e s vm0 m below meth c T0 X0 hx hby hml hown hnm hret hlk hZ e0 hS hk
  have hown : vm0.findClass "com/example/warrant/warrant/VerdictInvalidPinLaw" = some m.cls := hown
  have hml : c.maxLocals = 9 := hml
  have N0 := Fr.nil n0
  refine Go.cast (g' := mkF m 0 #[.val (.int p0), .val (.int p1), .unset, .unset, .unset, .unset, .unset, .unset, .unset] []) (by first | (simp [entryFrame, mkF, argsToLocals, Value.category, maxLocals]; done) | rfl) ?_
  refine Go.by (T' := T0) (g' := (mkF m 23 #[.val (.int p0), .val (.int p1), .val (.int ((p0 &&& (2147483647 : Int32)) % (6 : Int32))), .val (.int (((((p0 &&& (2147483647 : Int32)) % (6 : Int32)) + (1 : Int32)) + ((p1 &&& (2147483647 : Int32)) % (5 : Int32))) % (6 : Int32))), .unset, .unset, .unset, .unset, .unset] [(.int ((p0 &&& (2147483647 : Int32)) % (6 : Int32)))])) (fun t k => ?_) ?_
  · show Steps p.tables e below (T0.setTop (mkF m 0 #[.val (.int p0), .val (.int p1), .unset, .unset, .unset, .unset, .unset, .unset, .unset] [])) _
    refine XS.iloadN X0.here hx rfl (hb hby at_0) rfl ?_
    show Steps p.tables e below (T0.setTop (mkF m 1 #[.val (.int p0), .val (.int p1), .unset, .unset, .unset, .unset, .unset, .unset, .unset] [(.int p0)])) _
    refine X0.ldcInt hx hown (mvT hZ (wd hw 0 rfl)) (g := (mkF m 1 #[.val (.int p0), .val (.int p1), .unset, .unset, .unset, .unset, .unset, .unset, .unset] [(.int p0)])) rfl (hb hby at_1) _ ?_
    show Steps p.tables e below (T0.setTop (mkF m 3 #[.val (.int p0), .val (.int p1), .unset, .unset, .unset, .unset, .unset, .unset, .unset] [(.int (2147483647 : Int32)), (.int p0)])) _
    refine XS.iand X0.here hx rfl (hb hby at_3) rfl ?_
    show Steps p.tables e below (T0.setTop (mkF m 4 #[.val (.int p0), .val (.int p1), .unset, .unset, .unset, .unset, .unset, .unset, .unset] [(.int (p0 &&& (2147483647 : Int32)))])) _
    refine XS.bipush X0.here hx rfl (hb hby at_4) ?_
    show Steps p.tables e below (T0.setTop (mkF m 6 #[.val (.int p0), .val (.int p1), .unset, .unset, .unset, .unset, .unset, .unset, .unset] [(.int (6 : Int32)), (.int (p0 &&& (2147483647 : Int32)))])) _
    refine iremM X0 hx rfl (hb hby at_6) rfl (by decide) ?_
    show Steps p.tables e below (T0.setTop (mkF m 7 #[.val (.int p0), .val (.int p1), .unset, .unset, .unset, .unset, .unset, .unset, .unset] [(.int ((p0 &&& (2147483647 : Int32)) % (6 : Int32)))])) _
    refine XS.istoreN X0.here hx rfl (hb hby at_7) rfl (l' := #[.val (.int p0), .val (.int p1), .val (.int ((p0 &&& (2147483647 : Int32)) % (6 : Int32))), .unset, .unset, .unset, .unset, .unset, .unset]) rfl ?_
    show Steps p.tables e below (T0.setTop (mkF m 8 #[.val (.int p0), .val (.int p1), .val (.int ((p0 &&& (2147483647 : Int32)) % (6 : Int32))), .unset, .unset, .unset, .unset, .unset, .unset] [])) _
    refine XS.iloadN X0.here hx rfl (hb hby at_8) rfl ?_
    show Steps p.tables e below (T0.setTop (mkF m 9 #[.val (.int p0), .val (.int p1), .val (.int ((p0 &&& (2147483647 : Int32)) % (6 : Int32))), .unset, .unset, .unset, .unset, .unset, .unset] [(.int ((p0 &&& (2147483647 : Int32)) % (6 : Int32)))])) _
    refine XS.iconst X0.here hx rfl (hb hby at_9) ?_
    show Steps p.tables e below (T0.setTop (mkF m 10 #[.val (.int p0), .val (.int p1), .val (.int ((p0 &&& (2147483647 : Int32)) % (6 : Int32))), .unset, .unset, .unset, .unset, .unset, .unset] [(.int (1 : Int32)), (.int ((p0 &&& (2147483647 : Int32)) % (6 : Int32)))])) _
    refine XS.iadd X0.here hx rfl (hb hby at_10) rfl ?_
    show Steps p.tables e below (T0.setTop (mkF m 11 #[.val (.int p0), .val (.int p1), .val (.int ((p0 &&& (2147483647 : Int32)) % (6 : Int32))), .unset, .unset, .unset, .unset, .unset, .unset] [(.int (((p0 &&& (2147483647 : Int32)) % (6 : Int32)) + (1 : Int32)))])) _
    refine XS.iloadN X0.here hx rfl (hb hby at_11) rfl ?_
    show Steps p.tables e below (T0.setTop (mkF m 12 #[.val (.int p0), .val (.int p1), .val (.int ((p0 &&& (2147483647 : Int32)) % (6 : Int32))), .unset, .unset, .unset, .unset, .unset, .unset] [(.int p1), (.int (((p0 &&& (2147483647 : Int32)) % (6 : Int32)) + (1 : Int32)))])) _
    refine X0.ldcInt hx hown (mvT hZ (wd hw 0 rfl)) (g := (mkF m 12 #[.val (.int p0), .val (.int p1), .val (.int ((p0 &&& (2147483647 : Int32)) % (6 : Int32))), .unset, .unset, .unset, .unset, .unset, .unset] [(.int p1), (.int (((p0 &&& (2147483647 : Int32)) % (6 : Int32)) + (1 : Int32)))])) rfl (hb hby at_12) _ ?_
    show Steps p.tables e below (T0.setTop (mkF m 14 #[.val (.int p0), .val (.int p1), .val (.int ((p0 &&& (2147483647 : Int32)) % (6 : Int32))), .unset, .unset, .unset, .unset, .unset, .unset] [(.int (2147483647 : Int32)), (.int p1), (.int (((p0 &&& (2147483647 : Int32)) % (6 : Int32)) + (1 : Int32)))])) _
    refine XS.iand X0.here hx rfl (hb hby at_14) rfl ?_
    show Steps p.tables e below (T0.setTop (mkF m 15 #[.val (.int p0), .val (.int p1), .val (.int ((p0 &&& (2147483647 : Int32)) % (6 : Int32))), .unset, .unset, .unset, .unset, .unset, .unset] [(.int (p1 &&& (2147483647 : Int32))), (.int (((p0 &&& (2147483647 : Int32)) % (6 : Int32)) + (1 : Int32)))])) _
    refine XS.iconst X0.here hx rfl (hb hby at_15) ?_
    show Steps p.tables e below (T0.setTop (mkF m 16 #[.val (.int p0), .val (.int p1), .val (.int ((p0 &&& (2147483647 : Int32)) % (6 : Int32))), .unset, .unset, .unset, .unset, .unset, .unset] [(.int (5 : Int32)), (.int (p1 &&& (2147483647 : Int32))), (.int (((p0 &&& (2147483647 : Int32)) % (6 : Int32)) + (1 : Int32)))])) _
    refine iremM X0 hx rfl (hb hby at_16) rfl (by decide) ?_
    show Steps p.tables e below (T0.setTop (mkF m 17 #[.val (.int p0), .val (.int p1), .val (.int ((p0 &&& (2147483647 : Int32)) % (6 : Int32))), .unset, .unset, .unset, .unset, .unset, .unset] [(.int ((p1 &&& (2147483647 : Int32)) % (5 : Int32))), (.int (((p0 &&& (2147483647 : Int32)) % (6 : Int32)) + (1 : Int32)))])) _
    refine XS.iadd X0.here hx rfl (hb hby at_17) rfl ?_
    show Steps p.tables e below (T0.setTop (mkF m 18 #[.val (.int p0), .val (.int p1), .val (.int ((p0 &&& (2147483647 : Int32)) % (6 : Int32))), .unset, .unset, .unset, .unset, .unset, .unset] [(.int ((((p0 &&& (2147483647 : Int32)) % (6 : Int32)) + (1 : Int32)) + ((p1 &&& (2147483647 : Int32)) % (5 : Int32))))])) _
    refine XS.bipush X0.here hx rfl (hb hby at_18) ?_
    show Steps p.tables e below (T0.setTop (mkF m 20 #[.val (.int p0), .val (.int p1), .val (.int ((p0 &&& (2147483647 : Int32)) % (6 : Int32))), .unset, .unset, .unset, .unset, .unset, .unset] [(.int (6 : Int32)), (.int ((((p0 &&& (2147483647 : Int32)) % (6 : Int32)) + (1 : Int32)) + ((p1 &&& (2147483647 : Int32)) % (5 : Int32))))])) _
    refine iremM X0 hx rfl (hb hby at_20) rfl (by decide) ?_
    show Steps p.tables e below (T0.setTop (mkF m 21 #[.val (.int p0), .val (.int p1), .val (.int ((p0 &&& (2147483647 : Int32)) % (6 : Int32))), .unset, .unset, .unset, .unset, .unset, .unset] [(.int (((((p0 &&& (2147483647 : Int32)) % (6 : Int32)) + (1 : Int32)) + ((p1 &&& (2147483647 : Int32)) % (5 : Int32))) % (6 : Int32)))])) _
    refine XS.istoreN X0.here hx rfl (hb hby at_21) rfl (l' := #[.val (.int p0), .val (.int p1), .val (.int ((p0 &&& (2147483647 : Int32)) % (6 : Int32))), .val (.int (((((p0 &&& (2147483647 : Int32)) % (6 : Int32)) + (1 : Int32)) + ((p1 &&& (2147483647 : Int32)) % (5 : Int32))) % (6 : Int32))), .unset, .unset, .unset, .unset, .unset]) rfl ?_
    show Steps p.tables e below (T0.setTop (mkF m 22 #[.val (.int p0), .val (.int p1), .val (.int ((p0 &&& (2147483647 : Int32)) % (6 : Int32))), .val (.int (((((p0 &&& (2147483647 : Int32)) % (6 : Int32)) + (1 : Int32)) + ((p1 &&& (2147483647 : Int32)) % (5 : Int32))) % (6 : Int32))), .unset, .unset, .unset, .unset, .unset] [])) _
    refine XS.iloadN X0.here hx rfl (hb hby at_22) rfl ?_
    exact k
  refine Go.callS X0 hx hZ (W := 0) (argsL := [(.int ((p0 &&& (2147483647 : Int32)) % (6 : Int32)))]) (rest := []) hown (wd hw 1 rfl) (wd hw 2 rfl) (wd hw 3 rfl) (wd hw 4 rfl) (by decide) (ct_pick l Z a0 hw w_BAD_SIGNATURE w_MALFORMED w_CODE_MISMATCH w_NONCE_MISMATCH w_PACKAGE_MISMATCH w_VERSION_MISMATCH w_AE w_IN w_EM w_EI S_BAD_SIGNATURE S_MALFORMED S_CODE_MISMATCH S_NONCE_MISMATCH S_PACKAGE_MISMATCH S_VERSION_MISMATCH E_BAD_SIGNATURE E_MALFORMED E_CODE_MISMATCH E_NONCE_MISMATCH E_PACKAGE_MISMATCH E_VERSION_MISMATCH F_BAD_SIGNATURE F_MALFORMED F_CODE_MISMATCH F_NONCE_MISMATCH F_PACKAGE_MISMATCH F_VERSION_MISMATCH S_AE S_IN neK S_EM E_EM F_EM S_EI E_EI F_EI ((p0 &&& (2147483647 : Int32)) % (6 : Int32)) h0 n0 O (own_i p0)) e0 (by rw [hml]; rfl) (lenOf pd__I_Lcom_example_warrant_warrant_InvalidR_504 rfl) rfl rfl (hb hby at_23) (by decide) (by decide) (by decide) (by decide) ?_
  intro v1 T1 h1 L1 X1 e1 q1
  obtain ⟨rr, rfl, N1, rfl, E_rr, F_rr⟩ := q1
  replace N1 := Fr.app N0 N1
  show Go p e below _ T1 (mkF m 26 #[.val (.int p0), .val (.int p1), .val (.int ((p0 &&& (2147483647 : Int32)) % (6 : Int32))), .val (.int (((((p0 &&& (2147483647 : Int32)) % (6 : Int32)) + (1 : Int32)) + ((p1 &&& (2147483647 : Int32)) % (5 : Int32))) % (6 : Int32))), .unset, .unset, .unset, .unset, .unset] [(.ref rr)])
  refine Go.by (T' := T1) (g' := (mkF m 29 #[.val (.int p0), .val (.int p1), .val (.int ((p0 &&& (2147483647 : Int32)) % (6 : Int32))), .val (.int (((((p0 &&& (2147483647 : Int32)) % (6 : Int32)) + (1 : Int32)) + ((p1 &&& (2147483647 : Int32)) % (5 : Int32))) % (6 : Int32))), .val (.ref rr), .unset, .unset, .unset, .unset] [(.int (((((p0 &&& (2147483647 : Int32)) % (6 : Int32)) + (1 : Int32)) + ((p1 &&& (2147483647 : Int32)) % (5 : Int32))) % (6 : Int32)))])) (fun t k => ?_) ?_
  · show Steps p.tables e below (T1.setTop (mkF m 26 #[.val (.int p0), .val (.int p1), .val (.int ((p0 &&& (2147483647 : Int32)) % (6 : Int32))), .val (.int (((((p0 &&& (2147483647 : Int32)) % (6 : Int32)) + (1 : Int32)) + ((p1 &&& (2147483647 : Int32)) % (5 : Int32))) % (6 : Int32))), .unset, .unset, .unset, .unset, .unset] [(.ref rr)])) _
    refine XS.astore X1.here hx rfl (hb hby at_26) rfl rfl (l' := #[.val (.int p0), .val (.int p1), .val (.int ((p0 &&& (2147483647 : Int32)) % (6 : Int32))), .val (.int (((((p0 &&& (2147483647 : Int32)) % (6 : Int32)) + (1 : Int32)) + ((p1 &&& (2147483647 : Int32)) % (5 : Int32))) % (6 : Int32))), .val (.ref rr), .unset, .unset, .unset, .unset]) rfl ?_
    show Steps p.tables e below (T1.setTop (mkF m 28 #[.val (.int p0), .val (.int p1), .val (.int ((p0 &&& (2147483647 : Int32)) % (6 : Int32))), .val (.int (((((p0 &&& (2147483647 : Int32)) % (6 : Int32)) + (1 : Int32)) + ((p1 &&& (2147483647 : Int32)) % (5 : Int32))) % (6 : Int32))), .val (.ref rr), .unset, .unset, .unset, .unset] [])) _
    refine XS.iloadN X1.here hx rfl (hb hby at_28) rfl ?_
    exact k
  refine Go.callS X1 hx hZ (W := 0) (argsL := [(.int (((((p0 &&& (2147483647 : Int32)) % (6 : Int32)) + (1 : Int32)) + ((p1 &&& (2147483647 : Int32)) % (5 : Int32))) % (6 : Int32)))]) (rest := []) hown (wd hw 1 rfl) (wd hw 2 rfl) (wd hw 3 rfl) (wd hw 4 rfl) (by decide) (ct_pick l Z a0 hw w_BAD_SIGNATURE w_MALFORMED w_CODE_MISMATCH w_NONCE_MISMATCH w_PACKAGE_MISMATCH w_VERSION_MISMATCH w_AE w_IN w_EM w_EI S_BAD_SIGNATURE S_MALFORMED S_CODE_MISMATCH S_NONCE_MISMATCH S_PACKAGE_MISMATCH S_VERSION_MISMATCH E_BAD_SIGNATURE E_MALFORMED E_CODE_MISMATCH E_NONCE_MISMATCH E_PACKAGE_MISMATCH E_VERSION_MISMATCH F_BAD_SIGNATURE F_MALFORMED F_CODE_MISMATCH F_NONCE_MISMATCH F_PACKAGE_MISMATCH F_VERSION_MISMATCH S_AE S_IN neK S_EM E_EM F_EM S_EI E_EI F_EI (((((p0 &&& (2147483647 : Int32)) % (6 : Int32)) + (1 : Int32)) + ((p1 &&& (2147483647 : Int32)) % (5 : Int32))) % (6 : Int32)) h0 n0 O (own_j p0 p1)) e1 (by rw [hml]; rfl) (lenOf pd__I_Lcom_example_warrant_warrant_InvalidR_504 rfl) rfl rfl (hb hby at_29) (by decide) (by decide) (by decide) (by decide) ?_
  intro v2 T2 h2 L2 X2 e2 q2
  obtain ⟨rs, rfl, N2, rfl, E_rs, F_rs⟩ := q2
  replace N2 := Fr.app N1 N2
  have neR : rr ≠ rs := Fld.ne F_rr F_rs (fun q => own_ij p0 p1 (Value.int.inj q))
  show Go p e below _ T2 (mkF m 32 #[.val (.int p0), .val (.int p1), .val (.int ((p0 &&& (2147483647 : Int32)) % (6 : Int32))), .val (.int (((((p0 &&& (2147483647 : Int32)) % (6 : Int32)) + (1 : Int32)) + ((p1 &&& (2147483647 : Int32)) % (5 : Int32))) % (6 : Int32))), .val (.ref rr), .unset, .unset, .unset, .unset] [(.ref rs)])
  refine Go.by (T' := T2) (g' := (mkF m 36 #[.val (.int p0), .val (.int p1), .val (.int ((p0 &&& (2147483647 : Int32)) % (6 : Int32))), .val (.int (((((p0 &&& (2147483647 : Int32)) % (6 : Int32)) + (1 : Int32)) + ((p1 &&& (2147483647 : Int32)) % (5 : Int32))) % (6 : Int32))), .val (.ref rr), .val (.ref rs), .unset, .unset, .unset] [(.ref rr)])) (fun t k => ?_) ?_
  · show Steps p.tables e below (T2.setTop (mkF m 32 #[.val (.int p0), .val (.int p1), .val (.int ((p0 &&& (2147483647 : Int32)) % (6 : Int32))), .val (.int (((((p0 &&& (2147483647 : Int32)) % (6 : Int32)) + (1 : Int32)) + ((p1 &&& (2147483647 : Int32)) % (5 : Int32))) % (6 : Int32))), .val (.ref rr), .unset, .unset, .unset, .unset] [(.ref rs)])) _
    refine XS.astore X2.here hx rfl (hb hby at_32) rfl rfl (l' := #[.val (.int p0), .val (.int p1), .val (.int ((p0 &&& (2147483647 : Int32)) % (6 : Int32))), .val (.int (((((p0 &&& (2147483647 : Int32)) % (6 : Int32)) + (1 : Int32)) + ((p1 &&& (2147483647 : Int32)) % (5 : Int32))) % (6 : Int32))), .val (.ref rr), .val (.ref rs), .unset, .unset, .unset]) rfl ?_
    show Steps p.tables e below (T2.setTop (mkF m 34 #[.val (.int p0), .val (.int p1), .val (.int ((p0 &&& (2147483647 : Int32)) % (6 : Int32))), .val (.int (((((p0 &&& (2147483647 : Int32)) % (6 : Int32)) + (1 : Int32)) + ((p1 &&& (2147483647 : Int32)) % (5 : Int32))) % (6 : Int32))), .val (.ref rr), .val (.ref rs), .unset, .unset, .unset] [])) _
    refine XS.aload X2.here hx rfl (hb hby at_34) rfl rfl ?_
    exact k
  refine Go.callSW X2 hx hZ (W := 0) (argsL := [(.ref rr)]) (rest := []) hown (wd hw 10 rfl) (wd hw 11 rfl) (wd hw 12 rfl) (wd hw 13 rfl) (by decide) (ct_invalid l Z a0 hw w_BAD_SIGNATURE w_MALFORMED w_CODE_MISMATCH w_NONCE_MISMATCH w_PACKAGE_MISMATCH w_VERSION_MISMATCH w_AE w_IN w_EM w_EI S_BAD_SIGNATURE S_MALFORMED S_CODE_MISMATCH S_NONCE_MISMATCH S_PACKAGE_MISMATCH S_VERSION_MISMATCH E_BAD_SIGNATURE E_MALFORMED E_CODE_MISMATCH E_NONCE_MISMATCH E_PACKAGE_MISMATCH E_VERSION_MISMATCH F_BAD_SIGNATURE F_MALFORMED F_CODE_MISMATCH F_NONCE_MISMATCH F_PACKAGE_MISMATCH F_VERSION_MISMATCH S_AE S_IN neK S_EM E_EM F_EM S_EI E_EI F_EI rr h0 n0 O E_rr) e2 hS hk (by rw [hml]; rfl) (lenOf pd__Lcom_example_warrant_warrant_InvalidRea_8450 rfl) rfl rfl (hb hby at_36) (by decide) (by decide) (by decide) (by decide) ?_
  intro v3 T3 h3 L3 vm3 k3 X3 e3 q3 hS hk hZ hown
  obtain ⟨o3, rfl, N3, K3, lb3, E_o3, F_o3_kind, F_o3_signedData, F_o3_invalidReason, F_o3_applicationErrorCode⟩ := q3
  replace N3 := Fr.app N2 N3
  have g_o3 : n0 ≤ o3 := Nat.le_trans (OwnKit.Old.le O) lb3
  replace O := O.keep K3 all0
  show Go p e below _ T3 (mkF m 39 #[.val (.int p0), .val (.int p1), .val (.int ((p0 &&& (2147483647 : Int32)) % (6 : Int32))), .val (.int (((((p0 &&& (2147483647 : Int32)) % (6 : Int32)) + (1 : Int32)) + ((p1 &&& (2147483647 : Int32)) % (5 : Int32))) % (6 : Int32))), .val (.ref rr), .val (.ref rs), .unset, .unset, .unset] [(.ref o3)])
  refine Go.by (T' := T3) (g' := (mkF m 43 #[.val (.int p0), .val (.int p1), .val (.int ((p0 &&& (2147483647 : Int32)) % (6 : Int32))), .val (.int (((((p0 &&& (2147483647 : Int32)) % (6 : Int32)) + (1 : Int32)) + ((p1 &&& (2147483647 : Int32)) % (5 : Int32))) % (6 : Int32))), .val (.ref rr), .val (.ref rs), .val (.ref o3), .unset, .unset] [(.ref rr)])) (fun t k => ?_) ?_
  · show Steps p.tables e below (T3.setTop (mkF m 39 #[.val (.int p0), .val (.int p1), .val (.int ((p0 &&& (2147483647 : Int32)) % (6 : Int32))), .val (.int (((((p0 &&& (2147483647 : Int32)) % (6 : Int32)) + (1 : Int32)) + ((p1 &&& (2147483647 : Int32)) % (5 : Int32))) % (6 : Int32))), .val (.ref rr), .val (.ref rs), .unset, .unset, .unset] [(.ref o3)])) _
    refine XS.astore X3.here hx rfl (hb hby at_39) rfl rfl (l' := #[.val (.int p0), .val (.int p1), .val (.int ((p0 &&& (2147483647 : Int32)) % (6 : Int32))), .val (.int (((((p0 &&& (2147483647 : Int32)) % (6 : Int32)) + (1 : Int32)) + ((p1 &&& (2147483647 : Int32)) % (5 : Int32))) % (6 : Int32))), .val (.ref rr), .val (.ref rs), .val (.ref o3), .unset, .unset]) rfl ?_
    show Steps p.tables e below (T3.setTop (mkF m 41 #[.val (.int p0), .val (.int p1), .val (.int ((p0 &&& (2147483647 : Int32)) % (6 : Int32))), .val (.int (((((p0 &&& (2147483647 : Int32)) % (6 : Int32)) + (1 : Int32)) + ((p1 &&& (2147483647 : Int32)) % (5 : Int32))) % (6 : Int32))), .val (.ref rr), .val (.ref rs), .val (.ref o3), .unset, .unset] [])) _
    refine XS.aload X3.here hx rfl (hb hby at_41) rfl rfl ?_
    exact k
  refine Go.callSW X3 hx hZ (W := 0) (argsL := [(.ref rr)]) (rest := []) hown (wd hw 10 rfl) (wd hw 11 rfl) (wd hw 12 rfl) (wd hw 13 rfl) (by decide) (ct_invalid l Z a0 hw w_BAD_SIGNATURE w_MALFORMED w_CODE_MISMATCH w_NONCE_MISMATCH w_PACKAGE_MISMATCH w_VERSION_MISMATCH w_AE w_IN w_EM w_EI S_BAD_SIGNATURE S_MALFORMED S_CODE_MISMATCH S_NONCE_MISMATCH S_PACKAGE_MISMATCH S_VERSION_MISMATCH E_BAD_SIGNATURE E_MALFORMED E_CODE_MISMATCH E_NONCE_MISMATCH E_PACKAGE_MISMATCH E_VERSION_MISMATCH F_BAD_SIGNATURE F_MALFORMED F_CODE_MISMATCH F_NONCE_MISMATCH F_PACKAGE_MISMATCH F_VERSION_MISMATCH S_AE S_IN neK S_EM E_EM F_EM S_EI E_EI F_EI rr h3 n0 O E_rr) e3 hS hk (by rw [hml]; rfl) (lenOf pd__Lcom_example_warrant_warrant_InvalidRea_8450 rfl) rfl rfl (hb hby at_43) (by decide) (by decide) (by decide) (by decide) ?_
  intro v4 T4 h4 L4 vm4 k4 X4 e4 q4 hS hk hZ hown
  obtain ⟨o4, rfl, N4, K4, lb4, E_o4, F_o4_kind, F_o4_signedData, F_o4_invalidReason, F_o4_applicationErrorCode⟩ := q4
  replace N4 := Fr.app N3 N4
  have ne_o3_o4 : o3 ≠ o4 := Nat.ne_of_lt (Nat.lt_of_lt_of_le E_o3.lt lb4)
  have g_o4 : n0 ≤ o4 := Nat.le_trans (OwnKit.Old.le O) lb4
  replace E_o3 := E_o3.keep K4
  replace F_o3_kind := F_o3_kind.keep K4 nin0
  replace F_o3_signedData := F_o3_signedData.keep K4 nin0
  replace F_o3_invalidReason := F_o3_invalidReason.keep K4 nin0
  replace F_o3_applicationErrorCode := F_o3_applicationErrorCode.keep K4 nin0
  replace O := O.keep K4 all0
  show Go p e below _ T4 (mkF m 46 #[.val (.int p0), .val (.int p1), .val (.int ((p0 &&& (2147483647 : Int32)) % (6 : Int32))), .val (.int (((((p0 &&& (2147483647 : Int32)) % (6 : Int32)) + (1 : Int32)) + ((p1 &&& (2147483647 : Int32)) % (5 : Int32))) % (6 : Int32))), .val (.ref rr), .val (.ref rs), .val (.ref o3), .unset, .unset] [(.ref o4)])
  refine Go.by (T' := T4) (g' := (mkF m 50 #[.val (.int p0), .val (.int p1), .val (.int ((p0 &&& (2147483647 : Int32)) % (6 : Int32))), .val (.int (((((p0 &&& (2147483647 : Int32)) % (6 : Int32)) + (1 : Int32)) + ((p1 &&& (2147483647 : Int32)) % (5 : Int32))) % (6 : Int32))), .val (.ref rr), .val (.ref rs), .val (.ref o3), .val (.ref o4), .unset] [(.ref rs)])) (fun t k => ?_) ?_
  · show Steps p.tables e below (T4.setTop (mkF m 46 #[.val (.int p0), .val (.int p1), .val (.int ((p0 &&& (2147483647 : Int32)) % (6 : Int32))), .val (.int (((((p0 &&& (2147483647 : Int32)) % (6 : Int32)) + (1 : Int32)) + ((p1 &&& (2147483647 : Int32)) % (5 : Int32))) % (6 : Int32))), .val (.ref rr), .val (.ref rs), .val (.ref o3), .unset, .unset] [(.ref o4)])) _
    refine XS.astore X4.here hx rfl (hb hby at_46) rfl rfl (l' := #[.val (.int p0), .val (.int p1), .val (.int ((p0 &&& (2147483647 : Int32)) % (6 : Int32))), .val (.int (((((p0 &&& (2147483647 : Int32)) % (6 : Int32)) + (1 : Int32)) + ((p1 &&& (2147483647 : Int32)) % (5 : Int32))) % (6 : Int32))), .val (.ref rr), .val (.ref rs), .val (.ref o3), .val (.ref o4), .unset]) rfl ?_
    show Steps p.tables e below (T4.setTop (mkF m 48 #[.val (.int p0), .val (.int p1), .val (.int ((p0 &&& (2147483647 : Int32)) % (6 : Int32))), .val (.int (((((p0 &&& (2147483647 : Int32)) % (6 : Int32)) + (1 : Int32)) + ((p1 &&& (2147483647 : Int32)) % (5 : Int32))) % (6 : Int32))), .val (.ref rr), .val (.ref rs), .val (.ref o3), .val (.ref o4), .unset] [])) _
    refine XS.aload X4.here hx rfl (hb hby at_48) rfl rfl ?_
    exact k
  refine Go.callSW X4 hx hZ (W := 0) (argsL := [(.ref rs)]) (rest := []) hown (wd hw 10 rfl) (wd hw 11 rfl) (wd hw 12 rfl) (wd hw 13 rfl) (by decide) (ct_invalid l Z a0 hw w_BAD_SIGNATURE w_MALFORMED w_CODE_MISMATCH w_NONCE_MISMATCH w_PACKAGE_MISMATCH w_VERSION_MISMATCH w_AE w_IN w_EM w_EI S_BAD_SIGNATURE S_MALFORMED S_CODE_MISMATCH S_NONCE_MISMATCH S_PACKAGE_MISMATCH S_VERSION_MISMATCH E_BAD_SIGNATURE E_MALFORMED E_CODE_MISMATCH E_NONCE_MISMATCH E_PACKAGE_MISMATCH E_VERSION_MISMATCH F_BAD_SIGNATURE F_MALFORMED F_CODE_MISMATCH F_NONCE_MISMATCH F_PACKAGE_MISMATCH F_VERSION_MISMATCH S_AE S_IN neK S_EM E_EM F_EM S_EI E_EI F_EI rs h4 n0 O E_rs) e4 hS hk (by rw [hml]; rfl) (lenOf pd__Lcom_example_warrant_warrant_InvalidRea_8450 rfl) rfl rfl (hb hby at_50) (by decide) (by decide) (by decide) (by decide) ?_
  intro v5 T5 h5 L5 vm5 k5 X5 e5 q5 hS hk hZ hown
  obtain ⟨o5, rfl, N5, K5, lb5, E_o5, F_o5_kind, F_o5_signedData, F_o5_invalidReason, F_o5_applicationErrorCode⟩ := q5
  replace N5 := Fr.app N4 N5
  have ne_o3_o5 : o3 ≠ o5 := Nat.ne_of_lt (Nat.lt_of_lt_of_le E_o3.lt lb5)
  have ne_o4_o5 : o4 ≠ o5 := Nat.ne_of_lt (Nat.lt_of_lt_of_le E_o4.lt lb5)
  have g_o5 : n0 ≤ o5 := Nat.le_trans (OwnKit.Old.le O) lb5
  replace E_o3 := E_o3.keep K5
  replace F_o3_kind := F_o3_kind.keep K5 nin0
  replace F_o3_signedData := F_o3_signedData.keep K5 nin0
  replace F_o3_invalidReason := F_o3_invalidReason.keep K5 nin0
  replace F_o3_applicationErrorCode := F_o3_applicationErrorCode.keep K5 nin0
  replace E_o4 := E_o4.keep K5
  replace F_o4_kind := F_o4_kind.keep K5 nin0
  replace F_o4_signedData := F_o4_signedData.keep K5 nin0
  replace F_o4_invalidReason := F_o4_invalidReason.keep K5 nin0
  replace F_o4_applicationErrorCode := F_o4_applicationErrorCode.keep K5 nin0
  replace O := O.keep K5 all0
  show Go p e below _ T5 (mkF m 53 #[.val (.int p0), .val (.int p1), .val (.int ((p0 &&& (2147483647 : Int32)) % (6 : Int32))), .val (.int (((((p0 &&& (2147483647 : Int32)) % (6 : Int32)) + (1 : Int32)) + ((p1 &&& (2147483647 : Int32)) % (5 : Int32))) % (6 : Int32))), .val (.ref rr), .val (.ref rs), .val (.ref o3), .val (.ref o4), .unset] [(.ref o5)])
  refine Go.by (T' := T5) (g' := (mkF m 57 #[.val (.int p0), .val (.int p1), .val (.int ((p0 &&& (2147483647 : Int32)) % (6 : Int32))), .val (.int (((((p0 &&& (2147483647 : Int32)) % (6 : Int32)) + (1 : Int32)) + ((p1 &&& (2147483647 : Int32)) % (5 : Int32))) % (6 : Int32))), .val (.ref rr), .val (.ref rs), .val (.ref o3), .val (.ref o4), .val (.ref o5)] [(.ref o3)])) (fun t k => ?_) ?_
  · show Steps p.tables e below (T5.setTop (mkF m 53 #[.val (.int p0), .val (.int p1), .val (.int ((p0 &&& (2147483647 : Int32)) % (6 : Int32))), .val (.int (((((p0 &&& (2147483647 : Int32)) % (6 : Int32)) + (1 : Int32)) + ((p1 &&& (2147483647 : Int32)) % (5 : Int32))) % (6 : Int32))), .val (.ref rr), .val (.ref rs), .val (.ref o3), .val (.ref o4), .unset] [(.ref o5)])) _
    refine XS.astore X5.here hx rfl (hb hby at_53) rfl rfl (l' := #[.val (.int p0), .val (.int p1), .val (.int ((p0 &&& (2147483647 : Int32)) % (6 : Int32))), .val (.int (((((p0 &&& (2147483647 : Int32)) % (6 : Int32)) + (1 : Int32)) + ((p1 &&& (2147483647 : Int32)) % (5 : Int32))) % (6 : Int32))), .val (.ref rr), .val (.ref rs), .val (.ref o3), .val (.ref o4), .val (.ref o5)]) rfl ?_
    show Steps p.tables e below (T5.setTop (mkF m 55 #[.val (.int p0), .val (.int p1), .val (.int ((p0 &&& (2147483647 : Int32)) % (6 : Int32))), .val (.int (((((p0 &&& (2147483647 : Int32)) % (6 : Int32)) + (1 : Int32)) + ((p1 &&& (2147483647 : Int32)) % (5 : Int32))) % (6 : Int32))), .val (.ref rr), .val (.ref rs), .val (.ref o3), .val (.ref o4), .val (.ref o5)] [])) _
    refine XS.aload X5.here hx rfl (hb hby at_55) rfl rfl ?_
    exact k
  refine Go.callV X5 hx hZ (W := 0) (argsL := []) (rest := []) hown (wd hw 47 rfl) (wd hw 48 rfl) (notFace_of_selects (args := #[]) (mvT hZ (wd hw 50 rfl))) (wd hw 50 rfl) (wd hw 49 rfl) (wd hw 12 rfl) (wd hw 51 rfl) (by decide) E_o3 (ct_get_kind_R_0 l Z a0 hw  o3 w_IN h5 n0 O F_o3_kind) e5 (by rw [hml]; rfl) (lenOf pd___Lcom_example_warrant_warrant_Verdict_K_868 rfl) rfl rfl (hb hby at_57) (by decide) (by decide) (by decide) (by decide) ?_
  intro v6 T6 h6 L6 X6 e6 q6
  obtain ⟨rfl, N6, rfl⟩ := q6
  replace N6 := Fr.app N5 N6
  show Go p e below _ T6 (mkF m 60 #[.val (.int p0), .val (.int p1), .val (.int ((p0 &&& (2147483647 : Int32)) % (6 : Int32))), .val (.int (((((p0 &&& (2147483647 : Int32)) % (6 : Int32)) + (1 : Int32)) + ((p1 &&& (2147483647 : Int32)) % (5 : Int32))) % (6 : Int32))), .val (.ref rr), .val (.ref rs), .val (.ref o3), .val (.ref o4), .val (.ref o5)] [(.ref w_IN)])
  refine Go.getS X6 hx hZ hown (wd hw 52 rfl) Via.refl e6 (S_IN.ext O.2) (hb hby at_60) ?_
  intro T7 X7 e7
  show Go p e below _ T7 (mkF m 63 #[.val (.int p0), .val (.int p1), .val (.int ((p0 &&& (2147483647 : Int32)) % (6 : Int32))), .val (.int (((((p0 &&& (2147483647 : Int32)) % (6 : Int32)) + (1 : Int32)) + ((p1 &&& (2147483647 : Int32)) % (5 : Int32))) % (6 : Int32))), .val (.ref rr), .val (.ref rs), .val (.ref o3), .val (.ref o4), .val (.ref o5)] [(.ref w_IN), (.ref w_IN)])
  refine Go.by (T' := T7) (g' := (mkF m 68 #[.val (.int p0), .val (.int p1), .val (.int ((p0 &&& (2147483647 : Int32)) % (6 : Int32))), .val (.int (((((p0 &&& (2147483647 : Int32)) % (6 : Int32)) + (1 : Int32)) + ((p1 &&& (2147483647 : Int32)) % (5 : Int32))) % (6 : Int32))), .val (.ref rr), .val (.ref rs), .val (.ref o3), .val (.ref o4), .val (.ref o5)] [(.ref o3)])) (fun t k => ?_) ?_
  · show Steps p.tables e below (T7.setTop (mkF m 63 #[.val (.int p0), .val (.int p1), .val (.int ((p0 &&& (2147483647 : Int32)) % (6 : Int32))), .val (.int (((((p0 &&& (2147483647 : Int32)) % (6 : Int32)) + (1 : Int32)) + ((p1 &&& (2147483647 : Int32)) % (5 : Int32))) % (6 : Int32))), .val (.ref rr), .val (.ref rs), .val (.ref o3), .val (.ref o4), .val (.ref o5)] [(.ref w_IN), (.ref w_IN)])) _
    refine Jvm.RoadKit.acmp (g := (mkF m 63 #[.val (.int p0), .val (.int p1), .val (.int ((p0 &&& (2147483647 : Int32)) % (6 : Int32))), .val (.int (((((p0 &&& (2147483647 : Int32)) % (6 : Int32)) + (1 : Int32)) + ((p1 &&& (2147483647 : Int32)) % (5 : Int32))) % (6 : Int32))), .val (.ref rr), .val (.ref rs), .val (.ref o3), .val (.ref o4), .val (.ref o5)] [(.ref w_IN), (.ref w_IN)])) X7 hx rfl rfl rfl (pc0 := 63) (pc' := 66) (same := true) rfl (hb hby at_63) rfl (decide_eq_true rfl) (by decide) (by decide) ?_
    show Steps p.tables e below (T7.setTop (mkF m 66 #[.val (.int p0), .val (.int p1), .val (.int ((p0 &&& (2147483647 : Int32)) % (6 : Int32))), .val (.int (((((p0 &&& (2147483647 : Int32)) % (6 : Int32)) + (1 : Int32)) + ((p1 &&& (2147483647 : Int32)) % (5 : Int32))) % (6 : Int32))), .val (.ref rr), .val (.ref rs), .val (.ref o3), .val (.ref o4), .val (.ref o5)] [])) _
    refine XS.aload X7.here hx rfl (hb hby at_66) rfl rfl ?_
    exact k
  refine Go.callV X7 hx hZ (W := 0) (argsL := []) (rest := []) hown (wd hw 53 rfl) (wd hw 54 rfl) (notFace_of_selects (args := #[]) (mvT hZ (wd hw 56 rfl))) (wd hw 56 rfl) (wd hw 55 rfl) (wd hw 12 rfl) (wd hw 57 rfl) (by decide) E_o3 (ct_ir l Z a0 hw w_BAD_SIGNATURE w_MALFORMED w_CODE_MISMATCH w_NONCE_MISMATCH w_PACKAGE_MISMATCH w_VERSION_MISMATCH w_AE w_IN w_EM w_EI S_BAD_SIGNATURE S_MALFORMED S_CODE_MISMATCH S_NONCE_MISMATCH S_PACKAGE_MISMATCH S_VERSION_MISMATCH E_BAD_SIGNATURE E_MALFORMED E_CODE_MISMATCH E_NONCE_MISMATCH E_PACKAGE_MISMATCH E_VERSION_MISMATCH F_BAD_SIGNATURE F_MALFORMED F_CODE_MISMATCH F_NONCE_MISMATCH F_PACKAGE_MISMATCH F_VERSION_MISMATCH S_AE S_IN neK S_EM E_EM F_EM S_EI E_EI F_EI o3 rr h5 n0 O F_o3_invalidReason) e7 (by rw [hml]; rfl) (lenOf pd___Ljava_util_Optional__2886 rfl) rfl rfl (hb hby at_68) (by decide) (by decide) (by decide) (by decide) ?_
  intro v8 T8 h8 L8 X8 e8 q8
  obtain ⟨o8, rfl, N8, K8, lb8, E_o8, F_o8_value⟩ := q8
  replace N8 := Fr.app N6 N8
  have ne_o3_o8 : o3 ≠ o8 := Nat.ne_of_lt (Nat.lt_of_lt_of_le E_o3.lt lb8)
  have ne_o4_o8 : o4 ≠ o8 := Nat.ne_of_lt (Nat.lt_of_lt_of_le E_o4.lt lb8)
  have ne_o5_o8 : o5 ≠ o8 := Nat.ne_of_lt (Nat.lt_of_lt_of_le E_o5.lt lb8)
  have g_o8 : n0 ≤ o8 := Nat.le_trans (OwnKit.Old.le O) lb8
  replace E_o3 := E_o3.keep K8
  replace F_o3_kind := F_o3_kind.keep K8 nin0
  replace F_o3_signedData := F_o3_signedData.keep K8 nin0
  replace F_o3_invalidReason := F_o3_invalidReason.keep K8 nin0
  replace F_o3_applicationErrorCode := F_o3_applicationErrorCode.keep K8 nin0
  replace E_o4 := E_o4.keep K8
  replace F_o4_kind := F_o4_kind.keep K8 nin0
  replace F_o4_signedData := F_o4_signedData.keep K8 nin0
  replace F_o4_invalidReason := F_o4_invalidReason.keep K8 nin0
  replace F_o4_applicationErrorCode := F_o4_applicationErrorCode.keep K8 nin0
  replace E_o5 := E_o5.keep K8
  replace F_o5_kind := F_o5_kind.keep K8 nin0
  replace F_o5_signedData := F_o5_signedData.keep K8 nin0
  replace F_o5_invalidReason := F_o5_invalidReason.keep K8 nin0
  replace F_o5_applicationErrorCode := F_o5_applicationErrorCode.keep K8 nin0
  replace O := O.keep K8 all0
  replace hk := Nat.le_trans hk K8.1
  show Go p e below _ T8 (mkF m 71 #[.val (.int p0), .val (.int p1), .val (.int ((p0 &&& (2147483647 : Int32)) % (6 : Int32))), .val (.int (((((p0 &&& (2147483647 : Int32)) % (6 : Int32)) + (1 : Int32)) + ((p1 &&& (2147483647 : Int32)) % (5 : Int32))) % (6 : Int32))), .val (.ref rr), .val (.ref rs), .val (.ref o3), .val (.ref o4), .val (.ref o5)] [(.ref o8)])
  refine Go.callV X8 hx hZ (W := 0) (argsL := []) (rest := []) hown (wd hw 71 rfl) (wd hw 72 rfl) (notFace_of_selects (args := #[]) (mvT hZ (wd hw 74 rfl))) (wd hw 74 rfl) (wd hw 73 rfl) (wd hw 60 rfl) (wd hw 75 rfl) (by decide) E_o8 (ct_isP_r l Z a0 hw w_BAD_SIGNATURE w_MALFORMED w_CODE_MISMATCH w_NONCE_MISMATCH w_PACKAGE_MISMATCH w_VERSION_MISMATCH w_AE w_IN w_EM w_EI S_BAD_SIGNATURE S_MALFORMED S_CODE_MISMATCH S_NONCE_MISMATCH S_PACKAGE_MISMATCH S_VERSION_MISMATCH E_BAD_SIGNATURE E_MALFORMED E_CODE_MISMATCH E_NONCE_MISMATCH E_PACKAGE_MISMATCH E_VERSION_MISMATCH F_BAD_SIGNATURE F_MALFORMED F_CODE_MISMATCH F_NONCE_MISMATCH F_PACKAGE_MISMATCH F_VERSION_MISMATCH S_AE S_IN neK S_EM E_EM F_EM S_EI E_EI F_EI o8 rr h8 n0 O F_o8_value) e8 (by rw [hml]; rfl) (lenOf pd___Z_8338 rfl) rfl rfl (hb hby at_71) (by decide) (by decide) (by decide) (by decide) ?_
  intro v9 T9 h9 L9 X9 e9 q9
  obtain ⟨rfl, N9, rfl⟩ := q9
  replace N9 := Fr.app N8 N9
  show Go p e below _ T9 (mkF m 74 #[.val (.int p0), .val (.int p1), .val (.int ((p0 &&& (2147483647 : Int32)) % (6 : Int32))), .val (.int (((((p0 &&& (2147483647 : Int32)) % (6 : Int32)) + (1 : Int32)) + ((p1 &&& (2147483647 : Int32)) % (5 : Int32))) % (6 : Int32))), .val (.ref rr), .val (.ref rs), .val (.ref o3), .val (.ref o4), .val (.ref o5)] [(.int (1 : Int32))])
  refine Go.by (T' := T9) (g' := (mkF m 79 #[.val (.int p0), .val (.int p1), .val (.int ((p0 &&& (2147483647 : Int32)) % (6 : Int32))), .val (.int (((((p0 &&& (2147483647 : Int32)) % (6 : Int32)) + (1 : Int32)) + ((p1 &&& (2147483647 : Int32)) % (5 : Int32))) % (6 : Int32))), .val (.ref rr), .val (.ref rs), .val (.ref o3), .val (.ref o4), .val (.ref o5)] [(.ref o3)])) (fun t k => ?_) ?_
  · show Steps p.tables e below (T9.setTop (mkF m 74 #[.val (.int p0), .val (.int p1), .val (.int ((p0 &&& (2147483647 : Int32)) % (6 : Int32))), .val (.int (((((p0 &&& (2147483647 : Int32)) % (6 : Int32)) + (1 : Int32)) + ((p1 &&& (2147483647 : Int32)) % (5 : Int32))) % (6 : Int32))), .val (.ref rr), .val (.ref rs), .val (.ref o3), .val (.ref o4), .val (.ref o5)] [(.int (1 : Int32))])) _
    refine XS.ifNo X9.here hx rfl (hb hby at_74) rfl ((if0 _ _).trans (feq (by decide : ¬ (1 : Int32) = (0 : Int32))).1) ?_
    show Steps p.tables e below (T9.setTop (mkF m 77 #[.val (.int p0), .val (.int p1), .val (.int ((p0 &&& (2147483647 : Int32)) % (6 : Int32))), .val (.int (((((p0 &&& (2147483647 : Int32)) % (6 : Int32)) + (1 : Int32)) + ((p1 &&& (2147483647 : Int32)) % (5 : Int32))) % (6 : Int32))), .val (.ref rr), .val (.ref rs), .val (.ref o3), .val (.ref o4), .val (.ref o5)] [])) _
    refine XS.aload X9.here hx rfl (hb hby at_77) rfl rfl ?_
    exact k
  refine Go.callV X9 hx hZ (W := 0) (argsL := []) (rest := []) hown (wd hw 53 rfl) (wd hw 54 rfl) (notFace_of_selects (args := #[]) (mvT hZ (wd hw 56 rfl))) (wd hw 56 rfl) (wd hw 55 rfl) (wd hw 12 rfl) (wd hw 57 rfl) (by decide) E_o3 (ct_ir l Z a0 hw w_BAD_SIGNATURE w_MALFORMED w_CODE_MISMATCH w_NONCE_MISMATCH w_PACKAGE_MISMATCH w_VERSION_MISMATCH w_AE w_IN w_EM w_EI S_BAD_SIGNATURE S_MALFORMED S_CODE_MISMATCH S_NONCE_MISMATCH S_PACKAGE_MISMATCH S_VERSION_MISMATCH E_BAD_SIGNATURE E_MALFORMED E_CODE_MISMATCH E_NONCE_MISMATCH E_PACKAGE_MISMATCH E_VERSION_MISMATCH F_BAD_SIGNATURE F_MALFORMED F_CODE_MISMATCH F_NONCE_MISMATCH F_PACKAGE_MISMATCH F_VERSION_MISMATCH S_AE S_IN neK S_EM E_EM F_EM S_EI E_EI F_EI o3 rr h8 n0 O F_o3_invalidReason) e9 (by rw [hml]; rfl) (lenOf pd___Ljava_util_Optional__2886 rfl) rfl rfl (hb hby at_79) (by decide) (by decide) (by decide) (by decide) ?_
  intro v10 T10 h10 L10 X10 e10 q10
  obtain ⟨o10, rfl, N10, K10, lb10, E_o10, F_o10_value⟩ := q10
  replace N10 := Fr.app N9 N10
  have ne_o3_o10 : o3 ≠ o10 := Nat.ne_of_lt (Nat.lt_of_lt_of_le E_o3.lt lb10)
  have ne_o4_o10 : o4 ≠ o10 := Nat.ne_of_lt (Nat.lt_of_lt_of_le E_o4.lt lb10)
  have ne_o5_o10 : o5 ≠ o10 := Nat.ne_of_lt (Nat.lt_of_lt_of_le E_o5.lt lb10)
  have ne_o8_o10 : o8 ≠ o10 := Nat.ne_of_lt (Nat.lt_of_lt_of_le E_o8.lt lb10)
  have g_o10 : n0 ≤ o10 := Nat.le_trans (OwnKit.Old.le O) lb10
  replace E_o3 := E_o3.keep K10
  replace F_o3_kind := F_o3_kind.keep K10 nin0
  replace F_o3_signedData := F_o3_signedData.keep K10 nin0
  replace F_o3_invalidReason := F_o3_invalidReason.keep K10 nin0
  replace F_o3_applicationErrorCode := F_o3_applicationErrorCode.keep K10 nin0
  replace E_o4 := E_o4.keep K10
  replace F_o4_kind := F_o4_kind.keep K10 nin0
  replace F_o4_signedData := F_o4_signedData.keep K10 nin0
  replace F_o4_invalidReason := F_o4_invalidReason.keep K10 nin0
  replace F_o4_applicationErrorCode := F_o4_applicationErrorCode.keep K10 nin0
  replace E_o5 := E_o5.keep K10
  replace F_o5_kind := F_o5_kind.keep K10 nin0
  replace F_o5_signedData := F_o5_signedData.keep K10 nin0
  replace F_o5_invalidReason := F_o5_invalidReason.keep K10 nin0
  replace F_o5_applicationErrorCode := F_o5_applicationErrorCode.keep K10 nin0
  replace E_o8 := E_o8.keep K10
  replace F_o8_value := F_o8_value.keep K10 nin0
  replace O := O.keep K10 all0
  replace hk := Nat.le_trans hk K10.1
  show Go p e below _ T10 (mkF m 82 #[.val (.int p0), .val (.int p1), .val (.int ((p0 &&& (2147483647 : Int32)) % (6 : Int32))), .val (.int (((((p0 &&& (2147483647 : Int32)) % (6 : Int32)) + (1 : Int32)) + ((p1 &&& (2147483647 : Int32)) % (5 : Int32))) % (6 : Int32))), .val (.ref rr), .val (.ref rs), .val (.ref o3), .val (.ref o4), .val (.ref o5)] [(.ref o10)])
  refine Go.callV X10 hx hZ (W := 0) (argsL := []) (rest := []) hown (wd hw 76 rfl) (wd hw 77 rfl) (notFace_of_selects (args := #[]) (mvT hZ (wd hw 79 rfl))) (wd hw 79 rfl) (wd hw 78 rfl) (wd hw 60 rfl) (wd hw 80 rfl) (by decide) E_o10 (ct_opget l Z a0 hw w_BAD_SIGNATURE w_MALFORMED w_CODE_MISMATCH w_NONCE_MISMATCH w_PACKAGE_MISMATCH w_VERSION_MISMATCH w_AE w_IN w_EM w_EI S_BAD_SIGNATURE S_MALFORMED S_CODE_MISMATCH S_NONCE_MISMATCH S_PACKAGE_MISMATCH S_VERSION_MISMATCH E_BAD_SIGNATURE E_MALFORMED E_CODE_MISMATCH E_NONCE_MISMATCH E_PACKAGE_MISMATCH E_VERSION_MISMATCH F_BAD_SIGNATURE F_MALFORMED F_CODE_MISMATCH F_NONCE_MISMATCH F_PACKAGE_MISMATCH F_VERSION_MISMATCH S_AE S_IN neK S_EM E_EM F_EM S_EI E_EI F_EI o10 rr h10 n0 O F_o10_value) e10 (by rw [hml]; rfl) (lenOf pd___Ljava_lang_Object__2200 rfl) rfl rfl (hb hby at_82) (by decide) (by decide) (by decide) (by decide) ?_
  intro v11 T11 h11 L11 X11 e11 q11
  obtain ⟨rfl, N11, rfl⟩ := q11
  replace N11 := Fr.app N10 N11
  show Go p e below _ T11 (mkF m 85 #[.val (.int p0), .val (.int p1), .val (.int ((p0 &&& (2147483647 : Int32)) % (6 : Int32))), .val (.int (((((p0 &&& (2147483647 : Int32)) % (6 : Int32)) + (1 : Int32)) + ((p1 &&& (2147483647 : Int32)) % (5 : Int32))) % (6 : Int32))), .val (.ref rr), .val (.ref rs), .val (.ref o3), .val (.ref o4), .val (.ref o5)] [(.ref rr)])
  refine Go.by (T' := T11) (g' := (mkF m 92 #[.val (.int p0), .val (.int p1), .val (.int ((p0 &&& (2147483647 : Int32)) % (6 : Int32))), .val (.int (((((p0 &&& (2147483647 : Int32)) % (6 : Int32)) + (1 : Int32)) + ((p1 &&& (2147483647 : Int32)) % (5 : Int32))) % (6 : Int32))), .val (.ref rr), .val (.ref rs), .val (.ref o3), .val (.ref o4), .val (.ref o5)] [(.ref o3)])) (fun t k => ?_) ?_
  · show Steps p.tables e below (T11.setTop (mkF m 85 #[.val (.int p0), .val (.int p1), .val (.int ((p0 &&& (2147483647 : Int32)) % (6 : Int32))), .val (.int (((((p0 &&& (2147483647 : Int32)) % (6 : Int32)) + (1 : Int32)) + ((p1 &&& (2147483647 : Int32)) % (5 : Int32))) % (6 : Int32))), .val (.ref rr), .val (.ref rs), .val (.ref o3), .val (.ref o4), .val (.ref o5)] [(.ref rr)])) _
    refine XS.aload X11.here hx rfl (hb hby at_85) rfl rfl ?_
    show Steps p.tables e below (T11.setTop (mkF m 87 #[.val (.int p0), .val (.int p1), .val (.int ((p0 &&& (2147483647 : Int32)) % (6 : Int32))), .val (.int (((((p0 &&& (2147483647 : Int32)) % (6 : Int32)) + (1 : Int32)) + ((p1 &&& (2147483647 : Int32)) % (5 : Int32))) % (6 : Int32))), .val (.ref rr), .val (.ref rs), .val (.ref o3), .val (.ref o4), .val (.ref o5)] [(.ref rr), (.ref rr)])) _
    refine Jvm.RoadKit.acmp (g := (mkF m 87 #[.val (.int p0), .val (.int p1), .val (.int ((p0 &&& (2147483647 : Int32)) % (6 : Int32))), .val (.int (((((p0 &&& (2147483647 : Int32)) % (6 : Int32)) + (1 : Int32)) + ((p1 &&& (2147483647 : Int32)) % (5 : Int32))) % (6 : Int32))), .val (.ref rr), .val (.ref rs), .val (.ref o3), .val (.ref o4), .val (.ref o5)] [(.ref rr), (.ref rr)])) X11 hx rfl rfl rfl (pc0 := 87) (pc' := 90) (same := true) rfl (hb hby at_87) rfl (decide_eq_true rfl) (by decide) (by decide) ?_
    show Steps p.tables e below (T11.setTop (mkF m 90 #[.val (.int p0), .val (.int p1), .val (.int ((p0 &&& (2147483647 : Int32)) % (6 : Int32))), .val (.int (((((p0 &&& (2147483647 : Int32)) % (6 : Int32)) + (1 : Int32)) + ((p1 &&& (2147483647 : Int32)) % (5 : Int32))) % (6 : Int32))), .val (.ref rr), .val (.ref rs), .val (.ref o3), .val (.ref o4), .val (.ref o5)] [])) _
    refine XS.aload X11.here hx rfl (hb hby at_90) rfl rfl ?_
    exact k
  refine Go.callV X11 hx hZ (W := 0) (argsL := []) (rest := []) hown (wd hw 81 rfl) (wd hw 82 rfl) (notFace_of_selects (args := #[]) (mvT hZ (wd hw 84 rfl))) (wd hw 84 rfl) (wd hw 83 rfl) (wd hw 12 rfl) (wd hw 85 rfl) (by decide) E_o3 (ct_sd l Z a0 hw w_BAD_SIGNATURE w_MALFORMED w_CODE_MISMATCH w_NONCE_MISMATCH w_PACKAGE_MISMATCH w_VERSION_MISMATCH w_AE w_IN w_EM w_EI S_BAD_SIGNATURE S_MALFORMED S_CODE_MISMATCH S_NONCE_MISMATCH S_PACKAGE_MISMATCH S_VERSION_MISMATCH E_BAD_SIGNATURE E_MALFORMED E_CODE_MISMATCH E_NONCE_MISMATCH E_PACKAGE_MISMATCH E_VERSION_MISMATCH F_BAD_SIGNATURE F_MALFORMED F_CODE_MISMATCH F_NONCE_MISMATCH F_PACKAGE_MISMATCH F_VERSION_MISMATCH S_AE S_IN neK S_EM E_EM F_EM S_EI E_EI F_EI o3 h10 n0 O F_o3_signedData) e11 (by rw [hml]; rfl) (lenOf pd___Ljava_util_Optional__2886 rfl) rfl rfl (hb hby at_92) (by decide) (by decide) (by decide) (by decide) ?_
  intro v12 T12 h12 L12 X12 e12 q12
  obtain ⟨rfl, N12, rfl⟩ := q12
  replace N12 := Fr.app N11 N12
  show Go p e below _ T12 (mkF m 95 #[.val (.int p0), .val (.int p1), .val (.int ((p0 &&& (2147483647 : Int32)) % (6 : Int32))), .val (.int (((((p0 &&& (2147483647 : Int32)) % (6 : Int32)) + (1 : Int32)) + ((p1 &&& (2147483647 : Int32)) % (5 : Int32))) % (6 : Int32))), .val (.ref rr), .val (.ref rs), .val (.ref o3), .val (.ref o4), .val (.ref o5)] [(.ref w_EM)])
  refine Go.callV X12 hx hZ (W := 0) (argsL := []) (rest := []) hown (wd hw 71 rfl) (wd hw 72 rfl) (notFace_of_selects (args := #[]) (mvT hZ (wd hw 74 rfl))) (wd hw 74 rfl) (wd hw 73 rfl) (wd hw 60 rfl) (wd hw 75 rfl) (by decide) (E_EM.ext O.2) (ct_isP_n l Z a0 hw w_BAD_SIGNATURE w_MALFORMED w_CODE_MISMATCH w_NONCE_MISMATCH w_PACKAGE_MISMATCH w_VERSION_MISMATCH w_AE w_IN w_EM w_EI S_BAD_SIGNATURE S_MALFORMED S_CODE_MISMATCH S_NONCE_MISMATCH S_PACKAGE_MISMATCH S_VERSION_MISMATCH E_BAD_SIGNATURE E_MALFORMED E_CODE_MISMATCH E_NONCE_MISMATCH E_PACKAGE_MISMATCH E_VERSION_MISMATCH F_BAD_SIGNATURE F_MALFORMED F_CODE_MISMATCH F_NONCE_MISMATCH F_PACKAGE_MISMATCH F_VERSION_MISMATCH S_AE S_IN neK S_EM E_EM F_EM S_EI E_EI F_EI w_EM h10 n0 O (F_EM.ext O.2)) e12 (by rw [hml]; rfl) (lenOf pd___Z_8338 rfl) rfl rfl (hb hby at_95) (by decide) (by decide) (by decide) (by decide) ?_
  intro v13 T13 h13 L13 X13 e13 q13
  obtain ⟨rfl, N13, rfl⟩ := q13
  replace N13 := Fr.app N12 N13
  show Go p e below _ T13 (mkF m 98 #[.val (.int p0), .val (.int p1), .val (.int ((p0 &&& (2147483647 : Int32)) % (6 : Int32))), .val (.int (((((p0 &&& (2147483647 : Int32)) % (6 : Int32)) + (1 : Int32)) + ((p1 &&& (2147483647 : Int32)) % (5 : Int32))) % (6 : Int32))), .val (.ref rr), .val (.ref rs), .val (.ref o3), .val (.ref o4), .val (.ref o5)] [(.int (0 : Int32))])
  refine Go.by (T' := T13) (g' := (mkF m 103 #[.val (.int p0), .val (.int p1), .val (.int ((p0 &&& (2147483647 : Int32)) % (6 : Int32))), .val (.int (((((p0 &&& (2147483647 : Int32)) % (6 : Int32)) + (1 : Int32)) + ((p1 &&& (2147483647 : Int32)) % (5 : Int32))) % (6 : Int32))), .val (.ref rr), .val (.ref rs), .val (.ref o3), .val (.ref o4), .val (.ref o5)] [(.ref o3)])) (fun t k => ?_) ?_
  · show Steps p.tables e below (T13.setTop (mkF m 98 #[.val (.int p0), .val (.int p1), .val (.int ((p0 &&& (2147483647 : Int32)) % (6 : Int32))), .val (.int (((((p0 &&& (2147483647 : Int32)) % (6 : Int32)) + (1 : Int32)) + ((p1 &&& (2147483647 : Int32)) % (5 : Int32))) % (6 : Int32))), .val (.ref rr), .val (.ref rs), .val (.ref o3), .val (.ref o4), .val (.ref o5)] [(.int (0 : Int32))])) _
    refine XS.ifNo X13.here hx rfl (hb hby at_98) rfl ((if0 _ _).trans (teq (by decide : (0 : Int32) = (0 : Int32))).2) ?_
    show Steps p.tables e below (T13.setTop (mkF m 101 #[.val (.int p0), .val (.int p1), .val (.int ((p0 &&& (2147483647 : Int32)) % (6 : Int32))), .val (.int (((((p0 &&& (2147483647 : Int32)) % (6 : Int32)) + (1 : Int32)) + ((p1 &&& (2147483647 : Int32)) % (5 : Int32))) % (6 : Int32))), .val (.ref rr), .val (.ref rs), .val (.ref o3), .val (.ref o4), .val (.ref o5)] [])) _
    refine XS.aload X13.here hx rfl (hb hby at_101) rfl rfl ?_
    exact k
  refine Go.callV X13 hx hZ (W := 0) (argsL := []) (rest := []) hown (wd hw 87 rfl) (wd hw 88 rfl) (notFace_of_selects (args := #[]) (mvT hZ (wd hw 90 rfl))) (wd hw 90 rfl) (wd hw 89 rfl) (wd hw 12 rfl) (wd hw 91 rfl) (by decide) E_o3 (ct_aec l Z a0 hw w_BAD_SIGNATURE w_MALFORMED w_CODE_MISMATCH w_NONCE_MISMATCH w_PACKAGE_MISMATCH w_VERSION_MISMATCH w_AE w_IN w_EM w_EI S_BAD_SIGNATURE S_MALFORMED S_CODE_MISMATCH S_NONCE_MISMATCH S_PACKAGE_MISMATCH S_VERSION_MISMATCH E_BAD_SIGNATURE E_MALFORMED E_CODE_MISMATCH E_NONCE_MISMATCH E_PACKAGE_MISMATCH E_VERSION_MISMATCH F_BAD_SIGNATURE F_MALFORMED F_CODE_MISMATCH F_NONCE_MISMATCH F_PACKAGE_MISMATCH F_VERSION_MISMATCH S_AE S_IN neK S_EM E_EM F_EM S_EI E_EI F_EI o3 h10 n0 O F_o3_kind) e13 (by rw [hml]; rfl) (lenOf pd___Ljava_util_OptionalInt__4070 rfl) rfl rfl (hb hby at_103) (by decide) (by decide) (by decide) (by decide) ?_
  intro v14 T14 h14 L14 X14 e14 q14
  obtain ⟨rfl, N14, rfl⟩ := q14
  replace N14 := Fr.app N13 N14
  show Go p e below _ T14 (mkF m 106 #[.val (.int p0), .val (.int p1), .val (.int ((p0 &&& (2147483647 : Int32)) % (6 : Int32))), .val (.int (((((p0 &&& (2147483647 : Int32)) % (6 : Int32)) + (1 : Int32)) + ((p1 &&& (2147483647 : Int32)) % (5 : Int32))) % (6 : Int32))), .val (.ref rr), .val (.ref rs), .val (.ref o3), .val (.ref o4), .val (.ref o5)] [(.ref w_EI)])
  refine Go.callV X14 hx hZ (W := 0) (argsL := []) (rest := []) hown (wd hw 99 rfl) (wd hw 100 rfl) (notFace_of_selects (args := #[]) (mvT hZ (wd hw 102 rfl))) (wd hw 102 rfl) (wd hw 101 rfl) (wd hw 96 rfl) (wd hw 103 rfl) (by decide) (E_EI.ext O.2) (ct_get_isPresent_l_0___Int32__1 l Z a0 hw  w_EI h10 n0 O (F_EI.ext O.2)) e14 (by rw [hml]; rfl) (lenOf pd___Z_8338 rfl) rfl rfl (hb hby at_106) (by decide) (by decide) (by decide) (by decide) ?_
  intro v15 T15 h15 L15 X15 e15 q15
  obtain ⟨rfl, N15, rfl⟩ := q15
  replace N15 := Fr.app N14 N15
  show Go p e below _ T15 (mkF m 109 #[.val (.int p0), .val (.int p1), .val (.int ((p0 &&& (2147483647 : Int32)) % (6 : Int32))), .val (.int (((((p0 &&& (2147483647 : Int32)) % (6 : Int32)) + (1 : Int32)) + ((p1 &&& (2147483647 : Int32)) % (5 : Int32))) % (6 : Int32))), .val (.ref rr), .val (.ref rs), .val (.ref o3), .val (.ref o4), .val (.ref o5)] [(.int (0 : Int32))])
  refine Go.by (T' := T15) (g' := (mkF m 114 #[.val (.int p0), .val (.int p1), .val (.int ((p0 &&& (2147483647 : Int32)) % (6 : Int32))), .val (.int (((((p0 &&& (2147483647 : Int32)) % (6 : Int32)) + (1 : Int32)) + ((p1 &&& (2147483647 : Int32)) % (5 : Int32))) % (6 : Int32))), .val (.ref rr), .val (.ref rs), .val (.ref o3), .val (.ref o4), .val (.ref o5)] [(.ref o3)])) (fun t k => ?_) ?_
  · show Steps p.tables e below (T15.setTop (mkF m 109 #[.val (.int p0), .val (.int p1), .val (.int ((p0 &&& (2147483647 : Int32)) % (6 : Int32))), .val (.int (((((p0 &&& (2147483647 : Int32)) % (6 : Int32)) + (1 : Int32)) + ((p1 &&& (2147483647 : Int32)) % (5 : Int32))) % (6 : Int32))), .val (.ref rr), .val (.ref rs), .val (.ref o3), .val (.ref o4), .val (.ref o5)] [(.int (0 : Int32))])) _
    refine XS.ifNo X15.here hx rfl (hb hby at_109) rfl ((if0 _ _).trans (teq (by decide : (0 : Int32) = (0 : Int32))).2) ?_
    show Steps p.tables e below (T15.setTop (mkF m 112 #[.val (.int p0), .val (.int p1), .val (.int ((p0 &&& (2147483647 : Int32)) % (6 : Int32))), .val (.int (((((p0 &&& (2147483647 : Int32)) % (6 : Int32)) + (1 : Int32)) + ((p1 &&& (2147483647 : Int32)) % (5 : Int32))) % (6 : Int32))), .val (.ref rr), .val (.ref rs), .val (.ref o3), .val (.ref o4), .val (.ref o5)] [])) _
    refine XS.aload X15.here hx rfl (hb hby at_112) rfl rfl ?_
    exact k
  refine Go.callV X15 hx hZ (W := 0) (argsL := []) (rest := []) hown (wd hw 106 rfl) (wd hw 107 rfl) (notFace_of_selects (args := #[]) (mvT hZ (wd hw 109 rfl))) (wd hw 109 rfl) (wd hw 108 rfl) (wd hw 12 rfl) (wd hw 110 rfl) (by decide) E_o3 (ct_oldKey l Z a0 hw w_BAD_SIGNATURE w_MALFORMED w_CODE_MISMATCH w_NONCE_MISMATCH w_PACKAGE_MISMATCH w_VERSION_MISMATCH w_AE w_IN w_EM w_EI S_BAD_SIGNATURE S_MALFORMED S_CODE_MISMATCH S_NONCE_MISMATCH S_PACKAGE_MISMATCH S_VERSION_MISMATCH E_BAD_SIGNATURE E_MALFORMED E_CODE_MISMATCH E_NONCE_MISMATCH E_PACKAGE_MISMATCH E_VERSION_MISMATCH F_BAD_SIGNATURE F_MALFORMED F_CODE_MISMATCH F_NONCE_MISMATCH F_PACKAGE_MISMATCH F_VERSION_MISMATCH S_AE S_IN neK S_EM E_EM F_EM S_EI E_EI F_EI o3 h10 n0 O F_o3_signedData) e15 (by rw [hml]; rfl) (lenOf pd___Z_8338 rfl) rfl rfl (hb hby at_114) (by decide) (by decide) (by decide) (by decide) ?_
  intro v16 T16 h16 L16 X16 e16 q16
  obtain ⟨rfl, N16, rfl⟩ := q16
  replace N16 := Fr.app N15 N16
  show Go p e below _ T16 (mkF m 117 #[.val (.int p0), .val (.int p1), .val (.int ((p0 &&& (2147483647 : Int32)) % (6 : Int32))), .val (.int (((((p0 &&& (2147483647 : Int32)) % (6 : Int32)) + (1 : Int32)) + ((p1 &&& (2147483647 : Int32)) % (5 : Int32))) % (6 : Int32))), .val (.ref rr), .val (.ref rs), .val (.ref o3), .val (.ref o4), .val (.ref o5)] [(.int (0 : Int32))])
  refine Go.by (T' := T16) (g' := (mkF m 124 #[.val (.int p0), .val (.int p1), .val (.int ((p0 &&& (2147483647 : Int32)) % (6 : Int32))), .val (.int (((((p0 &&& (2147483647 : Int32)) % (6 : Int32)) + (1 : Int32)) + ((p1 &&& (2147483647 : Int32)) % (5 : Int32))) % (6 : Int32))), .val (.ref rr), .val (.ref rs), .val (.ref o3), .val (.ref o4), .val (.ref o5)] [(.ref o4), (.ref o3)])) (fun t k => ?_) ?_
  · show Steps p.tables e below (T16.setTop (mkF m 117 #[.val (.int p0), .val (.int p1), .val (.int ((p0 &&& (2147483647 : Int32)) % (6 : Int32))), .val (.int (((((p0 &&& (2147483647 : Int32)) % (6 : Int32)) + (1 : Int32)) + ((p1 &&& (2147483647 : Int32)) % (5 : Int32))) % (6 : Int32))), .val (.ref rr), .val (.ref rs), .val (.ref o3), .val (.ref o4), .val (.ref o5)] [(.int (0 : Int32))])) _
    refine XS.ifNo X16.here hx rfl (hb hby at_117) rfl ((if0 _ _).trans (teq (by decide : (0 : Int32) = (0 : Int32))).2) ?_
    show Steps p.tables e below (T16.setTop (mkF m 120 #[.val (.int p0), .val (.int p1), .val (.int ((p0 &&& (2147483647 : Int32)) % (6 : Int32))), .val (.int (((((p0 &&& (2147483647 : Int32)) % (6 : Int32)) + (1 : Int32)) + ((p1 &&& (2147483647 : Int32)) % (5 : Int32))) % (6 : Int32))), .val (.ref rr), .val (.ref rs), .val (.ref o3), .val (.ref o4), .val (.ref o5)] [])) _
    refine XS.aload X16.here hx rfl (hb hby at_120) rfl rfl ?_
    show Steps p.tables e below (T16.setTop (mkF m 122 #[.val (.int p0), .val (.int p1), .val (.int ((p0 &&& (2147483647 : Int32)) % (6 : Int32))), .val (.int (((((p0 &&& (2147483647 : Int32)) % (6 : Int32)) + (1 : Int32)) + ((p1 &&& (2147483647 : Int32)) % (5 : Int32))) % (6 : Int32))), .val (.ref rr), .val (.ref rs), .val (.ref o3), .val (.ref o4), .val (.ref o5)] [(.ref o3)])) _
    refine XS.aload X16.here hx rfl (hb hby at_122) rfl rfl ?_
    exact k
  refine Go.callV X16 hx hZ (W := 0) (argsL := [(.ref o4)]) (rest := []) hown (wd hw 111 rfl) (wd hw 112 rfl) (notFace_of_selects (args := #[]) (mvT hZ (wd hw 114 rfl))) (wd hw 114 rfl) (wd hw 113 rfl) (wd hw 12 rfl) (wd hw 115 rfl) (by decide) E_o3 (ct_veq l Z a0 hw w_BAD_SIGNATURE w_MALFORMED w_CODE_MISMATCH w_NONCE_MISMATCH w_PACKAGE_MISMATCH w_VERSION_MISMATCH w_AE w_IN w_EM w_EI S_BAD_SIGNATURE S_MALFORMED S_CODE_MISMATCH S_NONCE_MISMATCH S_PACKAGE_MISMATCH S_VERSION_MISMATCH E_BAD_SIGNATURE E_MALFORMED E_CODE_MISMATCH E_NONCE_MISMATCH E_PACKAGE_MISMATCH E_VERSION_MISMATCH F_BAD_SIGNATURE F_MALFORMED F_CODE_MISMATCH F_NONCE_MISMATCH F_PACKAGE_MISMATCH F_VERSION_MISMATCH S_AE S_IN neK S_EM E_EM F_EM S_EI E_EI F_EI o3 o4 rr rr (1 : Int32) h10 n0 O F_o3_kind F_o3_signedData F_o3_invalidReason F_o3_applicationErrorCode E_o4 F_o4_kind F_o4_signedData F_o4_invalidReason F_o4_applicationErrorCode (if_pos rfl).symm) e16 (by rw [hml]; rfl) (lenOf pd__Ljava_lang_Object__Z_1715 rfl) rfl rfl (hb hby at_124) (by decide) (by decide) (by decide) (by decide) ?_
  intro v17 T17 h17 L17 X17 e17 q17
  obtain ⟨rfl, N17, rfl⟩ := q17
  replace N17 := Fr.app N16 N17
  show Go p e below _ T17 (mkF m 127 #[.val (.int p0), .val (.int p1), .val (.int ((p0 &&& (2147483647 : Int32)) % (6 : Int32))), .val (.int (((((p0 &&& (2147483647 : Int32)) % (6 : Int32)) + (1 : Int32)) + ((p1 &&& (2147483647 : Int32)) % (5 : Int32))) % (6 : Int32))), .val (.ref rr), .val (.ref rs), .val (.ref o3), .val (.ref o4), .val (.ref o5)] [(.int (1 : Int32))])
  refine Go.by (T' := T17) (g' := (mkF m 134 #[.val (.int p0), .val (.int p1), .val (.int ((p0 &&& (2147483647 : Int32)) % (6 : Int32))), .val (.int (((((p0 &&& (2147483647 : Int32)) % (6 : Int32)) + (1 : Int32)) + ((p1 &&& (2147483647 : Int32)) % (5 : Int32))) % (6 : Int32))), .val (.ref rr), .val (.ref rs), .val (.ref o3), .val (.ref o4), .val (.ref o5)] [(.ref o5), (.ref o3)])) (fun t k => ?_) ?_
  · show Steps p.tables e below (T17.setTop (mkF m 127 #[.val (.int p0), .val (.int p1), .val (.int ((p0 &&& (2147483647 : Int32)) % (6 : Int32))), .val (.int (((((p0 &&& (2147483647 : Int32)) % (6 : Int32)) + (1 : Int32)) + ((p1 &&& (2147483647 : Int32)) % (5 : Int32))) % (6 : Int32))), .val (.ref rr), .val (.ref rs), .val (.ref o3), .val (.ref o4), .val (.ref o5)] [(.int (1 : Int32))])) _
    refine XS.ifNo X17.here hx rfl (hb hby at_127) rfl ((if0 _ _).trans (feq (by decide : ¬ (1 : Int32) = (0 : Int32))).1) ?_
    show Steps p.tables e below (T17.setTop (mkF m 130 #[.val (.int p0), .val (.int p1), .val (.int ((p0 &&& (2147483647 : Int32)) % (6 : Int32))), .val (.int (((((p0 &&& (2147483647 : Int32)) % (6 : Int32)) + (1 : Int32)) + ((p1 &&& (2147483647 : Int32)) % (5 : Int32))) % (6 : Int32))), .val (.ref rr), .val (.ref rs), .val (.ref o3), .val (.ref o4), .val (.ref o5)] [])) _
    refine XS.aload X17.here hx rfl (hb hby at_130) rfl rfl ?_
    show Steps p.tables e below (T17.setTop (mkF m 132 #[.val (.int p0), .val (.int p1), .val (.int ((p0 &&& (2147483647 : Int32)) % (6 : Int32))), .val (.int (((((p0 &&& (2147483647 : Int32)) % (6 : Int32)) + (1 : Int32)) + ((p1 &&& (2147483647 : Int32)) % (5 : Int32))) % (6 : Int32))), .val (.ref rr), .val (.ref rs), .val (.ref o3), .val (.ref o4), .val (.ref o5)] [(.ref o3)])) _
    refine XS.aload X17.here hx rfl (hb hby at_132) rfl rfl ?_
    exact k
  refine Go.callV X17 hx hZ (W := 0) (argsL := [(.ref o5)]) (rest := []) hown (wd hw 111 rfl) (wd hw 112 rfl) (notFace_of_selects (args := #[]) (mvT hZ (wd hw 114 rfl))) (wd hw 114 rfl) (wd hw 113 rfl) (wd hw 12 rfl) (wd hw 115 rfl) (by decide) E_o3 (ct_veq l Z a0 hw w_BAD_SIGNATURE w_MALFORMED w_CODE_MISMATCH w_NONCE_MISMATCH w_PACKAGE_MISMATCH w_VERSION_MISMATCH w_AE w_IN w_EM w_EI S_BAD_SIGNATURE S_MALFORMED S_CODE_MISMATCH S_NONCE_MISMATCH S_PACKAGE_MISMATCH S_VERSION_MISMATCH E_BAD_SIGNATURE E_MALFORMED E_CODE_MISMATCH E_NONCE_MISMATCH E_PACKAGE_MISMATCH E_VERSION_MISMATCH F_BAD_SIGNATURE F_MALFORMED F_CODE_MISMATCH F_NONCE_MISMATCH F_PACKAGE_MISMATCH F_VERSION_MISMATCH S_AE S_IN neK S_EM E_EM F_EM S_EI E_EI F_EI o3 o5 rr rs (0 : Int32) h10 n0 O F_o3_kind F_o3_signedData F_o3_invalidReason F_o3_applicationErrorCode E_o5 F_o5_kind F_o5_signedData F_o5_invalidReason F_o5_applicationErrorCode (if_neg neR).symm) e17 (by rw [hml]; rfl) (lenOf pd__Ljava_lang_Object__Z_1715 rfl) rfl rfl (hb hby at_134) (by decide) (by decide) (by decide) (by decide) ?_
  intro v18 T18 h18 L18 X18 e18 q18
  obtain ⟨rfl, N18, rfl⟩ := q18
  replace N18 := Fr.app N17 N18
  show Go p e below _ T18 (mkF m 137 #[.val (.int p0), .val (.int p1), .val (.int ((p0 &&& (2147483647 : Int32)) % (6 : Int32))), .val (.int (((((p0 &&& (2147483647 : Int32)) % (6 : Int32)) + (1 : Int32)) + ((p1 &&& (2147483647 : Int32)) % (5 : Int32))) % (6 : Int32))), .val (.ref rr), .val (.ref rs), .val (.ref o3), .val (.ref o4), .val (.ref o5)] [(.int (0 : Int32))])
  refine Go.by (T' := T18) (g' := (mkF m 145 #[.val (.int p0), .val (.int p1), .val (.int ((p0 &&& (2147483647 : Int32)) % (6 : Int32))), .val (.int (((((p0 &&& (2147483647 : Int32)) % (6 : Int32)) + (1 : Int32)) + ((p1 &&& (2147483647 : Int32)) % (5 : Int32))) % (6 : Int32))), .val (.ref rr), .val (.ref rs), .val (.ref o3), .val (.ref o4), .val (.ref o5)] [(.int (1 : Int32))])) (fun t k => ?_) ?_
  · show Steps p.tables e below (T18.setTop (mkF m 137 #[.val (.int p0), .val (.int p1), .val (.int ((p0 &&& (2147483647 : Int32)) % (6 : Int32))), .val (.int (((((p0 &&& (2147483647 : Int32)) % (6 : Int32)) + (1 : Int32)) + ((p1 &&& (2147483647 : Int32)) % (5 : Int32))) % (6 : Int32))), .val (.ref rr), .val (.ref rs), .val (.ref o3), .val (.ref o4), .val (.ref o5)] [(.int (0 : Int32))])) _
    refine XS.ifNo X18.here hx rfl (hb hby at_137) rfl ((if0 _ _).trans (teq (by decide : (0 : Int32) = (0 : Int32))).2) ?_
    show Steps p.tables e below (T18.setTop (mkF m 140 #[.val (.int p0), .val (.int p1), .val (.int ((p0 &&& (2147483647 : Int32)) % (6 : Int32))), .val (.int (((((p0 &&& (2147483647 : Int32)) % (6 : Int32)) + (1 : Int32)) + ((p1 &&& (2147483647 : Int32)) % (5 : Int32))) % (6 : Int32))), .val (.ref rr), .val (.ref rs), .val (.ref o3), .val (.ref o4), .val (.ref o5)] [])) _
    refine XS.iconst X18.here hx rfl (hb hby at_140) ?_
    show Steps p.tables e below (T18.setTop (mkF m 141 #[.val (.int p0), .val (.int p1), .val (.int ((p0 &&& (2147483647 : Int32)) % (6 : Int32))), .val (.int (((((p0 &&& (2147483647 : Int32)) % (6 : Int32)) + (1 : Int32)) + ((p1 &&& (2147483647 : Int32)) % (5 : Int32))) % (6 : Int32))), .val (.ref rr), .val (.ref rs), .val (.ref o3), .val (.ref o4), .val (.ref o5)] [(.int (1 : Int32))])) _
    refine XS.goto X18.here hx rfl (pc0 := 141) (pc' := 145) rfl (hb hby at_141) (by decide) (by decide) ?_
    exact k
  refine Go.retZW X18 hx hlk hret (Or.inr rfl) (hb hby at_145) (by decide) (by decide) e18 hS hk ?_
  exact ⟨rfl, N18⟩
set_option maxRecDepth 65536 in
set_option maxHeartbeats 40000000 in
theorem comes_1 {Post : Tables → Env → Array Value → State → Outcome → State → Prop} (hpost : ∀ tb e args s v u, (limb_1_1.after args s (.returned v) u = true ∧ limb_1_2.after args s (.returned v) u = true ∧ True) → ReturnedEndW s (.returned v) u (Jvm.fieldLocs frame_1_writes args s ++ Jvm.arrayLocs frame_1_arrays args s ++ Jvm.staticLocs frame_1_statics s) 24 1152 → Post tb e args s (.returned v) u) :
    ArmFor flags0 classFile x code maxLocals ret World_1 tables_1 room_1 Calls_1 rest_1 Pre_1 Post := by
  intro l hfl _ _ p e ha hc hk s m args below hf hA hF happ hP
  obtain ⟨hcalls, hrest, hpre⟩ := hP
  obtain ⟨-, -, -, hnamed, -, -, -, hat⟩ := (Spec.applies_iff hf).mp happ
  obtain ⟨hg, hn⟩ := and_e (Cond.before_iff.mp (show (Jvm.Cond.and given_1 narrow_1).before args s = true from hpre))
  obtain ⟨hcnt, hg⟩ := and_e hg
  obtain ⟨ha0, hg⟩ := and_e hg
  have ha1 := hg
  obtain ⟨u0, u1, rfl⟩ : ∃ u0 u1 : Value, args = #[u0, u1] := by
    have hs : args.size = 2 := by simpa [Cond.value] using hcnt
    obtain ⟨L⟩ := args
    match L, hs with
    | [u0, u1], _ => exact ⟨u0, u1, rfl⟩
  have hw := fun d (hd : d ∈ tables_1) => atoms_spec (ws := Jvm.Cond.code x code maxLocals ret :: tables_1) hat d (List.mem_cons_of_mem _ hd)
  have hfit : Fit s := fun {y c} hc i hi => by
    obtain ⟨ha, rfl⟩ := Array.getElem?_eq_some_iff.mp hc
    have q := List.all_eq_true.mp ((Array.all_eq_true_iff_forall_mem.mp hF) _ (Array.getElem_mem ha)) i (List.mem_range.mpr hi)
    simpa [Array.getElem?_eq_getElem hi] using q
  obtain ⟨hsets, hown0⟩ := atoms_of _ (rest_1_c_eq ▸ (show rest_1_c.before _ s = true from hrest))
  obtain ⟨i0, ei0⟩ := is_v ha0
  obtain rfl : u0 = (.int i0) := Option.some.inj ei0
  obtain ⟨i1, ei1⟩ := is_v ha1
  obtain rfl : u1 = (.int i1) := Option.some.inj ei1
  obtain ⟨n1, hn⟩ := and_e hn
  obtain ⟨n2, hn⟩ := and_e hn
  obtain ⟨n3, hn⟩ := and_e hn
  obtain ⟨n4, hn⟩ := and_e hn
  obtain ⟨n5, hn⟩ := and_e hn
  obtain ⟨n6, hn⟩ := and_e hn
  obtain ⟨n7, hn⟩ := and_e hn
  obtain ⟨n8, hn⟩ := and_e hn
  obtain ⟨n9, hn⟩ := and_e hn
  obtain ⟨n10, hn⟩ := and_e hn
  obtain ⟨n11, hn⟩ := and_e hn
  obtain ⟨n12, hn⟩ := and_e hn
  obtain ⟨n13, hn⟩ := and_e hn
  obtain ⟨n14, hn⟩ := and_e hn
  obtain ⟨n15, hn⟩ := and_e hn
  obtain ⟨w_BAD_SIGNATURE, ev_BAD_SIGNATURE⟩ := exa_v n1
  have S_BAD_SIGNATURE := Sta.start ev_BAD_SIGNATURE (Or.inr ⟨(wd hw 6 rfl), (wd hw 7 rfl)⟩)
  have E_BAD_SIGNATURE := Exa.start ev_BAD_SIGNATURE n1
  obtain ⟨w_PACKAGE_MISMATCH, ev_PACKAGE_MISMATCH⟩ := exa_v n2
  have S_PACKAGE_MISMATCH := Sta.start ev_PACKAGE_MISMATCH (Or.inr ⟨(wd hw 6 rfl), (wd hw 9 rfl)⟩)
  have E_PACKAGE_MISMATCH := Exa.start ev_PACKAGE_MISMATCH n2
  obtain ⟨w_INVALID, ev_INVALID⟩ := exa_v n3
  have S_INVALID := Sta.start ev_INVALID (Or.inr ⟨(wd hw 17 rfl), (wd hw 18 rfl)⟩)
  have E_INVALID := Exa.start ev_INVALID n3
  obtain ⟨w_APPLICATION_ERROR, ev_APPLICATION_ERROR⟩ := exa_v n4
  have S_APPLICATION_ERROR := Sta.start ev_APPLICATION_ERROR (Or.inr ⟨(wd hw 17 rfl), (wd hw 93 rfl)⟩)
  have E_APPLICATION_ERROR := Exa.start ev_APPLICATION_ERROR n4
  obtain ⟨w_CODE_MISMATCH, ev_CODE_MISMATCH⟩ := exa_v n9
  have S_CODE_MISMATCH := Sta.start ev_CODE_MISMATCH (Or.inr ⟨(wd hw 6 rfl), (wd hw 121 rfl)⟩)
  have E_CODE_MISMATCH := Exa.start ev_CODE_MISMATCH n9
  obtain ⟨w_VERSION_MISMATCH, ev_VERSION_MISMATCH⟩ := exa_v n11
  have S_VERSION_MISMATCH := Sta.start ev_VERSION_MISMATCH (Or.inr ⟨(wd hw 6 rfl), (wd hw 123 rfl)⟩)
  have E_VERSION_MISMATCH := Exa.start ev_VERSION_MISMATCH n11
  obtain ⟨w_MALFORMED, ev_MALFORMED⟩ := exa_v n13
  have S_MALFORMED := Sta.start ev_MALFORMED (Or.inr ⟨(wd hw 6 rfl), (wd hw 125 rfl)⟩)
  have E_MALFORMED := Exa.start ev_MALFORMED n13
  obtain ⟨w_NONCE_MISMATCH, ev_NONCE_MISMATCH⟩ := exa_v n15
  have S_NONCE_MISMATCH := Sta.start ev_NONCE_MISMATCH (Or.inr ⟨(wd hw 6 rfl), (wd hw 127 rfl)⟩)
  have E_NONCE_MISMATCH := Exa.start ev_NONCE_MISMATCH n15
  have F_INVALID := Fld.start ((fld_at ev_INVALID).symm.trans (eqI_v n5))
  have F_APPLICATION_ERROR := Fld.start ((fld_at ev_APPLICATION_ERROR).symm.trans (eqI_v n6))
  have F_BAD_SIGNATURE := Fld.start ((fld_at ev_BAD_SIGNATURE).symm.trans (eqI_v n7))
  have F_PACKAGE_MISMATCH := Fld.start ((fld_at ev_PACKAGE_MISMATCH).symm.trans (eqI_v n8))
  have F_CODE_MISMATCH := Fld.start ((fld_at ev_CODE_MISMATCH).symm.trans (eqI_v n10))
  have F_VERSION_MISMATCH := Fld.start ((fld_at ev_VERSION_MISMATCH).symm.trans (eqI_v n12))
  have F_MALFORMED := Fld.start ((fld_at ev_MALFORMED).symm.trans (eqI_v n14))
  have F_NONCE_MISMATCH := Fld.start ((fld_at ev_NONCE_MISMATCH).symm.trans (eqI_v hn))
  have neK := Fld.ne F_INVALID F_APPLICATION_ERROR (by simp)
  have k_e := Cond.before_iff.mp (hsets _ (List.mem_of_getElem? (i := 2) rfl))
  obtain ⟨w_EM, ev_EM⟩ := exa_v k_e
  have S_EM := Sta.start ev_EM (Or.inl (hsets _ (List.mem_of_getElem? (i := 1) rfl)))
  have E_EM := Exa.start ev_EM k_e
  have F_EM := Fld.start ((fld_at ev_EM).symm.trans (null_v (Cond.before_iff.mp (hsets _ (List.mem_of_getElem? (i := 3) rfl)))))
  have k_i := Cond.before_iff.mp (hsets _ (List.mem_of_getElem? (i := 6) rfl))
  obtain ⟨w_EI, ev_EI⟩ := exa_v k_i
  have S_EI := Sta.start ev_EI (Or.inl (hsets _ (List.mem_of_getElem? (i := 5) rfl)))
  have E_EI := Exa.start ev_EI k_i
  have F_EI := Fld.start ((fld_at ev_EI).symm.trans (eqI_v (Cond.before_iff.mp (hsets _ (List.mem_of_getElem? (i := 7) rfl)))))
  obtain ⟨n, o, h1, h2, h3, _, L, rfl, ⟨rfl, N⟩, hq⟩ := ct_law l s _ hw w_BAD_SIGNATURE w_MALFORMED w_CODE_MISMATCH w_NONCE_MISMATCH w_PACKAGE_MISMATCH w_VERSION_MISMATCH w_APPLICATION_ERROR w_INVALID w_EM w_EI S_BAD_SIGNATURE S_MALFORMED S_CODE_MISMATCH S_NONCE_MISMATCH S_PACKAGE_MISMATCH S_VERSION_MISMATCH E_BAD_SIGNATURE E_MALFORMED E_CODE_MISMATCH E_NONCE_MISMATCH E_PACKAGE_MISMATCH E_VERSION_MISMATCH F_BAD_SIGNATURE F_MALFORMED F_CODE_MISMATCH F_NONCE_MISMATCH F_PACKAGE_MISMATCH F_VERSION_MISMATCH S_APPLICATION_ERROR S_INVALID neK S_EM E_EM F_EM S_EI E_EI F_EI i0 i1 s.heap s.heap.size (Old.start s)  tables_1 p e ha hc hk s m _ below hf ((Spec.applies_iff_loose hf).mp happ).1 ⟨rfl, State.Warmed39.refl s, rfl⟩ trivial
  refine ⟨n, _, h1, h2, h3, hpost _ _ _ _ _ _ ⟨Cond.after_iff.mpr rfl, Cond.after_iff.mpr (eq_i res_at (Term.int_eval (1)) rfl), trivial⟩ ⟨hq.1, hq.2.1, hq.2.2.1, (hq.2.2.2.sift fun y hy => Or.inr (N y hy)).mono (by decide) (by decide)⟩⟩
theorem main_1_1 : Claimed_1_1 := comes_1 fun _ _ _ _ _ _ h hF => ⟨h.1, hF⟩
theorem main_1_2 : Claimed_1_2 := comes_1 fun _ _ _ _ _ _ h hF => ⟨h.2.1, hF⟩
end Jvm.Pilot.@@N@@
namespace Jvm.Pilot.@@N@@
open Jvm Jvm.ClassFile Sem Op Lib Jvm.Free Jvm.Stand Jvm.Pilot.@@N@@.Jvm.D
/-! MADE BY PROGRAM (witnessworld.py) out of the Statement's table words and the real class files: 20 classes; the members and pool entries that the words name. The judged class is class 1, her method 2. -/
namespace start1
open Jvm.ClassFile
def u (s : String) : CpInfo := .utf8 (stringToUtf16 s)
/-- a pool by its gaps: so many unusable entries, then the entry; so many at the end -/
def gap : Nat → List CpInfo → List CpInfo
  | 0, r => r
  | n + 1, r => .unusable :: gap n r
def poolList (es : List (Nat × CpInfo)) (last : Nat) : List CpInfo := es.foldr (fun e r => gap e.1 (e.2 :: r)) (gap last [])
def pool (es : List (Nat × CpInfo)) (last : Nat) : Array CpInfo := ⟨poolList es last⟩
def fileOf (pool : Array CpInfo) (this : Nat) (attrs : Array Attribute := #[]) (ms : Array MethodInfo := #[]) (fl : Nat := 33) (sup : Nat := 0) (ifs : Array Nat := #[]) (fds : Array FieldInfo := #[]) : ClassFile where
  minorVersion := 0
  majorVersion := 65
  constantPool := pool
  accessFlags := fl
  thisClass := this
  superClass := sup
  interfaces := ifs
  fields := fds
  methods := ms
  attributes := attrs
def plain (name : String) (sup : Option ClassId) : Class where
  name := name
  kind := .ordinary
  loader := none
  accessFlags := 33
  super := sup
  interfaces := #[]
  cf := none
  fields := #[]
  methods := #[]
  instanceTypes := #[]
  staticTypes := #[]
  resolved := #[]
  callSites := []
  init := .initialized
  statics := none
  mirror := none

def pool0 : Array CpInfo := pool [(5, u "<init>"), (0, u "()V"), (1, .class_ 10), (1, u "java/lang/Object")] 113

def k0c0 : Code := { maxStack := 0, maxLocals := 1, code := object_method_1_code, exceptionTable := #[], attributes := #[] }
def k0m0 : Method := { name := "<init>", desc := "()V", sig := { parameters := [], returnType := none }, accessFlags := 1, code := some k0c0 }
/-- java/lang/Object -/
def k0 : Class := { plain "java/lang/Object" none with
  accessFlags := 33
  interfaces := #[]
  cf := some (fileOf pool0 8 #[] #[{ accessFlags := 1, nameIndex := 5, descriptorIndex := 6, attributes := #[] }] 33 0 #[] #[])
  fields := #[]
  methods := #[k0m0]
  instanceTypes := #[]
  staticTypes := #[]
  resolved := Array.replicate 124 none
  statics := none }

def pool1 : Array CpInfo := pool [(2, .class_ 4), (1, u "java/lang/Object"), (0, u "<init>"), (0, u "()V"), (0, .fieldref 8 9), (0, .class_ 10), (0, .nameAndType 11 12), (0, u "com/example/warrant/warrant/InvalidReason"), (0, u "BAD_SIGNATURE"), (0, u "Lcom/example/warrant/warrant/InvalidReason;"), (0, .fieldref 8 14), (0, .nameAndType 15 12), (0, u "MALFORMED"), (0, .fieldref 8 17), (0, .nameAndType 18 12), (0, u "CODE_MISMATCH"), (0, .fieldref 8 20), (0, .nameAndType 21 12), (0, u "NONCE_MISMATCH"), (0, .fieldref 8 23), (0, .nameAndType 24 12), (0, u "PACKAGE_MISMATCH"), (0, .fieldref 8 26), (0, .nameAndType 27 12), (0, u "VERSION_MISMATCH"), (0, .integer 2147483647), (0, .methodref 30 31), (0, .class_ 32), (0, .nameAndType 33 34), (0, u "com/example/warrant/warrant/VerdictInvalidPinLaw"), (0, u "pick"), (0, u "(I)Lcom/example/warrant/warrant/InvalidReason;"), (0, .methodref 36 37), (0, .class_ 38), (0, .nameAndType 39 40), (0, u "com/example/warrant/warrant/Verdict"), (0, u "invalid"), (0, u "(Lcom/example/warrant/warrant/InvalidReason;)Lcom/example/warrant/warrant/Verdict;"), (0, .methodref 36 42), (0, .nameAndType 43 44), (0, u "kind"), (0, u "()Lcom/example/warrant/warrant/Verdict$Kind;"), (0, .fieldref 46 47), (0, .class_ 48), (0, .nameAndType 49 50), (0, u "com/example/warrant/warrant/Verdict$Kind"), (0, u "INVALID"), (0, u "Lcom/example/warrant/warrant/Verdict$Kind;"), (0, .methodref 36 52), (0, .nameAndType 53 54), (0, u "invalidReason"), (0, u "()Ljava/util/Optional;"), (0, .methodref 56 57), (0, .class_ 58), (0, .nameAndType 59 60), (0, u "java/util/Optional"), (0, u "isPresent"), (0, u "()Z"), (0, .methodref 56 62), (0, .nameAndType 63 64), (0, u "get"), (0, u "()Ljava/lang/Object;"), (0, .methodref 36 66), (0, .nameAndType 67 54), (0, u "signedData"), (0, .methodref 36 69), (0, .nameAndType 70 71), (0, u "applicationErrorCode"), (0, u "()Ljava/util/OptionalInt;"), (0, .methodref 73 57), (0, .class_ 74), (0, u "java/util/OptionalInt"), (0, .methodref 36 76), (0, .nameAndType 77 60), (0, u "oldKey"), (0, .methodref 36 79), (0, .nameAndType 80 81), (0, u "equals"), (0, u "(Ljava/lang/Object;)Z"), (3, u "law"), (0, u "(II)Z")] 4

def k1m0 : Method := { name := "<init>", desc := "()V", sig := { parameters := [], returnType := none }, accessFlags := 1, code := none }
def k1c1 : Code := { maxStack := 2, maxLocals := 1, code := method_2_code, exceptionTable := #[], attributes := #[] }
def k1m1 : Method := { name := "pick", desc := "(I)Lcom/example/warrant/warrant/InvalidReason;", sig := { parameters := [.int], returnType := some (.object "com/example/warrant/warrant/InvalidReason") }, accessFlags := 10, code := some k1c1 }
def k1c2 : Code := { maxStack := 3, maxLocals := 9, code := code, exceptionTable := #[], attributes := #[] }
def k1m2 : Method := { name := "law", desc := "(II)Z", sig := { parameters := [.int, .int], returnType := some .boolean }, accessFlags := 9, code := some k1c2 }
/-- com/example/warrant/warrant/VerdictInvalidPinLaw -/
def k1 : Class := { plain "com/example/warrant/warrant/VerdictInvalidPinLaw" (some 0) with
  accessFlags := 49
  interfaces := #[]
  cf := some (fileOf pool1 30 #[] #[{ accessFlags := 1, nameIndex := 5, descriptorIndex := 6, attributes := #[] }, { accessFlags := 10, nameIndex := 33, descriptorIndex := 34, attributes := #[] }, { accessFlags := 9, nameIndex := 85, descriptorIndex := 86, attributes := #[] }] 49 2 #[] #[])
  fields := #[]
  methods := #[k1m0, k1m1, k1m2]
  instanceTypes := #[]
  staticTypes := #[]
  resolved := Array.replicate 91 none
  statics := none }

def pool2 : Array CpInfo := pool [(1, .class_ 2), (0, u "java/lang/constant/Constable"), (0, .class_ 4), (0, u "java/lang/Object")] 6

/-- java/lang/constant/Constable -/
def k2 : Class := { plain "java/lang/constant/Constable" (some 0) with
  accessFlags := 1537
  interfaces := #[]
  cf := some (fileOf pool2 1 #[] #[] 1537 3 #[] #[])
  fields := #[]
  methods := #[]
  instanceTypes := #[]
  staticTypes := #[]
  resolved := Array.replicate 11 none
  statics := none }

def pool3 : Array CpInfo := pool [(1, .class_ 2), (0, u "java/lang/Comparable"), (0, .class_ 4), (0, u "java/lang/Object")] 7

/-- java/lang/Comparable -/
def k3 : Class := { plain "java/lang/Comparable" (some 0) with
  accessFlags := 1537
  interfaces := #[]
  cf := some (fileOf pool3 1 #[] #[] 1537 3 #[] #[])
  fields := #[]
  methods := #[]
  instanceTypes := #[]
  staticTypes := #[]
  resolved := Array.replicate 12 none
  statics := none }

def pool4 : Array CpInfo := pool [(1, .class_ 2), (0, u "java/io/Serializable"), (0, .class_ 4), (0, u "java/lang/Object")] 2

/-- java/io/Serializable -/
def k4 : Class := { plain "java/io/Serializable" (some 0) with
  accessFlags := 1537
  interfaces := #[]
  cf := some (fileOf pool4 1 #[] #[] 1537 3 #[] #[])
  fields := #[]
  methods := #[]
  instanceTypes := #[]
  staticTypes := #[]
  resolved := Array.replicate 7 none
  statics := none }

def pool5 : Array CpInfo := pool [(2, .class_ 4), (1, u "java/lang/Enum"), (0, u "name"), (0, u "Ljava/lang/String;"), (2, u "ordinal"), (0, u "I"), (1, .class_ 14), (1, u "java/lang/Object"), (4, u "hash"), (86, .class_ 108), (1, u "java/lang/Enum$EnumDesc"), (2, .class_ 112), (0, u "java/lang/constant/Constable"), (0, .class_ 114), (0, u "java/lang/Comparable"), (0, .class_ 116), (0, u "java/io/Serializable")] 87

/-- java/lang/Enum -/
def k5 : Class := { plain "java/lang/Enum" (some 0) with
  accessFlags := 1057
  interfaces := #[2, 3, 4]
  cf := some (fileOf pool5 2 #[.nestMembers #[106]] #[] 1057 12 #[111, 113, 115] #[{ accessFlags := 18, nameIndex := 5, descriptorIndex := 6, attributes := #[] }, { accessFlags := 18, nameIndex := 9, descriptorIndex := 10, attributes := #[] }, { accessFlags := 2, nameIndex := 19, descriptorIndex := 10, attributes := #[] }])
  fields := #[{ name := "name", type := (.object "java/lang/String"), accessFlags := 18, slot := 0, constantValue := 0 }, { name := "ordinal", type := .int, accessFlags := 18, slot := 1, constantValue := 0 }, { name := "hash", type := .int, accessFlags := 2, slot := 2, constantValue := 0 }]
  methods := #[]
  instanceTypes := #[(.object "java/lang/String"), .int, .int]
  staticTypes := #[]
  resolved := Array.replicate 204 none
  statics := none }

def pool6 : Array CpInfo := pool [(1, .class_ 2), (0, u "com/example/warrant/warrant/InvalidReason"), (2, u "BAD_SIGNATURE"), (0, u "Lcom/example/warrant/warrant/InvalidReason;"), (2, u "MALFORMED"), (2, u "CODE_MISMATCH"), (2, u "NONCE_MISMATCH"), (2, u "PACKAGE_MISMATCH"), (2, u "VERSION_MISMATCH"), (2, u "$VALUES"), (0, u "[Lcom/example/warrant/warrant/InvalidReason;"), (6, .class_ 34), (1, u "java/lang/Enum")] 28

/-- com/example/warrant/warrant/InvalidReason -/
def k6 : Class := { plain "com/example/warrant/warrant/InvalidReason" (some 5) with
  accessFlags := 16433
  interfaces := #[]
  cf := some (fileOf pool6 1 #[] #[] 16433 32 #[] #[{ accessFlags := 16409, nameIndex := 5, descriptorIndex := 6, attributes := #[] }, { accessFlags := 16409, nameIndex := 9, descriptorIndex := 6, attributes := #[] }, { accessFlags := 16409, nameIndex := 12, descriptorIndex := 6, attributes := #[] }, { accessFlags := 16409, nameIndex := 15, descriptorIndex := 6, attributes := #[] }, { accessFlags := 16409, nameIndex := 18, descriptorIndex := 6, attributes := #[] }, { accessFlags := 16409, nameIndex := 21, descriptorIndex := 6, attributes := #[] }, { accessFlags := 4122, nameIndex := 24, descriptorIndex := 25, attributes := #[] }])
  fields := #[{ name := "BAD_SIGNATURE", type := (.object "com/example/warrant/warrant/InvalidReason"), accessFlags := 16409, slot := 0, constantValue := 0 }, { name := "MALFORMED", type := (.object "com/example/warrant/warrant/InvalidReason"), accessFlags := 16409, slot := 1, constantValue := 0 }, { name := "CODE_MISMATCH", type := (.object "com/example/warrant/warrant/InvalidReason"), accessFlags := 16409, slot := 2, constantValue := 0 }, { name := "NONCE_MISMATCH", type := (.object "com/example/warrant/warrant/InvalidReason"), accessFlags := 16409, slot := 3, constantValue := 0 }, { name := "PACKAGE_MISMATCH", type := (.object "com/example/warrant/warrant/InvalidReason"), accessFlags := 16409, slot := 4, constantValue := 0 }, { name := "VERSION_MISMATCH", type := (.object "com/example/warrant/warrant/InvalidReason"), accessFlags := 16409, slot := 5, constantValue := 0 }, { name := "$VALUES", type := (.array (.object "com/example/warrant/warrant/InvalidReason")), accessFlags := 4122, slot := 6, constantValue := 0 }]
  methods := #[]
  instanceTypes := #[(.object "java/lang/String"), .int, .int]
  staticTypes := #[(.object "com/example/warrant/warrant/InvalidReason"), (.object "com/example/warrant/warrant/InvalidReason"), (.object "com/example/warrant/warrant/InvalidReason"), (.object "com/example/warrant/warrant/InvalidReason"), (.object "com/example/warrant/warrant/InvalidReason"), (.object "com/example/warrant/warrant/InvalidReason"), (.array (.object "com/example/warrant/warrant/InvalidReason"))]
  resolved := Array.replicate 63 none
  statics := some 0 }

def pool7 : Array CpInfo := pool [(1, .methodref 2 3), (0, .class_ 4), (0, .nameAndType 5 6), (0, u "java/lang/Object"), (0, u "<init>"), (0, u "()V"), (0, .fieldref 8 9), (0, .class_ 10), (0, .nameAndType 11 12), (0, u "com/example/warrant/warrant/Verdict"), (0, u "kind"), (0, u "Lcom/example/warrant/warrant/Verdict$Kind;"), (0, .fieldref 8 14), (0, .nameAndType 15 16), (0, u "signedData"), (0, u "Lcom/example/warrant/warrant/SignedData;"), (0, .fieldref 8 18), (0, .nameAndType 19 20), (0, u "invalidReason"), (0, u "Lcom/example/warrant/warrant/InvalidReason;"), (0, .fieldref 8 22), (0, .nameAndType 23 24), (0, u "applicationErrorCode"), (0, u "I"), (2, .methodref 28 29), (0, .class_ 30), (0, .nameAndType 31 32), (0, u "java/util/Objects"), (0, u "requireNonNull"), (0, u "(Ljava/lang/Object;Ljava/lang/String;)Ljava/lang/Object;"), (28, .class_ 63), (1, u "com/example/warrant/warrant/Verdict$Kind"), (0, .methodref 8 65), (0, .nameAndType 5 66), (0, u "(Lcom/example/warrant/warrant/Verdict$Kind;Lcom/example/warrant/warrant/SignedData;Lcom/example/warrant/warrant/InvalidReason;I)V"), (2, u "NOT_LICENSED"), (0, u "Lcom/example/warrant/warrant/Verdict;"), (2, u "RETRY"), (0, .fieldref 61 75), (0, .nameAndType 76 12), (0, u "APPLICATION_ERROR"), (0, .fieldref 61 78), (0, .nameAndType 79 12), (0, u "INVALID"), (0, .string 81), (0, u "reason"), (0, .class_ 83), (0, u "com/example/warrant/warrant/InvalidReason"), (0, .methodref 85 86), (0, .class_ 87), (0, .nameAndType 88 89), (0, u "java/util/Optional"), (0, u "ofNullable"), (0, u "(Ljava/lang/Object;)Ljava/util/Optional;"), (1, .class_ 93), (1, u "java/util/OptionalInt"), (2, .methodref 91 97), (0, .nameAndType 98 99), (0, u "empty"), (0, u "()Ljava/util/OptionalInt;"), (0, .methodref 28 101), (0, .nameAndType 102 103), (0, u "equals"), (0, u "(Ljava/lang/Object;Ljava/lang/Object;)Z"), (15, u "oldKey"), (0, u "()Z"), (30, u "invalid"), (0, u "(Lcom/example/warrant/warrant/InvalidReason;)Lcom/example/warrant/warrant/Verdict;"), (0, u "()Lcom/example/warrant/warrant/Verdict$Kind;"), (0, u "()Ljava/util/Optional;"), (3, u "(Ljava/lang/Object;)Z")] 26

def k7c0 : Code := { maxStack := 2, maxLocals := 5, code := prog_47_method_1_code, exceptionTable := #[], attributes := #[] }
def k7m0 : Method := { name := "<init>", desc := "(Lcom/example/warrant/warrant/Verdict$Kind;Lcom/example/warrant/warrant/SignedData;Lcom/example/warrant/warrant/InvalidReason;I)V", sig := { parameters := [(.object "com/example/warrant/warrant/Verdict$Kind"), (.object "com/example/warrant/warrant/SignedData"), (.object "com/example/warrant/warrant/InvalidReason"), .int], returnType := none }, accessFlags := 2, code := some k7c0 }
def k7c1 : Code := { maxStack := 6, maxLocals := 1, code := prog_47_method_6_code, exceptionTable := #[], attributes := #[] }
def k7m1 : Method := { name := "invalid", desc := "(Lcom/example/warrant/warrant/InvalidReason;)Lcom/example/warrant/warrant/Verdict;", sig := { parameters := [(.object "com/example/warrant/warrant/InvalidReason")], returnType := some (.object "com/example/warrant/warrant/Verdict") }, accessFlags := 9, code := some k7c1 }
def k7c2 : Code := { maxStack := 1, maxLocals := 1, code := prog_47_method_7_code, exceptionTable := #[], attributes := #[] }
def k7m2 : Method := { name := "kind", desc := "()Lcom/example/warrant/warrant/Verdict$Kind;", sig := { parameters := [], returnType := some (.object "com/example/warrant/warrant/Verdict$Kind") }, accessFlags := 1, code := some k7c2 }
def k7c3 : Code := { maxStack := 2, maxLocals := 1, code := prog_47_method_8_code, exceptionTable := #[], attributes := #[] }
def k7m3 : Method := { name := "oldKey", desc := "()Z", sig := { parameters := [], returnType := some .boolean }, accessFlags := 1, code := some k7c3 }
def k7c4 : Code := { maxStack := 1, maxLocals := 1, code := prog_47_method_9_code, exceptionTable := #[], attributes := #[] }
def k7m4 : Method := { name := "signedData", desc := "()Ljava/util/Optional;", sig := { parameters := [], returnType := some (.object "java/util/Optional") }, accessFlags := 1, code := some k7c4 }
def k7c5 : Code := { maxStack := 1, maxLocals := 1, code := prog_47_method_10_code, exceptionTable := #[], attributes := #[] }
def k7m5 : Method := { name := "invalidReason", desc := "()Ljava/util/Optional;", sig := { parameters := [], returnType := some (.object "java/util/Optional") }, accessFlags := 1, code := some k7c5 }
def k7c6 : Code := { maxStack := 2, maxLocals := 1, code := prog_47_method_11_code, exceptionTable := #[], attributes := #[] }
def k7m6 : Method := { name := "applicationErrorCode", desc := "()Ljava/util/OptionalInt;", sig := { parameters := [], returnType := some (.object "java/util/OptionalInt") }, accessFlags := 1, code := some k7c6 }
def k7c7 : Code := { maxStack := 2, maxLocals := 3, code := prog_47_method_12_code, exceptionTable := #[], attributes := #[] }
def k7m7 : Method := { name := "equals", desc := "(Ljava/lang/Object;)Z", sig := { parameters := [(.object "java/lang/Object")], returnType := some .boolean }, accessFlags := 1, code := some k7c7 }
/-- com/example/warrant/warrant/Verdict -/
def k7 : Class := { plain "com/example/warrant/warrant/Verdict" (some 0) with
  accessFlags := 49
  interfaces := #[]
  cf := some (fileOf pool7 8 #[.nestMembers #[61]] #[{ accessFlags := 2, nameIndex := 5, descriptorIndex := 66, attributes := #[] }, { accessFlags := 9, nameIndex := 151, descriptorIndex := 152, attributes := #[] }, { accessFlags := 1, nameIndex := 11, descriptorIndex := 153, attributes := #[] }, { accessFlags := 1, nameIndex := 119, descriptorIndex := 120, attributes := #[] }, { accessFlags := 1, nameIndex := 15, descriptorIndex := 154, attributes := #[] }, { accessFlags := 1, nameIndex := 19, descriptorIndex := 154, attributes := #[] }, { accessFlags := 1, nameIndex := 23, descriptorIndex := 99, attributes := #[] }, { accessFlags := 1, nameIndex := 102, descriptorIndex := 158, attributes := #[] }] 49 2 #[] #[{ accessFlags := 26, nameIndex := 69, descriptorIndex := 70, attributes := #[] }, { accessFlags := 26, nameIndex := 73, descriptorIndex := 70, attributes := #[] }, { accessFlags := 18, nameIndex := 11, descriptorIndex := 12, attributes := #[] }, { accessFlags := 18, nameIndex := 15, descriptorIndex := 16, attributes := #[] }, { accessFlags := 18, nameIndex := 19, descriptorIndex := 20, attributes := #[] }, { accessFlags := 18, nameIndex := 23, descriptorIndex := 24, attributes := #[] }])
  fields := #[{ name := "NOT_LICENSED", type := (.object "com/example/warrant/warrant/Verdict"), accessFlags := 26, slot := 0, constantValue := 0 }, { name := "RETRY", type := (.object "com/example/warrant/warrant/Verdict"), accessFlags := 26, slot := 1, constantValue := 0 }, { name := "kind", type := (.object "com/example/warrant/warrant/Verdict$Kind"), accessFlags := 18, slot := 0, constantValue := 0 }, { name := "signedData", type := (.object "com/example/warrant/warrant/SignedData"), accessFlags := 18, slot := 1, constantValue := 0 }, { name := "invalidReason", type := (.object "com/example/warrant/warrant/InvalidReason"), accessFlags := 18, slot := 2, constantValue := 0 }, { name := "applicationErrorCode", type := .int, accessFlags := 18, slot := 3, constantValue := 0 }]
  methods := #[k7m0, k7m1, k7m2, k7m3, k7m4, k7m5, k7m6, k7m7]
  instanceTypes := #[(.object "com/example/warrant/warrant/Verdict$Kind"), (.object "com/example/warrant/warrant/SignedData"), (.object "com/example/warrant/warrant/InvalidReason"), .int]
  staticTypes := #[(.object "com/example/warrant/warrant/Verdict"), (.object "com/example/warrant/warrant/Verdict")]
  resolved := Array.replicate 185 none
  statics := none }

def pool8 : Array CpInfo := pool [(1, .class_ 2), (0, u "com/example/warrant/warrant/Verdict$Kind"), (2, u "LICENSED"), (0, u "Lcom/example/warrant/warrant/Verdict$Kind;"), (2, u "NOT_LICENSED"), (2, u "RETRY"), (2, u "APPLICATION_ERROR"), (2, u "INVALID"), (2, u "$VALUES"), (0, u "[Lcom/example/warrant/warrant/Verdict$Kind;"), (6, .class_ 31), (1, u "java/lang/Enum"), (28, .class_ 61), (0, u "com/example/warrant/warrant/Verdict")] 2

/-- com/example/warrant/warrant/Verdict$Kind -/
def k8 : Class := { plain "com/example/warrant/warrant/Verdict$Kind" (some 5) with
  accessFlags := 16433
  interfaces := #[]
  cf := some (fileOf pool8 1 #[.nestHost 60] #[] 16433 29 #[] #[{ accessFlags := 16409, nameIndex := 5, descriptorIndex := 6, attributes := #[] }, { accessFlags := 16409, nameIndex := 9, descriptorIndex := 6, attributes := #[] }, { accessFlags := 16409, nameIndex := 12, descriptorIndex := 6, attributes := #[] }, { accessFlags := 16409, nameIndex := 15, descriptorIndex := 6, attributes := #[] }, { accessFlags := 16409, nameIndex := 18, descriptorIndex := 6, attributes := #[] }, { accessFlags := 4122, nameIndex := 21, descriptorIndex := 22, attributes := #[] }])
  fields := #[{ name := "LICENSED", type := (.object "com/example/warrant/warrant/Verdict$Kind"), accessFlags := 16409, slot := 0, constantValue := 0 }, { name := "NOT_LICENSED", type := (.object "com/example/warrant/warrant/Verdict$Kind"), accessFlags := 16409, slot := 1, constantValue := 0 }, { name := "RETRY", type := (.object "com/example/warrant/warrant/Verdict$Kind"), accessFlags := 16409, slot := 2, constantValue := 0 }, { name := "APPLICATION_ERROR", type := (.object "com/example/warrant/warrant/Verdict$Kind"), accessFlags := 16409, slot := 3, constantValue := 0 }, { name := "INVALID", type := (.object "com/example/warrant/warrant/Verdict$Kind"), accessFlags := 16409, slot := 4, constantValue := 0 }, { name := "$VALUES", type := (.array (.object "com/example/warrant/warrant/Verdict$Kind")), accessFlags := 4122, slot := 5, constantValue := 0 }]
  methods := #[]
  instanceTypes := #[(.object "java/lang/String"), .int, .int]
  staticTypes := #[(.object "com/example/warrant/warrant/Verdict$Kind"), (.object "com/example/warrant/warrant/Verdict$Kind"), (.object "com/example/warrant/warrant/Verdict$Kind"), (.object "com/example/warrant/warrant/Verdict$Kind"), (.object "com/example/warrant/warrant/Verdict$Kind"), (.array (.object "com/example/warrant/warrant/Verdict$Kind"))]
  resolved := Array.replicate 64 none
  statics := some 1 }

def pool9 : Array CpInfo := pool [(2, .class_ 4), (1, u "java/lang/CharSequence"), (42, .class_ 48), (0, u "java/lang/CharSequence$1CodePointIterator"), (10, .class_ 60), (0, u "java/lang/CharSequence$1CharIterator"), (5, .class_ 67), (0, u "java/lang/Object")] 63

/-- java/lang/CharSequence -/
def k9 : Class := { plain "java/lang/CharSequence" (some 0) with
  accessFlags := 1537
  interfaces := #[]
  cf := some (fileOf pool9 2 #[.nestMembers #[47, 59]] #[] 1537 66 #[] #[])
  fields := #[]
  methods := #[]
  instanceTypes := #[]
  staticTypes := #[]
  resolved := Array.replicate 131 none
  statics := none }

def pool10 : Array CpInfo := pool [(1, .class_ 2), (0, u "java/lang/constant/ConstantDesc"), (0, .class_ 4), (0, u "java/lang/Object")] 32

/-- java/lang/constant/ConstantDesc -/
def k10 : Class := { plain "java/lang/constant/ConstantDesc" (some 0) with
  accessFlags := 1537
  interfaces := #[]
  cf := some (fileOf pool10 1 #[] #[] 1537 3 #[] #[])
  fields := #[]
  methods := #[]
  instanceTypes := #[]
  staticTypes := #[]
  resolved := Array.replicate 37 none
  statics := none }

def pool11 : Array CpInfo := pool [(2, .class_ 4), (1, u "java/lang/Object"), (0, u "<init>"), (0, u "()V"), (3, .class_ 12), (1, u "java/lang/String"), (0, u "value"), (0, u "[B"), (2, u "coder"), (0, u "B"), (2, u "hash"), (0, u "I"), (2, u "hashIsZero"), (0, u "Z"), (13, u "COMPACT_STRINGS"), (534, .class_ 576), (0, u "java/lang/CharSequence"), (22, u "CASE_INSENSITIVE_ORDER"), (0, u "Ljava/util/Comparator;"), (500, u "serialPersistentFields"), (0, u "[Ljava/io/ObjectStreamField;"), (0, .class_ 1104), (0, u "java/lang/String$CaseInsensitiveComparator"), (1, .class_ 1107), (0, u "java/io/Serializable"), (0, .class_ 1109), (0, u "java/lang/Comparable"), (0, .class_ 1111), (0, u "java/lang/constant/Constable"), (0, .class_ 1113), (0, u "java/lang/constant/ConstantDesc"), (2, u "serialVersionUID"), (0, u "J"), (3, u "REPL"), (0, u "C"), (2, u "LATIN1"), (1, u "UTF16")] 323

def k11m0 : Method := { name := "<init>", desc := "()V", sig := { parameters := [], returnType := none }, accessFlags := 1, code := none }
/-- java/lang/String -/
def k11 : Class := { plain "java/lang/String" (some 0) with
  accessFlags := 49
  interfaces := #[4, 3, 9, 2, 10]
  cf := some (fileOf pool11 10 #[.nestMembers #[1103]] #[{ accessFlags := 1, nameIndex := 5, descriptorIndex := 6, attributes := #[] }] 49 2 #[1106, 1108, 575, 1110, 1112] #[{ accessFlags := 18, nameIndex := 13, descriptorIndex := 14, attributes := #[] }, { accessFlags := 18, nameIndex := 17, descriptorIndex := 18, attributes := #[] }, { accessFlags := 2, nameIndex := 21, descriptorIndex := 22, attributes := #[] }, { accessFlags := 2, nameIndex := 25, descriptorIndex := 26, attributes := #[] }, { accessFlags := 26, nameIndex := 1116, descriptorIndex := 1117, attributes := #[] }, { accessFlags := 24, nameIndex := 40, descriptorIndex := 26, attributes := #[] }, { accessFlags := 26, nameIndex := 1101, descriptorIndex := 1102, attributes := #[] }, { accessFlags := 26, nameIndex := 1121, descriptorIndex := 1122, attributes := #[] }, { accessFlags := 25, nameIndex := 599, descriptorIndex := 600, attributes := #[] }, { accessFlags := 24, nameIndex := 1125, descriptorIndex := 18, attributes := #[] }, { accessFlags := 24, nameIndex := 1127, descriptorIndex := 18, attributes := #[] }])
  fields := #[{ name := "value", type := (.array .byte), accessFlags := 18, slot := 0, constantValue := 0 }, { name := "coder", type := .byte, accessFlags := 18, slot := 1, constantValue := 0 }, { name := "hash", type := .int, accessFlags := 2, slot := 2, constantValue := 0 }, { name := "hashIsZero", type := .boolean, accessFlags := 2, slot := 3, constantValue := 0 }, { name := "serialVersionUID", type := .long, accessFlags := 26, slot := 0, constantValue := 0 }, { name := "COMPACT_STRINGS", type := .boolean, accessFlags := 24, slot := 1, constantValue := 0 }, { name := "serialPersistentFields", type := (.array (.object "java/io/ObjectStreamField")), accessFlags := 26, slot := 2, constantValue := 0 }, { name := "REPL", type := .char, accessFlags := 26, slot := 3, constantValue := 0 }, { name := "CASE_INSENSITIVE_ORDER", type := (.object "java/util/Comparator"), accessFlags := 25, slot := 4, constantValue := 0 }, { name := "LATIN1", type := .byte, accessFlags := 24, slot := 5, constantValue := 0 }, { name := "UTF16", type := .byte, accessFlags := 24, slot := 6, constantValue := 0 }]
  methods := #[k11m0]
  instanceTypes := #[(.array .byte), .byte, .int, .boolean]
  staticTypes := #[.long, .boolean, (.array (.object "java/io/ObjectStreamField")), .char, (.object "java/util/Comparator"), .byte, .byte]
  resolved := Array.replicate 1451 none
  statics := none }

def pool12 : Array CpInfo := pool [(2, .class_ 4), (1, u "java/lang/Object"), (0, u "<init>"), (0, u "()V"), (9, u "equals"), (6, u "(Ljava/lang/Object;Ljava/lang/Object;)Z"), (18, .class_ 44), (1, u "java/util/Objects"), (0, u "requireNonNull"), (48, u "(Ljava/lang/Object;Ljava/lang/String;)Ljava/lang/Object;")] 89

def k12m0 : Method := { name := "<init>", desc := "()V", sig := { parameters := [], returnType := none }, accessFlags := 2, code := none }
def k12c1 : Code := { maxStack := 2, maxLocals := 2, code := jdk_31_method_2_code, exceptionTable := #[], attributes := #[] }
def k12m1 : Method := { name := "equals", desc := "(Ljava/lang/Object;Ljava/lang/Object;)Z", sig := { parameters := [(.object "java/lang/Object"), (.object "java/lang/Object")], returnType := some .boolean }, accessFlags := 9, code := some k12c1 }
def k12c2 : Code := { maxStack := 3, maxLocals := 2, code := jdk_31_method_11_code, exceptionTable := #[], attributes := #[] }
def k12m2 : Method := { name := "requireNonNull", desc := "(Ljava/lang/Object;Ljava/lang/String;)Ljava/lang/Object;", sig := { parameters := [(.object "java/lang/Object"), (.object "java/lang/String")], returnType := some (.object "java/lang/Object") }, accessFlags := 9, code := some k12c2 }
/-- java/util/Objects -/
def k12 : Class := { plain "java/util/Objects" (some 0) with
  accessFlags := 49
  interfaces := #[]
  cf := some (fileOf pool12 42 #[] #[{ accessFlags := 2, nameIndex := 5, descriptorIndex := 6, attributes := #[] }, { accessFlags := 9, nameIndex := 16, descriptorIndex := 23, attributes := #[] }, { accessFlags := 9, nameIndex := 45, descriptorIndex := 94, attributes := #[] }] 49 2 #[] #[])
  fields := #[]
  methods := #[k12m0, k12m1, k12m2]
  instanceTypes := #[]
  staticTypes := #[]
  resolved := Array.replicate 184 none
  statics := none }

def pool13 : Array CpInfo := pool [(1, .fieldref 2 3), (0, .class_ 4), (0, .nameAndType 5 6), (0, u "java/util/Optional"), (0, u "EMPTY"), (0, u "Ljava/util/Optional;"), (0, .methodref 8 9), (0, .class_ 10), (0, .nameAndType 11 12), (0, u "java/lang/Object"), (0, u "<init>"), (0, u "()V"), (0, .fieldref 2 14), (0, .nameAndType 15 16), (0, u "value"), (0, u "Ljava/lang/Object;"), (6, .methodref 2 24), (0, .nameAndType 11 25), (0, u "(Ljava/lang/Object;)V"), (20, u "()Z"), (17, u "ofNullable"), (0, u "(Ljava/lang/Object;)Ljava/util/Optional;"), (2, u "isPresent"), (4, u "get"), (0, u "()Ljava/lang/Object;")] 112

def k13c0 : Code := { maxStack := 2, maxLocals := 2, code := jdk_32_method_2_code, exceptionTable := #[], attributes := #[] }
def k13m0 : Method := { name := "<init>", desc := "(Ljava/lang/Object;)V", sig := { parameters := [(.object "java/lang/Object")], returnType := none }, accessFlags := 2, code := some k13c0 }
def k13c1 : Code := { maxStack := 3, maxLocals := 1, code := jdk_32_method_4_code, exceptionTable := #[], attributes := #[] }
def k13m1 : Method := { name := "ofNullable", desc := "(Ljava/lang/Object;)Ljava/util/Optional;", sig := { parameters := [(.object "java/lang/Object")], returnType := some (.object "java/util/Optional") }, accessFlags := 9, code := some k13c1 }
def k13c2 : Code := { maxStack := 3, maxLocals := 1, code := jdk_32_method_5_code, exceptionTable := #[], attributes := #[] }
def k13m2 : Method := { name := "get", desc := "()Ljava/lang/Object;", sig := { parameters := [], returnType := some (.object "java/lang/Object") }, accessFlags := 1, code := some k13c2 }
def k13c3 : Code := { maxStack := 1, maxLocals := 1, code := jdk_32_method_6_code, exceptionTable := #[], attributes := #[] }
def k13m3 : Method := { name := "isPresent", desc := "()Z", sig := { parameters := [], returnType := some .boolean }, accessFlags := 1, code := some k13c3 }
/-- java/util/Optional -/
def k13 : Class := { plain "java/util/Optional" (some 0) with
  accessFlags := 49
  interfaces := #[]
  cf := some (fileOf pool13 2 #[] #[{ accessFlags := 2, nameIndex := 11, descriptorIndex := 25, attributes := #[] }, { accessFlags := 9, nameIndex := 64, descriptorIndex := 65, attributes := #[] }, { accessFlags := 1, nameIndex := 73, descriptorIndex := 74, attributes := #[] }, { accessFlags := 1, nameIndex := 68, descriptorIndex := 46, attributes := #[] }] 49 8 #[] #[{ accessFlags := 26, nameIndex := 5, descriptorIndex := 6, attributes := #[] }, { accessFlags := 18, nameIndex := 15, descriptorIndex := 16, attributes := #[] }])
  fields := #[{ name := "EMPTY", type := (.object "java/util/Optional"), accessFlags := 26, slot := 0, constantValue := 0 }, { name := "value", type := (.object "java/lang/Object"), accessFlags := 18, slot := 0, constantValue := 0 }]
  methods := #[k13m0, k13m1, k13m2, k13m3]
  instanceTypes := #[(.object "java/lang/Object")]
  staticTypes := #[(.object "java/util/Optional")]
  resolved := Array.replicate 187 none
  statics := some 2 }

def pool14 : Array CpInfo := pool [(2, .class_ 4), (1, u "java/lang/Object"), (0, u "<init>"), (0, u "()V"), (0, .fieldref 8 9), (0, .class_ 10), (0, .nameAndType 11 12), (0, u "java/util/OptionalInt"), (0, u "isPresent"), (0, u "Z"), (2, u "value"), (0, u "I"), (0, .fieldref 8 18), (0, .nameAndType 19 20), (0, u "EMPTY"), (0, u "Ljava/util/OptionalInt;"), (28, u "empty"), (46, u "()Ljava/util/OptionalInt;"), (2, u "()Z")] 36

def k14m0 : Method := { name := "<init>", desc := "()V", sig := { parameters := [], returnType := none }, accessFlags := 2, code := none }
def k14c1 : Code := { maxStack := 1, maxLocals := 0, code := jdk_2649_method_2_code, exceptionTable := #[], attributes := #[] }
def k14m1 : Method := { name := "empty", desc := "()Ljava/util/OptionalInt;", sig := { parameters := [], returnType := some (.object "java/util/OptionalInt") }, accessFlags := 9, code := some k14c1 }
def k14c2 : Code := { maxStack := 1, maxLocals := 1, code := jdk_2649_method_6_code, exceptionTable := #[], attributes := #[] }
def k14m2 : Method := { name := "isPresent", desc := "()Z", sig := { parameters := [], returnType := some .boolean }, accessFlags := 1, code := some k14c2 }
/-- java/util/OptionalInt -/
def k14 : Class := { plain "java/util/OptionalInt" (some 0) with
  accessFlags := 49
  interfaces := #[]
  cf := some (fileOf pool14 8 #[] #[{ accessFlags := 2, nameIndex := 5, descriptorIndex := 6, attributes := #[] }, { accessFlags := 9, nameIndex := 49, descriptorIndex := 96, attributes := #[] }, { accessFlags := 1, nameIndex := 11, descriptorIndex := 99, attributes := #[] }] 49 2 #[] #[{ accessFlags := 26, nameIndex := 19, descriptorIndex := 20, attributes := #[] }, { accessFlags := 18, nameIndex := 11, descriptorIndex := 12, attributes := #[] }, { accessFlags := 18, nameIndex := 15, descriptorIndex := 16, attributes := #[] }])
  fields := #[{ name := "EMPTY", type := (.object "java/util/OptionalInt"), accessFlags := 26, slot := 0, constantValue := 0 }, { name := "isPresent", type := .boolean, accessFlags := 18, slot := 0, constantValue := 0 }, { name := "value", type := .int, accessFlags := 18, slot := 1, constantValue := 0 }]
  methods := #[k14m0, k14m1, k14m2]
  instanceTypes := #[.boolean, .int]
  staticTypes := #[(.object "java/util/OptionalInt")]
  resolved := Array.replicate 136 none
  statics := some 3 }

def pool15 : Array CpInfo := pool [(1, u "java/lang/Cloneable"), (0, .class_ 1), (0, u "java/lang/Object"), (0, .class_ 3)] 3

/-- java/lang/Cloneable -/
def k15 : Class := { plain "java/lang/Cloneable" (some 0) with
  accessFlags := 1537
  interfaces := #[]
  cf := some (fileOf pool15 2 #[] #[] 1537 4 #[] #[])
  fields := #[]
  methods := #[]
  instanceTypes := #[]
  staticTypes := #[]
  resolved := Array.replicate 8 none
  statics := none }

/-- the primitive byte -/
def k16 : Class := { plain "byte" none with kind := .primitive 'B', accessFlags := 0x411 }
/-- [B -/
def k17 : Class := { plain "[B" (some 0) with kind := .array 16 .byte, interfaces := #[15, 4], accessFlags := 1041 }

/-- the primitive int -/
def k18 : Class := { plain "int" none with kind := .primitive 'I', accessFlags := 0x411 }
/-- [I -/
def k19 : Class := { plain "[I" (some 0) with kind := .array 18 .int, interfaces := #[15, 4], accessFlags := 1041 }

def heap : Heap := #[{ cls := 6, slots := #[.ref 4, .ref 5, .ref 6, .ref 7, .ref 8, .ref 9, .null], vm := .statics 6 },
  { cls := 8, slots := #[.null, .null, .null, .ref 11, .ref 10, .null], vm := .statics 8 },
  { cls := 13, slots := #[.ref 12], vm := .statics 13 },
  { cls := 14, slots := #[.ref 13], vm := .statics 14 },
  { cls := 6, slots := #[.null, .int 0, .int 0], vm := .none },
  { cls := 6, slots := #[.null, .int 1, .int 0], vm := .none },
  { cls := 6, slots := #[.null, .int 2, .int 0], vm := .none },
  { cls := 6, slots := #[.null, .int 3, .int 0], vm := .none },
  { cls := 6, slots := #[.null, .int 4, .int 0], vm := .none },
  { cls := 6, slots := #[.null, .int 5, .int 0], vm := .none },
  { cls := 8, slots := #[.null, .int 4, .int 0], vm := .none },
  { cls := 8, slots := #[.null, .int 3, .int 0], vm := .none },
  { cls := 13, slots := #[.null], vm := .none },
  { cls := 14, slots := #[.int 0, .int 0], vm := .none }]
def classes : Array Class := #[k0, k1, k2, k3, k4, k5, k6, k7, k8, k9, k10, k11, k12, k13, k14, k15, k16, k17, k18, k19]
def interned : List (Array UInt16 × Addr) := []
def slotsUsed : Nat := 42
def theMethod : MethodId := ⟨1, 2⟩
def args0 : Array Value := #[.int 5, .int 4]
def aboutOver (below : List Frame) : State where
  vm := { classes := classes, interned := interned.toArray }
  heap := heap
  slotsUsed := slotsUsed
  threads := #[{ frames := .invoking theMethod args0 :: below }]
def below0 : List Frame := [.native { method := ⟨0, 0⟩, args := #[] }]
def about1 : State := aboutOver below0
def p0 : Program := .bare "" "" ""
def e0 : Env := launch0.env 0 0 0
theorem w_frames : about1.frames = Frame.invoking theMethod args0 :: below0 := rfl
set_option maxRecDepth 65536 in
theorem w_args : argsFit about1.vm theMethod args0 = true := by decide +kernel
set_option maxRecDepth 65536 in
theorem w_heap : heapFits about1 = true := by decide +kernel
set_option maxRecDepth 65536 in
theorem w_runnable : about1.curStatus? = some .runnable := by decide +kernel
set_option maxRecDepth 65536 in
theorem w_alone : about1.alone = true := by decide +kernel
set_option maxRecDepth 65536 in
theorem w_named : about1.methodNamed? x = some theMethod := by decide +kernel
set_option maxRecDepth 65536 in
theorem w_hears : about1.hears theMethod below0 = true := by decide +kernel
set_option maxRecDepth 65536 in
theorem w_ripe : about1.ripe theMethod args0 below0 = true := by decide +kernel
theorem w_running : about1.status = .running := rfl
set_option maxRecDepth 65536 in
theorem w_room : about1.hasRoom e0.platform room_1 = true :=
  launch0.hasRoom_least _ room_1 (by decide +kernel) (by decide +kernel) (by decide +kernel) (by decide +kernel) (by decide +kernel) (by decide +kernel)
theorem allAtoms_all (ts : List Jvm.Cond) (a : Array Jvm.Value) (st : Jvm.State) : (allAtoms ts).before a st = ts.all (fun c => c.before a st) := by
  induction ts with
  | nil => rfl
  | cons c t ih =>
    show (Jvm.Cond.and c (allAtoms t)).before a st = _
    rw [Jvm.Cond.before_and, ih, List.all_cons]
def words1 : List Jvm.Cond := Jvm.Cond.code x code maxLocals ret :: tables_1
/-- a 'code' word, met by the world's own term for the bytes: nothing is compared byte by byte -/
theorem code_word {y : MethodName} {bytes : ByteArray} {mx : Nat} {rt : Option FieldType} {a : Array Value} {s : State} {m : MethodId} {meth : Method} {c : Code} (h1 : s.methodNamed? y = some m) (h2 : s.vm.method? m = some meth) (h3 : meth.code = some c) (h4 : c.code = bytes)
    (h5 : (c.maxLocals == mx && c.exceptionTable.isEmpty && decide (c.maxStack ≤ mostOperands) && decide (meth.sig.returnType = rt) && !meth.locks && decide (parseMethodDescriptor y.desc = some meth.sig)) = true) : (Jvm.Cond.code y bytes mx rt).before a s = true := by
  simp only [Bool.and_eq_true, beq_iff_eq, Bool.not_eq_true', decide_eq_true_eq] at h5
  obtain ⟨⟨⟨⟨⟨g1, g2⟩, g3⟩, g4⟩, g5⟩, g6⟩ := h5
  simp [Cond.before, Cond.holds, Cond.value, h1, h2, h3, h4, g1, g2, g3, g4, g5, g6]
def isCode : Jvm.Cond → Bool
  | .code _ _ _ _ => true
  | _ => false
theorem all_split {L : List Jvm.Cond} {P : Jvm.Cond → Bool} (h1 : L.all (fun c => isCode c || P c) = true) (h2 : ∀ c ∈ L.filter isCode, P c = true) : L.all P = true := by
  refine List.all_eq_true.mpr fun c hc => ?_
  have h := List.all_eq_true.mp h1 c hc
  rcases Bool.eq_false_or_eq_true (isCode c) with hi | hi
  · exact h2 c (List.mem_filter.mpr ⟨hc, hi⟩)
  · simpa [hi] using h
set_option maxRecDepth 65536 in
theorem w_c0 : (Jvm.Cond.code x code maxLocals ret).before args0 about1 = true := code_word (m := ⟨1, 2⟩) (meth := k1m2) (c := k1c2) (by decide +kernel) rfl rfl rfl (by decide +kernel)
set_option maxRecDepth 65536 in
theorem w_c1 : (Jvm.Cond.code ({ cls := "com/example/warrant/warrant/VerdictInvalidPinLaw", name := "pick", desc := "(I)Lcom/example/warrant/warrant/InvalidReason;" } : Jvm.MethodName) method_2_code (1 : Nat) (Option.some (Jvm.ClassFile.FieldType.object "com/example/warrant/warrant/InvalidReason"))).before args0 about1 = true := code_word (m := ⟨1, 1⟩) (meth := k1m1) (c := k1c1) (by decide +kernel) rfl rfl rfl (by decide +kernel)
set_option maxRecDepth 65536 in
theorem w_c2 : (Jvm.Cond.code ({ cls := "com/example/warrant/warrant/Verdict", name := "invalid", desc := "(Lcom/example/warrant/warrant/InvalidReason;)Lcom/example/warrant/warrant/Verdict;" } : Jvm.MethodName) prog_47_method_6_code (1 : Nat) (Option.some (Jvm.ClassFile.FieldType.object "com/example/warrant/warrant/Verdict"))).before args0 about1 = true := code_word (m := ⟨7, 1⟩) (meth := k7m1) (c := k7c1) (by decide +kernel) rfl rfl rfl (by decide +kernel)
set_option maxRecDepth 65536 in
theorem w_c3 : (Jvm.Cond.code ({ cls := "java/util/Objects", name := "requireNonNull", desc := "(Ljava/lang/Object;Ljava/lang/String;)Ljava/lang/Object;" } : Jvm.MethodName) jdk_31_method_11_code (2 : Nat) (Option.some (Jvm.ClassFile.FieldType.object "java/lang/Object"))).before args0 about1 = true := code_word (m := ⟨12, 2⟩) (meth := k12m2) (c := k12c2) (by decide +kernel) rfl rfl rfl (by decide +kernel)
set_option maxRecDepth 65536 in
theorem w_c4 : (Jvm.Cond.code ({ cls := "com/example/warrant/warrant/Verdict", name := "<init>", desc := "(Lcom/example/warrant/warrant/Verdict$Kind;Lcom/example/warrant/warrant/SignedData;Lcom/example/warrant/warrant/InvalidReason;I)V" } : Jvm.MethodName) prog_47_method_1_code (5 : Nat) (Option.none : Option Jvm.ClassFile.FieldType)).before args0 about1 = true := code_word (m := ⟨7, 0⟩) (meth := k7m0) (c := k7c0) (by decide +kernel) rfl rfl rfl (by decide +kernel)
set_option maxRecDepth 65536 in
theorem w_c5 : (Jvm.Cond.code ({ cls := "java/lang/Object", name := "<init>", desc := "()V" } : Jvm.MethodName) object_method_1_code (1 : Nat) (Option.none : Option Jvm.ClassFile.FieldType)).before args0 about1 = true := code_word (m := ⟨0, 0⟩) (meth := k0m0) (c := k0c0) (by decide +kernel) rfl rfl rfl (by decide +kernel)
set_option maxRecDepth 65536 in
theorem w_c6 : (Jvm.Cond.code ({ cls := "com/example/warrant/warrant/Verdict", name := "kind", desc := "()Lcom/example/warrant/warrant/Verdict$Kind;" } : Jvm.MethodName) prog_47_method_7_code (1 : Nat) (Option.some (Jvm.ClassFile.FieldType.object "com/example/warrant/warrant/Verdict$Kind"))).before args0 about1 = true := code_word (m := ⟨7, 2⟩) (meth := k7m2) (c := k7c2) (by decide +kernel) rfl rfl rfl (by decide +kernel)
set_option maxRecDepth 65536 in
theorem w_c7 : (Jvm.Cond.code ({ cls := "com/example/warrant/warrant/Verdict", name := "invalidReason", desc := "()Ljava/util/Optional;" } : Jvm.MethodName) prog_47_method_10_code (1 : Nat) (Option.some (Jvm.ClassFile.FieldType.object "java/util/Optional"))).before args0 about1 = true := code_word (m := ⟨7, 5⟩) (meth := k7m5) (c := k7c5) (by decide +kernel) rfl rfl rfl (by decide +kernel)
set_option maxRecDepth 65536 in
theorem w_c8 : (Jvm.Cond.code ({ cls := "java/util/Optional", name := "ofNullable", desc := "(Ljava/lang/Object;)Ljava/util/Optional;" } : Jvm.MethodName) jdk_32_method_4_code (1 : Nat) (Option.some (Jvm.ClassFile.FieldType.object "java/util/Optional"))).before args0 about1 = true := code_word (m := ⟨13, 1⟩) (meth := k13m1) (c := k13c1) (by decide +kernel) rfl rfl rfl (by decide +kernel)
set_option maxRecDepth 65536 in
theorem w_c9 : (Jvm.Cond.code ({ cls := "java/util/Optional", name := "<init>", desc := "(Ljava/lang/Object;)V" } : Jvm.MethodName) jdk_32_method_2_code (2 : Nat) (Option.none : Option Jvm.ClassFile.FieldType)).before args0 about1 = true := code_word (m := ⟨13, 0⟩) (meth := k13m0) (c := k13c0) (by decide +kernel) rfl rfl rfl (by decide +kernel)
set_option maxRecDepth 65536 in
theorem w_c10 : (Jvm.Cond.code ({ cls := "java/util/Optional", name := "isPresent", desc := "()Z" } : Jvm.MethodName) jdk_32_method_6_code (1 : Nat) (Option.some Jvm.ClassFile.FieldType.boolean)).before args0 about1 = true := code_word (m := ⟨13, 3⟩) (meth := k13m3) (c := k13c3) (by decide +kernel) rfl rfl rfl (by decide +kernel)
set_option maxRecDepth 65536 in
theorem w_c11 : (Jvm.Cond.code ({ cls := "java/util/Optional", name := "get", desc := "()Ljava/lang/Object;" } : Jvm.MethodName) jdk_32_method_5_code (1 : Nat) (Option.some (Jvm.ClassFile.FieldType.object "java/lang/Object"))).before args0 about1 = true := code_word (m := ⟨13, 2⟩) (meth := k13m2) (c := k13c2) (by decide +kernel) rfl rfl rfl (by decide +kernel)
set_option maxRecDepth 65536 in
theorem w_c12 : (Jvm.Cond.code ({ cls := "com/example/warrant/warrant/Verdict", name := "signedData", desc := "()Ljava/util/Optional;" } : Jvm.MethodName) prog_47_method_9_code (1 : Nat) (Option.some (Jvm.ClassFile.FieldType.object "java/util/Optional"))).before args0 about1 = true := code_word (m := ⟨7, 4⟩) (meth := k7m4) (c := k7c4) (by decide +kernel) rfl rfl rfl (by decide +kernel)
set_option maxRecDepth 65536 in
theorem w_c13 : (Jvm.Cond.code ({ cls := "com/example/warrant/warrant/Verdict", name := "applicationErrorCode", desc := "()Ljava/util/OptionalInt;" } : Jvm.MethodName) prog_47_method_11_code (1 : Nat) (Option.some (Jvm.ClassFile.FieldType.object "java/util/OptionalInt"))).before args0 about1 = true := code_word (m := ⟨7, 6⟩) (meth := k7m6) (c := k7c6) (by decide +kernel) rfl rfl rfl (by decide +kernel)
set_option maxRecDepth 65536 in
theorem w_c14 : (Jvm.Cond.code ({ cls := "java/util/OptionalInt", name := "empty", desc := "()Ljava/util/OptionalInt;" } : Jvm.MethodName) jdk_2649_method_2_code (0 : Nat) (Option.some (Jvm.ClassFile.FieldType.object "java/util/OptionalInt"))).before args0 about1 = true := code_word (m := ⟨14, 1⟩) (meth := k14m1) (c := k14c1) (by decide +kernel) rfl rfl rfl (by decide +kernel)
set_option maxRecDepth 65536 in
theorem w_c15 : (Jvm.Cond.code ({ cls := "java/util/OptionalInt", name := "isPresent", desc := "()Z" } : Jvm.MethodName) jdk_2649_method_6_code (1 : Nat) (Option.some Jvm.ClassFile.FieldType.boolean)).before args0 about1 = true := code_word (m := ⟨14, 2⟩) (meth := k14m2) (c := k14c2) (by decide +kernel) rfl rfl rfl (by decide +kernel)
set_option maxRecDepth 65536 in
theorem w_c16 : (Jvm.Cond.code ({ cls := "com/example/warrant/warrant/Verdict", name := "oldKey", desc := "()Z" } : Jvm.MethodName) prog_47_method_8_code (1 : Nat) (Option.some Jvm.ClassFile.FieldType.boolean)).before args0 about1 = true := code_word (m := ⟨7, 3⟩) (meth := k7m3) (c := k7c3) (by decide +kernel) rfl rfl rfl (by decide +kernel)
set_option maxRecDepth 65536 in
theorem w_c17 : (Jvm.Cond.code ({ cls := "com/example/warrant/warrant/Verdict", name := "equals", desc := "(Ljava/lang/Object;)Z" } : Jvm.MethodName) prog_47_method_12_code (3 : Nat) (Option.some Jvm.ClassFile.FieldType.boolean)).before args0 about1 = true := code_word (m := ⟨7, 7⟩) (meth := k7m7) (c := k7c7) (by decide +kernel) rfl rfl rfl (by decide +kernel)
set_option maxRecDepth 65536 in
theorem w_c18 : (Jvm.Cond.code ({ cls := "java/util/Objects", name := "equals", desc := "(Ljava/lang/Object;Ljava/lang/Object;)Z" } : Jvm.MethodName) jdk_31_method_2_code (2 : Nat) (Option.some Jvm.ClassFile.FieldType.boolean)).before args0 about1 = true := code_word (m := ⟨12, 1⟩) (meth := k12m1) (c := k12c1) (by decide +kernel) rfl rfl rfl (by decide +kernel)
def codes1 : List Jvm.Cond := [Jvm.Cond.code x code maxLocals ret, Jvm.Cond.code ({ cls := "com/example/warrant/warrant/VerdictInvalidPinLaw", name := "pick", desc := "(I)Lcom/example/warrant/warrant/InvalidReason;" } : Jvm.MethodName) method_2_code (1 : Nat) (Option.some (Jvm.ClassFile.FieldType.object "com/example/warrant/warrant/InvalidReason")), Jvm.Cond.code ({ cls := "com/example/warrant/warrant/Verdict", name := "invalid", desc := "(Lcom/example/warrant/warrant/InvalidReason;)Lcom/example/warrant/warrant/Verdict;" } : Jvm.MethodName) prog_47_method_6_code (1 : Nat) (Option.some (Jvm.ClassFile.FieldType.object "com/example/warrant/warrant/Verdict")), Jvm.Cond.code ({ cls := "java/util/Objects", name := "requireNonNull", desc := "(Ljava/lang/Object;Ljava/lang/String;)Ljava/lang/Object;" } : Jvm.MethodName) jdk_31_method_11_code (2 : Nat) (Option.some (Jvm.ClassFile.FieldType.object "java/lang/Object")), Jvm.Cond.code ({ cls := "com/example/warrant/warrant/Verdict", name := "<init>", desc := "(Lcom/example/warrant/warrant/Verdict$Kind;Lcom/example/warrant/warrant/SignedData;Lcom/example/warrant/warrant/InvalidReason;I)V" } : Jvm.MethodName) prog_47_method_1_code (5 : Nat) (Option.none : Option Jvm.ClassFile.FieldType), Jvm.Cond.code ({ cls := "java/lang/Object", name := "<init>", desc := "()V" } : Jvm.MethodName) object_method_1_code (1 : Nat) (Option.none : Option Jvm.ClassFile.FieldType), Jvm.Cond.code ({ cls := "com/example/warrant/warrant/Verdict", name := "kind", desc := "()Lcom/example/warrant/warrant/Verdict$Kind;" } : Jvm.MethodName) prog_47_method_7_code (1 : Nat) (Option.some (Jvm.ClassFile.FieldType.object "com/example/warrant/warrant/Verdict$Kind")), Jvm.Cond.code ({ cls := "com/example/warrant/warrant/Verdict", name := "invalidReason", desc := "()Ljava/util/Optional;" } : Jvm.MethodName) prog_47_method_10_code (1 : Nat) (Option.some (Jvm.ClassFile.FieldType.object "java/util/Optional")), Jvm.Cond.code ({ cls := "java/util/Optional", name := "ofNullable", desc := "(Ljava/lang/Object;)Ljava/util/Optional;" } : Jvm.MethodName) jdk_32_method_4_code (1 : Nat) (Option.some (Jvm.ClassFile.FieldType.object "java/util/Optional")), Jvm.Cond.code ({ cls := "java/util/Optional", name := "<init>", desc := "(Ljava/lang/Object;)V" } : Jvm.MethodName) jdk_32_method_2_code (2 : Nat) (Option.none : Option Jvm.ClassFile.FieldType), Jvm.Cond.code ({ cls := "java/util/Optional", name := "isPresent", desc := "()Z" } : Jvm.MethodName) jdk_32_method_6_code (1 : Nat) (Option.some Jvm.ClassFile.FieldType.boolean), Jvm.Cond.code ({ cls := "java/util/Optional", name := "get", desc := "()Ljava/lang/Object;" } : Jvm.MethodName) jdk_32_method_5_code (1 : Nat) (Option.some (Jvm.ClassFile.FieldType.object "java/lang/Object")), Jvm.Cond.code ({ cls := "com/example/warrant/warrant/Verdict", name := "signedData", desc := "()Ljava/util/Optional;" } : Jvm.MethodName) prog_47_method_9_code (1 : Nat) (Option.some (Jvm.ClassFile.FieldType.object "java/util/Optional")), Jvm.Cond.code ({ cls := "com/example/warrant/warrant/Verdict", name := "applicationErrorCode", desc := "()Ljava/util/OptionalInt;" } : Jvm.MethodName) prog_47_method_11_code (1 : Nat) (Option.some (Jvm.ClassFile.FieldType.object "java/util/OptionalInt")), Jvm.Cond.code ({ cls := "java/util/OptionalInt", name := "empty", desc := "()Ljava/util/OptionalInt;" } : Jvm.MethodName) jdk_2649_method_2_code (0 : Nat) (Option.some (Jvm.ClassFile.FieldType.object "java/util/OptionalInt")), Jvm.Cond.code ({ cls := "java/util/OptionalInt", name := "isPresent", desc := "()Z" } : Jvm.MethodName) jdk_2649_method_6_code (1 : Nat) (Option.some Jvm.ClassFile.FieldType.boolean), Jvm.Cond.code ({ cls := "com/example/warrant/warrant/Verdict", name := "oldKey", desc := "()Z" } : Jvm.MethodName) prog_47_method_8_code (1 : Nat) (Option.some Jvm.ClassFile.FieldType.boolean), Jvm.Cond.code ({ cls := "com/example/warrant/warrant/Verdict", name := "equals", desc := "(Ljava/lang/Object;)Z" } : Jvm.MethodName) prog_47_method_12_code (3 : Nat) (Option.some Jvm.ClassFile.FieldType.boolean), Jvm.Cond.code ({ cls := "java/util/Objects", name := "equals", desc := "(Ljava/lang/Object;Ljava/lang/Object;)Z" } : Jvm.MethodName) jdk_31_method_2_code (2 : Nat) (Option.some Jvm.ClassFile.FieldType.boolean)]
set_option maxRecDepth 65536 in
theorem codes_eq : words1.filter isCode = codes1 := rfl
theorem w_codes : ∀ c ∈ words1.filter isCode, c.before args0 about1 = true := by
  rw [codes_eq]
  intro c hc
  simp only [codes1, List.mem_cons, List.not_mem_nil, or_false] at hc
  rcases hc with rfl | rfl | rfl | rfl | rfl | rfl | rfl | rfl | rfl | rfl | rfl | rfl | rfl | rfl | rfl | rfl | rfl | rfl | rfl
  · exact w_c0
  · exact w_c1
  · exact w_c2
  · exact w_c3
  · exact w_c4
  · exact w_c5
  · exact w_c6
  · exact w_c7
  · exact w_c8
  · exact w_c9
  · exact w_c10
  · exact w_c11
  · exact w_c12
  · exact w_c13
  · exact w_c14
  · exact w_c15
  · exact w_c16
  · exact w_c17
  · exact w_c18
set_option maxRecDepth 65536 in
theorem w_t1 : (words1.take 24).all (fun c => isCode c || c.before args0 about1) = true := by decide +kernel
set_option maxRecDepth 65536 in
theorem w_t2 : ((words1.drop 24).take 24).all (fun c => isCode c || c.before args0 about1) = true := by decide +kernel
set_option maxRecDepth 65536 in
theorem w_t3 : (((words1.drop 24).drop 24).take 24).all (fun c => isCode c || c.before args0 about1) = true := by decide +kernel
set_option maxRecDepth 65536 in
theorem w_t4 : ((((words1.drop 24).drop 24).drop 24).take 24).all (fun c => isCode c || c.before args0 about1) = true := by decide +kernel
set_option maxRecDepth 65536 in
theorem w_t5 : (((((words1.drop 24).drop 24).drop 24).drop 24).take 24).all (fun c => isCode c || c.before args0 about1) = true := by decide +kernel
set_option maxRecDepth 65536 in
theorem w_t6 : (((((words1.drop 24).drop 24).drop 24).drop 24).drop 24).all (fun c => isCode c || c.before args0 about1) = true := by decide +kernel
theorem w_tables : (allAtoms (Jvm.Cond.code x code maxLocals ret :: tables_1)).before args0 about1 = true := by
  rw [allAtoms_all]
  show words1.all (fun c => c.before args0 about1) = true
  refine all_split ?_ w_codes
  rw [← List.take_append_drop 24 words1, List.all_append, w_t1, ← List.take_append_drop 24 (words1.drop 24), List.all_append, w_t2, ← List.take_append_drop 24 ((words1.drop 24).drop 24), List.all_append, w_t3, ← List.take_append_drop 24 (((words1.drop 24).drop 24).drop 24), List.all_append, w_t4, ← List.take_append_drop 24 ((((words1.drop 24).drop 24).drop 24).drop 24), List.all_append, w_t5, w_t6]
  rfl
set_option maxRecDepth 65536 in
theorem w_rest : rest_1_c.before args0 about1 = true := by decide +kernel
set_option maxRecDepth 65536 in
theorem w_case : (Jvm.Cond.and given_1 narrow_1).before args0 about1 = true := by decide +kernel
theorem w_applies : (headSpec (Jvm.Cond.code x code maxLocals ret :: tables_1) room_1).applies x e0.platform about1 = true :=
  (Spec.applies_iff w_frames).mpr ⟨w_running, w_runnable, w_alone, w_named, w_hears, w_ripe, w_room, w_tables⟩
theorem atStart : AtStart classFile x code maxLocals ret World_1 tables_1 room_1 Calls_1 rest_1 Pre_1 launch0 p0 e0 about1 theMethod args0 below0 :=
  ⟨lists_1, trivial, launch0.admits_env _ _ _, launch0.least_env, fairChoices_fair.cas, fairChoices_fair.clock, w_frames, w_args, w_heap, w_applies, trivial, w_rest, w_case⟩
end start1
theorem witness_1 : WitnessClaimed_1 := ⟨start1.p0, start1.e0, start1.about1, start1.theMethod, start1.args0, start1.below0, start1.atStart⟩
end Jvm.Pilot.@@N@@
