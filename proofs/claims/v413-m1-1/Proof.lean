import JvmDerived
import JvmDerived.Pilot.@@N@@Statement
import JvmDerived.Pilot.@@N@@Code
set_option linter.unusedVariables false
set_option linter.unusedSimpArgs false
namespace Jvm.OwnKit
open Jvm Sem ClassFile Op Lib Jvm.Stand Jvm.Free Jvm.LawKit Jvm.RoadKit
section K
variable {p : Program} {l : Launch} {e : Env} {R : Room} {s : State} {m : MethodId} {args : Array Value} {below : List Frame} {meth : Method} {c : Code} {T T' : State} {locs : List Loc} {cells slots : Nat} {Z : State} {a0 : Array Value} {h h0 : Heap} {ce sl : Nat} {Q : Option Value → Heap → List Loc → Prop} {P : Option Value → State → List Loc → Prop} {pc : Nat} {Ls : Array Slot} {rest : List Value}
/-- from this state and frame the body runs to its end, and Q holds there -/
def Go (p : Program) (e : Env) (below : List Frame) (P : Option Value → State → List Loc → Prop) (T : State) (g : JFrame) : Prop :=
  ∃ u v L, Steps p.tables e below (T.setTop g) u ∧ u.status = .running ∧ Ended u below (.returned v) ∧ P v u L
/-- the end of a body that interns nothing -/
def EndF (s : State) (ce sl : Nat) (Q : Option Value → Heap → List Loc → Prop) (v : Option Value) (u : State) (L : List Loc) : Prop := Q v u.heap L ∧ FrameEnd s (.returned v) u L ce sl
theorem Go.by {g g' : JFrame} (st : ∀ t, Steps p.tables e below (T'.setTop g') t → Steps p.tables e below (T.setTop g) t) (k : Go p e below P T' g') : Go p e below P T g := by
  obtain ⟨u, v, L, h1, r⟩ := k; exact ⟨u, v, L, st u h1, r⟩
theorem Go.st {g g' : JFrame} (st : ∀ t, Steps p.tables e below (T.setTop g') t → Steps p.tables e below (T.setTop g) t) (k : Go p e below P T g') : Go p e below P T g := Go.by st k
theorem Go.cast {g g' : JFrame} (q : g = g') (k : Go p e below P T g') : Go p e below P T g := q ▸ k
/-- a body's contract at given arguments and a given heap -/
def Ct (l : Launch) (y : MethodName) (bytes : ByteArray) (maxL : Nat) (ret : Option FieldType) (rm : Room) (Z : State) (as' : Array Value) (h0 : Heap) (Q : Option Value → Heap → List Loc → Prop) : Prop :=
  ∀ ws : List Jvm.Cond, MetFree l y (head1 (Jvm.Cond.code y bytes maxL ret :: ws) rm) (fun a U => a = as' ∧ Z.Warmed39 U.vm ∧ U.heap = h0) (fun _ _ _ _ _ => True) (fun _ U o U' => ∃ v L, o = .returned v ∧ Q v U'.heap L ∧ FrameEnd U o U' L rm.cells rm.slots)
theorem Ct.of {y : MethodName} {bytes : ByteArray} {maxL : Nat} {ret : Option FieldType} {rm : Room} {as' : Array Value} (hpl : plainFor y = true)
    (body : ∀ (p : Program) (e : Env) (s : State) (m : MethodId) (below : List Frame) (meth : Method) (c : Code) (T : State), Stand p l e rm s m as' below meth c T [] 0 0 → p.tables.exec = Jvm.exec → c.code = bytes → c.maxLocals = maxL → s.vm.findClass y.cls = some m.cls → meth.name = y.name → meth.sig.returnType = ret → meth.locks = false → Z.Warmed39 s.vm → T.heap = h0 →
      Go p e below (EndF s rm.cells rm.slots Q) T (entryFrame m as' maxL)) : Ct l y bytes maxL ret rm Z as' h0 Q := by
  intro ws
  refine MetFree.of_bodySF hpl hisR ?_
  intro p e s m args below meth c s₁ Bd hml0 hP hK
  obtain ⟨rfl, hZ, hh⟩ := hP
  obtain ⟨u, v, L, h1, h2, h3, r⟩ := body p e s m below meth c s₁ (Stand.of_body Bd) Bd.exec Bd.bytes hml0 (findClass_of_methodNamed Bd.named) (name_of_methodNamed Bd.named Bd.method).1 Bd.returns (BodyLoose.notSynchronized Bd) hZ (by rw [← hh, Bd.state]; rfl)
  exact ⟨u, _, h1, h2, h3, v, L, rfl, r.1, r.2⟩
theorem Ct.mono {y : MethodName} {bytes : ByteArray} {maxL : Nat} {ret : Option FieldType} {rm : Room} {as' : Array Value} {Q' : Option Value → Heap → List Loc → Prop} (k : Ct l y bytes maxL ret rm Z as' h0 Q) (q : ∀ v h L, Q v h L → Q' v h L) : Ct l y bytes maxL ret rm Z as' h0 Q' := by
  intro ws p e ha hc hk s m args below hf happ hP hK
  obtain ⟨n, o, h1, h2, h3, v, L, h4, h5, h6⟩ := k ws p e ha hc hk s m args below hf happ hP hK
  exact ⟨n, o, h1, h2, h3, v, L, h4, q _ _ _ h5, h6⟩
theorem wd {ws : List Jvm.Cond} (hw : ∀ d ∈ ws, d.before a0 Z = true) {d : Jvm.Cond} (i : Nat) (q : ws[i]? = some d) : d.before a0 Z = true := hw _ (List.mem_of_getElem? q)
theorem Go.fin (X : Stand p l e R s m args below meth c T locs cells slots) (hlk : meth.locks = false) {v : Option Value} (hv : meth.sig.returnType = none → v = none) {g : JFrame}
    (st : ∀ fs, (∀ (f : JFrame) (acts : List Action), f.method = m → f.locked = none → f.entered = [] → (doReturn e (T.setTop f) acts v).1 = T.setFrames fs) → Steps p.tables e below (T.setTop g) (T.setFrames fs)) (hc : cells ≤ ce) (hs : slots ≤ sl) (eT : T.heap = h) (q : Q v h locs) : Go p e below (EndF s ce sl Q) T g := by
  obtain ⟨fs, hr, hrun, hended, hW, hsame⟩ := X.leave (v := v) hv hlk
  subst eT
  exact ⟨_, _, _, st fs hr, hrun, hended, q, ⟨_, rfl⟩, hW, hsame.mono hc hs⟩
theorem Go.retI (X : Stand p l e R s m args below meth c T locs cells slots) (hx : p.tables.exec = Jvm.exec) (hlk : meth.locks = false) (hret : meth.sig.returnType = some .int) {z : Int32} (hd : decode c.code pc = .ok (.ireturn, 1)) (hc : cells ≤ ce) (hs : slots ≤ sl) (eT : T.heap = h) (q : Q (some (.int z)) h locs) : Go p e below (EndF s ce sl Q) T (mkF m pc Ls (.int z :: rest)) :=
  Go.fin X hlk (fun h => by rw [hret] at h; cases h) (fun fs hl => retOut X hx hret rfl (Or.inl ⟨rfl, Or.inl rfl, z, rfl⟩) hd hl) hc hs eT q
theorem Go.retZ (X : Stand p l e R s m args below meth c T locs cells slots) (hx : p.tables.exec = Jvm.exec) (hlk : meth.locks = false) (hret : meth.sig.returnType = some .boolean) {z : Int32} (hz : z = 0 ∨ z = 1) (hd : decode c.code pc = .ok (.ireturn, 1)) (hc : cells ≤ ce) (hs : slots ≤ sl) (eT : T.heap = h) (q : Q (some (.int z)) h locs) : Go p e below (EndF s ce sl Q) T (mkF m pc Ls (.int z :: rest)) :=
  Go.fin X hlk (fun h => by rw [hret] at h; cases h) (fun fs hl => retOut X hx hret (by rcases hz with rfl | rfl <;> rfl) (Or.inl ⟨rfl, Or.inr (Or.inl rfl), z, rfl⟩) hd hl) hc hs eT q
theorem Go.retS (X : Stand p l e R s m args below meth c T locs cells slots) (hx : p.tables.exec = Jvm.exec) (hlk : meth.locks = false) {t : FieldType} (hret : meth.sig.returnType = some t) (ht : t = .byte ∨ t = .char ∨ t = .short) {z : Int32} (hz : narrow t (.int z) = .int z) (hd : decode c.code pc = .ok (.ireturn, 1)) (hc : cells ≤ ce) (hs : slots ≤ sl) (eT : T.heap = h) (q : Q (some (.int z)) h locs) : Go p e below (EndF s ce sl Q) T (mkF m pc Ls (.int z :: rest)) :=
  Go.fin X hlk (fun h => by rw [hret] at h; cases h) (fun fs hl => retOut X hx hret hz (Or.inl ⟨rfl, Or.inr (Or.inr ht), z, rfl⟩) hd hl) hc hs eT q
theorem Go.retJ (X : Stand p l e R s m args below meth c T locs cells slots) (hx : p.tables.exec = Jvm.exec) (hlk : meth.locks = false) (hret : meth.sig.returnType = some .long) {z : Int64} (hd : decode c.code pc = .ok (.lreturn, 1)) (hc : cells ≤ ce) (hs : slots ≤ sl) (eT : T.heap = h) (q : Q (some (.long z)) h locs) : Go p e below (EndF s ce sl Q) T (mkF m pc Ls (.long z :: rest)) :=
  Go.fin X hlk (fun h => by rw [hret] at h; cases h) (fun fs hl => retOut X hx hret rfl (Or.inr (Or.inl ⟨rfl, rfl, z, rfl⟩)) hd hl) hc hs eT q
theorem Go.retA (X : Stand p l e R s m args below meth c T locs cells slots) (hx : p.tables.exec = Jvm.exec) (hlk : meth.locks = false) {t : FieldType} (hret : meth.sig.returnType = some t) (ht : t.isReference = true) {v : Value} (hv : v.isRef = true) (hd : decode c.code pc = .ok (.areturn, 1)) (hc : cells ≤ ce) (hs : slots ≤ sl) (eT : T.heap = h) (q : Q (some v) h locs) : Go p e below (EndF s ce sl Q) T (mkF m pc Ls (v :: rest)) :=
  Go.fin X hlk (fun h => by rw [hret] at h; cases h) (fun fs hl => retOut X hx hret (by cases t <;> simp_all [FieldType.isReference, narrow]) (Or.inr (Or.inr (Or.inr (Or.inr ⟨rfl, ht, hv⟩)))) hd hl) hc hs eT q
theorem Go.retV (X : Stand p l e R s m args below meth c T locs cells slots) (hx : p.tables.exec = Jvm.exec) (hlk : meth.locks = false) (hret : meth.sig.returnType = none) (hd : decode c.code pc = .ok (.return_, 1)) (hc : cells ≤ ce) (hs : slots ≤ sl) (eT : T.heap = h) (q : Q none h locs) : Go p e below (EndF s ce sl Q) T (mkF m pc Ls []) :=
  Go.fin X hlk (fun _ => rfl) (fun fs hl => X.returnOut hx hret hd hl) hc hs eT q
/-! one law a step that reads the tables or the heap -/
theorem Go.getF (X : Stand p l e R s m args below meth c T locs cells slots) (hx : p.tables.exec = Jvm.exec) (hZ : Z.Warmed39 s.vm) {own R0 O n d : String} {index : Nat} (hown : s.vm.findClass own = some m.cls) (w : (Jvm.Cond.fieldLink own index R0 n d).before a0 Z = true) (via : Via Z R0 O n d) (eT : T.heap = h) {a : Addr} {v : Value} (F : Fld Z h a O n d v)
    (hd : decode c.code pc = .ok (.getfield index, 3)) (k : ∀ T', Stand p l e R s m args below meth c T' locs cells slots → T'.heap = h → Go p e below P T' (mkF m (pc + 3) Ls (v :: rest))) : Go p e below P T (mkF m pc Ls (.ref a :: rest)) := by
  obtain ⟨T', X', e', st⟩ := RoadKit.getF X hx hZ hown (host := "") (Or.inl w) via eT F (g := mkF m pc Ls (.ref a :: rest)) rfl rfl hd
  exact Go.by st (k T' X' e')
theorem Go.getFN (X : Stand p l e R s m args below meth c T locs cells slots) (hx : p.tables.exec = Jvm.exec) (hZ : Z.Warmed39 s.vm) {own R0 O n d host : String} {index : Nat} (hown : s.vm.findClass own = some m.cls) (w : (Jvm.Cond.fieldLinkNest own index R0 n d host).before a0 Z = true) (via : Via Z R0 O n d) (eT : T.heap = h) {a : Addr} {v : Value} (F : Fld Z h a O n d v)
    (hd : decode c.code pc = .ok (.getfield index, 3)) (k : ∀ T', Stand p l e R s m args below meth c T' locs cells slots → T'.heap = h → Go p e below P T' (mkF m (pc + 3) Ls (v :: rest))) : Go p e below P T (mkF m pc Ls (.ref a :: rest)) := by
  obtain ⟨T', X', e', st⟩ := RoadKit.getF X hx hZ hown (host := host) (Or.inr w) via eT F (g := mkF m pc Ls (.ref a :: rest)) rfl rfl hd
  exact Go.by st (k T' X' e')
theorem Go.putF (X : Stand p l e R s m args below meth c T locs cells slots) (hx : p.tables.exec = Jvm.exec) (hZ : Z.Warmed39 s.vm) {own R0 O n d C : String} {index kk : Nat} {ty : FieldType} (hown : s.vm.findClass own = some m.cls) (w : (Jvm.Cond.fieldLink own index R0 n d).before a0 Z = true) (via : Via Z R0 O n d) (eT : T.heap = h) {a : Addr} {v old : Value} (F : Fld Z h a O n d old) (E : Exa Z h a C)
    (L : (Jvm.Cond.lays C O n d).before a0 Z = true ∨ ((Jvm.Cond.laysFinal C O n d).before a0 Z = true ∧ own = O ∧ meth.name = "<init>")) (wi : (Jvm.Cond.instantiable C kk).before a0 Z = true) (hty : parseFieldDescriptor d = some ty) (hn : narrow ty v = v) (hf : fits ty v = true) (hd : decode c.code pc = .ok (.putfield index, 3))
    (k : ∀ T' h', Stand p l e R s m args below meth c T' (locs ++ [⟨a, RoadKit.slotOf Z O n d⟩]) cells slots → T'.heap = h' → Wr h h' a (RoadKit.slotOf Z O n d) v → Go p e below P T' (mkF m (pc + 3) Ls rest)) : Go p e below P T (mkF m pc Ls (v :: .ref a :: rest)) := by
  obtain ⟨T', h', X', e', W', st⟩ := RoadKit.putF X hx hZ hown (host := "") (Or.inl w) via eT F E L wi hty hn hf (g := mkF m pc Ls (v :: .ref a :: rest)) rfl rfl hd
  exact Go.by st (k T' h' X' e' W')
theorem Go.getS (X : Stand p l e R s m args below meth c T locs cells slots) (hx : p.tables.exec = Jvm.exec) (hZ : Z.Warmed39 s.vm) {own R0 O n d : String} {index : Nat} (hown : s.vm.findClass own = some m.cls) (w : (Jvm.Cond.fieldLink own index R0 n d).before a0 Z = true) (via : Via Z R0 O n d) (eT : T.heap = h) {v : Value} (F : Sta Z h O n d v) {st : List Value}
    (hd : decode c.code pc = .ok (.getstatic index, 3)) (k : ∀ T', Stand p l e R s m args below meth c T' locs cells slots → T'.heap = h → Go p e below P T' (mkF m (pc + 3) Ls (v :: st))) : Go p e below P T (mkF m pc Ls st) := by
  obtain ⟨T', X', e', st'⟩ := RoadKit.getS X hx hZ hown (host := "") w via eT F (g := mkF m pc Ls st) rfl hd
  exact Go.by st' (k T' X' e')
theorem Go.getSN (X : Stand p l e R s m args below meth c T locs cells slots) (hx : p.tables.exec = Jvm.exec) (hZ : Z.Warmed39 s.vm) {own R0 O n d host : String} {index : Nat} (hown : s.vm.findClass own = some m.cls) (w : (Jvm.Cond.fieldLinkNest own index R0 n d host).before a0 Z = true) (via : Via Z R0 O n d) (eT : T.heap = h) {v : Value} (F : Sta Z h O n d v) {st : List Value}
    (hd : decode c.code pc = .ok (.getstatic index, 3)) (k : ∀ T', Stand p l e R s m args below meth c T' locs cells slots → T'.heap = h → Go p e below P T' (mkF m (pc + 3) Ls (v :: st))) : Go p e below P T (mkF m pc Ls st) := by
  obtain ⟨T', X', e', st'⟩ := getS2 X hx hZ hown (Or.inr w) via eT F (g := mkF m pc Ls st) rfl hd
  exact Go.by st' (k T' X' e')
theorem Go.newO (X : Stand p l e R s m args below meth c T locs cells slots) (hx : p.tables.exec = Jvm.exec) (hZ : Z.Warmed39 s.vm) {own C : String} {index n : Nat} (hown : s.vm.findClass own = some m.cls) (w : (Jvm.Cond.classLink own index C).before a0 Z = true) (wi : (Jvm.Cond.instantiable C n).before a0 Z = true) (wz : (Jvm.Cond.initialized C).before a0 Z = true) (eT : T.heap = h) {st : List Value}
    (hd : decode c.code pc = .ok (.new index, 3)) (hc : cells + 1 ≤ R.cells) (hl : slots + n ≤ R.slots)
    (k : ∀ T' h' b, Stand p l e R s m args below meth c T' locs (cells + 1) (slots + n) → T'.heap = h' → Ext h h' → b = h.size → Exa Z h' b C → (∀ {O nm d : String} {ty : FieldType}, Laid Z a0 C O nm d → parseFieldDescriptor d = some ty → Fld Z h' b O nm d (defaultValue ty)) → Go p e below P T' (mkF m (pc + 3) Ls (.ref b :: st))) : Go p e below P T (mkF m pc Ls st) := by
  obtain ⟨T', h', X', e', E', A', D', -, st'⟩ := RoadKit.newO X hx hZ hown w wi wz eT (g := mkF m pc Ls st) rfl hd hc hl
  exact Go.by st' (k T' h' _ X' e' E' rfl A' D')
theorem Go.newP (X : Stand p l e R s m args below meth c T locs cells slots) (hx : p.tables.exec = Jvm.exec) (hZ : Z.Warmed39 s.vm) {aty : ArrayType} (w : (Jvm.Cond.arrayClass (newarray.typeOf aty)).before a0 Z = true) (eT : T.heap = h) {n : Int32} (hd : decode c.code pc = .ok (.newarray aty, 2)) (hn : ¬ n < 0) {cap : Nat} (hcap : n.toNatClampNeg ≤ cap) (hb : cap * 8 ≤ 536870912) (hc : cells + 1 ≤ R.cells) (hl : slots + cap ≤ R.slots)
    (k : ∀ T' h' b kA, Stand p l e R s m args below meth c T' locs (cells + 1) (slots + cap) → T'.heap = h' → Ext h h' → b = h.size → Arv Z h' b kA (newarray.typeOf aty) n [] (defaultValue (newarray.typeOf aty)) → Go p e below P T' (mkF m (pc + 2) Ls (.ref b :: rest))) : Go p e below P T (mkF m pc Ls (.int n :: rest)) := by
  obtain ⟨T', h', kA, X', e', E', A', st'⟩ := RoadKit.newP X hx hZ w eT (g := mkF m pc Ls (.int n :: rest)) rfl hd rfl hn hcap hb hc hl
  exact Go.by st' (k T' h' _ kA X' e' E' rfl (Arv.new A' hn))
theorem Go.initO (X : Stand p l e R s m args below meth c T locs cells slots) (hx : p.tables.exec = Jvm.exec) (hZ : Z.Warmed39 s.vm) {own : String} {idx : Nat} (hown : s.vm.findClass own = some m.cls) (w1 : (Jvm.Cond.methodLink own idx Lib.objectInit).before a0 Z = true) (w2 : (Jvm.Cond.instanceMethod Lib.objectInit).before a0 Z = true) (w3 : (Jvm.Cond.code Lib.objectInit ⟨#[0xb1]⟩ 1 none).before a0 Z = true) (eT : T.heap = h)
    {a : Addr} (hsz : Ls.size = c.maxLocals) (hd : decode c.code pc = .ok (.invokespecial idx, 3)) (hf : 1 ≤ R.frames) {W : Nat} (hW : (rest.map fun v => v.category).sum = W) (hl : W + 12 ≤ R.locals)
    (k : ∀ T', Stand p l e R s m args below meth c T' locs cells slots → T'.heap = h → Go p e below P T' (mkF m (pc + 3) Ls rest)) : Go p e below P T (mkF m pc Ls (.ref a :: rest)) := by
  obtain ⟨T', X', e', st⟩ := RoadKit.initO X hx hZ hown w1 w2 w3 eT (g := mkF m pc Ls (.ref a :: rest)) rfl hsz rfl hd hf (W := W) (by subst hW; show 2 * 0 + _ ≤ _; omega) hl
  exact Go.by st (k T' X' e')
theorem Go.castY (X : Stand p l e R s m args below meth c T locs cells slots) (hx : p.tables.exec = Jvm.exec) (hZ : Z.Warmed39 s.vm) {own K : String} {index : Nat} (hown : s.vm.findClass own = some m.cls) (w : (Jvm.Cond.classLink own index K).before a0 Z = true) (eT : T.heap = h) {a : Addr} (F : Ins Z h a K true) (hd : decode c.code pc = .ok (.checkcast index, 3))
    (k : ∀ T', Stand p l e R s m args below meth c T' locs cells slots → T'.heap = h → Go p e below P T' (mkF m (pc + 3) Ls (.ref a :: rest))) : Go p e below P T (mkF m pc Ls (.ref a :: rest)) := by
  obtain ⟨T', X', e', st⟩ := RoadKit.castY X hx hZ hown w eT F (g := mkF m pc Ls (.ref a :: rest)) rfl rfl hd
  exact Go.by st (k T' X' e')
theorem Go.instY (X : Stand p l e R s m args below meth c T locs cells slots) (hx : p.tables.exec = Jvm.exec) (hZ : Z.Warmed39 s.vm) {own K : String} {index : Nat} (hown : s.vm.findClass own = some m.cls) (w : (Jvm.Cond.classLink own index K).before a0 Z = true) (eT : T.heap = h) {a : Addr} (F : Ins Z h a K true) (hd : decode c.code pc = .ok (.instanceof index, 3))
    (k : ∀ T', Stand p l e R s m args below meth c T' locs cells slots → T'.heap = h → Go p e below P T' (mkF m (pc + 3) Ls (.int 1 :: rest))) : Go p e below P T (mkF m pc Ls (.ref a :: rest)) := by
  obtain ⟨T', X', e', st⟩ := RoadKit.instY X hx hZ hown w eT F (g := mkF m pc Ls (.ref a :: rest)) rfl rfl hd
  exact Go.by st (k T' X' e')
theorem Go.instN (X : Stand p l e R s m args below meth c T locs cells slots) (hx : p.tables.exec = Jvm.exec) (hZ : Z.Warmed39 s.vm) {own K C : String} {index : Nat} (hown : s.vm.findClass own = some m.cls) (w : (Jvm.Cond.classLink own index K).before a0 Z = true) (eT : T.heap = h) {a : Addr} (E : Exa Z h a C) (F : ∃ c t, Z.vm.findClass C = some c ∧ Z.vm.findClass K = some t ∧ Z.vm.assignable c t = false) (hd : decode c.code pc = .ok (.instanceof index, 3))
    (k : ∀ T', Stand p l e R s m args below meth c T' locs cells slots → T'.heap = h → Go p e below P T' (mkF m (pc + 3) Ls (.int 0 :: rest))) : Go p e below P T (mkF m pc Ls (.ref a :: rest)) := by
  obtain ⟨T', X', e', st⟩ := RoadKit.instNo X hx hZ hown w eT E F (g := mkF m pc Ls (.ref a :: rest)) rfl rfl hd
  exact Go.by st (k T' X' e')
theorem Go.aload (X : Stand p l e R s m args below meth c T locs cells slots) (hx : p.tables.exec = Jvm.exec) (hZ : Z.Warmed39 s.vm) (eT : T.heap = h) {a : Addr} {cl : Cell} {ty : FieldType} (A : Arr Z h a cl ty) {j : Int32} {v : Value} (hin : ¬ (j < 0 ∨ cl.slots.size ≤ j.toNatClampNeg)) (hat : cl.slots[j.toNatClampNeg]? = some v) {i : Instr}
    (hi : (i = .iaload ∧ ty = .int) ∨ (i = .laload ∧ ty = .long) ∨ (i = .aaload ∧ ty.isReference = true) ∨ (i = .caload ∧ ty = .char) ∨ (i = .saload ∧ ty = .short) ∨ (i = .baload ∧ ty = .byte)) (hd : decode c.code pc = .ok (i, 1)) (k : Go p e below P T (mkF m (pc + 1) Ls (v :: rest))) : Go p e below P T (mkF m pc Ls (.int j :: .ref a :: rest)) := by
  refine Go.by (fun t kk => ?_) k
  have hc : T.heap[a]? = some cl := by rw [eT]; exact A.1
  have ha := State.isArrayOf_alike hZ.alike A.2.1
  rcases hi with ⟨rfl, rfl⟩ | ⟨rfl, rfl⟩ | ⟨rfl, hr⟩ | ⟨rfl, rfl⟩ | ⟨rfl, rfl⟩ | ⟨rfl, rfl⟩
  · exact X.iaload hx hc ha A.2.2 hin hat (g := mkF m pc Ls (.int j :: .ref a :: rest)) rfl rfl hd _ kk
  · exact X.laload hx hc ha A.2.2 hin hat (g := mkF m pc Ls (.int j :: .ref a :: rest)) rfl rfl hd _ kk
  · exact X.aaload hx hc ha hr A.2.2 hin hat (g := mkF m pc Ls (.int j :: .ref a :: rest)) rfl rfl hd _ kk
  · exact X.caload hx hc ha A.2.2 hin hat (g := mkF m pc Ls (.int j :: .ref a :: rest)) rfl rfl hd _ kk
  · exact X.saload hx hc ha A.2.2 hin hat (g := mkF m pc Ls (.int j :: .ref a :: rest)) rfl rfl hd _ kk
  · exact X.baloadBytes hx hc ha A.2.2 hin hat (g := mkF m pc Ls (.int j :: .ref a :: rest)) rfl rfl hd _ kk
theorem Go.alen (X : Stand p l e R s m args below meth c T locs cells slots) (hx : p.tables.exec = Jvm.exec) (hZ : Z.Warmed39 s.vm) (eT : T.heap = h) {a : Addr} {cl : Cell} {ty : FieldType} (A : Arr Z h a cl ty) {z : Int32} (hz : cl.slots.size.toInt32 = z) (hd : decode c.code pc = .ok (.arraylength, 1)) (k : Go p e below P T (mkF m (pc + 1) Ls (.int z :: rest))) : Go p e below P T (mkF m pc Ls (.ref a :: rest)) := by
  refine Go.by (fun t kk => ?_) k
  subst hz
  exact X.arraylength hx (by rw [eT]; exact A.1) (State.isArrayOf_alike hZ.alike A.2.1) (g := mkF m pc Ls (.ref a :: rest)) rfl rfl hd _ kk
theorem Go.alenV (X : Stand p l e R s m args below meth c T locs cells slots) (hx : p.tables.exec = Jvm.exec) (hZ : Z.Warmed39 s.vm) (eT : T.heap = h) {a : Addr} {k : ClassId} {ty : FieldType} {z : Int32} {vs : List Value} {dv : Value} (F : Arv Z h a k ty z vs dv) (hd : decode c.code pc = .ok (.arraylength, 1)) (kk : Go p e below P T (mkF m (pc + 1) Ls (.int z :: rest))) : Go p e below P T (mkF m pc Ls (.ref a :: rest)) := by
  obtain ⟨cl, A, -, S, q, -, -⟩ := F; exact Go.alen X hx hZ eT A (len_of S q) hd kk
theorem Go.aloadV (X : Stand p l e R s m args below meth c T locs cells slots) (hx : p.tables.exec = Jvm.exec) (hZ : Z.Warmed39 s.vm) (eT : T.heap = h) {a : Addr} {k : ClassId} {ty : FieldType} {z : Int32} {vs : List Value} {dv : Value} (F : Arv Z h a k ty z vs dv) {j : Int32} {v : Value} (hj : ¬ j < 0 ∧ j < z) (hv : vs.getD j.toNatClampNeg dv = v) {i : Instr}
    (hi : (i = .iaload ∧ ty = .int) ∨ (i = .laload ∧ ty = .long) ∨ (i = .aaload ∧ ty.isReference = true) ∨ (i = .caload ∧ ty = .char) ∨ (i = .saload ∧ ty = .short) ∨ (i = .baload ∧ ty = .byte)) (hd : decode c.code pc = .ok (i, 1)) (kk : Go p e below P T (mkF m (pc + 1) Ls (v :: rest))) : Go p e below P T (mkF m pc Ls (.int j :: .ref a :: rest)) := by
  obtain ⟨cl, A, -, S, q, H, -⟩ := F
  have hin := inb_of S hj
  exact Go.aload X hx hZ eT A hin (H.at hin hv) hi hd kk
theorem Go.istV (X : Stand p l e R s m args below meth c T locs cells slots) (hx : p.tables.exec = Jvm.exec) (hZ : Z.Warmed39 s.vm) (eT : T.heap = h) {a : Addr} {k : ClassId} {z : Int32} {vs : List Value} {dv : Value} (F : Arv Z h a k .int z vs dv) {j x : Int32} (hj : ¬ j < 0 ∧ j < z) (i : Nat) (hji : j.toNatClampNeg = i) (hi : i < vs.length) (hd : decode c.code pc = .ok (.iastore, 1))
    (kk : ∀ T' h', Stand p l e R s m args below meth c T' (locs ++ [⟨a, j.toNatClampNeg⟩]) cells slots → T'.heap = h' → Wr h h' a j.toNatClampNeg (.int x) → Arv Z h' a k .int z (vs.set i (.int x)) dv → Go p e below P T' (mkF m (pc + 1) Ls rest)) : Go p e below P T (mkF m pc Ls (.int x :: .int j :: .ref a :: rest)) := by
  obtain ⟨cl, A, q1, S, q3, H, G⟩ := F
  have hin := inb_of S hj
  obtain ⟨T', h', X', e', W', st⟩ := stI X hx hZ eT A (j := j) (x := x) hin (g := mkF m pc Ls (.int x :: .int j :: .ref a :: rest)) rfl rfl hd
  exact Go.by st (kk T' h' X' e' W' (Arv.set A q1 S q3 H G rfl W' i hji hi))
theorem Go.jstV (X : Stand p l e R s m args below meth c T locs cells slots) (hx : p.tables.exec = Jvm.exec) (hZ : Z.Warmed39 s.vm) (eT : T.heap = h) {a : Addr} {k : ClassId} {z : Int32} {vs : List Value} {dv : Value} (F : Arv Z h a k .long z vs dv) {j : Int32} {x : Int64} (hj : ¬ j < 0 ∧ j < z) (i : Nat) (hji : j.toNatClampNeg = i) (hi : i < vs.length) (hd : decode c.code pc = .ok (.lastore, 1))
    (kk : ∀ T' h', Stand p l e R s m args below meth c T' (locs ++ [⟨a, j.toNatClampNeg⟩]) cells slots → T'.heap = h' → Wr h h' a j.toNatClampNeg (.long x) → Arv Z h' a k .long z (vs.set i (.long x)) dv → Go p e below P T' (mkF m (pc + 1) Ls rest)) : Go p e below P T (mkF m pc Ls (.long x :: .int j :: .ref a :: rest)) := by
  obtain ⟨cl, A, q1, S, q3, H, G⟩ := F
  have hin := inb_of S hj
  obtain ⟨T', h', X', e', W', st⟩ := stJ X hx hZ eT A (j := j) (x := x) hin (g := mkF m pc Ls (.long x :: .int j :: .ref a :: rest)) rfl rfl hd
  exact Go.by st (kk T' h' X' e' W' (Arv.set A q1 S q3 H G rfl W' i hji hi))
theorem Go.nstV (X : Stand p l e R s m args below meth c T locs cells slots) (hx : p.tables.exec = Jvm.exec) (hZ : Z.Warmed39 s.vm) (eT : T.heap = h) {a : Addr} {k : ClassId} {z : Int32} {vs : List Value} {dv : Value} {ty : FieldType} (F : Arv Z h a k ty z vs dv) {j x : Int32} (hj : ¬ j < 0 ∧ j < z) (i : Nat) (hji : j.toNatClampNeg = i) (hi : i < vs.length) {ins : Instr} (hii : (ins = .castore ∧ ty = .char) ∨ (ins = .bastore ∧ ty = .byte)) (hd : decode c.code pc = .ok (ins, 1))
    (kk : ∀ T' h', Stand p l e R s m args below meth c T' (locs ++ [⟨a, j.toNatClampNeg⟩]) cells slots → T'.heap = h' → Wr h h' a j.toNatClampNeg (.int (nar ty x)) → Arv Z h' a k ty z (vs.set i (.int (nar ty x))) dv → Go p e below P T' (mkF m (pc + 1) Ls rest)) : Go p e below P T (mkF m pc Ls (.int x :: .int j :: .ref a :: rest)) := by
  obtain ⟨cl, A, q1, S, q3, H, G⟩ := F
  have hin := inb_of S hj
  rcases hii with ⟨rfl, rfl⟩ | ⟨rfl, rfl⟩
  · obtain ⟨T', h', X', e', W', st⟩ := stC X hx hZ eT A (j := j) (x := x) hin (g := mkF m pc Ls (.int x :: .int j :: .ref a :: rest)) rfl rfl hd
    exact Go.by st (kk T' h' X' e' W' (Arv.set A q1 S q3 H G (fits_nar_char x) W' i hji hi))
  · obtain ⟨T', h', X', e', W', st⟩ := stB X hx hZ eT A (j := j) (x := x) hin (g := mkF m pc Ls (.int x :: .int j :: .ref a :: rest)) rfl rfl hd
    exact Go.by st (kk T' h' X' e' W' (Arv.set A q1 S q3 H G (fits_nar_byte x) W' i hji hi))
theorem Go.cloneA (X : Stand p l e R s m args below meth c T locs cells slots) (hx : p.tables.exec = Jvm.exec) (hZ : Z.Warmed39 s.vm) {own ad : String} {index : Nat} (hown : s.vm.findClass own = some m.cls) (w1 : (Jvm.Cond.methodLink own index ⟨ad, "clone", "()Ljava/lang/Object;"⟩).before a0 Z = true) (w2 : (Jvm.Cond.sameMethod ad "java/lang/Object" "clone" "()Ljava/lang/Object;").before a0 Z = true) (w3 : (Jvm.Cond.native ⟨"java/lang/Object", "clone", "()Ljava/lang/Object;"⟩).before a0 Z = true)
    (w4 : (Jvm.Cond.instanceMethod ⟨"java/lang/Object", "clone", "()Ljava/lang/Object;"⟩).before a0 Z = true) (w5 : (Jvm.Cond.selects ad ⟨ad, "clone", "()Ljava/lang/Object;"⟩ ⟨"java/lang/Object", "clone", "()Ljava/lang/Object;"⟩).before a0 Z = true) (w6 : (Jvm.Cond.castable ad "java/lang/Cloneable").before a0 Z = true) (eT : T.heap = h) {a : Addr} {cl : Cell} {ty : FieldType} (A : Arr Z h a cl ty) (E : Exa Z h a ad) (F : FitC Z cl)
    (hsz : Ls.size = c.maxLocals) (hd : decode c.code pc = .ok (.invokevirtual index, 3)) (hf : 1 ≤ R.frames) {W cap : Nat} (hW : (rest.map fun v => v.category).sum = W) (hl : W + 14 ≤ R.locals) (hcap : cl.slots.size ≤ cap) (hc : cells + 1 ≤ R.cells) (hsl : slots + cap ≤ R.slots)
    (k : ∀ T' h' b, Stand p l e R s m args below meth c T' locs (cells + 1) (slots + cap) → T'.heap = h' → Ext h h' → b = h.size → Arr Z h' b (cloneOf cl) ty → Exa Z h' b ad → Go p e below P T' (mkF m (pc + 3) Ls (.ref b :: rest))) : Go p e below P T (mkF m pc Ls (.ref a :: rest)) := by
  obtain ⟨T', h', X', e', E', A', X2, st⟩ := RoadKit.cloneA X hx hZ hown w1 w2 w3 w4 w5 w6 eT A E F (g := mkF m pc Ls (.ref a :: rest)) rfl hsz rfl hd hf (W := W) (cap := cap) (by subst hW; show 2 * 0 + _ ≤ _; omega) hl hcap hc hsl
  exact Go.by st (k T' h' _ X' e' E' rfl A' X2)
/-! calls by the callee's contract -/
section Call
variable {own : String} {index : Nat} {y : MethodName} {bytes : ByteArray} {maxL : Nat} {ret : Option FieldType} {rm : Room} {argsL : List Value} {Q' : Option Value → Heap → List Loc → Prop} {st : List Value} {W : Nat}
theorem Go.callS (X : Stand p l e R s m args below meth c T locs cells slots) (hx : p.tables.exec = Jvm.exec) (hZ : Z.Warmed39 s.vm) (hown : s.vm.findClass own = some m.cls) (w1 : (Jvm.Cond.methodLink own index y).before a0 Z = true) (w2 : (Jvm.Cond.static y).before a0 Z = true) (w3 : (Jvm.Cond.initialized y.cls).before a0 Z = true) (w4 : (Jvm.Cond.code y bytes maxL ret).before a0 Z = true)
    (hy : y.cls ≠ "java/lang/invoke/MethodHandle" ∧ y.cls ≠ "java/lang/invoke/VarHandle") (ct : Ct l y bytes maxL ret rm Z argsL.toArray h Q') (eT : T.heap = h) (hsz : Ls.size = c.maxLocals) (hlen : ∀ sig, parseMethodDescriptor y.desc = some sig → argsL.length = sig.parameters.length) (hst : st = argsL.reverse ++ rest) (hW : (rest.map fun v => v.category).sum = W)
    (hd : decode c.code pc = .ok (.invokestatic index, 3)) (hf : rm.frames + 1 ≤ R.frames) (hl : W + (maxL + 11) + rm.locals ≤ R.locals) (hc : cells + rm.cells ≤ R.cells) (hs : slots + rm.slots ≤ R.slots)
    (k : ∀ v T' h' L, Stand p l e R s m args below meth c T' (locs ++ L) (cells + rm.cells) (slots + rm.slots) → T'.heap = h' → Q' v h' L → Go p e below P T' (mkF m (pc + 3) Ls (v.toList ++ rest))) : Go p e below P T (mkF m pc Ls st) := by
  obtain ⟨v, _, ⟨T', L, k', n'⟩, -, X', ⟨Lc, hQ, hl', hk', hn'⟩, st'⟩ := Jvm.LawKit.callS X hx (y := y) hown (mvT hZ w1) (mvT hZ w2) (mvT hZ w3) (mvT hZ w4) hy (backOf (W := W) (ct []) hZ w4 w3 hf hl) (g := mkF m pc Ls st) rfl hsz (argsL := argsL) (rest := rest) hlen hst (by subst hW; show 2 * 0 + _ ≤ _; omega) hd (fun _ _ => ⟨rfl, eT, hc, hs⟩)
  dsimp only [Pt.U, Pt.locs, Pt.cells, Pt.slots] at X' hl' hk' hn' st' hQ
  subst hl' hk' hn'
  exact Go.by st' (k v T' _ Lc X' rfl hQ)
theorem Go.callC (X : Stand p l e R s m args below meth c T locs cells slots) (hx : p.tables.exec = Jvm.exec) (hZ : Z.Warmed39 s.vm) (hown : s.vm.findClass own = some m.cls) (hy1 : y.name = "<init>") (w1 : (Jvm.Cond.methodLink own index y).before a0 Z = true) (w2 : (Jvm.Cond.instanceMethod y).before a0 Z = true) (w3 : (Jvm.Cond.initialized y.cls).before a0 Z = true) (w4 : (Jvm.Cond.code y bytes maxL none).before a0 Z = true)
    (hy : y.cls ≠ "java/lang/invoke/MethodHandle" ∧ y.cls ≠ "java/lang/invoke/VarHandle") {a : Addr} (ct : Ct l y bytes maxL none rm Z (.ref a :: argsL).toArray h Q') (eT : T.heap = h) (hsz : Ls.size = c.maxLocals) (hlen : ∀ sig, parseMethodDescriptor y.desc = some sig → argsL.length = sig.parameters.length) (hst : st = argsL.reverse ++ .ref a :: rest) (hW : (rest.map fun v => v.category).sum = W)
    (hd : decode c.code pc = .ok (.invokespecial index, 3)) (hf : rm.frames + 1 ≤ R.frames) (hl : W + (maxL + 11) + rm.locals ≤ R.locals) (hc : cells + rm.cells ≤ R.cells) (hs : slots + rm.slots ≤ R.slots)
    (k : ∀ v T' h' L, Stand p l e R s m args below meth c T' (locs ++ L) (cells + rm.cells) (slots + rm.slots) → T'.heap = h' → Q' v h' L → Go p e below P T' (mkF m (pc + 3) Ls (v.toList ++ rest))) : Go p e below P T (mkF m pc Ls st) := by
  obtain ⟨v, _, ⟨T', L, k', n'⟩, -, X', ⟨Lc, hQ, hl', hk', hn'⟩, st'⟩ := X.specialBack hx (y := y) hy1 hown (mvT hZ w1) (mvT hZ w2) (mvT hZ w4) hy (backOf (W := W) (ct []) hZ w4 w3 hf hl) (g := mkF m pc Ls st) rfl hsz (Steps.refl _) (a := a) (argsL := argsL) (rest := rest) hlen hst (by subst hW; show 2 * 0 + _ ≤ _; omega) hd (fun _ _ => ⟨rfl, eT, hc, hs⟩)
  dsimp only [Pt.U, Pt.locs, Pt.cells, Pt.slots] at X' hl' hk' hn' st' hQ
  subst hl' hk' hn'
  exact Go.by (fun _ kk => st'.trans kk) (k v T' _ Lc X' rfl hQ)
theorem Go.callV (X : Stand p l e R s m args below meth c T locs cells slots) (hx : p.tables.exec = Jvm.exec) (hZ : Z.Warmed39 s.vm) (hown : s.vm.findClass own = some m.cls) {C : String} {z : MethodName} (w1 : (Jvm.Cond.methodLink own index y).before a0 Z = true) (w2 : (Jvm.Cond.declares y).before a0 Z = true) (nf : NotFace s y) (w5 : (Jvm.Cond.selects C y z).before a0 Z = true) (w6 : (Jvm.Cond.instanceMethod z).before a0 Z = true) (w3 : (Jvm.Cond.initialized z.cls).before a0 Z = true) (w4 : (Jvm.Cond.code z bytes maxL ret).before a0 Z = true)
    (hy : y.cls ≠ "java/lang/invoke/MethodHandle" ∧ y.cls ≠ "java/lang/invoke/VarHandle") {a : Addr} (E : Exa Z h a C) (ct : Ct l z bytes maxL ret rm Z (.ref a :: argsL).toArray h Q') (eT : T.heap = h) (hsz : Ls.size = c.maxLocals) (hlen : ∀ sig, parseMethodDescriptor y.desc = some sig → argsL.length = sig.parameters.length) (hst : st = argsL.reverse ++ .ref a :: rest) (hW : (rest.map fun v => v.category).sum = W)
    (hd : decode c.code pc = .ok (.invokevirtual index, 3)) (hf : rm.frames + 1 ≤ R.frames) (hl : W + (maxL + 11) + rm.locals ≤ R.locals) (hc : cells + rm.cells ≤ R.cells) (hs : slots + rm.slots ≤ R.slots)
    (k : ∀ v T' h' L, Stand p l e R s m args below meth c T' (locs ++ L) (cells + rm.cells) (slots + rm.slots) → T'.heap = h' → Q' v h' L → Go p e below P T' (mkF m (pc + 3) Ls (v.toList ++ rest))) : Go p e below P T (mkF m pc Ls st) := by
  obtain ⟨cq, kq, qa, qb, qc⟩ := isOf hZ eT E
  obtain ⟨v, _, ⟨T', L, k', n'⟩, -, X', ⟨Lc, hQ, hl', hk', hn'⟩, st'⟩ := X.virtualBack hx (y := y) (z := z) hown (mvT hZ w1) (mvT hZ w2) nf (mvT hZ w5) (mvT hZ w6) hy (backOf (W := W) (ct []) hZ w4 w3 hf hl) qa qc (g := mkF m pc Ls st) rfl hsz (Steps.refl _) (argsL := argsL) (rest := rest) hlen hst (by subst hW; show 2 * 0 + _ ≤ _; omega) hd (fun _ _ => ⟨rfl, eT, hc, hs⟩)
  dsimp only [Pt.U, Pt.locs, Pt.cells, Pt.slots] at X' hl' hk' hn' st' hQ
  subst hl' hk' hn'
  exact Go.by (fun _ kk => st'.trans kk) (k v T' _ Lc X' rfl hQ)
theorem Go.callVU (X : Stand p l e R s m args below meth c T locs cells slots) (hx : p.tables.exec = Jvm.exec) (hZ : Z.Warmed39 s.vm) (hown : s.vm.findClass own = some m.cls) {C owner : String} {z : MethodName} (w1 : (Jvm.Cond.methodLink own index y).before a0 Z = true) (ws : (Jvm.Cond.sameMethod y.cls owner y.name y.desc).before a0 Z = true) (w2 : (Jvm.Cond.declares ⟨owner, y.name, y.desc⟩).before a0 Z = true) (ho : owner ≠ "java/lang/invoke/MethodHandle" ∧ owner ≠ "java/lang/invoke/VarHandle") (w5 : (Jvm.Cond.selects C y z).before a0 Z = true) (w6 : (Jvm.Cond.instanceMethod z).before a0 Z = true) (w3 : (Jvm.Cond.initialized z.cls).before a0 Z = true) (w4 : (Jvm.Cond.code z bytes maxL ret).before a0 Z = true)
    {a : Addr} (E : Exa Z h a C) (ct : Ct l z bytes maxL ret rm Z (.ref a :: argsL).toArray h Q') (eT : T.heap = h) (hsz : Ls.size = c.maxLocals) (hlen : ∀ sig, parseMethodDescriptor y.desc = some sig → argsL.length = sig.parameters.length) (hst : st = argsL.reverse ++ .ref a :: rest) (hW : (rest.map fun v => v.category).sum = W)
    (hd : decode c.code pc = .ok (.invokevirtual index, 3)) (hf : rm.frames + 1 ≤ R.frames) (hl : W + (maxL + 11) + rm.locals ≤ R.locals) (hc : cells + rm.cells ≤ R.cells) (hs : slots + rm.slots ≤ R.slots)
    (k : ∀ v T' h' L, Stand p l e R s m args below meth c T' (locs ++ L) (cells + rm.cells) (slots + rm.slots) → T'.heap = h' → Q' v h' L → Go p e below P T' (mkF m (pc + 3) Ls (v.toList ++ rest))) : Go p e below P T (mkF m pc Ls st) := by
  obtain ⟨cq, kq, qa, qb, qc⟩ := isOf hZ eT E
  obtain ⟨v, _, ⟨T', L, k', n'⟩, -, X', ⟨Lc, hQ, hl', hk', hn'⟩, st'⟩ := X.virtualBackUp hx (x := y) (y := z) (owner := owner) hown (mvT hZ w1) (mvT hZ ws) (mvT hZ w2) ho (mvT hZ w5) (mvT hZ w6) (backOf (W := W) (ct []) hZ w4 w3 hf hl) qa qc (g := mkF m pc Ls st) rfl hsz (Steps.refl _) (argsL := argsL) (rest := rest) hlen hst (by subst hW; show 2 * 0 + _ ≤ _; omega) hd (fun _ _ => ⟨rfl, eT, hc, hs⟩)
  dsimp only [Pt.U, Pt.locs, Pt.cells, Pt.slots] at X' hl' hk' hn' st' hQ
  subst hl' hk' hn'
  exact Go.by (fun _ kk => st'.trans kk) (k v T' _ Lc X' rfl hQ)
end Call
theorem eqI_v {args : Array Value} {first s : State} {o : Option Outcome} {idx : List Nat} {t : Term} {n : Int32} (h : (Jvm.Cond.eq t (.int n)).value args first o s idx = some true) : t.eval args first o idx s = some (.int n) := by
  simp only [Cond.value, Term.eval] at h
  cases ht : t.eval args first o idx s with
  | none => simp [ht] at h
  | some x => cases x <;> simp [ht] at h ⊢; exact h
theorem nsRoot {O K : String} {n : Nat} (w : (Jvm.Cond.noSuperclass O).before a0 Z = true) (wk : (Jvm.Cond.instantiable K n).before a0 Z = true) (hn : O ≠ K) : NS Z O K := by
  obtain ⟨c, k, h1, h2, h3, -, -⟩ := Cond.noSuperclass_spec w
  obtain ⟨t, kt, g1, -⟩ := Cond.instantiable_spec wk
  have ne := ids_ne h1 g1 hn
  refine ⟨c, t, h1, g1, fun fuel => ?_⟩
  cases fuel with
  | zero => rfl
  | succ f => simp [Vm.isSubclassAux, ne, h2, h3]
theorem nsNo {C S K : String} {n : Nat} (w : (Jvm.Cond.superclass C S).before a0 Z = true) (wk : (Jvm.Cond.instantiable K n).before a0 Z = true) (ns : NS Z C K) (hn : C ≠ K) : ∃ c t, Z.vm.findClass C = some c ∧ Z.vm.findClass K = some t ∧ Z.vm.assignable c t = false := by
  obtain ⟨c, t, h0, g0, n3⟩ := ns
  obtain ⟨p, k, kp, h1, h2, h3, h4, h5, -, h7⟩ := Cond.superclass_spec h0 w
  obtain ⟨t', k', g1, g2, g3, g4, -⟩ := Cond.instantiable_spec wk
  cases g0.symm.trans g1
  have ne := ids_ne h0 g0 hn
  have g5 : k'.isInterface = false := by cases hq : k'.isInterface <;> simp [hq] at g4 ⊢
  refine ⟨c, t, h0, g0, ?_⟩
  show Z.vm.assignableAux (255 + 1) c t = false
  simp [Vm.assignableAux, ne, h2, g2, h5, g3, g5, Vm.isSubclass, n3]
theorem lenI_v {args : Array Value} {first s : State} {o : Option Outcome} {idx : List Nat} {t : Term} {a : Addr} {cl : Cell} {n : Int32} (h : (Term.length t).eval args first o idx s = some (.int n)) (ht : t.eval args first o idx s = some (.ref a)) (ha : s.arrayAt? a = some cl) : cl.slots.size < 2 ^ 31 ∧ cl.slots.size.toInt32 = n := by
  simp [Term.eval, ht, ha] at h; exact h
theorem size_le {cl : Cell} {n : Int32} {k : Nat} (q : cl.slots.size < 2 ^ 31 ∧ cl.slots.size.toInt32 = n) (hn : n.toInt = k) : cl.slots.size = k := by
  have := len_toInt q.1; rw [q.2, hn] at this; exact (Int.ofNat.inj this).symm
theorem eqR_v {args : Array Value} {first s : State} {o : Option Outcome} {idx : List Nat} {t u : Term} {w : Addr} (hu : u.eval args first o idx s = some (.ref w)) (h : (Jvm.Cond.eq t u).value args first o s idx = some true) : t.eval args first o idx s = some (.ref w) := by
  simp only [Cond.value, hu] at h
  cases ht : t.eval args first o idx s with
  | none => simp [ht] at h
  | some x => cases x <;> simp [ht] at h ⊢; exact h
theorem catR {v : Value} (h : v.isRef = true) : v.category = 1 := by cases v <;> simp_all [Value.isRef, Value.category]
theorem Old.le {n0 : Nat} (O : Old Z n0 h) : n0 ≤ h.size := O.1 ▸ O.2.1
end K
end Jvm.OwnKit
namespace Jvm.OwnKit
open Jvm Sem ClassFile Op Lib Jvm.Stand Jvm.Free Jvm.LawKit Jvm.RoadKit
section G
variable {p : Program} {l : Launch} {e : Env} {R : Room} {s : State} {m : MethodId} {args : Array Value} {below : List Frame} {meth : Method} {c : Code} {T T' : State} {locs : List Loc} {cells slots : Nat} {Z : State} {a0 : Array Value} {h h' h0 : Heap} {ce sl : Nat} {Q : Option Value → Heap → List Loc → Prop} {P : Option Value → State → List Loc → Prop} {pc : Nat} {Ls : Array Slot} {rest : List Value} {a b : Nat} {xs xs' : List Int32} {cs cs' : List (List Int32)} {ws : List Nat} {v : Value}
/-! arrays of ints as lists, and arrays of such arrays; a read or a write off the array is none -/
def rdO (xs : List Int32) (j : Int32) : Option Int32 := if j < 0 then none else xs[j.toNatClampNeg]?
def wrO (xs : List Int32) (j x : Int32) : Option (List Int32) := if j < 0 then none else if j.toNatClampNeg < xs.length then some (xs.set j.toNatClampNeg x) else none
def rwO (cs : List (List Int32)) (j : Int32) : Option (List Int32) := if j < 0 then none else cs[j.toNatClampNeg]?
def rd2O (cs : List (List Int32)) (j i : Int32) : Option Int32 := (rwO cs j).bind fun row => rdO row i
def wr2O (cs : List (List Int32)) (j i x : Int32) : Option (List (List Int32)) := (rwO cs j).bind fun row => (wrO row i x).bind fun row' => some (cs.set j.toNatClampNeg row')
def nwO (n : Int32) (cap : Nat) : Option (List Int32) := if n < 0 then none else if n.toNatClampNeg ≤ cap then some (List.replicate n.toNatClampNeg 0) else none
def grO (n k : Int32) (capN capK : Nat) : Option (List (List Int32)) := if n < 0 then none else if n.toNatClampNeg ≤ capN then (nwO k capK).bind fun row => some (List.replicate n.toNatClampNeg row) else none
def lenI (xs : List Int32) : Int32 := xs.length.toInt32
theorem ob {α β : Type} {x : Option α} {f : α → Option β} {r : β} (q : x.bind f = some r) : ∃ a, x = some a ∧ f a = some r := Option.bind_eq_some_iff.mp q
theorem rdO_iff {j v : Int32} (q : rdO xs j = some v) : ¬ j < 0 ∧ xs[j.toNatClampNeg]? = some v := by
  unfold rdO at q; split at q
  · cases q
  · exact ⟨‹_›, q⟩
theorem rwO_iff {j : Int32} (q : rwO cs j = some xs) : ¬ j < 0 ∧ cs[j.toNatClampNeg]? = some xs := by
  unfold rwO at q; split at q
  · cases q
  · exact ⟨‹_›, q⟩
theorem rwO_lt {j : Int32} (q : rwO cs j = some xs) : j.toNatClampNeg < cs.length := (List.getElem?_eq_some_iff.mp (rwO_iff q).2).1
theorem wrO_iff {j x : Int32} (q : wrO xs j x = some xs') : ¬ j < 0 ∧ j.toNatClampNeg < xs.length ∧ xs' = xs.set j.toNatClampNeg x := by
  unfold wrO at q; split at q
  · cases q
  · split at q
    · exact ⟨‹_›, ‹_›, (Option.some.inj q).symm⟩
    · cases q
theorem wr2O_lt {j i x : Int32} (q : wr2O cs j i x = some cs') : j.toNatClampNeg < cs.length := by
  obtain ⟨row, q1, -⟩ := ob q; exact rwO_lt q1
theorem wr2O_len {j i x : Int32} (q : wr2O cs j i x = some cs') : cs'.length = cs.length := by
  obtain ⟨row, -, q⟩ := ob q; obtain ⟨row', -, q⟩ := ob q; cases q; simp
theorem nwO_iff {n : Int32} {cap : Nat} (q : nwO n cap = some xs) : ¬ n < 0 ∧ n.toNatClampNeg ≤ cap ∧ xs = List.replicate n.toNatClampNeg 0 := by
  unfold nwO at q; split at q
  · cases q
  · split at q
    · exact ⟨‹_›, ‹_›, (Option.some.inj q).symm⟩
    · cases q
theorem grO_iff {n k : Int32} {cN cK : Nat} (q : grO n k cN cK = some cs) : ¬ n < 0 ∧ n.toNatClampNeg ≤ cN ∧ ∃ row, nwO k cK = some row ∧ cs = List.replicate n.toNatClampNeg row := by
  unfold grO at q; split at q
  · cases q
  · split at q
    · obtain ⟨row, q1, q2⟩ := ob q; exact ⟨‹_›, ‹_›, row, q1, (Option.some.inj q2).symm⟩
    · cases q
def IA (Z : State) (h : Heap) (a : Nat) (xs : List Int32) : Prop := ∃ (k : ClassId) (n : Int32), Arv Z h a k .int n (xs.map .int) (.int 0) ∧ n.toNatClampNeg = xs.length ∧ Exa Z h a "[I"
theorem IA.lt (F : IA Z h a xs) : a < h.size := by obtain ⟨k, n, A, -⟩ := F; exact A.lt
theorem IA.ext (F : IA Z h a xs) (E : Ext h h') : IA Z h' a xs := by obtain ⟨k, n, A, q, X⟩ := F; exact ⟨k, n, A.ext E, q, X.ext E⟩
theorem IA.other (F : IA Z h b xs) (W : Wr h h' a sl v) (q : b ≠ a) : IA Z h' b xs := by obtain ⟨k, n, A, q1, X⟩ := F; exact ⟨k, n, A.other W q, q1, X.wr W⟩
theorem IA.keep (F : IA Z h a xs) (K : Keep h h' ws) (q : a ∉ ws) : IA Z h' a xs := by obtain ⟨k, n, A, q1, X⟩ := F; exact ⟨k, n, A.keep K q, q1, X.keep K⟩
def GA (Z : State) (h : Heap) (a : Nat) (cs : List (List Int32)) : Prop := (∃ (k : ClassId) (n : Int32), Arv Z h a k (.array .int) n (((List.range cs.length).map fun i => a + 1 + i).map .ref) .null ∧ n.toNatClampNeg = cs.length) ∧ ∀ i row, cs[i]? = some row → IA Z h (a + 1 + i) row
theorem GA.lt (F : GA Z h a cs) : a < h.size := by obtain ⟨⟨k, n, A, -⟩, -⟩ := F; exact A.lt
theorem GA.lts (F : GA Z h a cs) : a + cs.length < h.size := by
  rcases Nat.eq_zero_or_pos cs.length with z | z
  · rw [z]; exact F.lt
  · have := (F.2 (cs.length - 1) _ (List.getElem?_eq_getElem (by omega))).lt; omega
theorem GA.lts' {n : Nat} (q : cs.length = n) (F : GA Z h a cs) : a + n < h.size := q ▸ F.lts
theorem GA.ext (F : GA Z h a cs) (E : Ext h h') : GA Z h' a cs := by obtain ⟨⟨k, n, A, q⟩, r⟩ := F; exact ⟨⟨k, n, A.ext E, q⟩, fun i row hi => (r i row hi).ext E⟩
theorem GA.other (F : GA Z h b cs) (W : Wr h h' a sl v) (q : a < b ∨ b + cs.length < a) : GA Z h' b cs := by
  obtain ⟨⟨k, n, A, q1⟩, r⟩ := F
  refine ⟨⟨k, n, A.other W (show (b : Nat) ≠ a by omega), q1⟩, fun i row hi => (r i row hi).other W ?_⟩
  have := (List.getElem?_eq_some_iff.mp hi).1; omega
theorem GA.keep (F : GA Z h a cs) (K : Keep h h' ws) (q : ∀ x ∈ ws, x < a ∨ a + cs.length < x) : GA Z h' a cs := by
  obtain ⟨⟨k, n, A, q1⟩, r⟩ := F
  refine ⟨⟨k, n, A.keep K (fun z => by have := q _ z; omega), q1⟩, fun i row hi => (r i row hi).keep K fun z => ?_⟩
  have := (List.getElem?_eq_some_iff.mp hi).1; have := q _ z; omega
theorem Go.iaL (X : Stand p l e R s m args below meth c T locs cells slots) (hx : p.tables.exec = Jvm.exec) (hZ : Z.Warmed39 s.vm) (eT : T.heap = h) (F : IA Z h a xs) {j v : Int32} (hv : rdO xs j = some v) (hd : decode c.code pc = .ok (.iaload, 1)) (kk : Go p e below P T (mkF m (pc + 1) Ls (.int v :: rest))) : Go p e below P T (mkF m pc Ls (.int j :: .ref a :: rest)) := by
  obtain ⟨k, n, ⟨cl, A, -, S, q, H, -⟩, q1, -⟩ := F
  obtain ⟨h1, h2⟩ := rdO_iff hv
  have h3 := (List.getElem?_eq_some_iff.mp h2).1
  have hin : ¬ (j < 0 ∨ cl.slots.size ≤ j.toNatClampNeg) := fun z => z.elim h1 (by omega)
  refine Go.aload X hx hZ eT A hin (H.at hin ?_) (Or.inl ⟨rfl, rfl⟩) hd kk
  rw [List.getD_eq_getElem?_getD, List.getElem?_map, h2]; rfl
theorem Go.iaN (X : Stand p l e R s m args below meth c T locs cells slots) (hx : p.tables.exec = Jvm.exec) (hZ : Z.Warmed39 s.vm) (eT : T.heap = h) (F : IA Z h a xs) (hd : decode c.code pc = .ok (.arraylength, 1)) (kk : Go p e below P T (mkF m (pc + 1) Ls (.int (lenI xs) :: rest))) : Go p e below P T (mkF m pc Ls (.ref a :: rest)) := by
  obtain ⟨k, n, F, q1, -⟩ := F
  have q2 : n = lenI xs := by
    obtain ⟨cl, -, -, -, q, -⟩ := F
    rw [lenI, ← q1]; exact (back32 q).1.symm
  subst q2
  exact Go.alenV X hx hZ eT F hd kk
theorem IA.set {j x : Int32} (F : IA Z h a xs) (hv : wrO xs j x = some xs') (W : Wr h h' a j.toNatClampNeg (.int x)) : IA Z h' a xs' := by
  obtain ⟨k, n, ⟨cl, A, q0, S, q, H, G⟩, q1, X⟩ := F
  obtain ⟨h1, h2, rfl⟩ := wrO_iff hv
  refine ⟨k, n, ?_, by simpa using q1, X.wr W⟩
  rw [List.map_set]
  exact Arv.set A q0 S q H G rfl W _ rfl (by simpa using h2)
theorem Go.iaS (X : Stand p l e R s m args below meth c T locs cells slots) (hx : p.tables.exec = Jvm.exec) (hZ : Z.Warmed39 s.vm) (eT : T.heap = h) (F : IA Z h a xs) {j x : Int32} (hv : wrO xs j x = some xs') (hd : decode c.code pc = .ok (.iastore, 1))
    (kk : ∀ T' h', Stand p l e R s m args below meth c T' (locs ++ [⟨a, j.toNatClampNeg⟩]) cells slots → T'.heap = h' → Wr h h' a j.toNatClampNeg (.int x) → IA Z h' a xs' → Go p e below P T' (mkF m (pc + 1) Ls rest)) : Go p e below P T (mkF m pc Ls (.int x :: .int j :: .ref a :: rest)) := by
  have F0 := F
  obtain ⟨k, n, ⟨cl, A, q0, S, q, H, G⟩, q1, X1⟩ := F
  obtain ⟨h1, h2, -⟩ := wrO_iff hv
  have hin : ¬ (j < 0 ∨ cl.slots.size ≤ j.toNatClampNeg) := fun z => z.elim h1 (by omega)
  obtain ⟨T', h', X', e', W', st⟩ := stI X hx hZ eT A (j := j) (x := x) hin (g := mkF m pc Ls (.int x :: .int j :: .ref a :: rest)) rfl rfl hd
  exact Go.by st (kk T' h' X' e' W' (F0.set hv W'))
theorem GA.row {j : Int32} (F : GA Z h a cs) (q : rwO cs j = some xs) : IA Z h (a + 1 + j.toNatClampNeg) xs := F.2 _ _ (rwO_iff q).2
theorem Go.gaL (X : Stand p l e R s m args below meth c T locs cells slots) (hx : p.tables.exec = Jvm.exec) (hZ : Z.Warmed39 s.vm) (eT : T.heap = h) (F : GA Z h a cs) {j : Int32} (hv : rwO cs j = some xs) (hd : decode c.code pc = .ok (.aaload, 1)) (kk : Go p e below P T (mkF m (pc + 1) Ls (.ref (a + 1 + j.toNatClampNeg) :: rest))) : Go p e below P T (mkF m pc Ls (.int j :: .ref a :: rest)) := by
  obtain ⟨⟨k, n, ⟨cl, A, -, S, q, H, -⟩, q1⟩, -⟩ := F
  have h1 := (rwO_iff hv).1
  have h3 := rwO_lt hv
  have hin : ¬ (j < 0 ∨ cl.slots.size ≤ j.toNatClampNeg) := fun z => z.elim h1 (by omega)
  refine Go.aload X hx hZ eT A hin (H.at hin ?_) (Or.inr (Or.inr (Or.inl ⟨rfl, rfl⟩))) hd kk
  rw [List.getD_eq_getElem?_getD, List.getElem?_map, List.getElem?_map, List.getElem?_range h3]; rfl
theorem Go.g2L (X : Stand p l e R s m args below meth c T locs cells slots) (hx : p.tables.exec = Jvm.exec) (hZ : Z.Warmed39 s.vm) (eT : T.heap = h) (F : GA Z h a cs) {j i v : Int32} (hv : rd2O cs j i = some v) (hd : decode c.code pc = .ok (.iaload, 1)) (kk : Go p e below P T (mkF m (pc + 1) Ls (.int v :: rest))) : Go p e below P T (mkF m pc Ls (.int i :: .ref (a + 1 + j.toNatClampNeg) :: rest)) := by
  obtain ⟨row, q1, q2⟩ := ob hv
  exact Go.iaL X hx hZ eT (F.row q1) q2 hd kk
theorem GA.set {j i x : Int32} (F : GA Z h a cs) (hv : wr2O cs j i x = some cs') (W : Wr h h' (a + 1 + j.toNatClampNeg) i.toNatClampNeg (.int x)) : GA Z h' a cs' := by
  obtain ⟨row, q1, q2⟩ := ob hv
  obtain ⟨row', q3, q4⟩ := ob q2
  cases q4
  have q5 := F.row q1
  obtain ⟨⟨k, n, A, q6⟩, r⟩ := F
  refine ⟨⟨k, n, ?_, by simpa using q6⟩, fun y w hy => ?_⟩
  · rw [List.length_set]; exact A.other W (show (a : Nat) ≠ a + 1 + j.toNatClampNeg by omega)
  · rw [List.getElem?_set] at hy
    split at hy
    · split at hy
      · cases hy; rename_i z _; subst z; exact q5.set q3 W
      · cases hy
    · exact (r y w hy).other W (by omega)
theorem Go.g2S (X : Stand p l e R s m args below meth c T locs cells slots) (hx : p.tables.exec = Jvm.exec) (hZ : Z.Warmed39 s.vm) (eT : T.heap = h) (F : GA Z h a cs) {j i x : Int32} (hv : wr2O cs j i x = some cs') (hd : decode c.code pc = .ok (.iastore, 1))
    (kk : ∀ T' h', Stand p l e R s m args below meth c T' (locs ++ [⟨a + 1 + j.toNatClampNeg, i.toNatClampNeg⟩]) cells slots → T'.heap = h' → Wr h h' (a + 1 + j.toNatClampNeg) i.toNatClampNeg (.int x) → GA Z h' a cs' → Go p e below P T' (mkF m (pc + 1) Ls rest)) : Go p e below P T (mkF m pc Ls (.int x :: .int i :: .ref (a + 1 + j.toNatClampNeg) :: rest)) := by
  obtain ⟨row, q1, q2⟩ := ob hv
  obtain ⟨row', q3, -⟩ := ob q2
  exact Go.iaS X hx hZ eT (F.row q1) q3 hd fun T' h' X' e' W' _ => kk T' h' X' e' W' (F.set hv W')
theorem map_rep (n : Nat) : ∀ i, ((List.replicate n (0 : Int32)).map Value.int).getD i (.int 0) = ([] : List Value).getD i (.int 0) := fun i => by
  rw [List.map_replicate]; exact pad_rep [] (.int 0) n i
theorem Go.iaNew (X : Stand p l e R s m args below meth c T locs cells slots) (hx : p.tables.exec = Jvm.exec) (hZ : Z.Warmed39 s.vm) (w : (Jvm.Cond.arrayClass .int).before a0 Z = true) (eT : T.heap = h) {n : Int32} {cap : Nat} (hv : nwO n cap = some xs) (hd : decode c.code pc = .ok (.newarray .int, 2)) (hb : cap * 8 ≤ 536870912) (hc : cells + 1 ≤ R.cells) (hl : slots + cap ≤ R.slots)
    (k : ∀ (T' : State) (h' : Heap) (b : Nat), Stand p l e R s m args below meth c T' locs (cells + 1) (slots + cap) → T'.heap = h' → Ext h h' → b = h.size → IA Z h' b xs → Go p e below P T' (mkF m (pc + 2) Ls (.ref b :: rest))) : Go p e below P T (mkF m pc Ls (.int n :: rest)) := by
  obtain ⟨hn, hcap, rfl⟩ := nwO_iff hv
  obtain ⟨T', h', kA, X', e', E', A', Y', st'⟩ := RoadKit.newPE X hx hZ (aty := .int) w eT (g := mkF m pc Ls (.int n :: rest)) rfl hd rfl hn hcap hb hc hl (ad := "[I") (by decide)
  exact Go.by st' (k T' h' _ X' e' E' rfl ⟨kA, n, (Arv.new A' hn).pad (map_rep _), by simp, Y'⟩)
theorem Go.iaClone (X : Stand p l e R s m args below meth c T locs cells slots) (hx : p.tables.exec = Jvm.exec) (hZ : Z.Warmed39 s.vm) {own : String} {index : Nat} (hown : s.vm.findClass own = some m.cls) (w1 : (Jvm.Cond.methodLink own index ⟨"[I", "clone", "()Ljava/lang/Object;"⟩).before a0 Z = true) (w2 : (Jvm.Cond.sameMethod "[I" "java/lang/Object" "clone" "()Ljava/lang/Object;").before a0 Z = true) (w3 : (Jvm.Cond.native ⟨"java/lang/Object", "clone", "()Ljava/lang/Object;"⟩).before a0 Z = true)
    (w4 : (Jvm.Cond.instanceMethod ⟨"java/lang/Object", "clone", "()Ljava/lang/Object;"⟩).before a0 Z = true) (w5 : (Jvm.Cond.selects "[I" ⟨"[I", "clone", "()Ljava/lang/Object;"⟩ ⟨"java/lang/Object", "clone", "()Ljava/lang/Object;"⟩).before a0 Z = true) (w6 : (Jvm.Cond.castable "[I" "java/lang/Cloneable").before a0 Z = true) (eT : T.heap = h) (F : IA Z h a xs)
    (hsz : Ls.size = c.maxLocals) (hd : decode c.code pc = .ok (.invokevirtual index, 3)) (hf : 1 ≤ R.frames) {W cap : Nat} (hW : (rest.map fun v => v.category).sum = W) (hl : W + 14 ≤ R.locals) (hcap : xs.length ≤ cap) (hc : cells + 1 ≤ R.cells) (hsl : slots + cap ≤ R.slots)
    (k : ∀ (T' : State) (h' : Heap) (b : Nat), Stand p l e R s m args below meth c T' locs (cells + 1) (slots + cap) → T'.heap = h' → Ext h h' → b = h.size → IA Z h' b xs → Exa Z h' b "[I" → Go p e below P T' (mkF m (pc + 3) Ls (.ref b :: rest))) : Go p e below P T (mkF m pc Ls (.ref a :: rest)) := by
  obtain ⟨kk, n, ⟨cl, A, q1, S, q3, H, G⟩, q, E⟩ := F
  have FC : FitC Z cl := fitC_of A fun i hi v hv => by rw [H i hi] at hv; cases hv; exact G i hi
  refine Go.cloneA X hx hZ hown w1 w2 w3 w4 w5 w6 eT A E FC hsz hd hf hW hl (cap := cap) (by omega) hc hsl ?_
  intro T' h' b X' e' E' qb A' X2
  exact k T' h' b X' e' E' qb ⟨kk, n, ⟨cloneOf cl, A', q1, S, q3, H, G⟩, q, X2⟩ X2
theorem Go.gNew (X : Stand p l e R s m args below meth c T locs cells slots) (hx : p.tables.exec = Jvm.exec) (hZ : Z.Warmed39 s.vm) {own : String} {index : Nat} (hown : s.vm.findClass own = some m.cls) (w1 : (Jvm.Cond.classLink own index "[[I").before a0 Z = true) (w2 : (Jvm.Cond.arrayOver (.array .int)).before a0 Z = true) (w3 : (Jvm.Cond.arrayClass .int).before a0 Z = true) (eT : T.heap = h) {n k : Int32} {cN cK : Nat} (hv : grO n k cN cK = some cs)
    (hd : decode c.code pc = .ok (.multianewarray index 2, 4)) (hb : cK * 8 ≤ 536870912) (hb1 : cN ≤ 1000) (hc : cells + (1 + cN) ≤ R.cells) (hl : slots + (cN + cN * cK) ≤ R.slots)
    (kk : ∀ (T' : State) (h' : Heap) (b : Nat), Stand p l e R s m args below meth c T' locs (cells + (1 + cN)) (slots + (cN + cN * cK)) → T'.heap = h' → Ext h h' → b = h.size → GA Z h' b cs → Go p e below P T' (mkF m (pc + 4) Ls (.ref b :: rest))) : Go p e below P T (mkF m pc Ls (.int k :: .int n :: rest)) := by
  obtain ⟨hn, hN, row, hr, rfl⟩ := grO_iff hv
  obtain ⟨hk, hK, rfl⟩ := nwO_iff hr
  have q1 : n.toNatClampNeg * cK ≤ cN * cK := Nat.mul_le_mul_right _ hN
  obtain ⟨T', h', cA, comp, X', e', E', A', -, -, rows, st⟩ := RoadKit.gridM X hx hZ hown (C := "[I") (ad := "[[I") (ty := .int) (by decide) (by decide) w1 w2 w3 eT (g := mkF m pc Ls (.int k :: .int n :: rest)) rfl hd rfl hn hk (N := n.toNatClampNeg) rfl rfl hK hb (by omega) rfl rfl (by omega) (by omega)
  refine Go.by st (kk T' h' _ (X'.more (by omega) (by omega)) e' E' rfl ⟨⟨cA, n, by simpa using A', by simp⟩, fun i row hi => ?_⟩)
  obtain ⟨h1, h2⟩ := List.getElem?_eq_some_iff.mp hi
  rw [List.getElem_replicate] at h2
  rw [List.length_replicate] at h1
  subst h2
  obtain ⟨r1, r2⟩ := rows i (h.size + 1 + i) (by simp [h1])
  exact ⟨comp, k, (Arv.new r1 hk).pad (map_rep _), by simp, r2⟩
theorem Go.iaCopy (X : Stand p l e R s m args below meth c T locs cells slots) (hx : p.tables.exec = Jvm.exec) (hZ : Z.Warmed39 s.vm) {own : String} {index : Nat} (hown : s.vm.findClass own = some m.cls) (w1 : (Jvm.Cond.methodLink own index Jvm.Stand.acN).before a0 Z = true) (w2 : (Jvm.Cond.native Jvm.Stand.acN).before a0 Z = true) (w3 : (Jvm.Cond.static Jvm.Stand.acN).before a0 Z = true) (w4 : (Jvm.Cond.initialized "java/lang/System").before a0 Z = true) (eT : T.heap = h)
    (A : IA Z h a xs) (B : IA Z h b xs') {nn : Int32} (h3 : ¬ nn < 0) (h1 : nn.toNatClampNeg = xs'.length) (h2 : nn.toNatClampNeg ≤ xs.length) {n0 : Nat} (N : Fr n0 locs) (ge : n0 ≤ b) (hsz : Ls.size = c.maxLocals) (hd : decode c.code pc = .ok (.invokestatic index, 3)) (hf : 1 ≤ R.frames) {W : Nat} (hW : (rest.map fun v => v.category).sum = W) (hlo : W + (nativeFrameWords "java/lang/System" "arraycopy" 5 + 11) ≤ R.locals)
    (k : ∀ T' h' L, Stand p l e R s m args below meth c T' L cells slots → T'.heap = h' → Fr n0 L → Keep h h' [b] → IA Z h' b (xs.take nn.toNatClampNeg) → Go p e below P T' (mkF m (pc + 3) Ls rest)) : Go p e below P T (mkF m pc Ls (.int nn :: .int 0 :: .ref b :: .int 0 :: .ref a :: rest)) := by
  obtain ⟨k1, n1, A, q1, X1⟩ := A
  obtain ⟨k2, n2, B, q2, X2⟩ := B
  have z0 : (0 : Int32).toNatClampNeg = 0 := by decide
  obtain ⟨T', h', L, X', e', N', K', C, st⟩ := RoadKit.cpA X hx hZ hown w1 w2 w3 w4 eT A B (Or.inl ⟨rfl, rfl⟩) (us := (xs.take nn.toNatClampNeg).map .int) (sp := 0) (dp := 0) (by decide) (by decide) h3 (by rw [z0]; omega) (by rw [z0]; omega) (by
    rw [z0]; apply List.ext_getElem
    · simp; omega
    · intro i h4 h5
      simp only [List.length_map, List.length_take, List.length_range] at h4 h5
      simp [show i < xs.length by omega]) (by rw [z0]; simp; omega) N ge (g := mkF m pc Ls (.int nn :: .int 0 :: .ref b :: .int 0 :: .ref a :: rest)) rfl hsz rfl hd hf (W := W) (by subst hW; show 2 * 0 + _ ≤ _; omega) hlo
  refine Go.by st (k T' h' L X' e' N' K' ⟨k2, n2, ?_, ?_, X2.keep K'⟩)
  · rw [z0] at C
    have : ((xs'.map Value.int).drop (0 + nn.toNatClampNeg)) = [] := by rw [List.drop_eq_nil_iff]; simp; omega
    rw [this] at C; simpa using C
  · simp; omega
/-- a range of addresses -/
theorem nin_rng {x b n : Nat} (q : x < b ∨ b + n ≤ x) : x ∉ List.range' b n := fun z => by have := List.mem_range'_1.mp z; omega
theorem in_rng {x b n : Nat} (q : b ≤ x) (r : x < b + n) : x ∈ List.range' b n := List.mem_range'_1.mpr ⟨q, r⟩
end G
end Jvm.OwnKit
namespace Jvm.OwnKit
open Jvm Sem ClassFile Op Lib Jvm.Stand Jvm.Free Jvm.LawKit Jvm.RoadKit
theorem Go.newON {p : Program} {l : Launch} {e : Env} {R : Room} {s : State} {m : MethodId} {args : Array Value} {below : List Frame} {meth : Method} {c : Code} {T : State} {locs : List Loc} {cells slots : Nat} {Z : State} {a0 : Array Value} {h : Heap} {P : Option Value → State → List Loc → Prop} {pc : Nat} {Ls : Array Slot} (X : Stand p l e R s m args below meth c T locs cells slots) (hx : p.tables.exec = Jvm.exec) (hZ : Z.Warmed39 s.vm) {own C : String} {index n : Nat} (hown : s.vm.findClass own = some m.cls) (w : (Jvm.Cond.classLink own index C).before a0 Z = true) (wi : (Jvm.Cond.instantiable C n).before a0 Z = true) (wz : (Jvm.Cond.initialized C).before a0 Z = true) (eT : T.heap = h) {st : List Value}
    (hd : decode c.code pc = .ok (.new index, 3)) (hc : cells + 1 ≤ R.cells) (hl : slots + n ≤ R.slots)
    (k : ∀ (T' : State) (h' : Heap) (b : Nat), Stand p l e R s m args below meth c T' locs (cells + 1) (slots + n) → T'.heap = h' → Ext h h' → b = h.size → Exa Z h' b C → (∀ {O nm d : String} {ty : FieldType}, Laid Z a0 C O nm d → parseFieldDescriptor d = some ty → Fld Z h' b O nm d (defaultValue ty)) → Go p e below P T' (mkF m (pc + 3) Ls (.ref b :: st))) : Go p e below P T (mkF m pc Ls st) := Go.newO X hx hZ hown w wi wz eT hd hc hl k
end Jvm.OwnKit
namespace Jvm.OwnKit
/-! what the program's methods compute, over lists -/
def mnM (a b : Int32) : Int32 := if b < a then b else a
def mxM (a b : Int32) : Int32 := if a < b then b else a
def abM (a : Int32) : Int32 := if a < 0 then -a else a
def plL : Nat → List Int32 → Int32 → Int32 → Int32 → Int32 → Option Int32
  | 0, _, _, _, _, _ => none
  | f + 1, xs, n, x, r, i => if i < n then if r < 0 then (rdO xs i).bind fun v => if v = x then plL f xs n x i (i + 1) else plL f xs n x r (i + 1) else some r else some r
def placeM (xs : List Int32) (n x : Int32) : Option Int32 := plL 8 xs n x (-1) 0
def copyM (xs : List Int32) (n : Int32) : Option (List Int32) := if n = lenI xs then if xs.length ≤ 3 then some xs else none else (nwO n 3).bind fun _ => if n < lenI xs then if n.toNatClampNeg ≤ xs.length then some (xs.take n.toNatClampNeg) else none else none
/-- limit, sourceLetters, lastRowBefore, columns, fewest, targetLetters, lastColumn, replacedColumn, read -/
abbrev Core : Type := Int32 × List Int32 × List (List Int32) × List (List Int32) × List Int32 × List Int32 × List Int32 × List Int32 × Int32
/-- source, distinct, the rest -/
abbrev EDS : Type := List Int32 × List Int32 × Core
/-- the source's letters by number: sourceLetters, seen, the count -/
def leL : Nat → List Int32 → List Int32 → List Int32 → Int32 → Int32 → Option (List Int32 × List Int32 × Int32)
  | 0, _, _, _, _, _ => none
  | f + 1, src, sl, se, n, i => if i < lenI src then (rdO src i).bind fun v => (placeM se n v).bind fun r => if r < 0 then (wrO se n v).bind fun se' => (wrO sl i n).bind fun sl' => leL f src sl' se' (n + 1) (i + 1) else (wrO sl i r).bind fun sl' => leL f src sl' se n (i + 1) else some (sl, se, n)
def lrI : Nat → Int32 → Int32 → List (List Int32) → Int32 → Option (List (List Int32))
  | 0, _, _, _, _ => none
  | f + 1, n, row, lr, j => if j < n then (rwO lr j).bind fun _ => (rd2O lr j (row - 1)).bind fun v => (wr2O lr j row v).bind fun lr' => lrI f n row lr' (j + 1) else some lr
def lrL : Nat → Int32 → List Int32 → Int32 → List (List Int32) → Int32 → Option (List (List Int32))
  | 0, _, _, _, _, _ => none
  | f + 1, sn, sl, n, lr, row => if sn < row then some lr else (lrI 8 n row lr 0).bind fun lr1 => (rdO sl (row - 2)).bind fun q => (rwO lr1 q).bind fun _ => (wr2O lr1 q row (row - 1)).bind fun lr2 => lrL f sn sl n lr2 (row + 1)
def coL : Nat → Int32 → List (List Int32) → Int32 → Option (List (List Int32))
  | 0, _, _, _ => none
  | f + 1, sn, cs, j => if sn < j then some cs else (rwO cs 0).bind fun _ => (wr2O cs 0 j j).bind fun cs' => coL f sn cs' (j + 1)
def coreM (sn lim n : Int32) (sl : List Int32) : Option Core := (grO n (sn + 1) 3 4).bind fun lr0 => (lrL 8 sn sl n lr0 2).bind fun lr => (grO (sn + lim + 1) (sn + 1) 7 4).bind fun cs0 => (coL 8 sn cs0 0).bind fun cs => (nwO (sn + lim + 1) 7).bind fun fw => (nwO (sn + lim + 1) 7).bind fun tl => (nwO n 3).bind fun lc => (nwO (sn + lim + 1) 7).bind fun rc => some (lim, sl, lr, cs, fw, tl, lc, rc, 0)
def initM (src : List Int32) (lim : Int32) : Option EDS := if lim < 0 then none else if 3 < src.length then none else (nwO (lenI src) 3).bind fun sl0 => (leL 8 src sl0 sl0 0 0).bind fun q => (copyM q.2.1 q.2.2).bind fun di => (coreM (lenI src) lim q.2.2 q.1).bind fun co => some (src, di, co)
def puL : Nat → Int32 → Int32 → Int32 → List Int32 → List Int32 → List (List Int32) → Int32 → Int32 → Int32 → List (List Int32) → Option (List (List Int32) × Int32)
  | 0, _, _, _, _, _, _, _, _, _, _ => none
  | f + 1, lim, r, t, sl, lc, lr, hi, j, few, cs => if hi < j then some (cs, few) else
    (rdO sl (j - 1)).bind fun q => (rd2O cs (r - 1) (j - 1)).bind fun x1 => (rd2O cs (r - 1) j).bind fun x2 => (rd2O cs r (j - 1)).bind fun x3 =>
    (if t < 0 then some 0 else (rwO lr t).bind fun _ => rd2O lr t j).bind fun lw => (rdO lc q).bind fun cl =>
    (if 0 < lw then if 0 < cl then if lim < abM (lw - cl) then some (mnM (x1 + (if q = t then 0 else 1)) (mnM (x2 + 1) (x3 + 1))) else (rwO cs (cl - 1)).bind fun _ => (rd2O cs (cl - 1) (lw - 1)).bind fun y => some (mnM (mnM (x1 + (if q = t then 0 else 1)) (mnM (x2 + 1) (x3 + 1))) (y + (j - lw - 1) + 1 + (r - cl - 1)))
      else some (mnM (x1 + (if q = t then 0 else 1)) (mnM (x2 + 1) (x3 + 1))) else some (mnM (x1 + (if q = t then 0 else 1)) (mnM (x2 + 1) (x3 + 1)))).bind fun best =>
    (wr2O cs r j best).bind fun cs' => puL f lim r t sl lc lr hi (j + 1) (mnM few best) cs'
def pushK (sn lim : Int32) (sl : List Int32) (lr cs : List (List Int32)) (fw tl lc rc : List Int32) (rd t : Int32) : Option Core :=
    (rwO cs (rd + 1 - 1)).bind fun _ => (rwO cs (rd + 1)).bind fun _ => (wr2O cs (rd + 1) 0 (rd + 1)).bind fun cs1 =>
    (if mxM 1 (rd + 1 - lim) = 1 then some (cs1, rd + 1) else (wr2O cs1 (rd + 1) (mxM 1 (rd + 1 - lim) - 1) (lim + 1)).bind fun cs2 => some (cs2, lim + 1)).bind fun u =>
    (puL 8 lim (rd + 1) t sl lc lr (mnM sn (rd + 1 + lim)) (mxM 1 (rd + 1 - lim)) u.2 u.1).bind fun w =>
    (if mnM sn (rd + 1 + lim) < sn then wr2O w.1 (rd + 1) (mnM sn (rd + 1 + lim) + 1) (lim + 1) else some w.1).bind fun cs4 =>
    (wrO fw (rd + 1) w.2).bind fun fw' => (wrO tl (rd + 1) t).bind fun tl' =>
    if t < 0 then some (lim, sl, lr, cs4, fw', tl', lc, rc, rd + 1) else (rdO lc t).bind fun q => (wrO rc (rd + 1) q).bind fun rc' => (wrO lc t (rd + 1)).bind fun lc' => some (lim, sl, lr, cs4, fw', tl', lc', rc', rd + 1)
def pushC (sn : Int32) (co : Core) (t : Int32) : Option Core := match co with
  | (lim, sl, lr, cs, fw, tl, lc, rc, rd) => pushK sn lim sl lr cs fw tl lc rc rd t
def rdC (co : Core) : Int32 := co.2.2.2.2.2.2.2.2
def limC (co : Core) : Int32 := co.1
def pushM (st : EDS) (x : Int32) : Option EDS := if rdC st.2.2 = lenI st.1 + limC st.2.2 then none else (placeM st.2.1 (lenI st.2.1) x).bind fun t => (pushC (lenI st.1) st.2.2 t).bind fun co => some (st.1, st.2.1, co)
def popK (lim : Int32) (sl : List Int32) (lr cs : List (List Int32)) (fw tl lc rc : List Int32) (rd : Int32) : Option Core := if rd = 0 then none else (rdO tl rd).bind fun t => if t < 0 then some (lim, sl, lr, cs, fw, tl, lc, rc, rd - 1) else (rdO rc rd).bind fun q => (wrO lc t q).bind fun lc' => some (lim, sl, lr, cs, fw, tl, lc', rc, rd - 1)
def popC (co : Core) : Option Core := match co with
  | (lim, sl, lr, cs, fw, tl, lc, rc, rd) => popK lim sl lr cs fw tl lc rc rd
def popM (st : EDS) : Option EDS := (popC st.2.2).bind fun co => some (st.1, st.2.1, co)
def editsC (sn : Int32) (co : Core) : Option Int32 := match co with
  | (lim, _, _, cs, _, _, _, _, rd) => if lim < abM (sn - rd) then some (lim + 1) else (rwO cs rd).bind fun _ => (rd2O cs rd sn).bind fun v => some (mnM (lim + 1) v)
def outC (co : Core) : Option Int32 := match co with
  | (lim, _, _, _, fw, _, _, _, rd) => (rdO fw rd).bind fun v => if lim < v then some 1 else some 0
/-- the law of pop, on the letters' numbers -/
def m2T (sn : Int32) (e f : Core) (tb tc exp : Int32) : Option Int32 := if rdC e = sn + limC e then none else (pushC sn e tb).bind fun e2 => (popC e2).bind fun e3 => if rdC e3 = exp then if rdC e3 = sn + limC e3 then none else (pushC sn e3 tc).bind fun e4 => if rdC f = sn + limC f then none else (pushC sn f tc).bind fun f2 => (editsC sn e4).bind fun x => (editsC sn f2).bind fun y => if x = y then some 1 else none else none
def m2C (sn lim n : Int32) (sl : List Int32) (ta tb tc : Int32) (pre : Bool) : Option Int32 := (coreM sn lim n sl).bind fun e => if pre then (if rdC e = sn + limC e then none else (pushC sn e ta).bind fun e1 => m2T sn e1 e1 tb tc 1) else m2T sn e e tb tc 0
def pats3 : List (Int32 × List Int32) := [(1, [0, 0, 0]), (2, [0, 0, 1]), (2, [0, 1, 0]), (2, [0, 1, 1]), (3, [0, 1, 2])]
end Jvm.OwnKit
namespace Jvm.OwnKit
open Jvm Sem ClassFile Op Lib Jvm.Stand Jvm.Free Jvm.LawKit Jvm.RoadKit
theorem SVu : (Slot.unset) = .unset ∨ ∃ w, (Slot.unset) = .val w ∧ w.category = 1 := Or.inl rfl
theorem SVi (z : Int32) : (Slot.val (.int z)) = .unset ∨ ∃ w, (Slot.val (.int z)) = .val w ∧ w.category = 1 := Or.inr ⟨_, rfl, rfl⟩
theorem SVr (z : Addr) : (Slot.val (.ref z)) = .unset ∨ ∃ w, (Slot.val (.ref z)) = .val w ∧ w.category = 1 := Or.inr ⟨_, rfl, rfl⟩
/-- the object at b, her arrays in [b, b + w) -/
def ED (Z : State) (h : Heap) (b w : Nat) : EDS → Prop
  | (src, di, lim, sl, lr, cs, fw, tl, lc, rc, rd) => ∃ aS aL aD aR aC aF aT aX aP : Nat, (b < aS ∧ aS < aL ∧ aL < aD ∧ aD < aR ∧ aR + lr.length < aC ∧ aC + cs.length < aF ∧ aF < aT ∧ aT < aX ∧ aX < aP ∧ aP < b + w) ∧ b + w ≤ h.size ∧ Exa Z h b "com/example/shingle/shingle/EditDistance" ∧ Fld Z h b "com/example/shingle/shingle/EditDistance" "source" "[I" (.ref aS) ∧ Fld Z h b "com/example/shingle/shingle/EditDistance" "limit" "I" (.int lim) ∧ Fld Z h b "com/example/shingle/shingle/EditDistance" "sourceLetters" "[I" (.ref aL) ∧ Fld Z h b "com/example/shingle/shingle/EditDistance" "distinct" "[I" (.ref aD) ∧ Fld Z h b "com/example/shingle/shingle/EditDistance" "lastRowBefore" "[[I" (.ref aR) ∧ Fld Z h b "com/example/shingle/shingle/EditDistance" "columns" "[[I" (.ref aC) ∧ Fld Z h b "com/example/shingle/shingle/EditDistance" "fewest" "[I" (.ref aF) ∧ Fld Z h b "com/example/shingle/shingle/EditDistance" "targetLetters" "[I" (.ref aT) ∧ Fld Z h b "com/example/shingle/shingle/EditDistance" "lastColumn" "[I" (.ref aX) ∧ Fld Z h b "com/example/shingle/shingle/EditDistance" "replacedColumn" "[I" (.ref aP) ∧ Fld Z h b "com/example/shingle/shingle/EditDistance" "read" "I" (.int rd) ∧ IA Z h aS src ∧ IA Z h aL sl ∧ IA Z h aD di ∧ GA Z h aR lr ∧ GA Z h aC cs ∧ IA Z h aF fw ∧ IA Z h aT tl ∧ IA Z h aX lc ∧ IA Z h aP rc
theorem ED.exa {Z : State} {h : Heap} {b w : Nat} {st : EDS} (D : ED Z h b w st) : Exa Z h b "com/example/shingle/shingle/EditDistance" := by
  obtain ⟨src, di, lim, sl, lr, cs, fw, tl, lc, rc, rd⟩ := st; obtain ⟨aS, aL, aD, aR, aC, aF, aT, aX, aP, ho, hz, E_b, -⟩ := D; exact E_b
theorem ED.top {Z : State} {h : Heap} {b w : Nat} {st : EDS} (D : ED Z h b w st) : b < h.size := by
  obtain ⟨cell, k, h1, -⟩ := D.exa; exact (Array.getElem?_eq_some_iff.mp h1).1
theorem ED.hi {Z : State} {h : Heap} {b w : Nat} {st : EDS} (D : ED Z h b w st) : b + w ≤ h.size := by
  obtain ⟨src, di, lim, sl, lr, cs, fw, tl, lc, rc, rd⟩ := st; obtain ⟨aS, aL, aD, aR, aC, aF, aT, aX, aP, ho, hz, -⟩ := D; exact hz
theorem ED.ext {Z : State} {h h' : Heap} {b w : Nat} {st : EDS} (D : ED Z h b w st) (E : Ext h h') : ED Z h' b w st := by
  obtain ⟨src, di, lim, sl, lr, cs, fw, tl, lc, rc, rd⟩ := st
  obtain ⟨aS, aL, aD, aR, aC, aF, aT, aX, aP, ho, hz, E_b, F_source, F_limit, F_sourceLetters, F_distinct, F_lastRowBefore, F_columns, F_fewest, F_targetLetters, F_lastColumn, F_replacedColumn, F_read, I_aS, I_aL, I_aD, G_aR, G_aC, I_aF, I_aT, I_aX, I_aP⟩ := D
  exact ⟨aS, aL, aD, aR, aC, aF, aT, aX, aP, ho, Nat.le_trans hz E.1, E_b.ext E, F_source.ext E, F_limit.ext E, F_sourceLetters.ext E, F_distinct.ext E, F_lastRowBefore.ext E, F_columns.ext E, F_fewest.ext E, F_targetLetters.ext E, F_lastColumn.ext E, F_replacedColumn.ext E, F_read.ext E, I_aS.ext E, I_aL.ext E, I_aD.ext E, G_aR.ext E, G_aC.ext E, I_aF.ext E, I_aT.ext E, I_aX.ext E, I_aP.ext E⟩
theorem ED.keep {Z : State} {h h' : Heap} {b w : Nat} {st : EDS} {ws : List Nat} (D : ED Z h b w st) (K : Keep h h' ws) (q : ∀ x ∈ ws, x < b ∨ b + w ≤ x) : ED Z h' b w st := by
  obtain ⟨src, di, lim, sl, lr, cs, fw, tl, lc, rc, rd⟩ := st
  obtain ⟨aS, aL, aD, aR, aC, aF, aT, aX, aP, ho, hz, E_b, F_source, F_limit, F_sourceLetters, F_distinct, F_lastRowBefore, F_columns, F_fewest, F_targetLetters, F_lastColumn, F_replacedColumn, F_read, I_aS, I_aL, I_aD, G_aR, G_aC, I_aF, I_aT, I_aX, I_aP⟩ := D
  exact ⟨aS, aL, aD, aR, aC, aF, aT, aX, aP, ho, Nat.le_trans hz K.1, E_b.keep K, F_source.keep K (fun z => by have := q _ z; omega), F_limit.keep K (fun z => by have := q _ z; omega), F_sourceLetters.keep K (fun z => by have := q _ z; omega), F_distinct.keep K (fun z => by have := q _ z; omega), F_lastRowBefore.keep K (fun z => by have := q _ z; omega), F_columns.keep K (fun z => by have := q _ z; omega), F_fewest.keep K (fun z => by have := q _ z; omega), F_targetLetters.keep K (fun z => by have := q _ z; omega), F_lastColumn.keep K (fun z => by have := q _ z; omega), F_replacedColumn.keep K (fun z => by have := q _ z; omega), F_read.keep K (fun z => by have := q _ z; omega), I_aS.keep K (fun z => by have := q _ z; omega), I_aL.keep K (fun z => by have := q _ z; omega), I_aD.keep K (fun z => by have := q _ z; omega), G_aR.keep K (fun x hx => by have := q _ hx; omega), G_aC.keep K (fun x hx => by have := q _ hx; omega), I_aF.keep K (fun z => by have := q _ z; omega), I_aT.keep K (fun z => by have := q _ z; omega), I_aX.keep K (fun z => by have := q _ z; omega), I_aP.keep K (fun z => by have := q _ z; omega)⟩
end Jvm.OwnKit
namespace Jvm.OwnKit
/-! the law of isOutOfReach -/
def preS (t s : List Int32) (ti si k ok : Int32) : Option Int32 := if ok = 0 then some 0 else (rdO t (ti + k)).bind fun a => (rdO s (si + k)).bind fun b => if a = b then some 1 else some 0
def preM (t : List Int32) (ti tn : Int32) (s : List Int32) (si sn : Int32) : Option Int32 := if 0 < tn - ti then if sn - si < tn - ti then some 0 else (rdO t ti).bind fun a => (rdO s si).bind fun b => (if a = b then some 1 else some 0).bind fun k0 => (if 1 < tn - ti then preS t s ti si 1 k0 else some k0).bind fun k1 => (if 2 < tn - ti then preS t s ti si 2 k1 else some k1).bind fun k2 => if 3 < tn - ti then preS t s ti si 3 k2 else some k2 else some 1
def nzM (x : Option Int32) : Option Int32 := x.bind fun r => if r = 0 then some 0 else some 1
def swM (t : List Int32) (tn : Int32) (s : List Int32) (sn j : Int32) : Option Int32 := if j + 1 < tn then if j + 1 < sn then (rdO t j).bind fun a => (rdO s (j + 1)).bind fun b => if a = b then (rdO t (j + 1)).bind fun a' => (rdO s j).bind fun b' => if a' = b' then nzM (preM t (j + 2) tn s (j + 2) sn) else some 0 else some 0 else some 0 else some 0
def oneM (t : List Int32) (tn : Int32) (s : List Int32) (sn j : Int32) : Option Int32 := if j < tn then (preM t 0 j s 0 sn).bind fun r0 => if r0 = 0 then some 0 else (if j < sn then nzM (preM t (j + 1) tn s (j + 1) sn) else some 0).bind fun q1 => (preM t (j + 1) tn s j sn).bind fun q2 => (if j < sn then nzM (preM t j tn s (j + 1) sn) else some 0).bind fun q3 => (swM t tn s sn j).bind fun q4 => if q1 = 0 then if q2 = 0 then if q3 = 0 then if q4 = 0 then some 0 else some 1 else some 1 else some 1 else some 1 else some 0
def reM (t : List Int32) (m : Int32) (s : List Int32) (sn lim r0 : Int32) : Option Int32 := if lim = 1 then if r0 = 0 then (oneM t m s sn 0).bind fun a => if a = 0 then (oneM t m s sn 1).bind fun b => if b = 0 then (oneM t m s sn 2).bind fun c => if c = 0 then (oneM t m s sn 3).bind fun d => if d = 0 then some 0 else some 1 else some 1 else some 1 else some 1 else some 1 else some r0
def srcM (sn a0 a1 a2 : Int32) : Option (List Int32) := (nwO sn 3).bind fun s0 => (if 0 < sn then wrO s0 0 a0 else some s0).bind fun s1 => (if 1 < sn then wrO s1 1 a1 else some s1).bind fun s2 => if 2 < sn then wrO s2 2 a2 else some s2
def m1T (d : EDS) (t s : List Int32) (sn lim m : Int32) : Option Int32 := (preM t 0 m s 0 sn).bind fun r0 => (reM t m s sn lim r0).bind fun r => (outC d.2.2).bind fun o => if r = 0 then if o = 1 then some 1 else none else if o = 0 then some 1 else none
def m1P (d : EDS) (t0 t1 t2 t3 n tk : Int32) : Option (EDS × Int32) := (if 0 < n then pushM d t0 else some d).bind fun d1 => (if 1 < n then pushM d1 t1 else some d1).bind fun d2 => (if 2 < n then pushM d2 t2 else some d2).bind fun d3 => (if 3 < n then pushM d3 t3 else some d3).bind fun d4 => if tk = 0 then some (d4, n) else if 0 < n then (popM d4).bind fun d5 => some (d5, n - 1) else some (d4, n)
def m1M (sn lim a0 a1 a2 t0 t1 t2 t3 n0 tk : Int32) : Option Int32 := (nwO sn 3).bind fun s0 => (if 0 < sn then wrO s0 0 a0 else some s0).bind fun s1 => (if 1 < sn then wrO s1 1 a1 else some s1).bind fun s2 => (if 2 < sn then wrO s2 2 a2 else some s2).bind fun s3 => if sn + lim + 1 = 0 then none else (initM s3 lim).bind fun d => (m1P d t0 t1 t2 t3 (n0 % (sn + lim + 1)) tk).bind fun u => m1T u.1 [t0, t1, t2, t3] s3 sn lim u.2
end Jvm.OwnKit
namespace Jvm.OwnKit
theorem i32_nat (y : Int32) : y = Int32.ofNat y.toBitVec.toNat := by
  apply Int32.toBitVec_inj.mp; simp
theorem and1 (x : Int32) : x &&& 1 ∈ ([0, 1] : List Int32) := by
  have h : (x &&& 1).toBitVec.toNat ≤ 1 := by rw [Int32.toBitVec_and, BitVec.toNat_and]; exact Nat.and_le_right
  have q := i32_nat (x &&& 1)
  generalize (x &&& 1).toBitVec.toNat = n at h q
  rw [q]
  obtain rfl | rfl : n = 0 ∨ n = 1 := by omega
  all_goals decide
theorem and3 (x : Int32) : x &&& 3 ∈ ([0, 1, 2, 3] : List Int32) := by
  have h : (x &&& 3).toBitVec.toNat ≤ 3 := by rw [Int32.toBitVec_and, BitVec.toNat_and]; exact Nat.and_le_right
  have q := i32_nat (x &&& 3)
  generalize (x &&& 3).toBitVec.toNat = n at h q
  rw [q]
  obtain rfl | rfl | rfl | rfl : n = 0 ∨ n = 1 ∨ n = 2 ∨ n = 3 := by omega
  all_goals decide
theorem and7 (x : Int32) : x &&& 7 ∈ ([0, 1, 2, 3, 4, 5, 6, 7] : List Int32) := by
  have h : (x &&& 7).toBitVec.toNat ≤ 7 := by rw [Int32.toBitVec_and, BitVec.toNat_and]; exact Nat.and_le_right
  have q := i32_nat (x &&& 7)
  generalize (x &&& 7).toBitVec.toNat = n at h q
  rw [q]
  obtain rfl | rfl | rfl | rfl | rfl | rfl | rfl | rfl : n = 0 ∨ n = 1 ∨ n = 2 ∨ n = 3 ∨ n = 4 ∨ n = 5 ∨ n = 6 ∨ n = 7 := by omega
  all_goals decide
theorem rdO_map (g : Int32 → Int32) (xs : List Int32) (i : Int32) : rdO (xs.map g) i = (rdO xs i).map g := by
  unfold rdO; split
  · rfl
  · rw [List.getElem?_map]
theorem rdO_mem {xs : List Int32} {i v : Int32} (h : rdO xs i = some v) : v ∈ xs := List.mem_of_getElem? (rdO_iff h).2
section Map
variable {g : Int32 → Int32} {t s : List Int32} (hg : ∀ x ∈ t, ∀ y ∈ s, (g x = g y ↔ x = y))
theorem preS_map (hg : ∀ x ∈ t, ∀ y ∈ s, (g x = g y ↔ x = y)) (ti si k ok : Int32) : preS (t.map g) (s.map g) ti si k ok = preS t s ti si k ok := by
  unfold preS; split
  · rfl
  · rw [rdO_map, rdO_map]
    cases ha : rdO t (ti + k) with
    | none => rfl
    | some a =>
      cases hb : rdO s (si + k) with
      | none => rfl
      | some b => simp only [Option.map_some, Option.bind_some, hg a (rdO_mem ha) b (rdO_mem hb)]
theorem preM_map (hg : ∀ x ∈ t, ∀ y ∈ s, (g x = g y ↔ x = y)) (ti tn si sn : Int32) : preM (t.map g) ti tn (s.map g) si sn = preM t ti tn s si sn := by
  unfold preM
  simp only [preS_map hg]
  rw [rdO_map, rdO_map]
  cases ha : rdO t ti with
  | none => rfl
  | some a =>
    cases hb : rdO s si with
    | none => rfl
    | some b => simp only [Option.map_some, Option.bind_some, hg a (rdO_mem ha) b (rdO_mem hb)]
theorem swM_map (hg : ∀ x ∈ t, ∀ y ∈ s, (g x = g y ↔ x = y)) (tn sn j : Int32) : swM (t.map g) tn (s.map g) sn j = swM t tn s sn j := by
  unfold swM
  simp only [preM_map hg]
  simp only [rdO_map]
  split
  · split
    · cases ha : rdO t j with
      | none => rfl
      | some a =>
        cases hb : rdO s (j + 1) with
        | none => rfl
        | some b =>
          simp only [Option.map_some, Option.bind_some, hg a (rdO_mem ha) b (rdO_mem hb)]
          split
          · cases hc : rdO t (j + 1) with
            | none => rfl
            | some c =>
              cases hd : rdO s j with
              | none => rfl
              | some d => simp only [Option.map_some, Option.bind_some, hg c (rdO_mem hc) d (rdO_mem hd)]
          · rfl
    · rfl
  · rfl
theorem oneM_map (hg : ∀ x ∈ t, ∀ y ∈ s, (g x = g y ↔ x = y)) (tn sn j : Int32) : oneM (t.map g) tn (s.map g) sn j = oneM t tn s sn j := by
  unfold oneM; simp only [preM_map hg, swM_map hg]
theorem reM_map (hg : ∀ x ∈ t, ∀ y ∈ s, (g x = g y ↔ x = y)) (m sn lim r0 : Int32) : reM (t.map g) m (s.map g) sn lim r0 = reM t m s sn lim r0 := by
  unfold reM; simp only [oneM_map hg]
end Map
/-! the law on the letters' numbers -/
def pushN (sn : Int32) (co : Core) (t : Int32) : Option Core := if rdC co = sn + limC co then none else pushC sn co t
def m1PC (sn : Int32) (co : Core) (t0 t1 t2 t3 n tk : Int32) : Option (Core × Int32) := (if 0 < n then pushN sn co t0 else some co).bind fun d1 => (if 1 < n then pushN sn d1 t1 else some d1).bind fun d2 => (if 2 < n then pushN sn d2 t2 else some d2).bind fun d3 => (if 3 < n then pushN sn d3 t3 else some d3).bind fun d4 => if tk = 0 then some (d4, n) else if 0 < n then (popC d4).bind fun d5 => some (d5, n - 1) else some (d4, n)
def m1TC (d : Core) (t s : List Int32) (sn lim m : Int32) : Option Int32 := (preM t 0 m s 0 sn).bind fun r0 => (reM t m s sn lim r0).bind fun r => (outC d).bind fun o => if r = 0 then if o = 1 then some 1 else none else if o = 0 then some 1 else none
def m1C (sn lim cn : Int32) (sl : List Int32) (t0 t1 t2 t3 n tk : Int32) : Option Int32 := (coreM sn lim cn sl).bind fun co => (m1PC sn co t0 t1 t2 t3 n tk).bind fun u => m1TC u.1 [t0, t1, t2, t3] sl sn lim u.2
def pats : List (Int32 × Int32 × List Int32) := [(0, 0, []), (1, 1, [0]), (2, 1, [0, 0]), (2, 2, [0, 1]), (3, 1, [0, 0, 0]), (3, 2, [0, 0, 1]), (3, 2, [0, 1, 0]), (3, 2, [0, 1, 1]), (3, 3, [0, 1, 2])]
def tsN (n : Int32) : List Int32 := if n = 0 then [-1] else if n = 1 then [-1, 0] else if n = 2 then [-1, 0, 1] else [-1, 0, 1, 2]
def nsN (k : Int32) : List Int32 := if k = 1 then [0] else if k = 2 then [0, 1] else if k = 3 then [0, 1, 2] else if k = 4 then [0, 1, 2, 3] else [0, 1, 2, 3, 4]
def m1Ok (q : Int32 × Int32 × List Int32) : Bool := [0, 1].all fun lim => (tsN q.2.1).all fun t0 => (tsN q.2.1).all fun t1 => (tsN q.2.1).all fun t2 => (tsN q.2.1).all fun t3 => (nsN (q.1 + lim + 1)).all fun n => [0, 1].all fun tk => m1C q.1 lim q.2.1 q.2.2 t0 t1 t2 t3 n tk == some 1
set_option maxRecDepth 100000 in
theorem m1_all : pats.all m1Ok = true := by decide +kernel
end Jvm.OwnKit
namespace Jvm.OwnKit
theorem place0 (xs : List Int32) (t : Int32) : placeM xs 0 t = some (-1) := rfl
theorem place1 (x : Int32) (xs : List Int32) (t : Int32) : placeM (x :: xs) 1 t = if x = t then some 0 else some (-1) := rfl
theorem place2 (x y : Int32) (xs : List Int32) (t : Int32) : placeM (x :: y :: xs) 2 t = if x = t then some 0 else if y = t then some 1 else some (-1) := rfl
theorem place3 (x y z : Int32) (xs : List Int32) (t : Int32) : placeM (x :: y :: z :: xs) 3 t = if x = t then some 0 else if y = t then some 1 else if z = t then some 2 else some (-1) := rfl
def leM (src : List Int32) : Option (List Int32 × List Int32 × Int32) := (nwO (lenI src) 3).bind fun sl0 => leL 8 src sl0 sl0 0 0
theorem leNew {f : Nat} {src sl se se' sl' : List Int32} {n i v r : Int32} (h1 : i < lenI src) (h2 : rdO src i = some v) (h3 : placeM se n v = some r) (h4 : r < 0) (h5 : wrO se n v = some se') (h6 : wrO sl i n = some sl') : leL (f + 1) src sl se n i = leL f src sl' se' (n + 1) (i + 1) := by
  rw [leL, if_pos h1, h2]; simp only [Option.bind_some]
  rw [h3]; simp only [Option.bind_some]
  rw [if_pos h4, h5]; simp only [Option.bind_some]
  rw [h6]; simp only [Option.bind_some]
theorem leOld {f : Nat} {src sl se sl' : List Int32} {n i v r : Int32} (h1 : i < lenI src) (h2 : rdO src i = some v) (h3 : placeM se n v = some r) (h4 : ¬ r < 0) (h6 : wrO sl i r = some sl') : leL (f + 1) src sl se n i = leL f src sl' se n (i + 1) := by
  rw [leL, if_pos h1, h2]; simp only [Option.bind_some]
  rw [h3]; simp only [Option.bind_some]
  rw [if_neg h4, h6]; simp only [Option.bind_some]
theorem le0 : leM [] = some ([], [], 0) := rfl
theorem le1 (x : Int32) : leM [x] = some ([0], [x], 1) := rfl
theorem lt0 (x y z : Int32) : leM [x, y, z] = leL 7 [x, y, z] [0, 0, 0] [x, 0, 0] 1 1 := rfl
theorem le2a (x : Int32) : leM [x, x] = some ([0, 0], [x, 0], 1) :=
  (show leM [x, x] = leL 7 [x, x] [0, 0] [x, 0] 1 1 from rfl).trans (leOld (r := 0) (by decide : (1 : Int32) < 2) rfl ((place1 x [0] x).trans (if_pos rfl)) (by decide) rfl)
theorem le2b {x y : Int32} (h : x ≠ y) : leM [x, y] = some ([0, 1], [x, y], 2) :=
  (show leM [x, y] = leL 7 [x, y] [0, 0] [x, 0] 1 1 from rfl).trans (leNew (r := -1) (by decide : (1 : Int32) < 2) rfl ((place1 x [0] y).trans (if_neg h)) (by decide) rfl rfl)
theorem le3aa (x : Int32) : leM [x, x, x] = some ([0, 0, 0], [x, 0, 0], 1) :=
  (lt0 x x x).trans ((leOld (r := 0) (by decide : (1 : Int32) < 3) rfl ((place1 x [0, 0] x).trans (if_pos rfl)) (by decide) rfl).trans (leOld (r := 0) (by decide : (2 : Int32) < 3) rfl ((place1 x [0, 0] x).trans (if_pos rfl)) (by decide) rfl))
theorem le3ab {x z : Int32} (h : x ≠ z) : leM [x, x, z] = some ([0, 0, 1], [x, z, 0], 2) :=
  (lt0 x x z).trans ((leOld (r := 0) (by decide : (1 : Int32) < 3) rfl ((place1 x [0, 0] x).trans (if_pos rfl)) (by decide) rfl).trans (leNew (r := -1) (by decide : (2 : Int32) < 3) rfl ((place1 x [0, 0] z).trans (if_neg h)) (by decide) rfl rfl))
theorem le3ba {x y : Int32} (h : x ≠ y) : leM [x, y, x] = some ([0, 1, 0], [x, y, 0], 2) :=
  (lt0 x y x).trans ((leNew (r := -1) (by decide : (1 : Int32) < 3) rfl ((place1 x [0, 0] y).trans (if_neg h)) (by decide) rfl rfl).trans (leOld (r := 0) (by decide : (2 : Int32) < 3) rfl ((place2 x y [0] x).trans (if_pos rfl)) (by decide) rfl))
theorem le3bb {x y : Int32} (h : x ≠ y) : leM [x, y, y] = some ([0, 1, 1], [x, y, 0], 2) :=
  (lt0 x y y).trans ((leNew (r := -1) (by decide : (1 : Int32) < 3) rfl ((place1 x [0, 0] y).trans (if_neg h)) (by decide) rfl rfl).trans (leOld (r := 1) (by decide : (2 : Int32) < 3) rfl ((place2 x y [0] y).trans ((if_neg h).trans (if_pos rfl))) (by decide) rfl))
theorem le3bc {x y z : Int32} (h : x ≠ y) (h1 : x ≠ z) (h2 : y ≠ z) : leM [x, y, z] = some ([0, 1, 2], [x, y, z], 3) :=
  (lt0 x y z).trans ((leNew (r := -1) (by decide : (1 : Int32) < 3) rfl ((place1 x [0, 0] y).trans (if_neg h)) (by decide) rfl rfl).trans (leNew (r := -1) (by decide : (2 : Int32) < 3) rfl ((place2 x y [0] z).trans ((if_neg h1).trans (if_neg h2))) (by decide) rfl rfl))
theorem push_eq {src di : List Int32} {co : Core} {x t : Int32} (h : placeM di (lenI di) x = some t) : pushM (src, di, co) x = (pushN (lenI src) co t).bind fun c => some (src, di, c) := by
  unfold pushM pushN; simp only [h, Option.bind_some]; split <;> rfl
theorem step_eq {src di : List Int32} {co : Core} {x t : Int32} (h : placeM di (lenI di) x = some t) (P : Prop) [Decidable P] : (if P then pushM (src, di, co) x else some (src, di, co)) = (if P then pushN (lenI src) co t else some co).bind fun c => some (src, di, c) := by
  split
  · exact push_eq h
  · rfl
theorem m1P_eq {src di : List Int32} {co : Core} {x0 x1 x2 x3 t0 t1 t2 t3 n tk : Int32} (h0 : placeM di (lenI di) x0 = some t0) (h1 : placeM di (lenI di) x1 = some t1) (h2 : placeM di (lenI di) x2 = some t2) (h3 : placeM di (lenI di) x3 = some t3) :
    m1P (src, di, co) x0 x1 x2 x3 n tk = (m1PC (lenI src) co t0 t1 t2 t3 n tk).bind fun u => some ((src, di, u.1), u.2) := by
  unfold m1P m1PC
  simp only [step_eq h0, step_eq h1, step_eq h2, step_eq h3, Option.bind_assoc, Option.bind_some, popM]
  congr 1; funext c1; congr 1; funext c2; congr 1; funext c3; congr 1; funext c4
  split
  · rfl
  · split
    · simp only [Option.bind_assoc, Option.bind_some]
    · rfl
theorem m1_of {src sl se di : List Int32} {sn cn lim n tk x0 x1 x2 x3 : Int32} (g : Int32 → Int32) (hsn : lenI src = sn) (hln : src.length ≤ 3) (hle : leM src = some (sl, se, cn)) (hco : copyM se cn = some di) (hp : (sn, cn, sl) ∈ pats) (hl : lim ∈ ([0, 1] : List Int32)) (hn : n ∈ nsN (sn + lim + 1)) (htk : tk ∈ ([0, 1] : List Int32))
    (hpl : ∀ x, placeM di (lenI di) x = some (g x)) (hts : ∀ x, g x ∈ tsN cn) (hsl : sl = src.map g) (hg : ∀ x, ∀ y ∈ src, (g x = g y ↔ x = y)) :
    ((initM src lim).bind fun d => (m1P d x0 x1 x2 x3 n tk).bind fun u => m1T u.1 [x0, x1, x2, x3] src sn lim u.2) = some 1 := by
  have k := m1_all
  rw [List.all_eq_true] at k
  have k := k _ hp
  unfold m1Ok at k
  simp only [List.all_eq_true] at k
  have k := eq_of_beq (k _ hl _ (hts x0) _ (hts x1) _ (hts x2) _ (hts x3) _ hn _ htk)
  unfold m1C at k
  obtain ⟨co, c1, k⟩ := ob k
  obtain ⟨u, c2, k⟩ := ob k
  have hl0 : ¬ lim < 0 := by
    simp only [List.mem_cons, List.not_mem_nil, or_false] at hl
    rcases hl with rfl | rfl <;> decide
  have hi : initM src lim = some (src, di, co) := by
    unfold initM
    rw [if_neg hl0, if_neg (by omega)]
    obtain ⟨sl0, r1, r2⟩ := ob hle
    rw [r1]; simp only [Option.bind_some]
    rw [r2]; simp only [Option.bind_some]
    rw [hco]; simp only [Option.bind_some]
    rw [hsn, c1]; rfl
  rw [hi]; simp only [Option.bind_some]
  rw [m1P_eq (hpl x0) (hpl x1) (hpl x2) (hpl x3), hsn, c2]; simp only [Option.bind_some]
  unfold m1TC at k
  unfold m1T
  have hg' : ∀ x ∈ [x0, x1, x2, x3], ∀ y ∈ src, (g x = g y ↔ x = y) := fun x _ y hy => hg x y hy
  rw [hsl] at k
  have e1 := fun ti tn si sn => preM_map hg' ti tn si sn
  have e2 := fun m sn lim r0 => reM_map hg' m sn lim r0
  simp only [List.map_cons, List.map_nil] at e1 e2
  simp only [e1, e2] at k
  exact k
theorem g_mem {P : Prop} [Decidable P] {a b : Int32} {L : List Int32} (h1 : a ∈ L) (h2 : b ∈ L) : (if P then a else b) ∈ L := by split <;> assumption
def g1 (x t : Int32) : Int32 := if x = t then 0 else -1
def g2 (x y t : Int32) : Int32 := if x = t then 0 else if y = t then 1 else -1
def g3 (x y z t : Int32) : Int32 := if x = t then 0 else if y = t then 1 else if z = t then 2 else -1
theorem m1_law {sn lim a0 a1 a2 t0 t1 t2 t3 n0 tk : Int32} (hs : sn ∈ ([0, 1, 2, 3] : List Int32)) (hl : lim ∈ ([0, 1] : List Int32)) (hn : n0 ∈ ([0, 1, 2, 3, 4, 5, 6, 7] : List Int32)) (htk : tk ∈ ([0, 1] : List Int32)) : m1M sn lim a0 a1 a2 t0 t1 t2 t3 n0 tk = some 1 := by
  have hns : ([0, 1, 2, 3].all fun sn : Int32 => [0, 1].all fun lim : Int32 => [0, 1, 2, 3, 4, 5, 6, 7].all fun n0 : Int32 => (nsN (sn + lim + 1)).contains (n0 % (sn + lim + 1)) && !(sn + lim + 1 == 0)) = true := by decide +kernel
  simp only [List.all_eq_true, Bool.and_eq_true] at hns
  obtain ⟨hn, hz⟩ := hns _ hs _ hl _ hn
  have hn := List.contains_iff_mem.mp hn
  have hz : ¬ (sn + lim + 1 = 0) := fun q => by rw [q] at hz; exact absurd hz (by decide)
  have e1 : ∀ x t : Int32, (g1 x t ∈ tsN 1) := fun x t => g_mem (by decide) (by decide)
  have e2 : ∀ x y t : Int32, (g2 x y t ∈ tsN 2) := fun x y t => g_mem (by decide) (g_mem (by decide) (by decide))
  have e3 : ∀ x y z t : Int32, (g3 x y z t ∈ tsN 3) := fun x y z t => g_mem (by decide) (g_mem (by decide) (g_mem (by decide) (by decide)))
  have p1 : ∀ x t : Int32, placeM [x] (lenI [x]) t = some (g1 x t) := fun x t => (place1 x [] t).trans (by unfold g1; split <;> rfl)
  have p2 : ∀ x y t : Int32, placeM [x, y] (lenI [x, y]) t = some (g2 x y t) := fun x y t => (place2 x y [] t).trans (by unfold g2; split; rfl; split <;> rfl)
  have p3 : ∀ x y z t : Int32, placeM [x, y, z] (lenI [x, y, z]) t = some (g3 x y z t) := fun x y z t => (place3 x y z [] t).trans (by unfold g3; split; rfl; split; rfl; split <;> rfl)
  have i1 : ∀ x t : Int32, (g1 x t = g1 x x ↔ t = x) := fun x t => by
    unfold g1; rw [if_pos rfl]
    by_cases h : x = t
    · rw [if_pos h]; exact ⟨fun _ => h.symm, fun _ => rfl⟩
    · rw [if_neg h]; exact ⟨fun q => absurd q (by decide), fun q => absurd q.symm h⟩
  have i2x : ∀ x y t : Int32, (g2 x y t = g2 x y x ↔ t = x) := fun x y t => by
    unfold g2; rw [if_pos (rfl : x = x)]
    by_cases h : x = t
    · rw [if_pos h]; exact ⟨fun _ => h.symm, fun _ => rfl⟩
    · rw [if_neg h]
      by_cases h2 : y = t
      · rw [if_pos h2]; exact ⟨fun q => absurd q (by decide), fun q => absurd q.symm h⟩
      · rw [if_neg h2]; exact ⟨fun q => absurd q (by decide), fun q => absurd q.symm h⟩
  have i2y : ∀ x y t : Int32, x ≠ y → (g2 x y t = g2 x y y ↔ t = y) := fun x y t hxy => by
    unfold g2; rw [if_neg hxy, if_pos (rfl : y = y)]
    by_cases h : x = t
    · rw [if_pos h]; exact ⟨fun q => absurd q (by decide), fun q => absurd (h.trans q) hxy⟩
    · rw [if_neg h]
      by_cases h2 : y = t
      · rw [if_pos h2]; exact ⟨fun _ => h2.symm, fun _ => rfl⟩
      · rw [if_neg h2]; exact ⟨fun q => absurd q (by decide), fun q => absurd q.symm h2⟩
  have g2y : ∀ x y : Int32, x ≠ y → g2 x y y = 1 := fun x y h => by unfold g2; rw [if_neg h, if_pos rfl]
  have g2x : ∀ x y : Int32, g2 x y x = 0 := fun x y => if_pos rfl
  have g1x : ∀ x : Int32, g1 x x = 0 := fun x => if_pos rfl
  simp only [List.mem_cons, List.not_mem_nil, or_false] at hs
  unfold m1M
  rcases hs with rfl | rfl | rfl | rfl
  · rw [show (nwO 0 3) = some [] from rfl]; simp only [Option.bind_some]
    rw [if_neg (by decide : ¬ (0 : Int32) < 0)]; simp only [Option.bind_some]
    rw [if_neg (by decide : ¬ (1 : Int32) < 0)]; simp only [Option.bind_some]
    rw [if_neg (by decide : ¬ (2 : Int32) < 0)]; simp only [Option.bind_some]
    rw [if_neg hz]
    exact m1_of (fun _ => -1) rfl (by decide) le0 rfl (by decide) hl hn htk (fun x => place0 [] x) (fun _ => by decide) rfl (fun x y hy => nomatch hy)
  · rw [show (nwO 1 3) = some [0] from rfl]; simp only [Option.bind_some]
    rw [if_pos (by decide : (0 : Int32) < 1), show wrO [0] 0 a0 = some [a0] from rfl]; simp only [Option.bind_some]
    rw [if_neg (by decide : ¬ (1 : Int32) < 1)]; simp only [Option.bind_some]
    rw [if_neg (by decide : ¬ (2 : Int32) < 1)]; simp only [Option.bind_some]
    rw [if_neg hz]
    exact m1_of (g1 a0) rfl (by simp) (le1 a0) rfl (by decide) hl hn htk (p1 a0) (e1 a0) (by simp [g1x]) (fun x y hy => by obtain rfl := List.mem_singleton.mp hy; exact i1 _ _)
  · rw [show (nwO 2 3) = some [0, 0] from rfl]; simp only [Option.bind_some]
    rw [if_pos (by decide : (0 : Int32) < 2), show wrO [0, 0] 0 a0 = some [a0, 0] from rfl]; simp only [Option.bind_some]
    rw [if_pos (by decide : (1 : Int32) < 2), show wrO [a0, 0] 1 a1 = some [a0, a1] from rfl]; simp only [Option.bind_some]
    rw [if_neg (by decide : ¬ (2 : Int32) < 2)]; simp only [Option.bind_some]
    rw [if_neg hz]
    by_cases h : a0 = a1
    · subst h
      exact m1_of (g1 a0) rfl (by simp) (le2a a0) rfl (by decide) hl hn htk (p1 a0) (e1 a0) (by simp [g1x]) (fun x y hy => by simp only [List.mem_cons, List.not_mem_nil, or_false, or_self] at hy; subst hy; exact i1 _ _)
    · exact m1_of (g2 a0 a1) rfl (by simp) (le2b h) rfl (by decide) hl hn htk (p2 a0 a1) (e2 a0 a1) (by simp [g2x, g2y _ _ h]) (fun x y hy => by
        simp only [List.mem_cons, List.not_mem_nil, or_false] at hy
        rcases hy with rfl | rfl
        · exact i2x _ _ _
        · exact i2y _ _ _ h)
  · rw [show (nwO 3 3) = some [0, 0, 0] from rfl]; simp only [Option.bind_some]
    rw [if_pos (by decide : (0 : Int32) < 3), show wrO [0, 0, 0] 0 a0 = some [a0, 0, 0] from rfl]; simp only [Option.bind_some]
    rw [if_pos (by decide : (1 : Int32) < 3), show wrO [a0, 0, 0] 1 a1 = some [a0, a1, 0] from rfl]; simp only [Option.bind_some]
    rw [if_pos (by decide : (2 : Int32) < 3), show wrO [a0, a1, 0] 2 a2 = some [a0, a1, a2] from rfl]; simp only [Option.bind_some]
    rw [if_neg hz]
    by_cases h : a0 = a1
    · subst h
      by_cases h2 : a0 = a2
      · subst h2
        exact m1_of (g1 a0) rfl (by simp) (le3aa a0) rfl (by decide) hl hn htk (p1 a0) (e1 a0) (by simp [g1x]) (fun x y hy => by simp only [List.mem_cons, List.not_mem_nil, or_false, or_self] at hy; subst hy; exact i1 _ _)
      · exact m1_of (g2 a0 a2) rfl (by simp) (le3ab h2) rfl (by decide) hl hn htk (p2 a0 a2) (e2 a0 a2) (by simp [g2x, g2y _ _ h2]) (fun x y hy => by
          simp only [List.mem_cons, List.not_mem_nil, or_false] at hy
          rcases hy with rfl | rfl | rfl
          · exact i2x _ _ _
          · exact i2x _ _ _
          · exact i2y _ _ _ h2)
    · by_cases h2 : a0 = a2
      · subst h2
        exact m1_of (g2 a0 a1) rfl (by simp) (le3ba h) rfl (by decide) hl hn htk (p2 a0 a1) (e2 a0 a1) (by simp [g2x, g2y _ _ h]) (fun x y hy => by
          simp only [List.mem_cons, List.not_mem_nil, or_false] at hy
          rcases hy with rfl | rfl | rfl
          · exact i2x _ _ _
          · exact i2y _ _ _ h
          · exact i2x _ _ _)
      · by_cases h3 : a1 = a2
        · subst h3
          exact m1_of (g2 a0 a1) rfl (by simp) (le3bb h) rfl (by decide) hl hn htk (p2 a0 a1) (e2 a0 a1) (by simp [g2x, g2y _ _ h]) (fun x y hy => by
            simp only [List.mem_cons, List.not_mem_nil, or_false] at hy
            rcases hy with rfl | rfl | rfl
            · exact i2x _ _ _
            · exact i2y _ _ _ h
            · exact i2y _ _ _ h)
        · have G0 : g3 a0 a1 a2 a0 = 0 := if_pos rfl
          have G1 : g3 a0 a1 a2 a1 = 1 := (if_neg h).trans (if_pos rfl)
          have G2 : g3 a0 a1 a2 a2 = 2 := (if_neg h2).trans ((if_neg h3).trans (if_pos rfl))
          have K : ∀ t, (g3 a0 a1 a2 t = 0 ↔ t = a0) ∧ (g3 a0 a1 a2 t = 1 ↔ t = a1) ∧ (g3 a0 a1 a2 t = 2 ↔ t = a2) := fun t => by
            by_cases q0 : a0 = t
            · subst q0; rw [G0]; exact ⟨⟨fun _ => rfl, fun _ => rfl⟩, ⟨fun q => absurd q (by decide), fun q => absurd q h⟩, ⟨fun q => absurd q (by decide), fun q => absurd q h2⟩⟩
            · by_cases q1 : a1 = t
              · subst q1; rw [G1]; exact ⟨⟨fun q => absurd q (by decide), fun q => absurd q.symm h⟩, ⟨fun _ => rfl, fun _ => rfl⟩, ⟨fun q => absurd q (by decide), fun q => absurd q h3⟩⟩
              · by_cases q2 : a2 = t
                · subst q2; rw [G2]; exact ⟨⟨fun q => absurd q (by decide), fun q => absurd q.symm h2⟩, ⟨fun q => absurd q (by decide), fun q => absurd q.symm h3⟩, ⟨fun _ => rfl, fun _ => rfl⟩⟩
                · have G : g3 a0 a1 a2 t = -1 := (if_neg q0).trans ((if_neg q1).trans (if_neg q2))
                  rw [G]; exact ⟨⟨fun q => absurd q (by decide), fun q => absurd q.symm q0⟩, ⟨fun q => absurd q (by decide), fun q => absurd q.symm q1⟩, ⟨fun q => absurd q (by decide), fun q => absurd q.symm q2⟩⟩
          exact m1_of (g3 a0 a1 a2) rfl (by simp) (le3bc h h2 h3) rfl (by decide) hl hn htk (p3 a0 a1 a2) (e3 a0 a1 a2) (by simp [G0, G1, G2]) (fun x y hy => by
            simp only [List.mem_cons, List.not_mem_nil, or_false] at hy
            rcases hy with rfl | rfl | rfl
            · rw [G0]; exact (K x).1
            · rw [G1]; exact (K x).2.1
            · rw [G2]; exact (K x).2.2)
end Jvm.OwnKit
namespace Jvm.Pilot.@@N@@
open Jvm Jvm.ClassFile Sem Op Lib Jvm.Free Jvm.Stand Jvm.LawKit Jvm.RoadKit Jvm.OwnKit Bundle Jvm.Pilot.@@N@@.Jvm.D
theorem d_j29_m69_0 : decode jdk_29_method_69_code 0 = .ok (.iload_n 0, 1) := by decide +kernel
theorem d_j29_m69_1 : decode jdk_29_method_69_code 1 = .ok (.iload_n 1, 1) := by decide +kernel
theorem d_j29_m69_2 : decode jdk_29_method_69_code 2 = .ok (.if_icmp .gt 7, 3) := by decide +kernel
theorem d_j29_m69_9 : decode jdk_29_method_69_code 9 = .ok (.iload_n 1, 1) := by decide +kernel
theorem d_j29_m69_10 : decode jdk_29_method_69_code 10 = .ok (.ireturn, 1) := by decide +kernel
theorem d_j29_m69_5 : decode jdk_29_method_69_code 5 = .ok (.iload_n 0, 1) := by decide +kernel
theorem d_j29_m69_6 : decode jdk_29_method_69_code 6 = .ok (.goto 4, 3) := by decide +kernel
theorem d_j29_m65_0 : decode jdk_29_method_65_code 0 = .ok (.iload_n 0, 1) := by decide +kernel
theorem d_j29_m65_1 : decode jdk_29_method_65_code 1 = .ok (.iload_n 1, 1) := by decide +kernel
theorem d_j29_m65_2 : decode jdk_29_method_65_code 2 = .ok (.if_icmp .lt 7, 3) := by decide +kernel
theorem d_j29_m65_9 : decode jdk_29_method_65_code 9 = .ok (.iload_n 1, 1) := by decide +kernel
theorem d_j29_m65_10 : decode jdk_29_method_65_code 10 = .ok (.ireturn, 1) := by decide +kernel
theorem d_j29_m65_5 : decode jdk_29_method_65_code 5 = .ok (.iload_n 0, 1) := by decide +kernel
theorem d_j29_m65_6 : decode jdk_29_method_65_code 6 = .ok (.goto 4, 3) := by decide +kernel
theorem d_j29_m59_0 : decode jdk_29_method_59_code 0 = .ok (.iload_n 0, 1) := by decide +kernel
theorem d_j29_m59_1 : decode jdk_29_method_59_code 1 = .ok (.ifCond .ge 8, 3) := by decide +kernel
theorem d_j29_m59_4 : decode jdk_29_method_59_code 4 = .ok (.iload_n 0, 1) := by decide +kernel
theorem d_j29_m59_5 : decode jdk_29_method_59_code 5 = .ok (.ineg, 1) := by decide +kernel
theorem d_j29_m59_6 : decode jdk_29_method_59_code 6 = .ok (.goto 4, 3) := by decide +kernel
theorem d_j29_m59_10 : decode jdk_29_method_59_code 10 = .ok (.ireturn, 1) := by decide +kernel
theorem d_j29_m59_9 : decode jdk_29_method_59_code 9 = .ok (.iload_n 0, 1) := by decide +kernel
theorem d_p8_m9_0 : decode prog_8_method_9_code 0 = .ok (.iconst (-1), 1) := by decide +kernel
theorem d_p8_m9_1 : decode prog_8_method_9_code 1 = .ok (.istore_n 3, 1) := by decide +kernel
theorem d_p8_m9_2 : decode prog_8_method_9_code 2 = .ok (.iconst 0, 1) := by decide +kernel
theorem d_p8_m9_3 : decode prog_8_method_9_code 3 = .ok (.istore 4, 2) := by decide +kernel
theorem d_p8_m9_5 : decode prog_8_method_9_code 5 = .ok (.iload 4, 2) := by decide +kernel
theorem d_p8_m9_7 : decode prog_8_method_9_code 7 = .ok (.iload_n 1, 1) := by decide +kernel
theorem d_p8_m9_8 : decode prog_8_method_9_code 8 = .ok (.if_icmp .ge 24, 3) := by decide +kernel
theorem d_p8_m9_11 : decode prog_8_method_9_code 11 = .ok (.iload_n 3, 1) := by decide +kernel
theorem d_p8_m9_12 : decode prog_8_method_9_code 12 = .ok (.ifCond .ge 20, 3) := by decide +kernel
theorem d_p8_m9_15 : decode prog_8_method_9_code 15 = .ok (.aload_n 0, 1) := by decide +kernel
theorem d_p8_m9_16 : decode prog_8_method_9_code 16 = .ok (.iload 4, 2) := by decide +kernel
theorem d_p8_m9_18 : decode prog_8_method_9_code 18 = .ok (.iaload, 1) := by decide +kernel
theorem d_p8_m9_19 : decode prog_8_method_9_code 19 = .ok (.iload_n 2, 1) := by decide +kernel
theorem d_p8_m9_20 : decode prog_8_method_9_code 20 = .ok (.if_icmp .ne 6, 3) := by decide +kernel
theorem d_p8_m9_23 : decode prog_8_method_9_code 23 = .ok (.iload 4, 2) := by decide +kernel
theorem d_p8_m9_25 : decode prog_8_method_9_code 25 = .ok (.istore_n 3, 1) := by decide +kernel
theorem d_p8_m9_26 : decode prog_8_method_9_code 26 = .ok (.iinc 4 1, 3) := by decide +kernel
theorem d_p8_m9_29 : decode prog_8_method_9_code 29 = .ok (.goto (-24), 3) := by decide +kernel
theorem d_p8_m9_32 : decode prog_8_method_9_code 32 = .ok (.iload_n 3, 1) := by decide +kernel
theorem d_p8_m9_33 : decode prog_8_method_9_code 33 = .ok (.ireturn, 1) := by decide +kernel
theorem pn_EditDistance_202 : plainName "com/example/shingle/shingle/EditDistance" = true := by first | (simp [plainName, overriddenIn]; done) | decide +kernel
theorem d_p8_m3_0 : decode prog_8_method_3_code 0 = .ok (.aload_n 0, 1) := by decide +kernel
theorem d_p8_m3_1 : decode prog_8_method_3_code 1 = .ok (.getfield 22, 3) := by decide +kernel
theorem d_p8_m3_4 : decode prog_8_method_3_code 4 = .ok (.arraylength, 1) := by decide +kernel
theorem d_p8_m3_5 : decode prog_8_method_3_code 5 = .ok (.aload_n 0, 1) := by decide +kernel
theorem d_p8_m3_6 : decode prog_8_method_3_code 6 = .ok (.getfield 27, 3) := by decide +kernel
theorem d_p8_m3_9 : decode prog_8_method_3_code 9 = .ok (.iadd, 1) := by decide +kernel
theorem d_p8_m3_10 : decode prog_8_method_3_code 10 = .ok (.ireturn, 1) := by decide +kernel
theorem d_p8_m6_0 : decode prog_8_method_6_code 0 = .ok (.aload_n 0, 1) := by decide +kernel
theorem d_p8_m6_1 : decode prog_8_method_6_code 1 = .ok (.getfield 71, 3) := by decide +kernel
theorem d_p8_m6_4 : decode prog_8_method_6_code 4 = .ok (.ifCond .ne 13, 3) := by decide +kernel
theorem d_p8_m6_17 : decode prog_8_method_6_code 17 = .ok (.aload_n 0, 1) := by decide +kernel
theorem d_p8_m6_18 : decode prog_8_method_6_code 18 = .ok (.getfield 62, 3) := by decide +kernel
theorem d_p8_m6_21 : decode prog_8_method_6_code 21 = .ok (.aload_n 0, 1) := by decide +kernel
theorem d_p8_m6_22 : decode prog_8_method_6_code 22 = .ok (.getfield 71, 3) := by decide +kernel
theorem d_p8_m6_25 : decode prog_8_method_6_code 25 = .ok (.iaload, 1) := by decide +kernel
theorem d_p8_m6_26 : decode prog_8_method_6_code 26 = .ok (.istore_n 1, 1) := by decide +kernel
theorem d_p8_m6_27 : decode prog_8_method_6_code 27 = .ok (.iload_n 1, 1) := by decide +kernel
theorem d_p8_m6_28 : decode prog_8_method_6_code 28 = .ok (.ifCond .lt 18, 3) := by decide +kernel
theorem d_p8_m6_46 : decode prog_8_method_6_code 46 = .ok (.aload_n 0, 1) := by decide +kernel
theorem d_p8_m6_47 : decode prog_8_method_6_code 47 = .ok (.dup, 1) := by decide +kernel
theorem d_p8_m6_48 : decode prog_8_method_6_code 48 = .ok (.getfield 71, 3) := by decide +kernel
theorem d_p8_m6_51 : decode prog_8_method_6_code 51 = .ok (.iconst 1, 1) := by decide +kernel
theorem d_p8_m6_52 : decode prog_8_method_6_code 52 = .ok (.isub, 1) := by decide +kernel
theorem d_p8_m6_53 : decode prog_8_method_6_code 53 = .ok (.putfield 71, 3) := by decide +kernel
theorem d_p8_m6_56 : decode prog_8_method_6_code 56 = .ok (.return_, 1) := by decide +kernel
theorem d_p8_m6_31 : decode prog_8_method_6_code 31 = .ok (.aload_n 0, 1) := by decide +kernel
theorem d_p8_m6_32 : decode prog_8_method_6_code 32 = .ok (.getfield 65, 3) := by decide +kernel
theorem d_p8_m6_35 : decode prog_8_method_6_code 35 = .ok (.iload_n 1, 1) := by decide +kernel
theorem d_p8_m6_36 : decode prog_8_method_6_code 36 = .ok (.aload_n 0, 1) := by decide +kernel
theorem d_p8_m6_37 : decode prog_8_method_6_code 37 = .ok (.getfield 68, 3) := by decide +kernel
theorem d_p8_m6_40 : decode prog_8_method_6_code 40 = .ok (.aload_n 0, 1) := by decide +kernel
theorem d_p8_m6_41 : decode prog_8_method_6_code 41 = .ok (.getfield 71, 3) := by decide +kernel
theorem d_p8_m6_44 : decode prog_8_method_6_code 44 = .ok (.iaload, 1) := by decide +kernel
theorem d_p8_m6_45 : decode prog_8_method_6_code 45 = .ok (.iastore, 1) := by decide +kernel
theorem d_p8_m8_0 : decode prog_8_method_8_code 0 = .ok (.aload_n 0, 1) := by decide +kernel
theorem d_p8_m8_1 : decode prog_8_method_8_code 1 = .ok (.getfield 59, 3) := by decide +kernel
theorem d_p8_m8_4 : decode prog_8_method_8_code 4 = .ok (.aload_n 0, 1) := by decide +kernel
theorem d_p8_m8_5 : decode prog_8_method_8_code 5 = .ok (.getfield 71, 3) := by decide +kernel
theorem d_p8_m8_8 : decode prog_8_method_8_code 8 = .ok (.iaload, 1) := by decide +kernel
theorem d_p8_m8_9 : decode prog_8_method_8_code 9 = .ok (.aload_n 0, 1) := by decide +kernel
theorem d_p8_m8_10 : decode prog_8_method_8_code 10 = .ok (.getfield 27, 3) := by decide +kernel
theorem d_p8_m8_13 : decode prog_8_method_8_code 13 = .ok (.if_icmp .le 7, 3) := by decide +kernel
theorem d_p8_m8_16 : decode prog_8_method_8_code 16 = .ok (.iconst 1, 1) := by decide +kernel
theorem d_p8_m8_17 : decode prog_8_method_8_code 17 = .ok (.goto 4, 3) := by decide +kernel
theorem d_p8_m8_21 : decode prog_8_method_8_code 21 = .ok (.ireturn, 1) := by decide +kernel
theorem d_p8_m8_20 : decode prog_8_method_8_code 20 = .ok (.iconst 0, 1) := by decide +kernel
theorem d_p8_m5_0 : decode prog_8_method_5_code 0 = .ok (.aload_n 0, 1) := by decide +kernel
theorem d_p8_m5_1 : decode prog_8_method_5_code 1 = .ok (.getfield 71, 3) := by decide +kernel
theorem d_p8_m5_4 : decode prog_8_method_5_code 4 = .ok (.aload_n 0, 1) := by decide +kernel
theorem pd___I_8321 : parseMethodDescriptor "()I" = some ⟨[], some .int⟩ := by decide +kernel
theorem d_p8_m5_5 : decode prog_8_method_5_code 5 = .ok (.invokevirtual 52, 3) := by decide +kernel
theorem d_p8_m5_8 : decode prog_8_method_5_code 8 = .ok (.if_icmp .ne 20, 3) := by decide +kernel
theorem d_p8_m5_28 : decode prog_8_method_5_code 28 = .ok (.aload_n 0, 1) := by decide +kernel
theorem d_p8_m5_29 : decode prog_8_method_5_code 29 = .ok (.getfield 71, 3) := by decide +kernel
theorem d_p8_m5_32 : decode prog_8_method_5_code 32 = .ok (.iconst 1, 1) := by decide +kernel
theorem d_p8_m5_33 : decode prog_8_method_5_code 33 = .ok (.iadd, 1) := by decide +kernel
theorem d_p8_m5_34 : decode prog_8_method_5_code 34 = .ok (.istore_n 2, 1) := by decide +kernel
theorem d_p8_m5_35 : decode prog_8_method_5_code 35 = .ok (.aload_n 0, 1) := by decide +kernel
theorem d_p8_m5_36 : decode prog_8_method_5_code 36 = .ok (.getfield 44, 3) := by decide +kernel
theorem d_p8_m5_39 : decode prog_8_method_5_code 39 = .ok (.aload_n 0, 1) := by decide +kernel
theorem d_p8_m5_40 : decode prog_8_method_5_code 40 = .ok (.getfield 44, 3) := by decide +kernel
theorem d_p8_m5_43 : decode prog_8_method_5_code 43 = .ok (.arraylength, 1) := by decide +kernel
theorem d_p8_m5_44 : decode prog_8_method_5_code 44 = .ok (.iload_n 1, 1) := by decide +kernel
theorem pd___III_I_9745 : parseMethodDescriptor "([III)I" = some ⟨[(.array .int), .int, .int], some .int⟩ := by decide +kernel
theorem d_p8_m5_45 : decode prog_8_method_5_code 45 = .ok (.invokestatic 31, 3) := by decide +kernel
theorem d_p8_m5_48 : decode prog_8_method_5_code 48 = .ok (.istore_n 3, 1) := by decide +kernel
theorem d_p8_m5_49 : decode prog_8_method_5_code 49 = .ok (.aload_n 0, 1) := by decide +kernel
theorem d_p8_m5_50 : decode prog_8_method_5_code 50 = .ok (.getfield 56, 3) := by decide +kernel
theorem d_p8_m5_53 : decode prog_8_method_5_code 53 = .ok (.iload_n 2, 1) := by decide +kernel
theorem d_p8_m5_54 : decode prog_8_method_5_code 54 = .ok (.iconst 1, 1) := by decide +kernel
theorem d_p8_m5_55 : decode prog_8_method_5_code 55 = .ok (.isub, 1) := by decide +kernel
theorem d_p8_m5_56 : decode prog_8_method_5_code 56 = .ok (.aaload, 1) := by decide +kernel
theorem d_p8_m5_57 : decode prog_8_method_5_code 57 = .ok (.astore 4, 2) := by decide +kernel
theorem d_p8_m5_59 : decode prog_8_method_5_code 59 = .ok (.aload_n 0, 1) := by decide +kernel
theorem d_p8_m5_60 : decode prog_8_method_5_code 60 = .ok (.getfield 56, 3) := by decide +kernel
theorem d_p8_m5_63 : decode prog_8_method_5_code 63 = .ok (.iload_n 2, 1) := by decide +kernel
theorem d_p8_m5_64 : decode prog_8_method_5_code 64 = .ok (.aaload, 1) := by decide +kernel
theorem d_p8_m5_65 : decode prog_8_method_5_code 65 = .ok (.astore 5, 2) := by decide +kernel
theorem d_p8_m5_67 : decode prog_8_method_5_code 67 = .ok (.iconst 1, 1) := by decide +kernel
theorem d_p8_m5_68 : decode prog_8_method_5_code 68 = .ok (.iload_n 2, 1) := by decide +kernel
theorem d_p8_m5_69 : decode prog_8_method_5_code 69 = .ok (.aload_n 0, 1) := by decide +kernel
theorem d_p8_m5_70 : decode prog_8_method_5_code 70 = .ok (.getfield 27, 3) := by decide +kernel
theorem d_p8_m5_73 : decode prog_8_method_5_code 73 = .ok (.isub, 1) := by decide +kernel
theorem pd__II_I_420 : parseMethodDescriptor "(II)I" = some ⟨[.int, .int], some .int⟩ := by decide +kernel
theorem d_p8_m5_74 : decode prog_8_method_5_code 74 = .ok (.invokestatic 78, 3) := by decide +kernel
theorem d_p8_m5_77 : decode prog_8_method_5_code 77 = .ok (.istore 6, 2) := by decide +kernel
theorem d_p8_m5_79 : decode prog_8_method_5_code 79 = .ok (.aload_n 0, 1) := by decide +kernel
theorem d_p8_m5_80 : decode prog_8_method_5_code 80 = .ok (.getfield 22, 3) := by decide +kernel
theorem d_p8_m5_83 : decode prog_8_method_5_code 83 = .ok (.arraylength, 1) := by decide +kernel
theorem d_p8_m5_84 : decode prog_8_method_5_code 84 = .ok (.iload_n 2, 1) := by decide +kernel
theorem d_p8_m5_85 : decode prog_8_method_5_code 85 = .ok (.aload_n 0, 1) := by decide +kernel
theorem d_p8_m5_86 : decode prog_8_method_5_code 86 = .ok (.getfield 27, 3) := by decide +kernel
theorem d_p8_m5_89 : decode prog_8_method_5_code 89 = .ok (.iadd, 1) := by decide +kernel
theorem d_p8_m5_90 : decode prog_8_method_5_code 90 = .ok (.invokestatic 84, 3) := by decide +kernel
theorem d_p8_m5_93 : decode prog_8_method_5_code 93 = .ok (.istore 7, 2) := by decide +kernel
theorem d_p8_m5_95 : decode prog_8_method_5_code 95 = .ok (.aload 5, 2) := by decide +kernel
theorem d_p8_m5_97 : decode prog_8_method_5_code 97 = .ok (.iconst 0, 1) := by decide +kernel
theorem d_p8_m5_98 : decode prog_8_method_5_code 98 = .ok (.iload_n 2, 1) := by decide +kernel
theorem d_p8_m5_99 : decode prog_8_method_5_code 99 = .ok (.iastore, 1) := by decide +kernel
theorem d_p8_m5_100 : decode prog_8_method_5_code 100 = .ok (.aload_n 0, 1) := by decide +kernel
theorem d_p8_m5_101 : decode prog_8_method_5_code 101 = .ok (.getfield 27, 3) := by decide +kernel
theorem d_p8_m5_104 : decode prog_8_method_5_code 104 = .ok (.iconst 1, 1) := by decide +kernel
theorem d_p8_m5_105 : decode prog_8_method_5_code 105 = .ok (.iadd, 1) := by decide +kernel
theorem d_p8_m5_106 : decode prog_8_method_5_code 106 = .ok (.istore 8, 2) := by decide +kernel
theorem d_p8_m5_108 : decode prog_8_method_5_code 108 = .ok (.iload 6, 2) := by decide +kernel
theorem d_p8_m5_110 : decode prog_8_method_5_code 110 = .ok (.iconst 1, 1) := by decide +kernel
theorem d_p8_m5_137 : decode prog_8_method_5_code 137 = .ok (.iload 9, 2) := by decide +kernel
theorem d_p8_m5_139 : decode prog_8_method_5_code 139 = .ok (.iload 7, 2) := by decide +kernel
theorem d_p8_m5_141 : decode prog_8_method_5_code 141 = .ok (.if_icmp .gt 176, 3) := by decide +kernel
theorem d_p8_m5_317 : decode prog_8_method_5_code 317 = .ok (.iload 7, 2) := by decide +kernel
theorem d_p8_m5_319 : decode prog_8_method_5_code 319 = .ok (.aload_n 0, 1) := by decide +kernel
theorem d_p8_m5_320 : decode prog_8_method_5_code 320 = .ok (.getfield 22, 3) := by decide +kernel
theorem d_p8_m5_323 : decode prog_8_method_5_code 323 = .ok (.arraylength, 1) := by decide +kernel
theorem d_p8_m5_340 : decode prog_8_method_5_code 340 = .ok (.aload_n 0, 1) := by decide +kernel
theorem d_p8_m5_341 : decode prog_8_method_5_code 341 = .ok (.getfield 59, 3) := by decide +kernel
theorem d_p8_m5_344 : decode prog_8_method_5_code 344 = .ok (.iload_n 2, 1) := by decide +kernel
theorem d_p8_m5_345 : decode prog_8_method_5_code 345 = .ok (.iload 8, 2) := by decide +kernel
theorem d_p8_m5_347 : decode prog_8_method_5_code 347 = .ok (.iastore, 1) := by decide +kernel
theorem d_p8_m5_348 : decode prog_8_method_5_code 348 = .ok (.aload_n 0, 1) := by decide +kernel
theorem d_p8_m5_349 : decode prog_8_method_5_code 349 = .ok (.getfield 62, 3) := by decide +kernel
theorem d_p8_m5_352 : decode prog_8_method_5_code 352 = .ok (.iload_n 2, 1) := by decide +kernel
theorem d_p8_m5_353 : decode prog_8_method_5_code 353 = .ok (.iload_n 3, 1) := by decide +kernel
theorem d_p8_m5_354 : decode prog_8_method_5_code 354 = .ok (.iastore, 1) := by decide +kernel
theorem d_p8_m5_355 : decode prog_8_method_5_code 355 = .ok (.iload_n 3, 1) := by decide +kernel
theorem d_p8_m5_356 : decode prog_8_method_5_code 356 = .ok (.ifCond .lt 22, 3) := by decide +kernel
theorem d_p8_m5_378 : decode prog_8_method_5_code 378 = .ok (.aload_n 0, 1) := by decide +kernel
theorem d_p8_m5_379 : decode prog_8_method_5_code 379 = .ok (.iload_n 2, 1) := by decide +kernel
theorem d_p8_m5_380 : decode prog_8_method_5_code 380 = .ok (.putfield 71, 3) := by decide +kernel
theorem d_p8_m5_383 : decode prog_8_method_5_code 383 = .ok (.return_, 1) := by decide +kernel
theorem d_p8_m5_359 : decode prog_8_method_5_code 359 = .ok (.aload_n 0, 1) := by decide +kernel
theorem d_p8_m5_360 : decode prog_8_method_5_code 360 = .ok (.getfield 68, 3) := by decide +kernel
theorem d_p8_m5_363 : decode prog_8_method_5_code 363 = .ok (.iload_n 2, 1) := by decide +kernel
theorem d_p8_m5_364 : decode prog_8_method_5_code 364 = .ok (.aload_n 0, 1) := by decide +kernel
theorem d_p8_m5_365 : decode prog_8_method_5_code 365 = .ok (.getfield 65, 3) := by decide +kernel
theorem d_p8_m5_368 : decode prog_8_method_5_code 368 = .ok (.iload_n 3, 1) := by decide +kernel
theorem d_p8_m5_369 : decode prog_8_method_5_code 369 = .ok (.iaload, 1) := by decide +kernel
theorem d_p8_m5_370 : decode prog_8_method_5_code 370 = .ok (.iastore, 1) := by decide +kernel
theorem d_p8_m5_371 : decode prog_8_method_5_code 371 = .ok (.aload_n 0, 1) := by decide +kernel
theorem d_p8_m5_372 : decode prog_8_method_5_code 372 = .ok (.getfield 65, 3) := by decide +kernel
theorem d_p8_m5_375 : decode prog_8_method_5_code 375 = .ok (.iload_n 3, 1) := by decide +kernel
theorem d_p8_m5_376 : decode prog_8_method_5_code 376 = .ok (.iload_n 2, 1) := by decide +kernel
theorem d_p8_m5_377 : decode prog_8_method_5_code 377 = .ok (.iastore, 1) := by decide +kernel
theorem d_p8_m5_324 : decode prog_8_method_5_code 324 = .ok (.if_icmp .ge 16, 3) := by decide +kernel
theorem d_p8_m5_327 : decode prog_8_method_5_code 327 = .ok (.aload 5, 2) := by decide +kernel
theorem d_p8_m5_329 : decode prog_8_method_5_code 329 = .ok (.iload 7, 2) := by decide +kernel
theorem d_p8_m5_331 : decode prog_8_method_5_code 331 = .ok (.iconst 1, 1) := by decide +kernel
theorem d_p8_m5_332 : decode prog_8_method_5_code 332 = .ok (.iadd, 1) := by decide +kernel
theorem d_p8_m5_333 : decode prog_8_method_5_code 333 = .ok (.aload_n 0, 1) := by decide +kernel
theorem d_p8_m5_334 : decode prog_8_method_5_code 334 = .ok (.getfield 27, 3) := by decide +kernel
theorem d_p8_m5_337 : decode prog_8_method_5_code 337 = .ok (.iconst 1, 1) := by decide +kernel
theorem d_p8_m5_338 : decode prog_8_method_5_code 338 = .ok (.iadd, 1) := by decide +kernel
theorem d_p8_m5_339 : decode prog_8_method_5_code 339 = .ok (.iastore, 1) := by decide +kernel
theorem d_p8_m5_144 : decode prog_8_method_5_code 144 = .ok (.aload_n 0, 1) := by decide +kernel
theorem d_p8_m5_145 : decode prog_8_method_5_code 145 = .ok (.getfield 35, 3) := by decide +kernel
theorem d_p8_m5_148 : decode prog_8_method_5_code 148 = .ok (.iload 9, 2) := by decide +kernel
theorem d_p8_m5_150 : decode prog_8_method_5_code 150 = .ok (.iconst 1, 1) := by decide +kernel
theorem d_p8_m5_151 : decode prog_8_method_5_code 151 = .ok (.isub, 1) := by decide +kernel
theorem d_p8_m5_152 : decode prog_8_method_5_code 152 = .ok (.iaload, 1) := by decide +kernel
theorem d_p8_m5_153 : decode prog_8_method_5_code 153 = .ok (.istore 10, 2) := by decide +kernel
theorem d_p8_m5_155 : decode prog_8_method_5_code 155 = .ok (.iconst 1, 1) := by decide +kernel
theorem d_p8_m5_156 : decode prog_8_method_5_code 156 = .ok (.istore 11, 2) := by decide +kernel
theorem d_p8_m5_158 : decode prog_8_method_5_code 158 = .ok (.iload 10, 2) := by decide +kernel
theorem d_p8_m5_160 : decode prog_8_method_5_code 160 = .ok (.iload_n 3, 1) := by decide +kernel
theorem d_p8_m5_167 : decode prog_8_method_5_code 167 = .ok (.aload 4, 2) := by decide +kernel
theorem d_p8_m5_169 : decode prog_8_method_5_code 169 = .ok (.iload 9, 2) := by decide +kernel
theorem d_p8_m5_171 : decode prog_8_method_5_code 171 = .ok (.iconst 1, 1) := by decide +kernel
theorem d_p8_m5_172 : decode prog_8_method_5_code 172 = .ok (.isub, 1) := by decide +kernel
theorem d_p8_m5_173 : decode prog_8_method_5_code 173 = .ok (.iaload, 1) := by decide +kernel
theorem d_p8_m5_174 : decode prog_8_method_5_code 174 = .ok (.iload 11, 2) := by decide +kernel
theorem d_p8_m5_176 : decode prog_8_method_5_code 176 = .ok (.iadd, 1) := by decide +kernel
theorem d_p8_m5_177 : decode prog_8_method_5_code 177 = .ok (.aload 4, 2) := by decide +kernel
theorem d_p8_m5_179 : decode prog_8_method_5_code 179 = .ok (.iload 9, 2) := by decide +kernel
theorem d_p8_m5_181 : decode prog_8_method_5_code 181 = .ok (.iaload, 1) := by decide +kernel
theorem d_p8_m5_182 : decode prog_8_method_5_code 182 = .ok (.iconst 1, 1) := by decide +kernel
theorem d_p8_m5_183 : decode prog_8_method_5_code 183 = .ok (.iadd, 1) := by decide +kernel
theorem d_p8_m5_184 : decode prog_8_method_5_code 184 = .ok (.aload 5, 2) := by decide +kernel
theorem d_p8_m5_186 : decode prog_8_method_5_code 186 = .ok (.iload 9, 2) := by decide +kernel
theorem d_p8_m5_188 : decode prog_8_method_5_code 188 = .ok (.iconst 1, 1) := by decide +kernel
theorem d_p8_m5_189 : decode prog_8_method_5_code 189 = .ok (.isub, 1) := by decide +kernel
theorem d_p8_m5_190 : decode prog_8_method_5_code 190 = .ok (.iaload, 1) := by decide +kernel
theorem d_p8_m5_191 : decode prog_8_method_5_code 191 = .ok (.iconst 1, 1) := by decide +kernel
theorem d_p8_m5_192 : decode prog_8_method_5_code 192 = .ok (.iadd, 1) := by decide +kernel
theorem d_p8_m5_193 : decode prog_8_method_5_code 193 = .ok (.invokestatic 84, 3) := by decide +kernel
theorem d_p8_m5_196 : decode prog_8_method_5_code 196 = .ok (.invokestatic 84, 3) := by decide +kernel
theorem d_p8_m5_199 : decode prog_8_method_5_code 199 = .ok (.istore 12, 2) := by decide +kernel
theorem d_p8_m5_201 : decode prog_8_method_5_code 201 = .ok (.iconst 0, 1) := by decide +kernel
theorem d_p8_m5_202 : decode prog_8_method_5_code 202 = .ok (.istore 13, 2) := by decide +kernel
theorem d_p8_m5_204 : decode prog_8_method_5_code 204 = .ok (.iload_n 3, 1) := by decide +kernel
theorem d_p8_m5_219 : decode prog_8_method_5_code 219 = .ok (.aload_n 0, 1) := by decide +kernel
theorem d_p8_m5_220 : decode prog_8_method_5_code 220 = .ok (.getfield 65, 3) := by decide +kernel
theorem d_p8_m5_223 : decode prog_8_method_5_code 223 = .ok (.iload 10, 2) := by decide +kernel
theorem d_p8_m5_225 : decode prog_8_method_5_code 225 = .ok (.iaload, 1) := by decide +kernel
theorem d_p8_m5_226 : decode prog_8_method_5_code 226 = .ok (.istore 14, 2) := by decide +kernel
theorem d_p8_m5_228 : decode prog_8_method_5_code 228 = .ok (.iload 13, 2) := by decide +kernel
theorem d_p8_m5_295 : decode prog_8_method_5_code 295 = .ok (.aload 5, 2) := by decide +kernel
theorem d_p8_m5_297 : decode prog_8_method_5_code 297 = .ok (.iload 9, 2) := by decide +kernel
theorem d_p8_m5_299 : decode prog_8_method_5_code 299 = .ok (.iload 12, 2) := by decide +kernel
theorem d_p8_m5_301 : decode prog_8_method_5_code 301 = .ok (.iastore, 1) := by decide +kernel
theorem d_p8_m5_302 : decode prog_8_method_5_code 302 = .ok (.iload 8, 2) := by decide +kernel
theorem d_p8_m5_304 : decode prog_8_method_5_code 304 = .ok (.iload 12, 2) := by decide +kernel
theorem d_p8_m5_306 : decode prog_8_method_5_code 306 = .ok (.invokestatic 84, 3) := by decide +kernel
theorem d_p8_m5_309 : decode prog_8_method_5_code 309 = .ok (.istore 8, 2) := by decide +kernel
theorem d_p8_m5_311 : decode prog_8_method_5_code 311 = .ok (.iinc 9 1, 3) := by decide +kernel
theorem d_p8_m5_314 : decode prog_8_method_5_code 314 = .ok (.goto (-177), 3) := by decide +kernel
theorem d_p8_m5_230 : decode prog_8_method_5_code 230 = .ok (.ifCond .le 65, 3) := by decide +kernel
theorem d_p8_m5_233 : decode prog_8_method_5_code 233 = .ok (.iload 14, 2) := by decide +kernel
theorem d_p8_m5_235 : decode prog_8_method_5_code 235 = .ok (.ifCond .le 60, 3) := by decide +kernel
theorem d_p8_m5_238 : decode prog_8_method_5_code 238 = .ok (.iload 13, 2) := by decide +kernel
theorem d_p8_m5_240 : decode prog_8_method_5_code 240 = .ok (.iload 14, 2) := by decide +kernel
theorem d_p8_m5_242 : decode prog_8_method_5_code 242 = .ok (.isub, 1) := by decide +kernel
theorem pd__I_I_7763 : parseMethodDescriptor "(I)I" = some ⟨[.int], some .int⟩ := by decide +kernel
theorem d_p8_m5_243 : decode prog_8_method_5_code 243 = .ok (.invokestatic 87, 3) := by decide +kernel
theorem d_p8_m5_246 : decode prog_8_method_5_code 246 = .ok (.aload_n 0, 1) := by decide +kernel
theorem d_p8_m5_247 : decode prog_8_method_5_code 247 = .ok (.getfield 27, 3) := by decide +kernel
theorem d_p8_m5_250 : decode prog_8_method_5_code 250 = .ok (.if_icmp .gt 45, 3) := by decide +kernel
theorem d_p8_m5_253 : decode prog_8_method_5_code 253 = .ok (.aload_n 0, 1) := by decide +kernel
theorem d_p8_m5_254 : decode prog_8_method_5_code 254 = .ok (.getfield 56, 3) := by decide +kernel
theorem d_p8_m5_257 : decode prog_8_method_5_code 257 = .ok (.iload 14, 2) := by decide +kernel
theorem d_p8_m5_259 : decode prog_8_method_5_code 259 = .ok (.iconst 1, 1) := by decide +kernel
theorem d_p8_m5_260 : decode prog_8_method_5_code 260 = .ok (.isub, 1) := by decide +kernel
theorem d_p8_m5_261 : decode prog_8_method_5_code 261 = .ok (.aaload, 1) := by decide +kernel
theorem d_p8_m5_262 : decode prog_8_method_5_code 262 = .ok (.iload 13, 2) := by decide +kernel
theorem d_p8_m5_264 : decode prog_8_method_5_code 264 = .ok (.iconst 1, 1) := by decide +kernel
theorem d_p8_m5_265 : decode prog_8_method_5_code 265 = .ok (.isub, 1) := by decide +kernel
theorem d_p8_m5_266 : decode prog_8_method_5_code 266 = .ok (.iaload, 1) := by decide +kernel
theorem d_p8_m5_267 : decode prog_8_method_5_code 267 = .ok (.iload 9, 2) := by decide +kernel
theorem d_p8_m5_269 : decode prog_8_method_5_code 269 = .ok (.iload 13, 2) := by decide +kernel
theorem d_p8_m5_271 : decode prog_8_method_5_code 271 = .ok (.isub, 1) := by decide +kernel
theorem d_p8_m5_272 : decode prog_8_method_5_code 272 = .ok (.iconst 1, 1) := by decide +kernel
theorem d_p8_m5_273 : decode prog_8_method_5_code 273 = .ok (.isub, 1) := by decide +kernel
theorem d_p8_m5_274 : decode prog_8_method_5_code 274 = .ok (.iadd, 1) := by decide +kernel
theorem d_p8_m5_275 : decode prog_8_method_5_code 275 = .ok (.iconst 1, 1) := by decide +kernel
theorem d_p8_m5_276 : decode prog_8_method_5_code 276 = .ok (.iadd, 1) := by decide +kernel
theorem d_p8_m5_277 : decode prog_8_method_5_code 277 = .ok (.iload_n 2, 1) := by decide +kernel
theorem d_p8_m5_278 : decode prog_8_method_5_code 278 = .ok (.iload 14, 2) := by decide +kernel
theorem d_p8_m5_280 : decode prog_8_method_5_code 280 = .ok (.isub, 1) := by decide +kernel
theorem d_p8_m5_281 : decode prog_8_method_5_code 281 = .ok (.iconst 1, 1) := by decide +kernel
theorem d_p8_m5_282 : decode prog_8_method_5_code 282 = .ok (.isub, 1) := by decide +kernel
theorem d_p8_m5_283 : decode prog_8_method_5_code 283 = .ok (.iadd, 1) := by decide +kernel
theorem d_p8_m5_284 : decode prog_8_method_5_code 284 = .ok (.istore 15, 2) := by decide +kernel
theorem d_p8_m5_286 : decode prog_8_method_5_code 286 = .ok (.iload 12, 2) := by decide +kernel
theorem d_p8_m5_288 : decode prog_8_method_5_code 288 = .ok (.iload 15, 2) := by decide +kernel
theorem d_p8_m5_290 : decode prog_8_method_5_code 290 = .ok (.invokestatic 84, 3) := by decide +kernel
theorem d_p8_m5_293 : decode prog_8_method_5_code 293 = .ok (.istore 12, 2) := by decide +kernel
theorem d_p8_m5_205 : decode prog_8_method_5_code 205 = .ok (.ifCond .lt 14, 3) := by decide +kernel
theorem d_p8_m5_208 : decode prog_8_method_5_code 208 = .ok (.aload_n 0, 1) := by decide +kernel
theorem d_p8_m5_209 : decode prog_8_method_5_code 209 = .ok (.getfield 49, 3) := by decide +kernel
theorem d_p8_m5_212 : decode prog_8_method_5_code 212 = .ok (.iload_n 3, 1) := by decide +kernel
theorem d_p8_m5_213 : decode prog_8_method_5_code 213 = .ok (.aaload, 1) := by decide +kernel
theorem d_p8_m5_214 : decode prog_8_method_5_code 214 = .ok (.iload 9, 2) := by decide +kernel
theorem d_p8_m5_216 : decode prog_8_method_5_code 216 = .ok (.iaload, 1) := by decide +kernel
theorem d_p8_m5_217 : decode prog_8_method_5_code 217 = .ok (.istore 13, 2) := by decide +kernel
theorem d_p8_m5_161 : decode prog_8_method_5_code 161 = .ok (.if_icmp .ne 6, 3) := by decide +kernel
theorem d_p8_m5_164 : decode prog_8_method_5_code 164 = .ok (.iconst 0, 1) := by decide +kernel
theorem d_p8_m5_165 : decode prog_8_method_5_code 165 = .ok (.istore 11, 2) := by decide +kernel
theorem d_p8_m5_111 : decode prog_8_method_5_code 111 = .ok (.if_icmp .ne 9, 3) := by decide +kernel
theorem d_p8_m5_114 : decode prog_8_method_5_code 114 = .ok (.iload_n 2, 1) := by decide +kernel
theorem d_p8_m5_115 : decode prog_8_method_5_code 115 = .ok (.istore 8, 2) := by decide +kernel
theorem d_p8_m5_117 : decode prog_8_method_5_code 117 = .ok (.goto 16, 3) := by decide +kernel
theorem d_p8_m5_133 : decode prog_8_method_5_code 133 = .ok (.iload 6, 2) := by decide +kernel
theorem d_p8_m5_135 : decode prog_8_method_5_code 135 = .ok (.istore 9, 2) := by decide +kernel
theorem d_p8_m5_120 : decode prog_8_method_5_code 120 = .ok (.aload 5, 2) := by decide +kernel
theorem d_p8_m5_122 : decode prog_8_method_5_code 122 = .ok (.iload 6, 2) := by decide +kernel
theorem d_p8_m5_124 : decode prog_8_method_5_code 124 = .ok (.iconst 1, 1) := by decide +kernel
theorem d_p8_m5_125 : decode prog_8_method_5_code 125 = .ok (.isub, 1) := by decide +kernel
theorem d_p8_m5_126 : decode prog_8_method_5_code 126 = .ok (.aload_n 0, 1) := by decide +kernel
theorem d_p8_m5_127 : decode prog_8_method_5_code 127 = .ok (.getfield 27, 3) := by decide +kernel
theorem d_p8_m5_130 : decode prog_8_method_5_code 130 = .ok (.iconst 1, 1) := by decide +kernel
theorem d_p8_m5_131 : decode prog_8_method_5_code 131 = .ok (.iadd, 1) := by decide +kernel
theorem d_p8_m5_132 : decode prog_8_method_5_code 132 = .ok (.iastore, 1) := by decide +kernel
theorem d_j65_m123_0 : decode jdk_65_method_123_code 0 = .ok (.iload_n 1, 1) := by decide +kernel
theorem d_j65_m123_1 : decode jdk_65_method_123_code 1 = .ok (.aload_n 0, 1) := by decide +kernel
theorem d_j65_m123_2 : decode jdk_65_method_123_code 2 = .ok (.arraylength, 1) := by decide +kernel
theorem d_j65_m123_3 : decode jdk_65_method_123_code 3 = .ok (.if_icmp .ne 11, 3) := by decide +kernel
theorem d_j65_m123_6 : decode jdk_65_method_123_code 6 = .ok (.aload_n 0, 1) := by decide +kernel
theorem d_j65_m123_7 : decode jdk_65_method_123_code 7 = .ok (.invokevirtual 316, 3) := by decide +kernel
theorem d_j65_m123_10 : decode jdk_65_method_123_code 10 = .ok (.checkcast 317, 3) := by decide +kernel
theorem d_j65_m123_13 : decode jdk_65_method_123_code 13 = .ok (.areturn, 1) := by decide +kernel
theorem d_j65_m123_14 : decode jdk_65_method_123_code 14 = .ok (.iload_n 1, 1) := by decide +kernel
theorem d_j65_m123_15 : decode jdk_65_method_123_code 15 = .ok (.newarray .int, 2) := by decide +kernel
theorem d_j65_m123_17 : decode jdk_65_method_123_code 17 = .ok (.astore_n 2, 1) := by decide +kernel
theorem d_j65_m123_18 : decode jdk_65_method_123_code 18 = .ok (.aload_n 0, 1) := by decide +kernel
theorem d_j65_m123_19 : decode jdk_65_method_123_code 19 = .ok (.iconst 0, 1) := by decide +kernel
theorem d_j65_m123_20 : decode jdk_65_method_123_code 20 = .ok (.aload_n 2, 1) := by decide +kernel
theorem d_j65_m123_21 : decode jdk_65_method_123_code 21 = .ok (.iconst 0, 1) := by decide +kernel
theorem d_j65_m123_22 : decode jdk_65_method_123_code 22 = .ok (.aload_n 0, 1) := by decide +kernel
theorem d_j65_m123_23 : decode jdk_65_method_123_code 23 = .ok (.arraylength, 1) := by decide +kernel
theorem d_j65_m123_24 : decode jdk_65_method_123_code 24 = .ok (.iload_n 1, 1) := by decide +kernel
theorem d_j65_m123_25 : decode jdk_65_method_123_code 25 = .ok (.invokestatic 304, 3) := by decide +kernel
theorem d_j65_m123_28 : decode jdk_65_method_123_code 28 = .ok (.invokestatic 150, 3) := by decide +kernel
theorem d_j65_m123_31 : decode jdk_65_method_123_code 31 = .ok (.aload_n 2, 1) := by decide +kernel
theorem d_j65_m123_32 : decode jdk_65_method_123_code 32 = .ok (.areturn, 1) := by decide +kernel
theorem pn_Arrays_940 : plainName "java/util/Arrays" = true := by first | (simp [plainName, overriddenIn]; done) | decide +kernel
theorem d_p8_m1_0 : decode prog_8_method_1_code 0 = .ok (.aload_n 0, 1) := by decide +kernel
theorem d_p8_m1_1 : decode prog_8_method_1_code 1 = .ok (.invokespecial 1, 3) := by decide +kernel
theorem d_p8_m1_4 : decode prog_8_method_1_code 4 = .ok (.iload_n 2, 1) := by decide +kernel
theorem d_p8_m1_5 : decode prog_8_method_1_code 5 = .ok (.ifCond .ge 17, 3) := by decide +kernel
theorem d_p8_m1_22 : decode prog_8_method_1_code 22 = .ok (.aload_n 0, 1) := by decide +kernel
theorem d_p8_m1_23 : decode prog_8_method_1_code 23 = .ok (.aload_n 1, 1) := by decide +kernel
theorem d_p8_m1_24 : decode prog_8_method_1_code 24 = .ok (.invokevirtual 16, 3) := by decide +kernel
theorem d_p8_m1_27 : decode prog_8_method_1_code 27 = .ok (.checkcast 17, 3) := by decide +kernel
theorem d_p8_m1_30 : decode prog_8_method_1_code 30 = .ok (.putfield 22, 3) := by decide +kernel
theorem d_p8_m1_33 : decode prog_8_method_1_code 33 = .ok (.aload_n 0, 1) := by decide +kernel
theorem d_p8_m1_34 : decode prog_8_method_1_code 34 = .ok (.iload_n 2, 1) := by decide +kernel
theorem d_p8_m1_35 : decode prog_8_method_1_code 35 = .ok (.putfield 27, 3) := by decide +kernel
theorem d_p8_m1_38 : decode prog_8_method_1_code 38 = .ok (.aload_n 1, 1) := by decide +kernel
theorem d_p8_m1_39 : decode prog_8_method_1_code 39 = .ok (.arraylength, 1) := by decide +kernel
theorem d_p8_m1_40 : decode prog_8_method_1_code 40 = .ok (.newarray .int, 2) := by decide +kernel
theorem d_p8_m1_42 : decode prog_8_method_1_code 42 = .ok (.astore_n 3, 1) := by decide +kernel
theorem d_p8_m1_43 : decode prog_8_method_1_code 43 = .ok (.aload_n 1, 1) := by decide +kernel
theorem d_p8_m1_44 : decode prog_8_method_1_code 44 = .ok (.arraylength, 1) := by decide +kernel
theorem d_p8_m1_45 : decode prog_8_method_1_code 45 = .ok (.newarray .int, 2) := by decide +kernel
theorem d_p8_m1_47 : decode prog_8_method_1_code 47 = .ok (.astore 4, 2) := by decide +kernel
theorem d_p8_m1_49 : decode prog_8_method_1_code 49 = .ok (.iconst 0, 1) := by decide +kernel
theorem d_p8_m1_50 : decode prog_8_method_1_code 50 = .ok (.istore 5, 2) := by decide +kernel
theorem d_p8_m1_52 : decode prog_8_method_1_code 52 = .ok (.iconst 0, 1) := by decide +kernel
theorem d_p8_m1_53 : decode prog_8_method_1_code 53 = .ok (.istore 6, 2) := by decide +kernel
theorem d_p8_m1_55 : decode prog_8_method_1_code 55 = .ok (.iload 6, 2) := by decide +kernel
theorem d_p8_m1_57 : decode prog_8_method_1_code 57 = .ok (.aload_n 1, 1) := by decide +kernel
theorem d_p8_m1_58 : decode prog_8_method_1_code 58 = .ok (.arraylength, 1) := by decide +kernel
theorem d_p8_m1_59 : decode prog_8_method_1_code 59 = .ok (.if_icmp .ge 49, 3) := by decide +kernel
theorem d_p8_m1_62 : decode prog_8_method_1_code 62 = .ok (.aload 4, 2) := by decide +kernel
theorem d_p8_m1_64 : decode prog_8_method_1_code 64 = .ok (.iload 5, 2) := by decide +kernel
theorem d_p8_m1_66 : decode prog_8_method_1_code 66 = .ok (.aload_n 1, 1) := by decide +kernel
theorem d_p8_m1_67 : decode prog_8_method_1_code 67 = .ok (.iload 6, 2) := by decide +kernel
theorem d_p8_m1_69 : decode prog_8_method_1_code 69 = .ok (.iaload, 1) := by decide +kernel
theorem d_p8_m1_70 : decode prog_8_method_1_code 70 = .ok (.invokestatic 31, 3) := by decide +kernel
theorem d_p8_m1_73 : decode prog_8_method_1_code 73 = .ok (.istore 7, 2) := by decide +kernel
theorem d_p8_m1_75 : decode prog_8_method_1_code 75 = .ok (.iload 7, 2) := by decide +kernel
theorem d_p8_m1_77 : decode prog_8_method_1_code 77 = .ok (.ifCond .ge 19, 3) := by decide +kernel
theorem d_p8_m1_80 : decode prog_8_method_1_code 80 = .ok (.iload 5, 2) := by decide +kernel
theorem d_p8_m1_82 : decode prog_8_method_1_code 82 = .ok (.istore 7, 2) := by decide +kernel
theorem d_p8_m1_84 : decode prog_8_method_1_code 84 = .ok (.aload 4, 2) := by decide +kernel
theorem d_p8_m1_86 : decode prog_8_method_1_code 86 = .ok (.iload 5, 2) := by decide +kernel
theorem d_p8_m1_88 : decode prog_8_method_1_code 88 = .ok (.aload_n 1, 1) := by decide +kernel
theorem d_p8_m1_89 : decode prog_8_method_1_code 89 = .ok (.iload 6, 2) := by decide +kernel
theorem d_p8_m1_91 : decode prog_8_method_1_code 91 = .ok (.iaload, 1) := by decide +kernel
theorem d_p8_m1_92 : decode prog_8_method_1_code 92 = .ok (.iastore, 1) := by decide +kernel
theorem d_p8_m1_93 : decode prog_8_method_1_code 93 = .ok (.iinc 5 1, 3) := by decide +kernel
theorem d_p8_m1_96 : decode prog_8_method_1_code 96 = .ok (.aload_n 3, 1) := by decide +kernel
theorem d_p8_m1_97 : decode prog_8_method_1_code 97 = .ok (.iload 6, 2) := by decide +kernel
theorem d_p8_m1_99 : decode prog_8_method_1_code 99 = .ok (.iload 7, 2) := by decide +kernel
theorem d_p8_m1_101 : decode prog_8_method_1_code 101 = .ok (.iastore, 1) := by decide +kernel
theorem d_p8_m1_102 : decode prog_8_method_1_code 102 = .ok (.iinc 6 1, 3) := by decide +kernel
theorem d_p8_m1_105 : decode prog_8_method_1_code 105 = .ok (.goto (-50), 3) := by decide +kernel
theorem d_p8_m1_108 : decode prog_8_method_1_code 108 = .ok (.aload_n 0, 1) := by decide +kernel
theorem d_p8_m1_109 : decode prog_8_method_1_code 109 = .ok (.aload_n 3, 1) := by decide +kernel
theorem d_p8_m1_110 : decode prog_8_method_1_code 110 = .ok (.putfield 35, 3) := by decide +kernel
theorem d_p8_m1_113 : decode prog_8_method_1_code 113 = .ok (.aload_n 0, 1) := by decide +kernel
theorem d_p8_m1_114 : decode prog_8_method_1_code 114 = .ok (.aload 4, 2) := by decide +kernel
theorem d_p8_m1_116 : decode prog_8_method_1_code 116 = .ok (.iload 5, 2) := by decide +kernel
theorem pd___II__I_543 : parseMethodDescriptor "([II)[I" = some ⟨[(.array .int), .int], some (.array .int)⟩ := by decide +kernel
theorem d_p8_m1_118 : decode prog_8_method_1_code 118 = .ok (.invokestatic 38, 3) := by decide +kernel
theorem d_p8_m1_121 : decode prog_8_method_1_code 121 = .ok (.putfield 44, 3) := by decide +kernel
theorem d_p8_m1_124 : decode prog_8_method_1_code 124 = .ok (.aload_n 0, 1) := by decide +kernel
theorem d_p8_m1_125 : decode prog_8_method_1_code 125 = .ok (.iload 5, 2) := by decide +kernel
theorem d_p8_m1_127 : decode prog_8_method_1_code 127 = .ok (.aload_n 1, 1) := by decide +kernel
theorem d_p8_m1_128 : decode prog_8_method_1_code 128 = .ok (.arraylength, 1) := by decide +kernel
theorem d_p8_m1_129 : decode prog_8_method_1_code 129 = .ok (.iconst 1, 1) := by decide +kernel
theorem d_p8_m1_130 : decode prog_8_method_1_code 130 = .ok (.iadd, 1) := by decide +kernel
theorem d_p8_m1_131 : decode prog_8_method_1_code 131 = .ok (.multianewarray 47 2, 4) := by decide +kernel
theorem d_p8_m1_135 : decode prog_8_method_1_code 135 = .ok (.putfield 49, 3) := by decide +kernel
theorem d_p8_m1_138 : decode prog_8_method_1_code 138 = .ok (.iconst 2, 1) := by decide +kernel
theorem d_p8_m1_139 : decode prog_8_method_1_code 139 = .ok (.istore 6, 2) := by decide +kernel
theorem d_p8_m1_141 : decode prog_8_method_1_code 141 = .ok (.iload 6, 2) := by decide +kernel
theorem d_p8_m1_143 : decode prog_8_method_1_code 143 = .ok (.aload_n 1, 1) := by decide +kernel
theorem d_p8_m1_144 : decode prog_8_method_1_code 144 = .ok (.arraylength, 1) := by decide +kernel
theorem d_p8_m1_145 : decode prog_8_method_1_code 145 = .ok (.if_icmp .gt 65, 3) := by decide +kernel
theorem d_p8_m1_210 : decode prog_8_method_1_code 210 = .ok (.aload_n 0, 1) := by decide +kernel
theorem d_p8_m1_211 : decode prog_8_method_1_code 211 = .ok (.invokevirtual 52, 3) := by decide +kernel
theorem d_p8_m1_214 : decode prog_8_method_1_code 214 = .ok (.istore 6, 2) := by decide +kernel
theorem d_p8_m1_216 : decode prog_8_method_1_code 216 = .ok (.aload_n 0, 1) := by decide +kernel
theorem d_p8_m1_217 : decode prog_8_method_1_code 217 = .ok (.iload 6, 2) := by decide +kernel
theorem d_p8_m1_219 : decode prog_8_method_1_code 219 = .ok (.iconst 1, 1) := by decide +kernel
theorem d_p8_m1_220 : decode prog_8_method_1_code 220 = .ok (.iadd, 1) := by decide +kernel
theorem d_p8_m1_221 : decode prog_8_method_1_code 221 = .ok (.aload_n 1, 1) := by decide +kernel
theorem d_p8_m1_222 : decode prog_8_method_1_code 222 = .ok (.arraylength, 1) := by decide +kernel
theorem d_p8_m1_223 : decode prog_8_method_1_code 223 = .ok (.iconst 1, 1) := by decide +kernel
theorem d_p8_m1_224 : decode prog_8_method_1_code 224 = .ok (.iadd, 1) := by decide +kernel
theorem d_p8_m1_225 : decode prog_8_method_1_code 225 = .ok (.multianewarray 47 2, 4) := by decide +kernel
theorem d_p8_m1_229 : decode prog_8_method_1_code 229 = .ok (.putfield 56, 3) := by decide +kernel
theorem d_p8_m1_232 : decode prog_8_method_1_code 232 = .ok (.iconst 0, 1) := by decide +kernel
theorem d_p8_m1_233 : decode prog_8_method_1_code 233 = .ok (.istore 7, 2) := by decide +kernel
theorem d_p8_m1_235 : decode prog_8_method_1_code 235 = .ok (.iload 7, 2) := by decide +kernel
theorem d_p8_m1_237 : decode prog_8_method_1_code 237 = .ok (.aload_n 1, 1) := by decide +kernel
theorem d_p8_m1_238 : decode prog_8_method_1_code 238 = .ok (.arraylength, 1) := by decide +kernel
theorem d_p8_m1_239 : decode prog_8_method_1_code 239 = .ok (.if_icmp .gt 20, 3) := by decide +kernel
theorem d_p8_m1_259 : decode prog_8_method_1_code 259 = .ok (.aload_n 0, 1) := by decide +kernel
theorem d_p8_m1_260 : decode prog_8_method_1_code 260 = .ok (.iload 6, 2) := by decide +kernel
theorem d_p8_m1_262 : decode prog_8_method_1_code 262 = .ok (.iconst 1, 1) := by decide +kernel
theorem d_p8_m1_263 : decode prog_8_method_1_code 263 = .ok (.iadd, 1) := by decide +kernel
theorem d_p8_m1_264 : decode prog_8_method_1_code 264 = .ok (.newarray .int, 2) := by decide +kernel
theorem d_p8_m1_266 : decode prog_8_method_1_code 266 = .ok (.putfield 59, 3) := by decide +kernel
theorem d_p8_m1_269 : decode prog_8_method_1_code 269 = .ok (.aload_n 0, 1) := by decide +kernel
theorem d_p8_m1_270 : decode prog_8_method_1_code 270 = .ok (.iload 6, 2) := by decide +kernel
theorem d_p8_m1_272 : decode prog_8_method_1_code 272 = .ok (.iconst 1, 1) := by decide +kernel
theorem d_p8_m1_273 : decode prog_8_method_1_code 273 = .ok (.iadd, 1) := by decide +kernel
theorem d_p8_m1_274 : decode prog_8_method_1_code 274 = .ok (.newarray .int, 2) := by decide +kernel
theorem d_p8_m1_276 : decode prog_8_method_1_code 276 = .ok (.putfield 62, 3) := by decide +kernel
theorem d_p8_m1_279 : decode prog_8_method_1_code 279 = .ok (.aload_n 0, 1) := by decide +kernel
theorem d_p8_m1_280 : decode prog_8_method_1_code 280 = .ok (.iload 5, 2) := by decide +kernel
theorem d_p8_m1_282 : decode prog_8_method_1_code 282 = .ok (.newarray .int, 2) := by decide +kernel
theorem d_p8_m1_284 : decode prog_8_method_1_code 284 = .ok (.putfield 65, 3) := by decide +kernel
theorem d_p8_m1_287 : decode prog_8_method_1_code 287 = .ok (.aload_n 0, 1) := by decide +kernel
theorem d_p8_m1_288 : decode prog_8_method_1_code 288 = .ok (.iload 6, 2) := by decide +kernel
theorem d_p8_m1_290 : decode prog_8_method_1_code 290 = .ok (.iconst 1, 1) := by decide +kernel
theorem d_p8_m1_291 : decode prog_8_method_1_code 291 = .ok (.iadd, 1) := by decide +kernel
theorem d_p8_m1_292 : decode prog_8_method_1_code 292 = .ok (.newarray .int, 2) := by decide +kernel
theorem d_p8_m1_294 : decode prog_8_method_1_code 294 = .ok (.putfield 68, 3) := by decide +kernel
theorem d_p8_m1_297 : decode prog_8_method_1_code 297 = .ok (.return_, 1) := by decide +kernel
theorem d_p8_m1_242 : decode prog_8_method_1_code 242 = .ok (.aload_n 0, 1) := by decide +kernel
theorem d_p8_m1_243 : decode prog_8_method_1_code 243 = .ok (.getfield 56, 3) := by decide +kernel
theorem d_p8_m1_246 : decode prog_8_method_1_code 246 = .ok (.iconst 0, 1) := by decide +kernel
theorem d_p8_m1_247 : decode prog_8_method_1_code 247 = .ok (.aaload, 1) := by decide +kernel
theorem d_p8_m1_248 : decode prog_8_method_1_code 248 = .ok (.iload 7, 2) := by decide +kernel
theorem d_p8_m1_250 : decode prog_8_method_1_code 250 = .ok (.iload 7, 2) := by decide +kernel
theorem d_p8_m1_252 : decode prog_8_method_1_code 252 = .ok (.iastore, 1) := by decide +kernel
theorem d_p8_m1_253 : decode prog_8_method_1_code 253 = .ok (.iinc 7 1, 3) := by decide +kernel
theorem d_p8_m1_256 : decode prog_8_method_1_code 256 = .ok (.goto (-21), 3) := by decide +kernel
theorem d_p8_m1_148 : decode prog_8_method_1_code 148 = .ok (.iconst 0, 1) := by decide +kernel
theorem d_p8_m1_149 : decode prog_8_method_1_code 149 = .ok (.istore 7, 2) := by decide +kernel
theorem d_p8_m1_151 : decode prog_8_method_1_code 151 = .ok (.iload 7, 2) := by decide +kernel
theorem d_p8_m1_153 : decode prog_8_method_1_code 153 = .ok (.iload 5, 2) := by decide +kernel
theorem d_p8_m1_155 : decode prog_8_method_1_code 155 = .ok (.if_icmp .ge 31, 3) := by decide +kernel
theorem d_p8_m1_158 : decode prog_8_method_1_code 158 = .ok (.aload_n 0, 1) := by decide +kernel
theorem d_p8_m1_159 : decode prog_8_method_1_code 159 = .ok (.getfield 49, 3) := by decide +kernel
theorem d_p8_m1_162 : decode prog_8_method_1_code 162 = .ok (.iload 7, 2) := by decide +kernel
theorem d_p8_m1_164 : decode prog_8_method_1_code 164 = .ok (.aaload, 1) := by decide +kernel
theorem d_p8_m1_165 : decode prog_8_method_1_code 165 = .ok (.iload 6, 2) := by decide +kernel
theorem d_p8_m1_167 : decode prog_8_method_1_code 167 = .ok (.aload_n 0, 1) := by decide +kernel
theorem d_p8_m1_168 : decode prog_8_method_1_code 168 = .ok (.getfield 49, 3) := by decide +kernel
theorem d_p8_m1_171 : decode prog_8_method_1_code 171 = .ok (.iload 7, 2) := by decide +kernel
theorem d_p8_m1_173 : decode prog_8_method_1_code 173 = .ok (.aaload, 1) := by decide +kernel
theorem d_p8_m1_174 : decode prog_8_method_1_code 174 = .ok (.iload 6, 2) := by decide +kernel
theorem d_p8_m1_176 : decode prog_8_method_1_code 176 = .ok (.iconst 1, 1) := by decide +kernel
theorem d_p8_m1_177 : decode prog_8_method_1_code 177 = .ok (.isub, 1) := by decide +kernel
theorem d_p8_m1_178 : decode prog_8_method_1_code 178 = .ok (.iaload, 1) := by decide +kernel
theorem d_p8_m1_179 : decode prog_8_method_1_code 179 = .ok (.iastore, 1) := by decide +kernel
theorem d_p8_m1_180 : decode prog_8_method_1_code 180 = .ok (.iinc 7 1, 3) := by decide +kernel
theorem d_p8_m1_183 : decode prog_8_method_1_code 183 = .ok (.goto (-32), 3) := by decide +kernel
theorem d_p8_m1_186 : decode prog_8_method_1_code 186 = .ok (.aload_n 0, 1) := by decide +kernel
theorem d_p8_m1_187 : decode prog_8_method_1_code 187 = .ok (.getfield 49, 3) := by decide +kernel
theorem d_p8_m1_190 : decode prog_8_method_1_code 190 = .ok (.aload_n 3, 1) := by decide +kernel
theorem d_p8_m1_191 : decode prog_8_method_1_code 191 = .ok (.iload 6, 2) := by decide +kernel
theorem d_p8_m1_193 : decode prog_8_method_1_code 193 = .ok (.iconst 2, 1) := by decide +kernel
theorem d_p8_m1_194 : decode prog_8_method_1_code 194 = .ok (.isub, 1) := by decide +kernel
theorem d_p8_m1_195 : decode prog_8_method_1_code 195 = .ok (.iaload, 1) := by decide +kernel
theorem d_p8_m1_196 : decode prog_8_method_1_code 196 = .ok (.aaload, 1) := by decide +kernel
theorem d_p8_m1_197 : decode prog_8_method_1_code 197 = .ok (.iload 6, 2) := by decide +kernel
theorem d_p8_m1_199 : decode prog_8_method_1_code 199 = .ok (.iload 6, 2) := by decide +kernel
theorem d_p8_m1_201 : decode prog_8_method_1_code 201 = .ok (.iconst 1, 1) := by decide +kernel
theorem d_p8_m1_202 : decode prog_8_method_1_code 202 = .ok (.isub, 1) := by decide +kernel
theorem d_p8_m1_203 : decode prog_8_method_1_code 203 = .ok (.iastore, 1) := by decide +kernel
theorem d_p8_m1_204 : decode prog_8_method_1_code 204 = .ok (.iinc 6 1, 3) := by decide +kernel
theorem d_p8_m1_207 : decode prog_8_method_1_code 207 = .ok (.goto (-66), 3) := by decide +kernel
theorem d_m3_0 : decode method_3_code 0 = .ok (.iload_n 2, 1) := by decide +kernel
theorem d_m3_1 : decode method_3_code 1 = .ok (.iload_n 1, 1) := by decide +kernel
theorem d_m3_2 : decode method_3_code 2 = .ok (.isub, 1) := by decide +kernel
theorem d_m3_3 : decode method_3_code 3 = .ok (.istore 6, 2) := by decide +kernel
theorem d_m3_5 : decode method_3_code 5 = .ok (.iload 6, 2) := by decide +kernel
theorem d_m3_7 : decode method_3_code 7 = .ok (.ifCond .gt 5, 3) := by decide +kernel
theorem d_m3_12 : decode method_3_code 12 = .ok (.iload 6, 2) := by decide +kernel
theorem d_m3_14 : decode method_3_code 14 = .ok (.iload 5, 2) := by decide +kernel
theorem d_m3_16 : decode method_3_code 16 = .ok (.iload 4, 2) := by decide +kernel
theorem d_m3_18 : decode method_3_code 18 = .ok (.isub, 1) := by decide +kernel
theorem d_m3_19 : decode method_3_code 19 = .ok (.if_icmp .le 5, 3) := by decide +kernel
theorem d_m3_22 : decode method_3_code 22 = .ok (.iconst 0, 1) := by decide +kernel
theorem d_m3_23 : decode method_3_code 23 = .ok (.ireturn, 1) := by decide +kernel
theorem d_m3_24 : decode method_3_code 24 = .ok (.aload_n 0, 1) := by decide +kernel
theorem d_m3_25 : decode method_3_code 25 = .ok (.iload_n 1, 1) := by decide +kernel
theorem d_m3_26 : decode method_3_code 26 = .ok (.iaload, 1) := by decide +kernel
theorem d_m3_27 : decode method_3_code 27 = .ok (.aload_n 3, 1) := by decide +kernel
theorem d_m3_28 : decode method_3_code 28 = .ok (.iload 4, 2) := by decide +kernel
theorem d_m3_30 : decode method_3_code 30 = .ok (.iaload, 1) := by decide +kernel
theorem d_m3_39 : decode method_3_code 39 = .ok (.istore 7, 2) := by decide +kernel
theorem d_m3_41 : decode method_3_code 41 = .ok (.iload 6, 2) := by decide +kernel
theorem d_m3_43 : decode method_3_code 43 = .ok (.iconst 1, 1) := by decide +kernel
theorem d_m3_73 : decode method_3_code 73 = .ok (.iload 6, 2) := by decide +kernel
theorem d_m3_75 : decode method_3_code 75 = .ok (.iconst 2, 1) := by decide +kernel
theorem d_m3_105 : decode method_3_code 105 = .ok (.iload 6, 2) := by decide +kernel
theorem d_m3_107 : decode method_3_code 107 = .ok (.iconst 3, 1) := by decide +kernel
theorem d_m3_137 : decode method_3_code 137 = .ok (.iload 7, 2) := by decide +kernel
theorem d_m3_139 : decode method_3_code 139 = .ok (.ireturn, 1) := by decide +kernel
theorem d_m3_108 : decode method_3_code 108 = .ok (.if_icmp .le 29, 3) := by decide +kernel
theorem d_m3_111 : decode method_3_code 111 = .ok (.iload 7, 2) := by decide +kernel
theorem d_m3_113 : decode method_3_code 113 = .ok (.ifCond .eq 21, 3) := by decide +kernel
theorem d_m3_134 : decode method_3_code 134 = .ok (.iconst 0, 1) := by decide +kernel
theorem d_m3_135 : decode method_3_code 135 = .ok (.istore 7, 2) := by decide +kernel
theorem d_m3_116 : decode method_3_code 116 = .ok (.aload_n 0, 1) := by decide +kernel
theorem d_m3_117 : decode method_3_code 117 = .ok (.iload_n 1, 1) := by decide +kernel
theorem d_m3_118 : decode method_3_code 118 = .ok (.iconst 3, 1) := by decide +kernel
theorem d_m3_119 : decode method_3_code 119 = .ok (.iadd, 1) := by decide +kernel
theorem d_m3_120 : decode method_3_code 120 = .ok (.iaload, 1) := by decide +kernel
theorem d_m3_121 : decode method_3_code 121 = .ok (.aload_n 3, 1) := by decide +kernel
theorem d_m3_122 : decode method_3_code 122 = .ok (.iload 4, 2) := by decide +kernel
theorem d_m3_124 : decode method_3_code 124 = .ok (.iconst 3, 1) := by decide +kernel
theorem d_m3_125 : decode method_3_code 125 = .ok (.iadd, 1) := by decide +kernel
theorem d_m3_126 : decode method_3_code 126 = .ok (.iaload, 1) := by decide +kernel
theorem d_m3_127 : decode method_3_code 127 = .ok (.if_icmp .ne 7, 3) := by decide +kernel
theorem d_m3_130 : decode method_3_code 130 = .ok (.iconst 1, 1) := by decide +kernel
theorem d_m3_131 : decode method_3_code 131 = .ok (.goto 4, 3) := by decide +kernel
theorem d_m3_76 : decode method_3_code 76 = .ok (.if_icmp .le 29, 3) := by decide +kernel
theorem d_m3_79 : decode method_3_code 79 = .ok (.iload 7, 2) := by decide +kernel
theorem d_m3_81 : decode method_3_code 81 = .ok (.ifCond .eq 21, 3) := by decide +kernel
theorem d_m3_102 : decode method_3_code 102 = .ok (.iconst 0, 1) := by decide +kernel
theorem d_m3_103 : decode method_3_code 103 = .ok (.istore 7, 2) := by decide +kernel
theorem d_m3_84 : decode method_3_code 84 = .ok (.aload_n 0, 1) := by decide +kernel
theorem d_m3_85 : decode method_3_code 85 = .ok (.iload_n 1, 1) := by decide +kernel
theorem d_m3_86 : decode method_3_code 86 = .ok (.iconst 2, 1) := by decide +kernel
theorem d_m3_87 : decode method_3_code 87 = .ok (.iadd, 1) := by decide +kernel
theorem d_m3_88 : decode method_3_code 88 = .ok (.iaload, 1) := by decide +kernel
theorem d_m3_89 : decode method_3_code 89 = .ok (.aload_n 3, 1) := by decide +kernel
theorem d_m3_90 : decode method_3_code 90 = .ok (.iload 4, 2) := by decide +kernel
theorem d_m3_92 : decode method_3_code 92 = .ok (.iconst 2, 1) := by decide +kernel
theorem d_m3_93 : decode method_3_code 93 = .ok (.iadd, 1) := by decide +kernel
theorem d_m3_94 : decode method_3_code 94 = .ok (.iaload, 1) := by decide +kernel
theorem d_m3_95 : decode method_3_code 95 = .ok (.if_icmp .ne 7, 3) := by decide +kernel
theorem d_m3_98 : decode method_3_code 98 = .ok (.iconst 1, 1) := by decide +kernel
theorem d_m3_99 : decode method_3_code 99 = .ok (.goto 4, 3) := by decide +kernel
theorem d_m3_44 : decode method_3_code 44 = .ok (.if_icmp .le 29, 3) := by decide +kernel
theorem d_m3_47 : decode method_3_code 47 = .ok (.iload 7, 2) := by decide +kernel
theorem d_m3_49 : decode method_3_code 49 = .ok (.ifCond .eq 21, 3) := by decide +kernel
theorem d_m3_70 : decode method_3_code 70 = .ok (.iconst 0, 1) := by decide +kernel
theorem d_m3_71 : decode method_3_code 71 = .ok (.istore 7, 2) := by decide +kernel
theorem d_m3_52 : decode method_3_code 52 = .ok (.aload_n 0, 1) := by decide +kernel
theorem d_m3_53 : decode method_3_code 53 = .ok (.iload_n 1, 1) := by decide +kernel
theorem d_m3_54 : decode method_3_code 54 = .ok (.iconst 1, 1) := by decide +kernel
theorem d_m3_55 : decode method_3_code 55 = .ok (.iadd, 1) := by decide +kernel
theorem d_m3_56 : decode method_3_code 56 = .ok (.iaload, 1) := by decide +kernel
theorem d_m3_57 : decode method_3_code 57 = .ok (.aload_n 3, 1) := by decide +kernel
theorem d_m3_58 : decode method_3_code 58 = .ok (.iload 4, 2) := by decide +kernel
theorem d_m3_60 : decode method_3_code 60 = .ok (.iconst 1, 1) := by decide +kernel
theorem d_m3_61 : decode method_3_code 61 = .ok (.iadd, 1) := by decide +kernel
theorem d_m3_62 : decode method_3_code 62 = .ok (.iaload, 1) := by decide +kernel
theorem d_m3_63 : decode method_3_code 63 = .ok (.if_icmp .ne 7, 3) := by decide +kernel
theorem d_m3_66 : decode method_3_code 66 = .ok (.iconst 1, 1) := by decide +kernel
theorem d_m3_67 : decode method_3_code 67 = .ok (.goto 4, 3) := by decide +kernel
theorem d_m3_31 : decode method_3_code 31 = .ok (.if_icmp .ne 7, 3) := by decide +kernel
theorem d_m3_34 : decode method_3_code 34 = .ok (.iconst 1, 1) := by decide +kernel
theorem d_m3_35 : decode method_3_code 35 = .ok (.goto 4, 3) := by decide +kernel
theorem d_m3_38 : decode method_3_code 38 = .ok (.iconst 0, 1) := by decide +kernel
theorem d_m3_10 : decode method_3_code 10 = .ok (.iconst 1, 1) := by decide +kernel
theorem d_m3_11 : decode method_3_code 11 = .ok (.ireturn, 1) := by decide +kernel
theorem pn_EditDistanceIsOutOfReachPinLaw_141 : plainName "com/example/shingle/shingle/EditDistanceIsOutOfReachPinLaw" = true := by first | (simp [plainName, overriddenIn]; done) | decide +kernel
theorem d_m4_0 : decode method_4_code 0 = .ok (.iload 4, 2) := by decide +kernel
theorem d_m4_2 : decode method_4_code 2 = .ok (.iload_n 1, 1) := by decide +kernel
theorem d_m4_3 : decode method_4_code 3 = .ok (.if_icmp .lt 5, 3) := by decide +kernel
theorem d_m4_8 : decode method_4_code 8 = .ok (.aload_n 0, 1) := by decide +kernel
theorem d_m4_9 : decode method_4_code 9 = .ok (.iconst 0, 1) := by decide +kernel
theorem d_m4_10 : decode method_4_code 10 = .ok (.iload 4, 2) := by decide +kernel
theorem d_m4_12 : decode method_4_code 12 = .ok (.aload_n 2, 1) := by decide +kernel
theorem d_m4_13 : decode method_4_code 13 = .ok (.iconst 0, 1) := by decide +kernel
theorem d_m4_14 : decode method_4_code 14 = .ok (.iload_n 3, 1) := by decide +kernel
theorem pd___III_III_Z_6087 : parseMethodDescriptor "([III[III)Z" = some ⟨[(.array .int), .int, .int, (.array .int), .int, .int], some .boolean⟩ := by decide +kernel
theorem d_m4_15 : decode method_4_code 15 = .ok (.invokestatic 19, 3) := by decide +kernel
theorem d_m4_18 : decode method_4_code 18 = .ok (.ifCond .ne 5, 3) := by decide +kernel
theorem d_m4_21 : decode method_4_code 21 = .ok (.iconst 0, 1) := by decide +kernel
theorem d_m4_22 : decode method_4_code 22 = .ok (.ireturn, 1) := by decide +kernel
theorem d_m4_23 : decode method_4_code 23 = .ok (.iload 4, 2) := by decide +kernel
theorem d_m4_25 : decode method_4_code 25 = .ok (.iload_n 3, 1) := by decide +kernel
theorem d_m4_54 : decode method_4_code 54 = .ok (.aload_n 0, 1) := by decide +kernel
theorem d_m4_55 : decode method_4_code 55 = .ok (.iload 4, 2) := by decide +kernel
theorem d_m4_57 : decode method_4_code 57 = .ok (.iconst 1, 1) := by decide +kernel
theorem d_m4_58 : decode method_4_code 58 = .ok (.iadd, 1) := by decide +kernel
theorem d_m4_59 : decode method_4_code 59 = .ok (.iload_n 1, 1) := by decide +kernel
theorem d_m4_60 : decode method_4_code 60 = .ok (.aload_n 2, 1) := by decide +kernel
theorem d_m4_61 : decode method_4_code 61 = .ok (.iload 4, 2) := by decide +kernel
theorem d_m4_63 : decode method_4_code 63 = .ok (.iload_n 3, 1) := by decide +kernel
theorem d_m4_64 : decode method_4_code 64 = .ok (.invokestatic 19, 3) := by decide +kernel
theorem d_m4_67 : decode method_4_code 67 = .ok (.istore 6, 2) := by decide +kernel
theorem d_m4_69 : decode method_4_code 69 = .ok (.iload 4, 2) := by decide +kernel
theorem d_m4_71 : decode method_4_code 71 = .ok (.iload_n 3, 1) := by decide +kernel
theorem d_m4_98 : decode method_4_code 98 = .ok (.iload 4, 2) := by decide +kernel
theorem d_m4_100 : decode method_4_code 100 = .ok (.iconst 1, 1) := by decide +kernel
theorem d_m4_101 : decode method_4_code 101 = .ok (.iadd, 1) := by decide +kernel
theorem d_m4_102 : decode method_4_code 102 = .ok (.iload_n 1, 1) := by decide +kernel
theorem d_m4_165 : decode method_4_code 165 = .ok (.iload 5, 2) := by decide +kernel
theorem d_m4_167 : decode method_4_code 167 = .ok (.ifCond .ne 18, 3) := by decide +kernel
theorem d_m4_170 : decode method_4_code 170 = .ok (.iload 6, 2) := by decide +kernel
theorem d_m4_172 : decode method_4_code 172 = .ok (.ifCond .ne 13, 3) := by decide +kernel
theorem d_m4_175 : decode method_4_code 175 = .ok (.iload 7, 2) := by decide +kernel
theorem d_m4_177 : decode method_4_code 177 = .ok (.ifCond .ne 8, 3) := by decide +kernel
theorem d_m4_180 : decode method_4_code 180 = .ok (.iload 8, 2) := by decide +kernel
theorem d_m4_182 : decode method_4_code 182 = .ok (.ifCond .eq 7, 3) := by decide +kernel
theorem d_m4_189 : decode method_4_code 189 = .ok (.iconst 0, 1) := by decide +kernel
theorem d_m4_190 : decode method_4_code 190 = .ok (.ireturn, 1) := by decide +kernel
theorem d_m4_185 : decode method_4_code 185 = .ok (.iconst 1, 1) := by decide +kernel
theorem d_m4_186 : decode method_4_code 186 = .ok (.goto 4, 3) := by decide +kernel
theorem d_m4_103 : decode method_4_code 103 = .ok (.if_icmp .ge 59, 3) := by decide +kernel
theorem d_m4_106 : decode method_4_code 106 = .ok (.iload 4, 2) := by decide +kernel
theorem d_m4_108 : decode method_4_code 108 = .ok (.iconst 1, 1) := by decide +kernel
theorem d_m4_109 : decode method_4_code 109 = .ok (.iadd, 1) := by decide +kernel
theorem d_m4_110 : decode method_4_code 110 = .ok (.iload_n 3, 1) := by decide +kernel
theorem d_m4_111 : decode method_4_code 111 = .ok (.if_icmp .ge 51, 3) := by decide +kernel
theorem d_m4_114 : decode method_4_code 114 = .ok (.aload_n 0, 1) := by decide +kernel
theorem d_m4_115 : decode method_4_code 115 = .ok (.iload 4, 2) := by decide +kernel
theorem d_m4_117 : decode method_4_code 117 = .ok (.iaload, 1) := by decide +kernel
theorem d_m4_118 : decode method_4_code 118 = .ok (.aload_n 2, 1) := by decide +kernel
theorem d_m4_119 : decode method_4_code 119 = .ok (.iload 4, 2) := by decide +kernel
theorem d_m4_121 : decode method_4_code 121 = .ok (.iconst 1, 1) := by decide +kernel
theorem d_m4_122 : decode method_4_code 122 = .ok (.iadd, 1) := by decide +kernel
theorem d_m4_123 : decode method_4_code 123 = .ok (.iaload, 1) := by decide +kernel
theorem d_m4_124 : decode method_4_code 124 = .ok (.if_icmp .ne 38, 3) := by decide +kernel
theorem d_m4_127 : decode method_4_code 127 = .ok (.aload_n 0, 1) := by decide +kernel
theorem d_m4_128 : decode method_4_code 128 = .ok (.iload 4, 2) := by decide +kernel
theorem d_m4_130 : decode method_4_code 130 = .ok (.iconst 1, 1) := by decide +kernel
theorem d_m4_131 : decode method_4_code 131 = .ok (.iadd, 1) := by decide +kernel
theorem d_m4_132 : decode method_4_code 132 = .ok (.iaload, 1) := by decide +kernel
theorem d_m4_133 : decode method_4_code 133 = .ok (.aload_n 2, 1) := by decide +kernel
theorem d_m4_134 : decode method_4_code 134 = .ok (.iload 4, 2) := by decide +kernel
theorem d_m4_136 : decode method_4_code 136 = .ok (.iaload, 1) := by decide +kernel
theorem d_m4_137 : decode method_4_code 137 = .ok (.if_icmp .ne 25, 3) := by decide +kernel
theorem d_m4_140 : decode method_4_code 140 = .ok (.aload_n 0, 1) := by decide +kernel
theorem d_m4_141 : decode method_4_code 141 = .ok (.iload 4, 2) := by decide +kernel
theorem d_m4_143 : decode method_4_code 143 = .ok (.iconst 2, 1) := by decide +kernel
theorem d_m4_144 : decode method_4_code 144 = .ok (.iadd, 1) := by decide +kernel
theorem d_m4_145 : decode method_4_code 145 = .ok (.iload_n 1, 1) := by decide +kernel
theorem d_m4_146 : decode method_4_code 146 = .ok (.aload_n 2, 1) := by decide +kernel
theorem d_m4_147 : decode method_4_code 147 = .ok (.iload 4, 2) := by decide +kernel
theorem d_m4_149 : decode method_4_code 149 = .ok (.iconst 2, 1) := by decide +kernel
theorem d_m4_150 : decode method_4_code 150 = .ok (.iadd, 1) := by decide +kernel
theorem d_m4_151 : decode method_4_code 151 = .ok (.iload_n 3, 1) := by decide +kernel
theorem d_m4_152 : decode method_4_code 152 = .ok (.invokestatic 19, 3) := by decide +kernel
theorem d_m4_155 : decode method_4_code 155 = .ok (.ifCond .eq 7, 3) := by decide +kernel
theorem d_m4_162 : decode method_4_code 162 = .ok (.iconst 0, 1) := by decide +kernel
theorem d_m4_163 : decode method_4_code 163 = .ok (.istore 8, 2) := by decide +kernel
theorem d_m4_158 : decode method_4_code 158 = .ok (.iconst 1, 1) := by decide +kernel
theorem d_m4_159 : decode method_4_code 159 = .ok (.goto 4, 3) := by decide +kernel
theorem d_m4_72 : decode method_4_code 72 = .ok (.if_icmp .ge 23, 3) := by decide +kernel
theorem d_m4_75 : decode method_4_code 75 = .ok (.aload_n 0, 1) := by decide +kernel
theorem d_m4_76 : decode method_4_code 76 = .ok (.iload 4, 2) := by decide +kernel
theorem d_m4_78 : decode method_4_code 78 = .ok (.iload_n 1, 1) := by decide +kernel
theorem d_m4_79 : decode method_4_code 79 = .ok (.aload_n 2, 1) := by decide +kernel
theorem d_m4_80 : decode method_4_code 80 = .ok (.iload 4, 2) := by decide +kernel
theorem d_m4_82 : decode method_4_code 82 = .ok (.iconst 1, 1) := by decide +kernel
theorem d_m4_83 : decode method_4_code 83 = .ok (.iadd, 1) := by decide +kernel
theorem d_m4_84 : decode method_4_code 84 = .ok (.iload_n 3, 1) := by decide +kernel
theorem d_m4_85 : decode method_4_code 85 = .ok (.invokestatic 19, 3) := by decide +kernel
theorem d_m4_88 : decode method_4_code 88 = .ok (.ifCond .eq 7, 3) := by decide +kernel
theorem d_m4_95 : decode method_4_code 95 = .ok (.iconst 0, 1) := by decide +kernel
theorem d_m4_96 : decode method_4_code 96 = .ok (.istore 7, 2) := by decide +kernel
theorem d_m4_91 : decode method_4_code 91 = .ok (.iconst 1, 1) := by decide +kernel
theorem d_m4_92 : decode method_4_code 92 = .ok (.goto 4, 3) := by decide +kernel
theorem d_m4_26 : decode method_4_code 26 = .ok (.if_icmp .ge 25, 3) := by decide +kernel
theorem d_m4_29 : decode method_4_code 29 = .ok (.aload_n 0, 1) := by decide +kernel
theorem d_m4_30 : decode method_4_code 30 = .ok (.iload 4, 2) := by decide +kernel
theorem d_m4_32 : decode method_4_code 32 = .ok (.iconst 1, 1) := by decide +kernel
theorem d_m4_33 : decode method_4_code 33 = .ok (.iadd, 1) := by decide +kernel
theorem d_m4_34 : decode method_4_code 34 = .ok (.iload_n 1, 1) := by decide +kernel
theorem d_m4_35 : decode method_4_code 35 = .ok (.aload_n 2, 1) := by decide +kernel
theorem d_m4_36 : decode method_4_code 36 = .ok (.iload 4, 2) := by decide +kernel
theorem d_m4_38 : decode method_4_code 38 = .ok (.iconst 1, 1) := by decide +kernel
theorem d_m4_39 : decode method_4_code 39 = .ok (.iadd, 1) := by decide +kernel
theorem d_m4_40 : decode method_4_code 40 = .ok (.iload_n 3, 1) := by decide +kernel
theorem d_m4_41 : decode method_4_code 41 = .ok (.invokestatic 19, 3) := by decide +kernel
theorem d_m4_44 : decode method_4_code 44 = .ok (.ifCond .eq 7, 3) := by decide +kernel
theorem d_m4_51 : decode method_4_code 51 = .ok (.iconst 0, 1) := by decide +kernel
theorem d_m4_52 : decode method_4_code 52 = .ok (.istore 5, 2) := by decide +kernel
theorem d_m4_47 : decode method_4_code 47 = .ok (.iconst 1, 1) := by decide +kernel
theorem d_m4_48 : decode method_4_code 48 = .ok (.goto 4, 3) := by decide +kernel
theorem d_m4_6 : decode method_4_code 6 = .ok (.iconst 0, 1) := by decide +kernel
theorem d_m4_7 : decode method_4_code 7 = .ok (.ireturn, 1) := by decide +kernel
theorem pd___II_V_6142 : parseMethodDescriptor "([II)V" = some ⟨[(.array .int), .int], none⟩ := by decide +kernel
theorem pd___Z_8338 : parseMethodDescriptor "()Z" = some ⟨[], some .boolean⟩ := by decide +kernel
theorem pd___II_III_Z_708 : parseMethodDescriptor "([II[III)Z" = some ⟨[(.array .int), .int, (.array .int), .int, .int], some .boolean⟩ := by decide +kernel
theorem pd___V_8334 : parseMethodDescriptor "()V" = some ⟨[], none⟩ := by decide +kernel
theorem pd__I_V_7776 : parseMethodDescriptor "(I)V" = some ⟨[.int], none⟩ := by decide +kernel
set_option maxRecDepth 65536 in
set_option maxHeartbeats 40000000 in
theorem ct_min (l : Launch) (Z : State) (a0 : Array Value) (hw : ∀ d ∈ tables_1, d.before a0 Z = true) (x : Int32) (z : Int32) (h0 : Heap) (n0 : Nat) (O : Old Z n0 h0)  :
    Ct l (⟨"java/lang/Math", "min", "(II)I"⟩ : MethodName) jdk_29_method_69_code 2 (some .int) ({ frames := 0, cells := 0, slots := 0, locals := 0 } : Room) Z #[(.int x), (.int z)] h0 (fun v h L => v = some (.int (mnM x z)) ∧ Fr n0 L ∧ h0 = h) := by
  refine Ct.of (Jvm.Free.JP.mathPlain rfl (by decide +kernel)) ?_
  intro p e s m below meth c T0 X0 hx hby hml hown hnm hret hlk hZ e0
  have hown : s.vm.findClass "java/lang/Math" = some m.cls := hown
  have hml : c.maxLocals = 2 := hml
  have N0 := Fr.nil n0
  refine Go.cast (g' := mkF m 0 #[.val (.int x), .val (.int z)] []) (by first | (simp [entryFrame, mkF, argsToLocals, Value.category]; done) | rfl) ?_
  refine Go.by (T' := T0) (g' := (mkF m 2 #[.val (.int x), .val (.int z)] [(.int z), (.int x)])) (fun t k => ?_) ?_
  · show Steps p.tables e below (T0.setTop (mkF m 0 #[.val (.int x), .val (.int z)] [])) _
    refine XS.iloadN X0.here hx rfl (hb hby d_j29_m69_0) rfl ?_
    show Steps p.tables e below (T0.setTop (mkF m 1 #[.val (.int x), .val (.int z)] [(.int x)])) _
    refine XS.iloadN X0.here hx rfl (hb hby d_j29_m69_1) rfl ?_
    exact k
  by_cases hy1 : z < x
  · skip
    refine Go.by (T' := T0) (g' := (mkF m 10 #[.val (.int x), .val (.int z)] [(.int z)])) (fun t k => ?_) ?_
    · show Steps p.tables e below (T0.setTop (mkF m 2 #[.val (.int x), .val (.int z)] [(.int z), (.int x)])) _
      refine XS.icmpYes X0.here hx rfl (pc0 := 2) (pc' := 9) rfl (hb hby d_j29_m69_2) rfl (tlt hy1).2.2.1 (by decide) (by decide) ?_
      show Steps p.tables e below (T0.setTop (mkF m 9 #[.val (.int x), .val (.int z)] [])) _
      refine XS.iloadN X0.here hx rfl (hb hby d_j29_m69_9) rfl ?_
      exact k
    refine Go.retI X0 hx hlk hret (hb hby d_j29_m69_10) (by decide) (by decide) e0 ?_
    exact ⟨by unfold mnM; rw [if_pos hy1], N0, rfl⟩
  · skip
    refine Go.by (T' := T0) (g' := (mkF m 10 #[.val (.int x), .val (.int z)] [(.int x)])) (fun t k => ?_) ?_
    · show Steps p.tables e below (T0.setTop (mkF m 2 #[.val (.int x), .val (.int z)] [(.int z), (.int x)])) _
      refine XS.icmpNo X0.here hx rfl (hb hby d_j29_m69_2) rfl (flt hy1).2.2.1 ?_
      show Steps p.tables e below (T0.setTop (mkF m 5 #[.val (.int x), .val (.int z)] [])) _
      refine XS.iloadN X0.here hx rfl (hb hby d_j29_m69_5) rfl ?_
      show Steps p.tables e below (T0.setTop (mkF m 6 #[.val (.int x), .val (.int z)] [(.int x)])) _
      refine XS.goto X0.here hx rfl (pc0 := 6) (pc' := 10) rfl (hb hby d_j29_m69_6) (by decide) (by decide) ?_
      exact k
    refine Go.retI X0 hx hlk hret (hb hby d_j29_m69_10) (by decide) (by decide) e0 ?_
    exact ⟨by unfold mnM; rw [if_neg hy1], N0, rfl⟩
set_option maxRecDepth 65536 in
set_option maxHeartbeats 40000000 in
theorem ct_max (l : Launch) (Z : State) (a0 : Array Value) (hw : ∀ d ∈ tables_1, d.before a0 Z = true) (x : Int32) (z : Int32) (h0 : Heap) (n0 : Nat) (O : Old Z n0 h0)  :
    Ct l (⟨"java/lang/Math", "max", "(II)I"⟩ : MethodName) jdk_29_method_65_code 2 (some .int) ({ frames := 0, cells := 0, slots := 0, locals := 0 } : Room) Z #[(.int x), (.int z)] h0 (fun v h L => v = some (.int (mxM x z)) ∧ Fr n0 L ∧ h0 = h) := by
  refine Ct.of (Jvm.Free.JP.mathPlain rfl (by decide +kernel)) ?_
  intro p e s m below meth c T0 X0 hx hby hml hown hnm hret hlk hZ e0
  have hown : s.vm.findClass "java/lang/Math" = some m.cls := hown
  have hml : c.maxLocals = 2 := hml
  have N0 := Fr.nil n0
  refine Go.cast (g' := mkF m 0 #[.val (.int x), .val (.int z)] []) (by first | (simp [entryFrame, mkF, argsToLocals, Value.category]; done) | rfl) ?_
  refine Go.by (T' := T0) (g' := (mkF m 2 #[.val (.int x), .val (.int z)] [(.int z), (.int x)])) (fun t k => ?_) ?_
  · show Steps p.tables e below (T0.setTop (mkF m 0 #[.val (.int x), .val (.int z)] [])) _
    refine XS.iloadN X0.here hx rfl (hb hby d_j29_m65_0) rfl ?_
    show Steps p.tables e below (T0.setTop (mkF m 1 #[.val (.int x), .val (.int z)] [(.int x)])) _
    refine XS.iloadN X0.here hx rfl (hb hby d_j29_m65_1) rfl ?_
    exact k
  by_cases hy1 : x < z
  · skip
    refine Go.by (T' := T0) (g' := (mkF m 10 #[.val (.int x), .val (.int z)] [(.int z)])) (fun t k => ?_) ?_
    · show Steps p.tables e below (T0.setTop (mkF m 2 #[.val (.int x), .val (.int z)] [(.int z), (.int x)])) _
      refine XS.icmpYes X0.here hx rfl (pc0 := 2) (pc' := 9) rfl (hb hby d_j29_m65_2) rfl (tlt hy1).1 (by decide) (by decide) ?_
      show Steps p.tables e below (T0.setTop (mkF m 9 #[.val (.int x), .val (.int z)] [])) _
      refine XS.iloadN X0.here hx rfl (hb hby d_j29_m65_9) rfl ?_
      exact k
    refine Go.retI X0 hx hlk hret (hb hby d_j29_m65_10) (by decide) (by decide) e0 ?_
    exact ⟨by unfold mxM; rw [if_pos hy1], N0, rfl⟩
  · skip
    refine Go.by (T' := T0) (g' := (mkF m 10 #[.val (.int x), .val (.int z)] [(.int x)])) (fun t k => ?_) ?_
    · show Steps p.tables e below (T0.setTop (mkF m 2 #[.val (.int x), .val (.int z)] [(.int z), (.int x)])) _
      refine XS.icmpNo X0.here hx rfl (hb hby d_j29_m65_2) rfl (flt hy1).1 ?_
      show Steps p.tables e below (T0.setTop (mkF m 5 #[.val (.int x), .val (.int z)] [])) _
      refine XS.iloadN X0.here hx rfl (hb hby d_j29_m65_5) rfl ?_
      show Steps p.tables e below (T0.setTop (mkF m 6 #[.val (.int x), .val (.int z)] [(.int x)])) _
      refine XS.goto X0.here hx rfl (pc0 := 6) (pc' := 10) rfl (hb hby d_j29_m65_6) (by decide) (by decide) ?_
      exact k
    refine Go.retI X0 hx hlk hret (hb hby d_j29_m65_10) (by decide) (by decide) e0 ?_
    exact ⟨by unfold mxM; rw [if_neg hy1], N0, rfl⟩
set_option maxRecDepth 65536 in
set_option maxHeartbeats 40000000 in
theorem ct_abs (l : Launch) (Z : State) (a0 : Array Value) (hw : ∀ d ∈ tables_1, d.before a0 Z = true) (x : Int32) (h0 : Heap) (n0 : Nat) (O : Old Z n0 h0)  :
    Ct l (⟨"java/lang/Math", "abs", "(I)I"⟩ : MethodName) jdk_29_method_59_code 1 (some .int) ({ frames := 0, cells := 0, slots := 0, locals := 0 } : Room) Z #[(.int x)] h0 (fun v h L => v = some (.int (abM x)) ∧ Fr n0 L ∧ h0 = h) := by
  refine Ct.of (Jvm.Free.JP.mathPlain rfl (by decide +kernel)) ?_
  intro p e s m below meth c T0 X0 hx hby hml hown hnm hret hlk hZ e0
  have hown : s.vm.findClass "java/lang/Math" = some m.cls := hown
  have hml : c.maxLocals = 1 := hml
  have N0 := Fr.nil n0
  refine Go.cast (g' := mkF m 0 #[.val (.int x)] []) (by first | (simp [entryFrame, mkF, argsToLocals, Value.category]; done) | rfl) ?_
  refine Go.by (T' := T0) (g' := (mkF m 1 #[.val (.int x)] [(.int x)])) (fun t k => ?_) ?_
  · show Steps p.tables e below (T0.setTop (mkF m 0 #[.val (.int x)] [])) _
    refine XS.iloadN X0.here hx rfl (hb hby d_j29_m59_0) rfl ?_
    exact k
  by_cases hy1 : x < (0 : Int32)
  · skip
    refine Go.by (T' := T0) (g' := (mkF m 10 #[.val (.int x)] [(.int (-x))])) (fun t k => ?_) ?_
    · show Steps p.tables e below (T0.setTop (mkF m 1 #[.val (.int x)] [(.int x)])) _
      refine XS.ifNo X0.here hx rfl (hb hby d_j29_m59_1) rfl ((if0 _ _).trans (tlt hy1).2.1) ?_
      show Steps p.tables e below (T0.setTop (mkF m 4 #[.val (.int x)] [])) _
      refine XS.iloadN X0.here hx rfl (hb hby d_j29_m59_4) rfl ?_
      show Steps p.tables e below (T0.setTop (mkF m 5 #[.val (.int x)] [(.int x)])) _
      refine XS.ineg X0.here hx rfl (hb hby d_j29_m59_5) rfl ?_
      show Steps p.tables e below (T0.setTop (mkF m 6 #[.val (.int x)] [(.int (-x))])) _
      refine XS.goto X0.here hx rfl (pc0 := 6) (pc' := 10) rfl (hb hby d_j29_m59_6) (by decide) (by decide) ?_
      exact k
    refine Go.retI X0 hx hlk hret (hb hby d_j29_m59_10) (by decide) (by decide) e0 ?_
    exact ⟨by unfold abM; rw [if_pos hy1], N0, rfl⟩
  · skip
    refine Go.by (T' := T0) (g' := (mkF m 10 #[.val (.int x)] [(.int x)])) (fun t k => ?_) ?_
    · show Steps p.tables e below (T0.setTop (mkF m 1 #[.val (.int x)] [(.int x)])) _
      refine XS.ifYes X0.here hx rfl (pc0 := 1) (pc' := 9) rfl (hb hby d_j29_m59_1) rfl ((if0 _ _).trans (flt hy1).2.1) (by decide) (by decide) ?_
      show Steps p.tables e below (T0.setTop (mkF m 9 #[.val (.int x)] [])) _
      refine XS.iloadN X0.here hx rfl (hb hby d_j29_m59_9) rfl ?_
      exact k
    refine Go.retI X0 hx hlk hret (hb hby d_j29_m59_10) (by decide) (by decide) e0 ?_
    exact ⟨by unfold abM; rw [if_neg hy1], N0, rfl⟩
set_option maxRecDepth 65536 in
set_option maxHeartbeats 40000000 in
theorem ct_place (l : Launch) (Z : State) (a0 : Array Value) (hw : ∀ d ∈ tables_1, d.before a0 Z = true) (a : Nat) (xs : List Int32) (n : Int32) (x : Int32) (r : Int32) (h0 : Heap) (n0 : Nat) (O : Old Z n0 h0) (I_a : IA Z h0 a xs) (hm : placeM xs n x = some r) :
    Ct l (⟨"com/example/shingle/shingle/EditDistance", "placeAmong", "([III)I"⟩ : MethodName) prog_8_method_9_code 5 (some .int) ({ frames := 0, cells := 0, slots := 0, locals := 0 } : Room) Z #[(.ref a), (.int n), (.int x)] h0 (fun v h L => v = some (.int r) ∧ Fr n0 L ∧ h0 = h) := by
  refine Ct.of (plainFor_of_name pn_EditDistance_202) ?_
  intro p e s m below meth c T0 X0 hx hby hml hown hnm hret hlk hZ e0
  have hown : s.vm.findClass "com/example/shingle/shingle/EditDistance" = some m.cls := hown
  have hml : c.maxLocals = 5 := hml
  have N0 := Fr.nil n0
  have H : plL 8 xs n x (-1) 0 = some r := hm
  refine Go.cast (g' := mkF m 0 #[.val (.ref a), .val (.int n), .val (.int x), .unset, .unset] []) (by first | (simp [entryFrame, mkF, argsToLocals, Value.category]; done) | rfl) ?_
  refine Go.by (T' := T0) (g' := (mkF m 5 #[.val (.ref a), .val (.int n), .val (.int x), .val (.int (-1 : Int32)), .val (.int (0 : Int32))] [])) (fun t k => ?_) ?_
  · show Steps p.tables e below (T0.setTop (mkF m 0 #[.val (.ref a), .val (.int n), .val (.int x), .unset, .unset] [])) _
    refine XS.iconst X0.here hx rfl (hb hby d_p8_m9_0) ?_
    show Steps p.tables e below (T0.setTop (mkF m 1 #[.val (.ref a), .val (.int n), .val (.int x), .unset, .unset] [(.int (-1 : Int32))])) _
    refine XS.istoreN X0.here hx rfl (hb hby d_p8_m9_1) rfl (l' := #[.val (.ref a), .val (.int n), .val (.int x), .val (.int (-1 : Int32)), .unset]) rfl ?_
    show Steps p.tables e below (T0.setTop (mkF m 2 #[.val (.ref a), .val (.int n), .val (.int x), .val (.int (-1 : Int32)), .unset] [])) _
    refine XS.iconst X0.here hx rfl (hb hby d_p8_m9_2) ?_
    show Steps p.tables e below (T0.setTop (mkF m 3 #[.val (.ref a), .val (.int n), .val (.int x), .val (.int (-1 : Int32)), .unset] [(.int (0 : Int32))])) _
    refine XS.istore X0.here hx rfl (hb hby d_p8_m9_3) rfl (l' := #[.val (.ref a), .val (.int n), .val (.int x), .val (.int (-1 : Int32)), .val (.int (0 : Int32))]) rfl ?_
    exact k
  have J1 : ∀ (f1 : Nat) (pl : Int32) (i : Int32), (plL f1 xs n x pl i = some r) → Go p e below (EndF s ({ frames := 0, cells := 0, slots := 0, locals := 0 } : Room).cells ({ frames := 0, cells := 0, slots := 0, locals := 0 } : Room).slots (fun v h L => v = some (.int r) ∧ Fr n0 L ∧ h0 = h)) T0 (mkF m 5 #[.val (.ref a), .val (.int n), .val (.int x), .val (.int pl), .val (.int i)] []) := by
    intro f1
    induction f1 with
    | zero => intro pl i H; cases H
    | succ f1 ih1 =>
      intro pl i H
      rw [plL] at H
      refine Go.by (T' := T0) (g' := (mkF m 8 #[.val (.ref a), .val (.int n), .val (.int x), .val (.int pl), .val (.int i)] [(.int n), (.int i)])) (fun t k => ?_) ?_
      · show Steps p.tables e below (T0.setTop (mkF m 5 #[.val (.ref a), .val (.int n), .val (.int x), .val (.int pl), .val (.int i)] [])) _
        refine XS.iload X0.here hx rfl (hb hby d_p8_m9_5) rfl ?_
        show Steps p.tables e below (T0.setTop (mkF m 7 #[.val (.ref a), .val (.int n), .val (.int x), .val (.int pl), .val (.int i)] [(.int i)])) _
        refine XS.iloadN X0.here hx rfl (hb hby d_p8_m9_7) rfl ?_
        exact k
      by_cases hy2 : i < n
      · skip
        replace H := (if_pos hy2).symm.trans H
        refine Go.by (T' := T0) (g' := (mkF m 12 #[.val (.ref a), .val (.int n), .val (.int x), .val (.int pl), .val (.int i)] [(.int pl)])) (fun t k => ?_) ?_
        · show Steps p.tables e below (T0.setTop (mkF m 8 #[.val (.ref a), .val (.int n), .val (.int x), .val (.int pl), .val (.int i)] [(.int n), (.int i)])) _
          refine XS.icmpNo X0.here hx rfl (hb hby d_p8_m9_8) rfl (tlt hy2).2.1 ?_
          show Steps p.tables e below (T0.setTop (mkF m 11 #[.val (.ref a), .val (.int n), .val (.int x), .val (.int pl), .val (.int i)] [])) _
          refine XS.iloadN X0.here hx rfl (hb hby d_p8_m9_11) rfl ?_
          exact k
        by_cases hy3 : pl < (0 : Int32)
        · skip
          replace H := (if_pos hy3).symm.trans H
          refine Go.by (T' := T0) (g' := (mkF m 18 #[.val (.ref a), .val (.int n), .val (.int x), .val (.int pl), .val (.int i)] [(.int i), (.ref a)])) (fun t k => ?_) ?_
          · show Steps p.tables e below (T0.setTop (mkF m 12 #[.val (.ref a), .val (.int n), .val (.int x), .val (.int pl), .val (.int i)] [(.int pl)])) _
            refine XS.ifNo X0.here hx rfl (hb hby d_p8_m9_12) rfl ((if0 _ _).trans (tlt hy3).2.1) ?_
            show Steps p.tables e below (T0.setTop (mkF m 15 #[.val (.ref a), .val (.int n), .val (.int x), .val (.int pl), .val (.int i)] [])) _
            refine XS.aloadN X0.here hx rfl (hb hby d_p8_m9_15) rfl rfl ?_
            show Steps p.tables e below (T0.setTop (mkF m 16 #[.val (.ref a), .val (.int n), .val (.int x), .val (.int pl), .val (.int i)] [(.ref a)])) _
            refine XS.iload X0.here hx rfl (hb hby d_p8_m9_16) rfl ?_
            exact k
          obtain ⟨v4, hv4, H⟩ := ob H
          refine Go.iaL X0 hx hZ e0 I_a (j := i) hv4 (hb hby d_p8_m9_18) ?_
          show Go p e below _ T0 (mkF m 19 #[.val (.ref a), .val (.int n), .val (.int x), .val (.int pl), .val (.int i)] [(.int v4)])
          refine Go.by (T' := T0) (g' := (mkF m 20 #[.val (.ref a), .val (.int n), .val (.int x), .val (.int pl), .val (.int i)] [(.int x), (.int v4)])) (fun t k => ?_) ?_
          · show Steps p.tables e below (T0.setTop (mkF m 19 #[.val (.ref a), .val (.int n), .val (.int x), .val (.int pl), .val (.int i)] [(.int v4)])) _
            refine XS.iloadN X0.here hx rfl (hb hby d_p8_m9_19) rfl ?_
            exact k
          by_cases hy5 : v4 = x
          · skip
            replace H := (if_pos hy5).symm.trans H
            refine Go.by (T' := T0) (g' := (mkF m 5 #[.val (.ref a), .val (.int n), .val (.int x), .val (.int i), .val (.int (i + (1 : Int32)))] [])) (fun t k => ?_) ?_
            · show Steps p.tables e below (T0.setTop (mkF m 20 #[.val (.ref a), .val (.int n), .val (.int x), .val (.int pl), .val (.int i)] [(.int x), (.int v4)])) _
              refine XS.icmpNo X0.here hx rfl (hb hby d_p8_m9_20) rfl (teq hy5).2 ?_
              show Steps p.tables e below (T0.setTop (mkF m 23 #[.val (.ref a), .val (.int n), .val (.int x), .val (.int pl), .val (.int i)] [])) _
              refine XS.iload X0.here hx rfl (hb hby d_p8_m9_23) rfl ?_
              show Steps p.tables e below (T0.setTop (mkF m 25 #[.val (.ref a), .val (.int n), .val (.int x), .val (.int pl), .val (.int i)] [(.int i)])) _
              refine XS.istoreN X0.here hx rfl (hb hby d_p8_m9_25) rfl (l' := #[.val (.ref a), .val (.int n), .val (.int x), .val (.int i), .val (.int i)]) rfl ?_
              show Steps p.tables e below (T0.setTop (mkF m 26 #[.val (.ref a), .val (.int n), .val (.int x), .val (.int i), .val (.int i)] [])) _
              refine XS.iinc X0.here hx rfl (hb hby d_p8_m9_26) rfl (l' := #[.val (.ref a), .val (.int n), .val (.int x), .val (.int i), .val (.int (i + (1 : Int32)))]) rfl ?_
              show Steps p.tables e below (T0.setTop (mkF m 29 #[.val (.ref a), .val (.int n), .val (.int x), .val (.int i), .val (.int (i + (1 : Int32)))] [])) _
              refine XS.goto X0.here hx rfl (pc0 := 29) (pc' := 5) rfl (hb hby d_p8_m9_29) (by decide) (by decide) ?_
              exact k
            exact ih1 _ _ H
          · skip
            replace H := (if_neg hy5).symm.trans H
            refine Go.by (T' := T0) (g' := (mkF m 5 #[.val (.ref a), .val (.int n), .val (.int x), .val (.int pl), .val (.int (i + (1 : Int32)))] [])) (fun t k => ?_) ?_
            · show Steps p.tables e below (T0.setTop (mkF m 20 #[.val (.ref a), .val (.int n), .val (.int x), .val (.int pl), .val (.int i)] [(.int x), (.int v4)])) _
              refine XS.icmpYes X0.here hx rfl (pc0 := 20) (pc' := 26) rfl (hb hby d_p8_m9_20) rfl (feq hy5).2 (by decide) (by decide) ?_
              show Steps p.tables e below (T0.setTop (mkF m 26 #[.val (.ref a), .val (.int n), .val (.int x), .val (.int pl), .val (.int i)] [])) _
              refine XS.iinc X0.here hx rfl (hb hby d_p8_m9_26) rfl (l' := #[.val (.ref a), .val (.int n), .val (.int x), .val (.int pl), .val (.int (i + (1 : Int32)))]) rfl ?_
              show Steps p.tables e below (T0.setTop (mkF m 29 #[.val (.ref a), .val (.int n), .val (.int x), .val (.int pl), .val (.int (i + (1 : Int32)))] [])) _
              refine XS.goto X0.here hx rfl (pc0 := 29) (pc' := 5) rfl (hb hby d_p8_m9_29) (by decide) (by decide) ?_
              exact k
            exact ih1 _ _ H
        · skip
          replace H := (if_neg hy3).symm.trans H
          refine Go.by (T' := T0) (g' := (mkF m 33 #[.val (.ref a), .val (.int n), .val (.int x), .val (.int pl), .val (.int i)] [(.int pl)])) (fun t k => ?_) ?_
          · show Steps p.tables e below (T0.setTop (mkF m 12 #[.val (.ref a), .val (.int n), .val (.int x), .val (.int pl), .val (.int i)] [(.int pl)])) _
            refine XS.ifYes X0.here hx rfl (pc0 := 12) (pc' := 32) rfl (hb hby d_p8_m9_12) rfl ((if0 _ _).trans (flt hy3).2.1) (by decide) (by decide) ?_
            show Steps p.tables e below (T0.setTop (mkF m 32 #[.val (.ref a), .val (.int n), .val (.int x), .val (.int pl), .val (.int i)] [])) _
            refine XS.iloadN X0.here hx rfl (hb hby d_p8_m9_32) rfl ?_
            exact k
          refine Go.retI X0 hx hlk hret (hb hby d_p8_m9_33) (by decide) (by decide) e0 ?_
          cases H
          exact ⟨rfl, N0, rfl⟩
      · skip
        replace H := (if_neg hy2).symm.trans H
        refine Go.by (T' := T0) (g' := (mkF m 33 #[.val (.ref a), .val (.int n), .val (.int x), .val (.int pl), .val (.int i)] [(.int pl)])) (fun t k => ?_) ?_
        · show Steps p.tables e below (T0.setTop (mkF m 8 #[.val (.ref a), .val (.int n), .val (.int x), .val (.int pl), .val (.int i)] [(.int n), (.int i)])) _
          refine XS.icmpYes X0.here hx rfl (pc0 := 8) (pc' := 32) rfl (hb hby d_p8_m9_8) rfl (flt hy2).2.1 (by decide) (by decide) ?_
          show Steps p.tables e below (T0.setTop (mkF m 32 #[.val (.ref a), .val (.int n), .val (.int x), .val (.int pl), .val (.int i)] [])) _
          refine XS.iloadN X0.here hx rfl (hb hby d_p8_m9_32) rfl ?_
          exact k
        refine Go.retI X0 hx hlk hret (hb hby d_p8_m9_33) (by decide) (by decide) e0 ?_
        cases H
        exact ⟨rfl, N0, rfl⟩
  exact J1 _ _ _ H
set_option maxRecDepth 65536 in
set_option maxHeartbeats 40000000 in
theorem ct_longest (l : Launch) (Z : State) (a0 : Array Value) (hw : ∀ d ∈ tables_1, d.before a0 Z = true) (b : Nat) (aS : Nat) (lim : Int32) (src : List Int32) (h0 : Heap) (n0 : Nat) (O : Old Z n0 h0) (F_s : Fld Z h0 b "com/example/shingle/shingle/EditDistance" "source" "[I" (.ref aS)) (F_l : Fld Z h0 b "com/example/shingle/shingle/EditDistance" "limit" "I" (.int lim)) (I_s : IA Z h0 aS src) :
    Ct l (⟨"com/example/shingle/shingle/EditDistance", "longest", "()I"⟩ : MethodName) prog_8_method_3_code 1 (some .int) ({ frames := 0, cells := 0, slots := 0, locals := 0 } : Room) Z #[(.ref b)] h0 (fun v h L => v = some (.int (lenI src + lim)) ∧ Fr n0 L ∧ h0 = h) := by
  refine Ct.of (plainFor_of_name pn_EditDistance_202) ?_
  intro p e s m below meth c T0 X0 hx hby hml hown hnm hret hlk hZ e0
  have hown : s.vm.findClass "com/example/shingle/shingle/EditDistance" = some m.cls := hown
  have hml : c.maxLocals = 1 := hml
  have N0 := Fr.nil n0
  refine Go.cast (g' := mkF m 0 #[.val (.ref b)] []) (by first | (simp [entryFrame, mkF, argsToLocals, Value.category]; done) | rfl) ?_
  refine Go.by (T' := T0) (g' := (mkF m 1 #[.val (.ref b)] [(.ref b)])) (fun t k => ?_) ?_
  · show Steps p.tables e below (T0.setTop (mkF m 0 #[.val (.ref b)] [])) _
    refine XS.aloadN X0.here hx rfl (hb hby d_p8_m3_0) rfl rfl ?_
    exact k
  refine Go.getF X0 hx hZ hown (wd hw 19 rfl) Via.refl e0 F_s (hb hby d_p8_m3_1) ?_
  intro T1 X1 e1
  show Go p e below _ T1 (mkF m 4 #[.val (.ref b)] [(.ref aS)])
  refine Go.iaN X1 hx hZ e1 I_s (hb hby d_p8_m3_4) ?_
  show Go p e below _ T1 (mkF m 5 #[.val (.ref b)] [(.int (lenI src))])
  refine Go.by (T' := T1) (g' := (mkF m 6 #[.val (.ref b)] [(.ref b), (.int (lenI src))])) (fun t k => ?_) ?_
  · show Steps p.tables e below (T1.setTop (mkF m 5 #[.val (.ref b)] [(.int (lenI src))])) _
    refine XS.aloadN X1.here hx rfl (hb hby d_p8_m3_5) rfl rfl ?_
    exact k
  refine Go.getF X1 hx hZ hown (wd hw 21 rfl) Via.refl e1 F_l (hb hby d_p8_m3_6) ?_
  intro T2 X2 e2
  show Go p e below _ T2 (mkF m 9 #[.val (.ref b)] [(.int lim), (.int (lenI src))])
  refine Go.by (T' := T2) (g' := (mkF m 10 #[.val (.ref b)] [(.int ((lenI src) + lim))])) (fun t k => ?_) ?_
  · show Steps p.tables e below (T2.setTop (mkF m 9 #[.val (.ref b)] [(.int lim), (.int (lenI src))])) _
    refine XS.iadd X2.here hx rfl (hb hby d_p8_m3_9) rfl ?_
    exact k
  refine Go.retI X2 hx hlk hret (hb hby d_p8_m3_10) (by decide) (by decide) e2 ?_
  exact ⟨rfl, N0, rfl⟩
set_option maxRecDepth 65536 in
set_option maxHeartbeats 40000000 in
theorem ct_pop (l : Launch) (Z : State) (a0 : Array Value) (hw : ∀ d ∈ tables_1, d.before a0 Z = true) (b : Nat) (w : Nat) (st : EDS) (st' : EDS) (h0 : Heap) (n0 : Nat) (O : Old Z n0 h0) (g_b : (n0 : Nat) ≤ b) (D : ED Z h0 b w st) (hm : popM st = some st') :
    Ct l (⟨"com/example/shingle/shingle/EditDistance", "pop", "()V"⟩ : MethodName) prog_8_method_6_code 2 none ({ frames := 0, cells := 0, slots := 0, locals := 0 } : Room) Z #[(.ref b)] h0 (fun v h L => v = none ∧ Fr n0 L ∧ Keep h0 h (List.range' b w) ∧ ED Z h b w st') := by
  refine Ct.of (plainFor_of_name pn_EditDistance_202) ?_
  intro p e s m below meth c T0 X0 hx hby hml hown hnm hret hlk hZ e0
  have hown : s.vm.findClass "com/example/shingle/shingle/EditDistance" = some m.cls := hown
  have hml : c.maxLocals = 2 := hml
  have N0 := Fr.nil n0
  refine Go.cast (g' := mkF m 0 #[.val (.ref b), .unset] []) (by first | (simp [entryFrame, mkF, argsToLocals, Value.category]; done) | rfl) ?_
  obtain ⟨src, di, lim, sl, lr, cs, fw, tl, lc, rc, rd⟩ := st
  obtain ⟨aS, aL, aD, aR, aC, aF, aT, aX, aP, ho, hz, E_b, F_source, F_limit, F_sourceLetters, F_distinct, F_lastRowBefore, F_columns, F_fewest, F_targetLetters, F_lastColumn, F_replacedColumn, F_read, I_aS, I_aL, I_aD, G_aR, G_aC, I_aF, I_aT, I_aX, I_aP⟩ := D
  obtain ⟨N_aR, hn_aR⟩ : ∃ q : Nat, lr.length = q := ⟨_, rfl⟩
  obtain ⟨N_aC, hn_aC⟩ : ∃ q : Nat, cs.length = q := ⟨_, rfl⟩
  rw [hn_aR, hn_aC] at ho
  have K : Keep h0 h0 (List.range' b w) := Keep.refl _ _
  obtain ⟨co, H, h1⟩ := ob hm
  cases h1
  replace H : popK lim sl lr cs fw tl lc rc rd = some co := H
  unfold popK at H
  refine Go.by (T' := T0) (g' := (mkF m 1 #[.val (.ref b), .unset] [(.ref b)])) (fun t k => ?_) ?_
  · show Steps p.tables e below (T0.setTop (mkF m 0 #[.val (.ref b), .unset] [])) _
    refine XS.aloadN X0.here hx rfl (hb hby d_p8_m6_0) rfl rfl ?_
    exact k
  refine Go.getF X0 hx hZ hown (wd hw 61 rfl) Via.refl e0 F_read (hb hby d_p8_m6_1) ?_
  intro T1 X1 e1
  show Go p e below _ T1 (mkF m 4 #[.val (.ref b), .unset] [(.int rd)])
  have hne : ¬ (rd = (0 : Int32)) := fun q => by rw [if_pos q] at H; cases H
  replace H := (if_neg hne).symm.trans H
  refine Go.by (T' := T1) (g' := (mkF m 18 #[.val (.ref b), .unset] [(.ref b)])) (fun t k => ?_) ?_
  · show Steps p.tables e below (T1.setTop (mkF m 4 #[.val (.ref b), .unset] [(.int rd)])) _
    refine XS.ifYes X1.here hx rfl (pc0 := 4) (pc' := 17) rfl (hb hby d_p8_m6_4) rfl ((if0 _ _).trans (feq hne).2) (by decide) (by decide) ?_
    show Steps p.tables e below (T1.setTop (mkF m 17 #[.val (.ref b), .unset] [])) _
    refine XS.aloadN X1.here hx rfl (hb hby d_p8_m6_17) rfl rfl ?_
    exact k
  refine Go.getF X1 hx hZ hown (wd hw 46 rfl) Via.refl e1 F_targetLetters (hb hby d_p8_m6_18) ?_
  intro T2 X2 e2
  show Go p e below _ T2 (mkF m 21 #[.val (.ref b), .unset] [(.ref aT)])
  refine Go.by (T' := T2) (g' := (mkF m 22 #[.val (.ref b), .unset] [(.ref b), (.ref aT)])) (fun t k => ?_) ?_
  · show Steps p.tables e below (T2.setTop (mkF m 21 #[.val (.ref b), .unset] [(.ref aT)])) _
    refine XS.aloadN X2.here hx rfl (hb hby d_p8_m6_21) rfl rfl ?_
    exact k
  refine Go.getF X2 hx hZ hown (wd hw 61 rfl) Via.refl e2 F_read (hb hby d_p8_m6_22) ?_
  intro T3 X3 e3
  show Go p e below _ T3 (mkF m 25 #[.val (.ref b), .unset] [(.int rd), (.ref aT)])
  obtain ⟨v4, hv4, H⟩ := ob H
  refine Go.iaL X3 hx hZ e3 I_aT (j := rd) hv4 (hb hby d_p8_m6_25) ?_
  show Go p e below _ T3 (mkF m 26 #[.val (.ref b), .unset] [(.int v4)])
  refine Go.by (T' := T3) (g' := (mkF m 28 #[.val (.ref b), .val (.int v4)] [(.int v4)])) (fun t k => ?_) ?_
  · show Steps p.tables e below (T3.setTop (mkF m 26 #[.val (.ref b), .unset] [(.int v4)])) _
    refine XS.istoreN X3.here hx rfl (hb hby d_p8_m6_26) rfl (l' := #[.val (.ref b), .val (.int v4)]) rfl ?_
    show Steps p.tables e below (T3.setTop (mkF m 27 #[.val (.ref b), .val (.int v4)] [])) _
    refine XS.iloadN X3.here hx rfl (hb hby d_p8_m6_27) rfl ?_
    exact k
  by_cases hy5 : v4 < (0 : Int32)
  · skip
    replace H := (if_pos hy5).symm.trans H
    refine Go.by (T' := T3) (g' := (mkF m 48 #[.val (.ref b), .val (.int v4)] [(.ref b), (.ref b)])) (fun t k => ?_) ?_
    · show Steps p.tables e below (T3.setTop (mkF m 28 #[.val (.ref b), .val (.int v4)] [(.int v4)])) _
      refine XS.ifYes X3.here hx rfl (pc0 := 28) (pc' := 46) rfl (hb hby d_p8_m6_28) rfl ((if0 _ _).trans (tlt hy5).1) (by decide) (by decide) ?_
      show Steps p.tables e below (T3.setTop (mkF m 46 #[.val (.ref b), .val (.int v4)] [])) _
      refine XS.aloadN X3.here hx rfl (hb hby d_p8_m6_46) rfl rfl ?_
      show Steps p.tables e below (T3.setTop (mkF m 47 #[.val (.ref b), .val (.int v4)] [(.ref b)])) _
      refine XS.dup X3.here hx rfl (hb hby d_p8_m6_47) rfl rfl ?_
      exact k
    refine Go.getF X3 hx hZ hown (wd hw 61 rfl) Via.refl e3 F_read (hb hby d_p8_m6_48) ?_
    intro T6 X6 e6
    show Go p e below _ T6 (mkF m 51 #[.val (.ref b), .val (.int v4)] [(.int rd), (.ref b)])
    refine Go.by (T' := T6) (g' := (mkF m 53 #[.val (.ref b), .val (.int v4)] [(.int (rd - (1 : Int32))), (.ref b)])) (fun t k => ?_) ?_
    · show Steps p.tables e below (T6.setTop (mkF m 51 #[.val (.ref b), .val (.int v4)] [(.int rd), (.ref b)])) _
      refine XS.iconst X6.here hx rfl (hb hby d_p8_m6_51) ?_
      show Steps p.tables e below (T6.setTop (mkF m 52 #[.val (.ref b), .val (.int v4)] [(.int (1 : Int32)), (.int rd), (.ref b)])) _
      refine XS.isub X6.here hx rfl (hb hby d_p8_m6_52) rfl ?_
      exact k
    refine Go.putF X6 hx hZ hown (wd hw 61 rfl) Via.refl e6 F_read E_b (Or.inl (wd hw 62 rfl)) (wd hw 2 rfl) (ty := .int) (by decide) rfl rfl (hb hby d_p8_m6_53) ?_
    intro T7 h7 X7 e7 W7
    replace E_b := E_b.wr W7
    replace F_source := F_source.other W7 (Or.inr (slot_ne (a0 := a0) (Or.inr (wd hw 20 rfl)) (Or.inl (wd hw 62 rfl)) (by decide) (t := (.array .int)) (t' := .int) (by decide) (by decide)))
    replace F_limit := F_limit.other W7 (Or.inr (slot_ne (a0 := a0) (Or.inr (wd hw 22 rfl)) (Or.inl (wd hw 62 rfl)) (by decide) (t := .int) (t' := .int) (by decide) (by decide)))
    replace F_sourceLetters := F_sourceLetters.other W7 (Or.inr (slot_ne (a0 := a0) (Or.inr (wd hw 24 rfl)) (Or.inl (wd hw 62 rfl)) (by decide) (t := (.array .int)) (t' := .int) (by decide) (by decide)))
    replace F_distinct := F_distinct.other W7 (Or.inr (slot_ne (a0 := a0) (Or.inr (wd hw 32 rfl)) (Or.inl (wd hw 62 rfl)) (by decide) (t := (.array .int)) (t' := .int) (by decide) (by decide)))
    replace F_lastRowBefore := F_lastRowBefore.other W7 (Or.inr (slot_ne (a0 := a0) (Or.inr (wd hw 36 rfl)) (Or.inl (wd hw 62 rfl)) (by decide) (t := (.array (.array .int))) (t' := .int) (by decide) (by decide)))
    replace F_columns := F_columns.other W7 (Or.inr (slot_ne (a0 := a0) (Or.inr (wd hw 43 rfl)) (Or.inl (wd hw 62 rfl)) (by decide) (t := (.array (.array .int))) (t' := .int) (by decide) (by decide)))
    replace F_fewest := F_fewest.other W7 (Or.inr (slot_ne (a0 := a0) (Or.inr (wd hw 45 rfl)) (Or.inl (wd hw 62 rfl)) (by decide) (t := (.array .int)) (t' := .int) (by decide) (by decide)))
    replace F_targetLetters := F_targetLetters.other W7 (Or.inr (slot_ne (a0 := a0) (Or.inr (wd hw 47 rfl)) (Or.inl (wd hw 62 rfl)) (by decide) (t := (.array .int)) (t' := .int) (by decide) (by decide)))
    replace F_lastColumn := F_lastColumn.other W7 (Or.inr (slot_ne (a0 := a0) (Or.inr (wd hw 49 rfl)) (Or.inl (wd hw 62 rfl)) (by decide) (t := (.array .int)) (t' := .int) (by decide) (by decide)))
    replace F_replacedColumn := F_replacedColumn.other W7 (Or.inr (slot_ne (a0 := a0) (Or.inr (wd hw 51 rfl)) (Or.inl (wd hw 62 rfl)) (by decide) (t := (.array .int)) (t' := .int) (by decide) (by decide)))
    replace F_read := F_read.same W7
    replace I_aS := I_aS.other W7 (show (aS : Nat) ≠ b by omega)
    replace I_aL := I_aL.other W7 (show (aL : Nat) ≠ b by omega)
    replace I_aD := I_aD.other W7 (show (aD : Nat) ≠ b by omega)
    replace G_aR := G_aR.other W7 (show (b : Nat) < aR ∨ aR + lr.length < b by omega)
    replace G_aC := G_aC.other W7 (show (b : Nat) < aC ∨ aC + cs.length < b by omega)
    replace I_aF := I_aF.other W7 (show (aF : Nat) ≠ b by omega)
    replace I_aT := I_aT.other W7 (show (aT : Nat) ≠ b by omega)
    replace I_aX := I_aX.other W7 (show (aX : Nat) ≠ b by omega)
    replace I_aP := I_aP.other W7 (show (aP : Nat) ≠ b by omega)
    replace O := O.wr W7 (show (n0 : Nat) ≤ b by omega)
    have N7 := Fr.snoc X7 N0 (show (n0 : Nat) ≤ b by omega)
    replace K := K.wr W7 (Or.inl (in_rng (by omega) (by omega)))
    show Go p e below _ T7 (mkF m 56 #[.val (.ref b), .val (.int v4)] [])
    refine Go.retV X7 hx hlk hret (hb hby d_p8_m6_56) (by decide) (by decide) e7 ?_
    cases H
    exact ⟨rfl, N7, K, aS, aL, aD, aR, aC, aF, aT, aX, aP, by rw [hn_aR, hn_aC]; exact ho, Nat.le_trans hz K.1, E_b, F_source, F_limit, F_sourceLetters, F_distinct, F_lastRowBefore, F_columns, F_fewest, F_targetLetters, F_lastColumn, F_replacedColumn, F_read, I_aS, I_aL, I_aD, G_aR, G_aC, I_aF, I_aT, I_aX, I_aP⟩
  · skip
    replace H := (if_neg hy5).symm.trans H
    refine Go.by (T' := T3) (g' := (mkF m 32 #[.val (.ref b), .val (.int v4)] [(.ref b)])) (fun t k => ?_) ?_
    · show Steps p.tables e below (T3.setTop (mkF m 28 #[.val (.ref b), .val (.int v4)] [(.int v4)])) _
      refine XS.ifNo X3.here hx rfl (hb hby d_p8_m6_28) rfl ((if0 _ _).trans (flt hy5).1) ?_
      show Steps p.tables e below (T3.setTop (mkF m 31 #[.val (.ref b), .val (.int v4)] [])) _
      refine XS.aloadN X3.here hx rfl (hb hby d_p8_m6_31) rfl rfl ?_
      exact k
    refine Go.getF X3 hx hZ hown (wd hw 48 rfl) Via.refl e3 F_lastColumn (hb hby d_p8_m6_32) ?_
    intro T8 X8 e8
    show Go p e below _ T8 (mkF m 35 #[.val (.ref b), .val (.int v4)] [(.ref aX)])
    refine Go.by (T' := T8) (g' := (mkF m 37 #[.val (.ref b), .val (.int v4)] [(.ref b), (.int v4), (.ref aX)])) (fun t k => ?_) ?_
    · show Steps p.tables e below (T8.setTop (mkF m 35 #[.val (.ref b), .val (.int v4)] [(.ref aX)])) _
      refine XS.iloadN X8.here hx rfl (hb hby d_p8_m6_35) rfl ?_
      show Steps p.tables e below (T8.setTop (mkF m 36 #[.val (.ref b), .val (.int v4)] [(.int v4), (.ref aX)])) _
      refine XS.aloadN X8.here hx rfl (hb hby d_p8_m6_36) rfl rfl ?_
      exact k
    refine Go.getF X8 hx hZ hown (wd hw 50 rfl) Via.refl e8 F_replacedColumn (hb hby d_p8_m6_37) ?_
    intro T9 X9 e9
    show Go p e below _ T9 (mkF m 40 #[.val (.ref b), .val (.int v4)] [(.ref aP), (.int v4), (.ref aX)])
    refine Go.by (T' := T9) (g' := (mkF m 41 #[.val (.ref b), .val (.int v4)] [(.ref b), (.ref aP), (.int v4), (.ref aX)])) (fun t k => ?_) ?_
    · show Steps p.tables e below (T9.setTop (mkF m 40 #[.val (.ref b), .val (.int v4)] [(.ref aP), (.int v4), (.ref aX)])) _
      refine XS.aloadN X9.here hx rfl (hb hby d_p8_m6_40) rfl rfl ?_
      exact k
    refine Go.getF X9 hx hZ hown (wd hw 61 rfl) Via.refl e9 F_read (hb hby d_p8_m6_41) ?_
    intro T10 X10 e10
    show Go p e below _ T10 (mkF m 44 #[.val (.ref b), .val (.int v4)] [(.int rd), (.ref aP), (.int v4), (.ref aX)])
    obtain ⟨v11, hv11, H⟩ := ob H
    refine Go.iaL X10 hx hZ e10 I_aP (j := rd) hv11 (hb hby d_p8_m6_44) ?_
    show Go p e below _ T10 (mkF m 45 #[.val (.ref b), .val (.int v4)] [(.int v11), (.int v4), (.ref aX)])
    obtain ⟨v12, hv12, H⟩ := ob H
    refine Go.iaS X10 hx hZ e10 I_aX (j := v4) hv12 (hb hby d_p8_m6_45) ?_
    intro T13 h13 X13 e13 W13 Vn13
    replace E_b := E_b.wr W13
    replace F_source := F_source.other W13 (Or.inl (show (b : Nat) ≠ aX by omega))
    replace F_limit := F_limit.other W13 (Or.inl (show (b : Nat) ≠ aX by omega))
    replace F_sourceLetters := F_sourceLetters.other W13 (Or.inl (show (b : Nat) ≠ aX by omega))
    replace F_distinct := F_distinct.other W13 (Or.inl (show (b : Nat) ≠ aX by omega))
    replace F_lastRowBefore := F_lastRowBefore.other W13 (Or.inl (show (b : Nat) ≠ aX by omega))
    replace F_columns := F_columns.other W13 (Or.inl (show (b : Nat) ≠ aX by omega))
    replace F_fewest := F_fewest.other W13 (Or.inl (show (b : Nat) ≠ aX by omega))
    replace F_targetLetters := F_targetLetters.other W13 (Or.inl (show (b : Nat) ≠ aX by omega))
    replace F_lastColumn := F_lastColumn.other W13 (Or.inl (show (b : Nat) ≠ aX by omega))
    replace F_replacedColumn := F_replacedColumn.other W13 (Or.inl (show (b : Nat) ≠ aX by omega))
    replace F_read := F_read.other W13 (Or.inl (show (b : Nat) ≠ aX by omega))
    replace I_aS := I_aS.other W13 (show (aS : Nat) ≠ aX by omega)
    replace I_aL := I_aL.other W13 (show (aL : Nat) ≠ aX by omega)
    replace I_aD := I_aD.other W13 (show (aD : Nat) ≠ aX by omega)
    replace G_aR := G_aR.other W13 (show (aX : Nat) < aR ∨ aR + lr.length < aX by omega)
    replace G_aC := G_aC.other W13 (show (aX : Nat) < aC ∨ aC + cs.length < aX by omega)
    replace I_aF := I_aF.other W13 (show (aF : Nat) ≠ aX by omega)
    replace I_aT := I_aT.other W13 (show (aT : Nat) ≠ aX by omega)
    replace I_aP := I_aP.other W13 (show (aP : Nat) ≠ aX by omega)
    replace O := O.wr W13 (show (n0 : Nat) ≤ aX by omega)
    have N13 := Fr.snoc X13 N0 (show (n0 : Nat) ≤ aX by omega)
    replace K := K.wr W13 (Or.inl (in_rng (by omega) (by omega)))
    replace I_aX := Vn13
    clear Vn13
    show Go p e below _ T13 (mkF m 46 #[.val (.ref b), .val (.int v4)] [])
    refine Go.by (T' := T13) (g' := (mkF m 48 #[.val (.ref b), .val (.int v4)] [(.ref b), (.ref b)])) (fun t k => ?_) ?_
    · show Steps p.tables e below (T13.setTop (mkF m 46 #[.val (.ref b), .val (.int v4)] [])) _
      refine XS.aloadN X13.here hx rfl (hb hby d_p8_m6_46) rfl rfl ?_
      show Steps p.tables e below (T13.setTop (mkF m 47 #[.val (.ref b), .val (.int v4)] [(.ref b)])) _
      refine XS.dup X13.here hx rfl (hb hby d_p8_m6_47) rfl rfl ?_
      exact k
    refine Go.getF X13 hx hZ hown (wd hw 61 rfl) Via.refl e13 F_read (hb hby d_p8_m6_48) ?_
    intro T14 X14 e14
    show Go p e below _ T14 (mkF m 51 #[.val (.ref b), .val (.int v4)] [(.int rd), (.ref b)])
    refine Go.by (T' := T14) (g' := (mkF m 53 #[.val (.ref b), .val (.int v4)] [(.int (rd - (1 : Int32))), (.ref b)])) (fun t k => ?_) ?_
    · show Steps p.tables e below (T14.setTop (mkF m 51 #[.val (.ref b), .val (.int v4)] [(.int rd), (.ref b)])) _
      refine XS.iconst X14.here hx rfl (hb hby d_p8_m6_51) ?_
      show Steps p.tables e below (T14.setTop (mkF m 52 #[.val (.ref b), .val (.int v4)] [(.int (1 : Int32)), (.int rd), (.ref b)])) _
      refine XS.isub X14.here hx rfl (hb hby d_p8_m6_52) rfl ?_
      exact k
    refine Go.putF X14 hx hZ hown (wd hw 61 rfl) Via.refl e14 F_read E_b (Or.inl (wd hw 62 rfl)) (wd hw 2 rfl) (ty := .int) (by decide) rfl rfl (hb hby d_p8_m6_53) ?_
    intro T15 h15 X15 e15 W15
    replace E_b := E_b.wr W15
    replace F_source := F_source.other W15 (Or.inr (slot_ne (a0 := a0) (Or.inr (wd hw 20 rfl)) (Or.inl (wd hw 62 rfl)) (by decide) (t := (.array .int)) (t' := .int) (by decide) (by decide)))
    replace F_limit := F_limit.other W15 (Or.inr (slot_ne (a0 := a0) (Or.inr (wd hw 22 rfl)) (Or.inl (wd hw 62 rfl)) (by decide) (t := .int) (t' := .int) (by decide) (by decide)))
    replace F_sourceLetters := F_sourceLetters.other W15 (Or.inr (slot_ne (a0 := a0) (Or.inr (wd hw 24 rfl)) (Or.inl (wd hw 62 rfl)) (by decide) (t := (.array .int)) (t' := .int) (by decide) (by decide)))
    replace F_distinct := F_distinct.other W15 (Or.inr (slot_ne (a0 := a0) (Or.inr (wd hw 32 rfl)) (Or.inl (wd hw 62 rfl)) (by decide) (t := (.array .int)) (t' := .int) (by decide) (by decide)))
    replace F_lastRowBefore := F_lastRowBefore.other W15 (Or.inr (slot_ne (a0 := a0) (Or.inr (wd hw 36 rfl)) (Or.inl (wd hw 62 rfl)) (by decide) (t := (.array (.array .int))) (t' := .int) (by decide) (by decide)))
    replace F_columns := F_columns.other W15 (Or.inr (slot_ne (a0 := a0) (Or.inr (wd hw 43 rfl)) (Or.inl (wd hw 62 rfl)) (by decide) (t := (.array (.array .int))) (t' := .int) (by decide) (by decide)))
    replace F_fewest := F_fewest.other W15 (Or.inr (slot_ne (a0 := a0) (Or.inr (wd hw 45 rfl)) (Or.inl (wd hw 62 rfl)) (by decide) (t := (.array .int)) (t' := .int) (by decide) (by decide)))
    replace F_targetLetters := F_targetLetters.other W15 (Or.inr (slot_ne (a0 := a0) (Or.inr (wd hw 47 rfl)) (Or.inl (wd hw 62 rfl)) (by decide) (t := (.array .int)) (t' := .int) (by decide) (by decide)))
    replace F_lastColumn := F_lastColumn.other W15 (Or.inr (slot_ne (a0 := a0) (Or.inr (wd hw 49 rfl)) (Or.inl (wd hw 62 rfl)) (by decide) (t := (.array .int)) (t' := .int) (by decide) (by decide)))
    replace F_replacedColumn := F_replacedColumn.other W15 (Or.inr (slot_ne (a0 := a0) (Or.inr (wd hw 51 rfl)) (Or.inl (wd hw 62 rfl)) (by decide) (t := (.array .int)) (t' := .int) (by decide) (by decide)))
    replace F_read := F_read.same W15
    replace I_aS := I_aS.other W15 (show (aS : Nat) ≠ b by omega)
    replace I_aL := I_aL.other W15 (show (aL : Nat) ≠ b by omega)
    replace I_aD := I_aD.other W15 (show (aD : Nat) ≠ b by omega)
    replace G_aR := G_aR.other W15 (show (b : Nat) < aR ∨ aR + lr.length < b by omega)
    replace G_aC := G_aC.other W15 (show (b : Nat) < aC ∨ aC + cs.length < b by omega)
    replace I_aF := I_aF.other W15 (show (aF : Nat) ≠ b by omega)
    replace I_aT := I_aT.other W15 (show (aT : Nat) ≠ b by omega)
    replace I_aX := I_aX.other W15 (show (aX : Nat) ≠ b by omega)
    replace I_aP := I_aP.other W15 (show (aP : Nat) ≠ b by omega)
    replace O := O.wr W15 (show (n0 : Nat) ≤ b by omega)
    have N15 := Fr.snoc X15 N13 (show (n0 : Nat) ≤ b by omega)
    replace K := K.wr W15 (Or.inl (in_rng (by omega) (by omega)))
    show Go p e below _ T15 (mkF m 56 #[.val (.ref b), .val (.int v4)] [])
    refine Go.retV X15 hx hlk hret (hb hby d_p8_m6_56) (by decide) (by decide) e15 ?_
    cases H
    exact ⟨rfl, N15, K, aS, aL, aD, aR, aC, aF, aT, aX, aP, by rw [hn_aR, hn_aC]; exact ho, Nat.le_trans hz K.1, E_b, F_source, F_limit, F_sourceLetters, F_distinct, F_lastRowBefore, F_columns, F_fewest, F_targetLetters, F_lastColumn, F_replacedColumn, F_read, I_aS, I_aL, I_aD, G_aR, G_aC, I_aF, I_aT, I_aX, I_aP⟩
set_option maxRecDepth 65536 in
set_option maxHeartbeats 40000000 in
theorem ct_out (l : Launch) (Z : State) (a0 : Array Value) (hw : ∀ d ∈ tables_1, d.before a0 Z = true) (b : Nat) (w : Nat) (st : EDS) (r : Int32) (h0 : Heap) (n0 : Nat) (O : Old Z n0 h0) (D : ED Z h0 b w st) (hm : outC st.2.2 = some r) :
    Ct l (⟨"com/example/shingle/shingle/EditDistance", "isOutOfReach", "()Z"⟩ : MethodName) prog_8_method_8_code 1 (some .boolean) ({ frames := 0, cells := 0, slots := 0, locals := 0 } : Room) Z #[(.ref b)] h0 (fun v h L => v = some (.int r) ∧ Fr n0 L ∧ h0 = h) := by
  refine Ct.of (plainFor_of_name pn_EditDistance_202) ?_
  intro p e s m below meth c T0 X0 hx hby hml hown hnm hret hlk hZ e0
  have hown : s.vm.findClass "com/example/shingle/shingle/EditDistance" = some m.cls := hown
  have hml : c.maxLocals = 1 := hml
  have N0 := Fr.nil n0
  refine Go.cast (g' := mkF m 0 #[.val (.ref b)] []) (by first | (simp [entryFrame, mkF, argsToLocals, Value.category]; done) | rfl) ?_
  obtain ⟨src, di, lim, sl, lr, cs, fw, tl, lc, rc, rd⟩ := st
  obtain ⟨aS, aL, aD, aR, aC, aF, aT, aX, aP, ho, hz, E_b, F_source, F_limit, F_sourceLetters, F_distinct, F_lastRowBefore, F_columns, F_fewest, F_targetLetters, F_lastColumn, F_replacedColumn, F_read, I_aS, I_aL, I_aD, G_aR, G_aC, I_aF, I_aT, I_aX, I_aP⟩ := D
  obtain ⟨N_aR, hn_aR⟩ : ∃ q : Nat, lr.length = q := ⟨_, rfl⟩
  obtain ⟨N_aC, hn_aC⟩ : ∃ q : Nat, cs.length = q := ⟨_, rfl⟩
  rw [hn_aR, hn_aC] at ho
  have H : ((rdO fw rd).bind fun v => if lim < v then some 1 else some 0) = some r := hm
  refine Go.by (T' := T0) (g' := (mkF m 1 #[.val (.ref b)] [(.ref b)])) (fun t k => ?_) ?_
  · show Steps p.tables e below (T0.setTop (mkF m 0 #[.val (.ref b)] [])) _
    refine XS.aloadN X0.here hx rfl (hb hby d_p8_m8_0) rfl rfl ?_
    exact k
  refine Go.getF X0 hx hZ hown (wd hw 44 rfl) Via.refl e0 F_fewest (hb hby d_p8_m8_1) ?_
  intro T1 X1 e1
  show Go p e below _ T1 (mkF m 4 #[.val (.ref b)] [(.ref aF)])
  refine Go.by (T' := T1) (g' := (mkF m 5 #[.val (.ref b)] [(.ref b), (.ref aF)])) (fun t k => ?_) ?_
  · show Steps p.tables e below (T1.setTop (mkF m 4 #[.val (.ref b)] [(.ref aF)])) _
    refine XS.aloadN X1.here hx rfl (hb hby d_p8_m8_4) rfl rfl ?_
    exact k
  refine Go.getF X1 hx hZ hown (wd hw 61 rfl) Via.refl e1 F_read (hb hby d_p8_m8_5) ?_
  intro T2 X2 e2
  show Go p e below _ T2 (mkF m 8 #[.val (.ref b)] [(.int rd), (.ref aF)])
  obtain ⟨v3, hv3, H⟩ := ob H
  refine Go.iaL X2 hx hZ e2 I_aF (j := rd) hv3 (hb hby d_p8_m8_8) ?_
  show Go p e below _ T2 (mkF m 9 #[.val (.ref b)] [(.int v3)])
  refine Go.by (T' := T2) (g' := (mkF m 10 #[.val (.ref b)] [(.ref b), (.int v3)])) (fun t k => ?_) ?_
  · show Steps p.tables e below (T2.setTop (mkF m 9 #[.val (.ref b)] [(.int v3)])) _
    refine XS.aloadN X2.here hx rfl (hb hby d_p8_m8_9) rfl rfl ?_
    exact k
  refine Go.getF X2 hx hZ hown (wd hw 21 rfl) Via.refl e2 F_limit (hb hby d_p8_m8_10) ?_
  intro T4 X4 e4
  show Go p e below _ T4 (mkF m 13 #[.val (.ref b)] [(.int lim), (.int v3)])
  by_cases hy5 : lim < v3
  · skip
    replace H := (if_pos hy5).symm.trans H
    refine Go.by (T' := T4) (g' := (mkF m 21 #[.val (.ref b)] [(.int (1 : Int32))])) (fun t k => ?_) ?_
    · show Steps p.tables e below (T4.setTop (mkF m 13 #[.val (.ref b)] [(.int lim), (.int v3)])) _
      refine XS.icmpNo X4.here hx rfl (hb hby d_p8_m8_13) rfl (tlt hy5).2.2.2 ?_
      show Steps p.tables e below (T4.setTop (mkF m 16 #[.val (.ref b)] [])) _
      refine XS.iconst X4.here hx rfl (hb hby d_p8_m8_16) ?_
      show Steps p.tables e below (T4.setTop (mkF m 17 #[.val (.ref b)] [(.int (1 : Int32))])) _
      refine XS.goto X4.here hx rfl (pc0 := 17) (pc' := 21) rfl (hb hby d_p8_m8_17) (by decide) (by decide) ?_
      exact k
    refine Go.retZ X4 hx hlk hret (Or.inr rfl) (hb hby d_p8_m8_21) (by decide) (by decide) e4 ?_
    cases H
    exact ⟨rfl, N0, rfl⟩
  · skip
    replace H := (if_neg hy5).symm.trans H
    refine Go.by (T' := T4) (g' := (mkF m 21 #[.val (.ref b)] [(.int (0 : Int32))])) (fun t k => ?_) ?_
    · show Steps p.tables e below (T4.setTop (mkF m 13 #[.val (.ref b)] [(.int lim), (.int v3)])) _
      refine XS.icmpYes X4.here hx rfl (pc0 := 13) (pc' := 20) rfl (hb hby d_p8_m8_13) rfl (flt hy5).2.2.2 (by decide) (by decide) ?_
      show Steps p.tables e below (T4.setTop (mkF m 20 #[.val (.ref b)] [])) _
      refine XS.iconst X4.here hx rfl (hb hby d_p8_m8_20) ?_
      exact k
    refine Go.retZ X4 hx hlk hret (Or.inl rfl) (hb hby d_p8_m8_21) (by decide) (by decide) e4 ?_
    cases H
    exact ⟨rfl, N0, rfl⟩
set_option maxRecDepth 65536 in
set_option maxHeartbeats 40000000 in
theorem ct_push (l : Launch) (Z : State) (a0 : Array Value) (hw : ∀ d ∈ tables_1, d.before a0 Z = true) (b : Nat) (w : Nat) (st : EDS) (x : Int32) (st' : EDS) (h0 : Heap) (n0 : Nat) (O : Old Z n0 h0) (g_b : (n0 : Nat) ≤ b) (D : ED Z h0 b w st) (hm : pushM st x = some st') :
    Ct l (⟨"com/example/shingle/shingle/EditDistance", "push", "(I)V"⟩ : MethodName) prog_8_method_5_code 16 none ({ frames := 1, cells := 0, slots := 0, locals := 16 } : Room) Z #[(.ref b), (.int x)] h0 (fun v h L => v = none ∧ Fr n0 L ∧ Keep h0 h (List.range' b w) ∧ ED Z h b w st') := by
  refine Ct.of (plainFor_of_name pn_EditDistance_202) ?_
  intro p e s m below meth c T0 X0 hx hby hml hown hnm hret hlk hZ e0
  have hown : s.vm.findClass "com/example/shingle/shingle/EditDistance" = some m.cls := hown
  have hml : c.maxLocals = 16 := hml
  have N0 := Fr.nil n0
  refine Go.cast (g' := mkF m 0 #[.val (.ref b), .val (.int x), .unset, .unset, .unset, .unset, .unset, .unset, .unset, .unset, .unset, .unset, .unset, .unset, .unset, .unset] []) (by first | (simp [entryFrame, mkF, argsToLocals, Value.category]; done) | rfl) ?_
  obtain ⟨src, di, lim, sl, lr, cs, fw, tl, lc, rc, rd⟩ := st
  obtain ⟨aS, aL, aD, aR, aC, aF, aT, aX, aP, ho, hz, E_b, F_source, F_limit, F_sourceLetters, F_distinct, F_lastRowBefore, F_columns, F_fewest, F_targetLetters, F_lastColumn, F_replacedColumn, F_read, I_aS, I_aL, I_aD, G_aR, G_aC, I_aF, I_aT, I_aX, I_aP⟩ := D
  obtain ⟨N_aR, hn_aR⟩ : ∃ q : Nat, lr.length = q := ⟨_, rfl⟩
  obtain ⟨N_aC, hn_aC⟩ : ∃ q : Nat, cs.length = q := ⟨_, rfl⟩
  rw [hn_aR, hn_aC] at ho
  have K : Keep h0 h0 (List.range' b w) := Keep.refl _ _
  have H : (if rd = lenI src + lim then none else (placeM di (lenI di) x).bind fun t => (pushC (lenI src) (lim, sl, lr, cs, fw, tl, lc, rc, rd) t).bind fun co => some (src, di, co)) = some st' := hm
  refine Go.by (T' := T0) (g' := (mkF m 1 #[.val (.ref b), .val (.int x), .unset, .unset, .unset, .unset, .unset, .unset, .unset, .unset, .unset, .unset, .unset, .unset, .unset, .unset] [(.ref b)])) (fun t k => ?_) ?_
  · show Steps p.tables e below (T0.setTop (mkF m 0 #[.val (.ref b), .val (.int x), .unset, .unset, .unset, .unset, .unset, .unset, .unset, .unset, .unset, .unset, .unset, .unset, .unset, .unset] [])) _
    refine XS.aloadN X0.here hx rfl (hb hby d_p8_m5_0) rfl rfl ?_
    exact k
  refine Go.getF X0 hx hZ hown (wd hw 61 rfl) Via.refl e0 F_read (hb hby d_p8_m5_1) ?_
  intro T1 X1 e1
  show Go p e below _ T1 (mkF m 4 #[.val (.ref b), .val (.int x), .unset, .unset, .unset, .unset, .unset, .unset, .unset, .unset, .unset, .unset, .unset, .unset, .unset, .unset] [(.int rd)])
  refine Go.by (T' := T1) (g' := (mkF m 5 #[.val (.ref b), .val (.int x), .unset, .unset, .unset, .unset, .unset, .unset, .unset, .unset, .unset, .unset, .unset, .unset, .unset, .unset] [(.ref b), (.int rd)])) (fun t k => ?_) ?_
  · show Steps p.tables e below (T1.setTop (mkF m 4 #[.val (.ref b), .val (.int x), .unset, .unset, .unset, .unset, .unset, .unset, .unset, .unset, .unset, .unset, .unset, .unset, .unset, .unset] [(.int rd)])) _
    refine XS.aloadN X1.here hx rfl (hb hby d_p8_m5_4) rfl rfl ?_
    exact k
  refine Go.callV X1 hx hZ (W := 1) (argsL := []) (rest := [(.int rd)]) hown (wd hw 37 rfl) (wd hw 38 rfl) (notFace_of_selects (args := #[]) (mvT hZ (wd hw 40 rfl))) (wd hw 40 rfl) (wd hw 39 rfl) (wd hw 3 rfl) (wd hw 41 rfl) (by decide) E_b (ct_longest l Z a0 hw  b aS lim src h0 n0 O F_source F_limit I_aS) e1 (by rw [hml]; rfl) (lenOf pd___I_8321 rfl) rfl rfl (hb hby d_p8_m5_5) (by decide) (by decide) (by decide) (by decide) ?_
  intro v2 T2 h2 L2 X2 e2 q2
  obtain ⟨rfl, N2, rfl⟩ := q2
  replace N2 := Fr.app N0 N2
  show Go p e below _ T2 (mkF m 8 #[.val (.ref b), .val (.int x), .unset, .unset, .unset, .unset, .unset, .unset, .unset, .unset, .unset, .unset, .unset, .unset, .unset, .unset] [(.int (lenI src + lim)), (.int rd)])
  have hne : ¬ (rd = (lenI src + lim)) := fun q => by rw [if_pos q] at H; cases H
  replace H := (if_neg hne).symm.trans H
  refine Go.by (T' := T2) (g' := (mkF m 29 #[.val (.ref b), .val (.int x), .unset, .unset, .unset, .unset, .unset, .unset, .unset, .unset, .unset, .unset, .unset, .unset, .unset, .unset] [(.ref b)])) (fun t k => ?_) ?_
  · show Steps p.tables e below (T2.setTop (mkF m 8 #[.val (.ref b), .val (.int x), .unset, .unset, .unset, .unset, .unset, .unset, .unset, .unset, .unset, .unset, .unset, .unset, .unset, .unset] [(.int (lenI src + lim)), (.int rd)])) _
    refine XS.icmpYes X2.here hx rfl (pc0 := 8) (pc' := 28) rfl (hb hby d_p8_m5_8) rfl (feq hne).2 (by decide) (by decide) ?_
    show Steps p.tables e below (T2.setTop (mkF m 28 #[.val (.ref b), .val (.int x), .unset, .unset, .unset, .unset, .unset, .unset, .unset, .unset, .unset, .unset, .unset, .unset, .unset, .unset] [])) _
    refine XS.aloadN X2.here hx rfl (hb hby d_p8_m5_28) rfl rfl ?_
    exact k
  refine Go.getF X2 hx hZ hown (wd hw 61 rfl) Via.refl e2 F_read (hb hby d_p8_m5_29) ?_
  intro T3 X3 e3
  show Go p e below _ T3 (mkF m 32 #[.val (.ref b), .val (.int x), .unset, .unset, .unset, .unset, .unset, .unset, .unset, .unset, .unset, .unset, .unset, .unset, .unset, .unset] [(.int rd)])
  refine Go.by (T' := T3) (g' := (mkF m 36 #[.val (.ref b), .val (.int x), .val (.int (rd + (1 : Int32))), .unset, .unset, .unset, .unset, .unset, .unset, .unset, .unset, .unset, .unset, .unset, .unset, .unset] [(.ref b)])) (fun t k => ?_) ?_
  · show Steps p.tables e below (T3.setTop (mkF m 32 #[.val (.ref b), .val (.int x), .unset, .unset, .unset, .unset, .unset, .unset, .unset, .unset, .unset, .unset, .unset, .unset, .unset, .unset] [(.int rd)])) _
    refine XS.iconst X3.here hx rfl (hb hby d_p8_m5_32) ?_
    show Steps p.tables e below (T3.setTop (mkF m 33 #[.val (.ref b), .val (.int x), .unset, .unset, .unset, .unset, .unset, .unset, .unset, .unset, .unset, .unset, .unset, .unset, .unset, .unset] [(.int (1 : Int32)), (.int rd)])) _
    refine XS.iadd X3.here hx rfl (hb hby d_p8_m5_33) rfl ?_
    show Steps p.tables e below (T3.setTop (mkF m 34 #[.val (.ref b), .val (.int x), .unset, .unset, .unset, .unset, .unset, .unset, .unset, .unset, .unset, .unset, .unset, .unset, .unset, .unset] [(.int (rd + (1 : Int32)))])) _
    refine XS.istoreN X3.here hx rfl (hb hby d_p8_m5_34) rfl (l' := #[.val (.ref b), .val (.int x), .val (.int (rd + (1 : Int32))), .unset, .unset, .unset, .unset, .unset, .unset, .unset, .unset, .unset, .unset, .unset, .unset, .unset]) rfl ?_
    show Steps p.tables e below (T3.setTop (mkF m 35 #[.val (.ref b), .val (.int x), .val (.int (rd + (1 : Int32))), .unset, .unset, .unset, .unset, .unset, .unset, .unset, .unset, .unset, .unset, .unset, .unset, .unset] [])) _
    refine XS.aloadN X3.here hx rfl (hb hby d_p8_m5_35) rfl rfl ?_
    exact k
  refine Go.getF X3 hx hZ hown (wd hw 31 rfl) Via.refl e3 F_distinct (hb hby d_p8_m5_36) ?_
  intro T4 X4 e4
  show Go p e below _ T4 (mkF m 39 #[.val (.ref b), .val (.int x), .val (.int (rd + (1 : Int32))), .unset, .unset, .unset, .unset, .unset, .unset, .unset, .unset, .unset, .unset, .unset, .unset, .unset] [(.ref aD)])
  refine Go.by (T' := T4) (g' := (mkF m 40 #[.val (.ref b), .val (.int x), .val (.int (rd + (1 : Int32))), .unset, .unset, .unset, .unset, .unset, .unset, .unset, .unset, .unset, .unset, .unset, .unset, .unset] [(.ref b), (.ref aD)])) (fun t k => ?_) ?_
  · show Steps p.tables e below (T4.setTop (mkF m 39 #[.val (.ref b), .val (.int x), .val (.int (rd + (1 : Int32))), .unset, .unset, .unset, .unset, .unset, .unset, .unset, .unset, .unset, .unset, .unset, .unset, .unset] [(.ref aD)])) _
    refine XS.aloadN X4.here hx rfl (hb hby d_p8_m5_39) rfl rfl ?_
    exact k
  refine Go.getF X4 hx hZ hown (wd hw 31 rfl) Via.refl e4 F_distinct (hb hby d_p8_m5_40) ?_
  intro T5 X5 e5
  show Go p e below _ T5 (mkF m 43 #[.val (.ref b), .val (.int x), .val (.int (rd + (1 : Int32))), .unset, .unset, .unset, .unset, .unset, .unset, .unset, .unset, .unset, .unset, .unset, .unset, .unset] [(.ref aD), (.ref aD)])
  refine Go.iaN X5 hx hZ e5 I_aD (hb hby d_p8_m5_43) ?_
  show Go p e below _ T5 (mkF m 44 #[.val (.ref b), .val (.int x), .val (.int (rd + (1 : Int32))), .unset, .unset, .unset, .unset, .unset, .unset, .unset, .unset, .unset, .unset, .unset, .unset, .unset] [(.int (lenI di)), (.ref aD)])
  refine Go.by (T' := T5) (g' := (mkF m 45 #[.val (.ref b), .val (.int x), .val (.int (rd + (1 : Int32))), .unset, .unset, .unset, .unset, .unset, .unset, .unset, .unset, .unset, .unset, .unset, .unset, .unset] [(.int x), (.int (lenI di)), (.ref aD)])) (fun t k => ?_) ?_
  · show Steps p.tables e below (T5.setTop (mkF m 44 #[.val (.ref b), .val (.int x), .val (.int (rd + (1 : Int32))), .unset, .unset, .unset, .unset, .unset, .unset, .unset, .unset, .unset, .unset, .unset, .unset, .unset] [(.int (lenI di)), (.ref aD)])) _
    refine XS.iloadN X5.here hx rfl (hb hby d_p8_m5_44) rfl ?_
    exact k
  obtain ⟨tq, ht, H⟩ := ob H
  obtain ⟨co, hC, h1⟩ := ob H
  have H : pushK (lenI src) lim sl lr cs fw tl lc rc rd tq = some co := hC
  unfold pushK at H
  refine Go.callS X5 hx hZ (W := 0) (argsL := [(.ref aD), (.int (lenI di)), (.int x)]) (rest := []) hown (wd hw 63 rfl) (wd hw 64 rfl) (wd hw 3 rfl) (wd hw 65 rfl) (by decide) (ct_place l Z a0 hw  aD di (lenI di) x tq h0 n0 O I_aD ht) e5 (by rw [hml]; rfl) (lenOf pd___III_I_9745 rfl) rfl rfl (hb hby d_p8_m5_45) (by decide) (by decide) (by decide) (by decide) ?_
  intro v6 T6 h6 L6 X6 e6 q6
  obtain ⟨rfl, N6, rfl⟩ := q6
  replace N6 := Fr.app N2 N6
  show Go p e below _ T6 (mkF m 48 #[.val (.ref b), .val (.int x), .val (.int (rd + (1 : Int32))), .unset, .unset, .unset, .unset, .unset, .unset, .unset, .unset, .unset, .unset, .unset, .unset, .unset] [(.int tq)])
  refine Go.by (T' := T6) (g' := (mkF m 50 #[.val (.ref b), .val (.int x), .val (.int (rd + (1 : Int32))), .val (.int tq), .unset, .unset, .unset, .unset, .unset, .unset, .unset, .unset, .unset, .unset, .unset, .unset] [(.ref b)])) (fun t k => ?_) ?_
  · show Steps p.tables e below (T6.setTop (mkF m 48 #[.val (.ref b), .val (.int x), .val (.int (rd + (1 : Int32))), .unset, .unset, .unset, .unset, .unset, .unset, .unset, .unset, .unset, .unset, .unset, .unset, .unset] [(.int tq)])) _
    refine XS.istoreN X6.here hx rfl (hb hby d_p8_m5_48) rfl (l' := #[.val (.ref b), .val (.int x), .val (.int (rd + (1 : Int32))), .val (.int tq), .unset, .unset, .unset, .unset, .unset, .unset, .unset, .unset, .unset, .unset, .unset, .unset]) rfl ?_
    show Steps p.tables e below (T6.setTop (mkF m 49 #[.val (.ref b), .val (.int x), .val (.int (rd + (1 : Int32))), .val (.int tq), .unset, .unset, .unset, .unset, .unset, .unset, .unset, .unset, .unset, .unset, .unset, .unset] [])) _
    refine XS.aloadN X6.here hx rfl (hb hby d_p8_m5_49) rfl rfl ?_
    exact k
  refine Go.getF X6 hx hZ hown (wd hw 42 rfl) Via.refl e6 F_columns (hb hby d_p8_m5_50) ?_
  intro T7 X7 e7
  show Go p e below _ T7 (mkF m 53 #[.val (.ref b), .val (.int x), .val (.int (rd + (1 : Int32))), .val (.int tq), .unset, .unset, .unset, .unset, .unset, .unset, .unset, .unset, .unset, .unset, .unset, .unset] [(.ref aC)])
  refine Go.by (T' := T7) (g' := (mkF m 56 #[.val (.ref b), .val (.int x), .val (.int (rd + (1 : Int32))), .val (.int tq), .unset, .unset, .unset, .unset, .unset, .unset, .unset, .unset, .unset, .unset, .unset, .unset] [(.int ((rd + (1 : Int32)) - (1 : Int32))), (.ref aC)])) (fun t k => ?_) ?_
  · show Steps p.tables e below (T7.setTop (mkF m 53 #[.val (.ref b), .val (.int x), .val (.int (rd + (1 : Int32))), .val (.int tq), .unset, .unset, .unset, .unset, .unset, .unset, .unset, .unset, .unset, .unset, .unset, .unset] [(.ref aC)])) _
    refine XS.iloadN X7.here hx rfl (hb hby d_p8_m5_53) rfl ?_
    show Steps p.tables e below (T7.setTop (mkF m 54 #[.val (.ref b), .val (.int x), .val (.int (rd + (1 : Int32))), .val (.int tq), .unset, .unset, .unset, .unset, .unset, .unset, .unset, .unset, .unset, .unset, .unset, .unset] [(.int (rd + (1 : Int32))), (.ref aC)])) _
    refine XS.iconst X7.here hx rfl (hb hby d_p8_m5_54) ?_
    show Steps p.tables e below (T7.setTop (mkF m 55 #[.val (.ref b), .val (.int x), .val (.int (rd + (1 : Int32))), .val (.int tq), .unset, .unset, .unset, .unset, .unset, .unset, .unset, .unset, .unset, .unset, .unset, .unset] [(.int (1 : Int32)), (.int (rd + (1 : Int32))), (.ref aC)])) _
    refine XS.isub X7.here hx rfl (hb hby d_p8_m5_55) rfl ?_
    exact k
  obtain ⟨_, hv8, H⟩ := ob H
  refine Go.gaL X7 hx hZ e7 G_aC (j := ((rd + (1 : Int32)) - (1 : Int32))) hv8 (hb hby d_p8_m5_56) ?_
  show Go p e below _ T7 (mkF m 57 #[.val (.ref b), .val (.int x), .val (.int (rd + (1 : Int32))), .val (.int tq), .unset, .unset, .unset, .unset, .unset, .unset, .unset, .unset, .unset, .unset, .unset, .unset] [(.ref (aC + 1 + ((rd + (1 : Int32)) - (1 : Int32)).toNatClampNeg))])
  refine Go.by (T' := T7) (g' := (mkF m 60 #[.val (.ref b), .val (.int x), .val (.int (rd + (1 : Int32))), .val (.int tq), .val (.ref (aC + 1 + ((rd + (1 : Int32)) - (1 : Int32)).toNatClampNeg)), .unset, .unset, .unset, .unset, .unset, .unset, .unset, .unset, .unset, .unset, .unset] [(.ref b)])) (fun t k => ?_) ?_
  · show Steps p.tables e below (T7.setTop (mkF m 57 #[.val (.ref b), .val (.int x), .val (.int (rd + (1 : Int32))), .val (.int tq), .unset, .unset, .unset, .unset, .unset, .unset, .unset, .unset, .unset, .unset, .unset, .unset] [(.ref (aC + 1 + ((rd + (1 : Int32)) - (1 : Int32)).toNatClampNeg))])) _
    refine XS.astore X7.here hx rfl (hb hby d_p8_m5_57) rfl rfl (l' := #[.val (.ref b), .val (.int x), .val (.int (rd + (1 : Int32))), .val (.int tq), .val (.ref (aC + 1 + ((rd + (1 : Int32)) - (1 : Int32)).toNatClampNeg)), .unset, .unset, .unset, .unset, .unset, .unset, .unset, .unset, .unset, .unset, .unset]) rfl ?_
    show Steps p.tables e below (T7.setTop (mkF m 59 #[.val (.ref b), .val (.int x), .val (.int (rd + (1 : Int32))), .val (.int tq), .val (.ref (aC + 1 + ((rd + (1 : Int32)) - (1 : Int32)).toNatClampNeg)), .unset, .unset, .unset, .unset, .unset, .unset, .unset, .unset, .unset, .unset, .unset] [])) _
    refine XS.aloadN X7.here hx rfl (hb hby d_p8_m5_59) rfl rfl ?_
    exact k
  refine Go.getF X7 hx hZ hown (wd hw 42 rfl) Via.refl e7 F_columns (hb hby d_p8_m5_60) ?_
  intro T9 X9 e9
  show Go p e below _ T9 (mkF m 63 #[.val (.ref b), .val (.int x), .val (.int (rd + (1 : Int32))), .val (.int tq), .val (.ref (aC + 1 + ((rd + (1 : Int32)) - (1 : Int32)).toNatClampNeg)), .unset, .unset, .unset, .unset, .unset, .unset, .unset, .unset, .unset, .unset, .unset] [(.ref aC)])
  refine Go.by (T' := T9) (g' := (mkF m 64 #[.val (.ref b), .val (.int x), .val (.int (rd + (1 : Int32))), .val (.int tq), .val (.ref (aC + 1 + ((rd + (1 : Int32)) - (1 : Int32)).toNatClampNeg)), .unset, .unset, .unset, .unset, .unset, .unset, .unset, .unset, .unset, .unset, .unset] [(.int (rd + (1 : Int32))), (.ref aC)])) (fun t k => ?_) ?_
  · show Steps p.tables e below (T9.setTop (mkF m 63 #[.val (.ref b), .val (.int x), .val (.int (rd + (1 : Int32))), .val (.int tq), .val (.ref (aC + 1 + ((rd + (1 : Int32)) - (1 : Int32)).toNatClampNeg)), .unset, .unset, .unset, .unset, .unset, .unset, .unset, .unset, .unset, .unset, .unset] [(.ref aC)])) _
    refine XS.iloadN X9.here hx rfl (hb hby d_p8_m5_63) rfl ?_
    exact k
  obtain ⟨_, hv10, H⟩ := ob H
  refine Go.gaL X9 hx hZ e9 G_aC (j := (rd + (1 : Int32))) hv10 (hb hby d_p8_m5_64) ?_
  show Go p e below _ T9 (mkF m 65 #[.val (.ref b), .val (.int x), .val (.int (rd + (1 : Int32))), .val (.int tq), .val (.ref (aC + 1 + ((rd + (1 : Int32)) - (1 : Int32)).toNatClampNeg)), .unset, .unset, .unset, .unset, .unset, .unset, .unset, .unset, .unset, .unset, .unset] [(.ref (aC + 1 + (rd + (1 : Int32)).toNatClampNeg))])
  refine Go.by (T' := T9) (g' := (mkF m 70 #[.val (.ref b), .val (.int x), .val (.int (rd + (1 : Int32))), .val (.int tq), .val (.ref (aC + 1 + ((rd + (1 : Int32)) - (1 : Int32)).toNatClampNeg)), .val (.ref (aC + 1 + (rd + (1 : Int32)).toNatClampNeg)), .unset, .unset, .unset, .unset, .unset, .unset, .unset, .unset, .unset, .unset] [(.ref b), (.int (rd + (1 : Int32))), (.int (1 : Int32))])) (fun t k => ?_) ?_
  · show Steps p.tables e below (T9.setTop (mkF m 65 #[.val (.ref b), .val (.int x), .val (.int (rd + (1 : Int32))), .val (.int tq), .val (.ref (aC + 1 + ((rd + (1 : Int32)) - (1 : Int32)).toNatClampNeg)), .unset, .unset, .unset, .unset, .unset, .unset, .unset, .unset, .unset, .unset, .unset] [(.ref (aC + 1 + (rd + (1 : Int32)).toNatClampNeg))])) _
    refine XS.astore X9.here hx rfl (hb hby d_p8_m5_65) rfl rfl (l' := #[.val (.ref b), .val (.int x), .val (.int (rd + (1 : Int32))), .val (.int tq), .val (.ref (aC + 1 + ((rd + (1 : Int32)) - (1 : Int32)).toNatClampNeg)), .val (.ref (aC + 1 + (rd + (1 : Int32)).toNatClampNeg)), .unset, .unset, .unset, .unset, .unset, .unset, .unset, .unset, .unset, .unset]) rfl ?_
    show Steps p.tables e below (T9.setTop (mkF m 67 #[.val (.ref b), .val (.int x), .val (.int (rd + (1 : Int32))), .val (.int tq), .val (.ref (aC + 1 + ((rd + (1 : Int32)) - (1 : Int32)).toNatClampNeg)), .val (.ref (aC + 1 + (rd + (1 : Int32)).toNatClampNeg)), .unset, .unset, .unset, .unset, .unset, .unset, .unset, .unset, .unset, .unset] [])) _
    refine XS.iconst X9.here hx rfl (hb hby d_p8_m5_67) ?_
    show Steps p.tables e below (T9.setTop (mkF m 68 #[.val (.ref b), .val (.int x), .val (.int (rd + (1 : Int32))), .val (.int tq), .val (.ref (aC + 1 + ((rd + (1 : Int32)) - (1 : Int32)).toNatClampNeg)), .val (.ref (aC + 1 + (rd + (1 : Int32)).toNatClampNeg)), .unset, .unset, .unset, .unset, .unset, .unset, .unset, .unset, .unset, .unset] [(.int (1 : Int32))])) _
    refine XS.iloadN X9.here hx rfl (hb hby d_p8_m5_68) rfl ?_
    show Steps p.tables e below (T9.setTop (mkF m 69 #[.val (.ref b), .val (.int x), .val (.int (rd + (1 : Int32))), .val (.int tq), .val (.ref (aC + 1 + ((rd + (1 : Int32)) - (1 : Int32)).toNatClampNeg)), .val (.ref (aC + 1 + (rd + (1 : Int32)).toNatClampNeg)), .unset, .unset, .unset, .unset, .unset, .unset, .unset, .unset, .unset, .unset] [(.int (rd + (1 : Int32))), (.int (1 : Int32))])) _
    refine XS.aloadN X9.here hx rfl (hb hby d_p8_m5_69) rfl rfl ?_
    exact k
  refine Go.getF X9 hx hZ hown (wd hw 21 rfl) Via.refl e9 F_limit (hb hby d_p8_m5_70) ?_
  intro T11 X11 e11
  show Go p e below _ T11 (mkF m 73 #[.val (.ref b), .val (.int x), .val (.int (rd + (1 : Int32))), .val (.int tq), .val (.ref (aC + 1 + ((rd + (1 : Int32)) - (1 : Int32)).toNatClampNeg)), .val (.ref (aC + 1 + (rd + (1 : Int32)).toNatClampNeg)), .unset, .unset, .unset, .unset, .unset, .unset, .unset, .unset, .unset, .unset] [(.int lim), (.int (rd + (1 : Int32))), (.int (1 : Int32))])
  refine Go.by (T' := T11) (g' := (mkF m 74 #[.val (.ref b), .val (.int x), .val (.int (rd + (1 : Int32))), .val (.int tq), .val (.ref (aC + 1 + ((rd + (1 : Int32)) - (1 : Int32)).toNatClampNeg)), .val (.ref (aC + 1 + (rd + (1 : Int32)).toNatClampNeg)), .unset, .unset, .unset, .unset, .unset, .unset, .unset, .unset, .unset, .unset] [(.int ((rd + (1 : Int32)) - lim)), (.int (1 : Int32))])) (fun t k => ?_) ?_
  · show Steps p.tables e below (T11.setTop (mkF m 73 #[.val (.ref b), .val (.int x), .val (.int (rd + (1 : Int32))), .val (.int tq), .val (.ref (aC + 1 + ((rd + (1 : Int32)) - (1 : Int32)).toNatClampNeg)), .val (.ref (aC + 1 + (rd + (1 : Int32)).toNatClampNeg)), .unset, .unset, .unset, .unset, .unset, .unset, .unset, .unset, .unset, .unset] [(.int lim), (.int (rd + (1 : Int32))), (.int (1 : Int32))])) _
    refine XS.isub X11.here hx rfl (hb hby d_p8_m5_73) rfl ?_
    exact k
  refine Go.callS X11 hx hZ (W := 0) (argsL := [(.int (1 : Int32)), (.int ((rd + (1 : Int32)) - lim))]) (rest := []) hown (wd hw 71 rfl) (wd hw 72 rfl) (wd hw 73 rfl) (wd hw 74 rfl) (by decide) (ct_max l Z a0 hw  (1 : Int32) ((rd + (1 : Int32)) - lim) h0 n0 O ) e11 (by rw [hml]; rfl) (lenOf pd__II_I_420 rfl) rfl rfl (hb hby d_p8_m5_74) (by decide) (by decide) (by decide) (by decide) ?_
  intro v12 T12 h12 L12 X12 e12 q12
  obtain ⟨rfl, N12, rfl⟩ := q12
  replace N12 := Fr.app N6 N12
  show Go p e below _ T12 (mkF m 77 #[.val (.ref b), .val (.int x), .val (.int (rd + (1 : Int32))), .val (.int tq), .val (.ref (aC + 1 + ((rd + (1 : Int32)) - (1 : Int32)).toNatClampNeg)), .val (.ref (aC + 1 + (rd + (1 : Int32)).toNatClampNeg)), .unset, .unset, .unset, .unset, .unset, .unset, .unset, .unset, .unset, .unset] [(.int (mxM (1 : Int32) ((rd + (1 : Int32)) - lim)))])
  refine Go.by (T' := T12) (g' := (mkF m 80 #[.val (.ref b), .val (.int x), .val (.int (rd + (1 : Int32))), .val (.int tq), .val (.ref (aC + 1 + ((rd + (1 : Int32)) - (1 : Int32)).toNatClampNeg)), .val (.ref (aC + 1 + (rd + (1 : Int32)).toNatClampNeg)), .val (.int (mxM (1 : Int32) ((rd + (1 : Int32)) - lim))), .unset, .unset, .unset, .unset, .unset, .unset, .unset, .unset, .unset] [(.ref b)])) (fun t k => ?_) ?_
  · show Steps p.tables e below (T12.setTop (mkF m 77 #[.val (.ref b), .val (.int x), .val (.int (rd + (1 : Int32))), .val (.int tq), .val (.ref (aC + 1 + ((rd + (1 : Int32)) - (1 : Int32)).toNatClampNeg)), .val (.ref (aC + 1 + (rd + (1 : Int32)).toNatClampNeg)), .unset, .unset, .unset, .unset, .unset, .unset, .unset, .unset, .unset, .unset] [(.int (mxM (1 : Int32) ((rd + (1 : Int32)) - lim)))])) _
    refine XS.istore X12.here hx rfl (hb hby d_p8_m5_77) rfl (l' := #[.val (.ref b), .val (.int x), .val (.int (rd + (1 : Int32))), .val (.int tq), .val (.ref (aC + 1 + ((rd + (1 : Int32)) - (1 : Int32)).toNatClampNeg)), .val (.ref (aC + 1 + (rd + (1 : Int32)).toNatClampNeg)), .val (.int (mxM (1 : Int32) ((rd + (1 : Int32)) - lim))), .unset, .unset, .unset, .unset, .unset, .unset, .unset, .unset, .unset]) rfl ?_
    show Steps p.tables e below (T12.setTop (mkF m 79 #[.val (.ref b), .val (.int x), .val (.int (rd + (1 : Int32))), .val (.int tq), .val (.ref (aC + 1 + ((rd + (1 : Int32)) - (1 : Int32)).toNatClampNeg)), .val (.ref (aC + 1 + (rd + (1 : Int32)).toNatClampNeg)), .val (.int (mxM (1 : Int32) ((rd + (1 : Int32)) - lim))), .unset, .unset, .unset, .unset, .unset, .unset, .unset, .unset, .unset] [])) _
    refine XS.aloadN X12.here hx rfl (hb hby d_p8_m5_79) rfl rfl ?_
    exact k
  refine Go.getF X12 hx hZ hown (wd hw 19 rfl) Via.refl e12 F_source (hb hby d_p8_m5_80) ?_
  intro T13 X13 e13
  show Go p e below _ T13 (mkF m 83 #[.val (.ref b), .val (.int x), .val (.int (rd + (1 : Int32))), .val (.int tq), .val (.ref (aC + 1 + ((rd + (1 : Int32)) - (1 : Int32)).toNatClampNeg)), .val (.ref (aC + 1 + (rd + (1 : Int32)).toNatClampNeg)), .val (.int (mxM (1 : Int32) ((rd + (1 : Int32)) - lim))), .unset, .unset, .unset, .unset, .unset, .unset, .unset, .unset, .unset] [(.ref aS)])
  refine Go.iaN X13 hx hZ e13 I_aS (hb hby d_p8_m5_83) ?_
  show Go p e below _ T13 (mkF m 84 #[.val (.ref b), .val (.int x), .val (.int (rd + (1 : Int32))), .val (.int tq), .val (.ref (aC + 1 + ((rd + (1 : Int32)) - (1 : Int32)).toNatClampNeg)), .val (.ref (aC + 1 + (rd + (1 : Int32)).toNatClampNeg)), .val (.int (mxM (1 : Int32) ((rd + (1 : Int32)) - lim))), .unset, .unset, .unset, .unset, .unset, .unset, .unset, .unset, .unset] [(.int (lenI src))])
  refine Go.by (T' := T13) (g' := (mkF m 86 #[.val (.ref b), .val (.int x), .val (.int (rd + (1 : Int32))), .val (.int tq), .val (.ref (aC + 1 + ((rd + (1 : Int32)) - (1 : Int32)).toNatClampNeg)), .val (.ref (aC + 1 + (rd + (1 : Int32)).toNatClampNeg)), .val (.int (mxM (1 : Int32) ((rd + (1 : Int32)) - lim))), .unset, .unset, .unset, .unset, .unset, .unset, .unset, .unset, .unset] [(.ref b), (.int (rd + (1 : Int32))), (.int (lenI src))])) (fun t k => ?_) ?_
  · show Steps p.tables e below (T13.setTop (mkF m 84 #[.val (.ref b), .val (.int x), .val (.int (rd + (1 : Int32))), .val (.int tq), .val (.ref (aC + 1 + ((rd + (1 : Int32)) - (1 : Int32)).toNatClampNeg)), .val (.ref (aC + 1 + (rd + (1 : Int32)).toNatClampNeg)), .val (.int (mxM (1 : Int32) ((rd + (1 : Int32)) - lim))), .unset, .unset, .unset, .unset, .unset, .unset, .unset, .unset, .unset] [(.int (lenI src))])) _
    refine XS.iloadN X13.here hx rfl (hb hby d_p8_m5_84) rfl ?_
    show Steps p.tables e below (T13.setTop (mkF m 85 #[.val (.ref b), .val (.int x), .val (.int (rd + (1 : Int32))), .val (.int tq), .val (.ref (aC + 1 + ((rd + (1 : Int32)) - (1 : Int32)).toNatClampNeg)), .val (.ref (aC + 1 + (rd + (1 : Int32)).toNatClampNeg)), .val (.int (mxM (1 : Int32) ((rd + (1 : Int32)) - lim))), .unset, .unset, .unset, .unset, .unset, .unset, .unset, .unset, .unset] [(.int (rd + (1 : Int32))), (.int (lenI src))])) _
    refine XS.aloadN X13.here hx rfl (hb hby d_p8_m5_85) rfl rfl ?_
    exact k
  refine Go.getF X13 hx hZ hown (wd hw 21 rfl) Via.refl e13 F_limit (hb hby d_p8_m5_86) ?_
  intro T14 X14 e14
  show Go p e below _ T14 (mkF m 89 #[.val (.ref b), .val (.int x), .val (.int (rd + (1 : Int32))), .val (.int tq), .val (.ref (aC + 1 + ((rd + (1 : Int32)) - (1 : Int32)).toNatClampNeg)), .val (.ref (aC + 1 + (rd + (1 : Int32)).toNatClampNeg)), .val (.int (mxM (1 : Int32) ((rd + (1 : Int32)) - lim))), .unset, .unset, .unset, .unset, .unset, .unset, .unset, .unset, .unset] [(.int lim), (.int (rd + (1 : Int32))), (.int (lenI src))])
  refine Go.by (T' := T14) (g' := (mkF m 90 #[.val (.ref b), .val (.int x), .val (.int (rd + (1 : Int32))), .val (.int tq), .val (.ref (aC + 1 + ((rd + (1 : Int32)) - (1 : Int32)).toNatClampNeg)), .val (.ref (aC + 1 + (rd + (1 : Int32)).toNatClampNeg)), .val (.int (mxM (1 : Int32) ((rd + (1 : Int32)) - lim))), .unset, .unset, .unset, .unset, .unset, .unset, .unset, .unset, .unset] [(.int ((rd + (1 : Int32)) + lim)), (.int (lenI src))])) (fun t k => ?_) ?_
  · show Steps p.tables e below (T14.setTop (mkF m 89 #[.val (.ref b), .val (.int x), .val (.int (rd + (1 : Int32))), .val (.int tq), .val (.ref (aC + 1 + ((rd + (1 : Int32)) - (1 : Int32)).toNatClampNeg)), .val (.ref (aC + 1 + (rd + (1 : Int32)).toNatClampNeg)), .val (.int (mxM (1 : Int32) ((rd + (1 : Int32)) - lim))), .unset, .unset, .unset, .unset, .unset, .unset, .unset, .unset, .unset] [(.int lim), (.int (rd + (1 : Int32))), (.int (lenI src))])) _
    refine XS.iadd X14.here hx rfl (hb hby d_p8_m5_89) rfl ?_
    exact k
  refine Go.callS X14 hx hZ (W := 0) (argsL := [(.int (lenI src)), (.int ((rd + (1 : Int32)) + lim))]) (rest := []) hown (wd hw 75 rfl) (wd hw 76 rfl) (wd hw 73 rfl) (wd hw 77 rfl) (by decide) (ct_min l Z a0 hw  (lenI src) ((rd + (1 : Int32)) + lim) h0 n0 O ) e14 (by rw [hml]; rfl) (lenOf pd__II_I_420 rfl) rfl rfl (hb hby d_p8_m5_90) (by decide) (by decide) (by decide) (by decide) ?_
  intro v15 T15 h15 L15 X15 e15 q15
  obtain ⟨rfl, N15, rfl⟩ := q15
  replace N15 := Fr.app N12 N15
  show Go p e below _ T15 (mkF m 93 #[.val (.ref b), .val (.int x), .val (.int (rd + (1 : Int32))), .val (.int tq), .val (.ref (aC + 1 + ((rd + (1 : Int32)) - (1 : Int32)).toNatClampNeg)), .val (.ref (aC + 1 + (rd + (1 : Int32)).toNatClampNeg)), .val (.int (mxM (1 : Int32) ((rd + (1 : Int32)) - lim))), .unset, .unset, .unset, .unset, .unset, .unset, .unset, .unset, .unset] [(.int (mnM (lenI src) ((rd + (1 : Int32)) + lim)))])
  refine Go.by (T' := T15) (g' := (mkF m 99 #[.val (.ref b), .val (.int x), .val (.int (rd + (1 : Int32))), .val (.int tq), .val (.ref (aC + 1 + ((rd + (1 : Int32)) - (1 : Int32)).toNatClampNeg)), .val (.ref (aC + 1 + (rd + (1 : Int32)).toNatClampNeg)), .val (.int (mxM (1 : Int32) ((rd + (1 : Int32)) - lim))), .val (.int (mnM (lenI src) ((rd + (1 : Int32)) + lim))), .unset, .unset, .unset, .unset, .unset, .unset, .unset, .unset] [(.int (rd + (1 : Int32))), (.int (0 : Int32)), (.ref (aC + 1 + (rd + (1 : Int32)).toNatClampNeg))])) (fun t k => ?_) ?_
  · show Steps p.tables e below (T15.setTop (mkF m 93 #[.val (.ref b), .val (.int x), .val (.int (rd + (1 : Int32))), .val (.int tq), .val (.ref (aC + 1 + ((rd + (1 : Int32)) - (1 : Int32)).toNatClampNeg)), .val (.ref (aC + 1 + (rd + (1 : Int32)).toNatClampNeg)), .val (.int (mxM (1 : Int32) ((rd + (1 : Int32)) - lim))), .unset, .unset, .unset, .unset, .unset, .unset, .unset, .unset, .unset] [(.int (mnM (lenI src) ((rd + (1 : Int32)) + lim)))])) _
    refine XS.istore X15.here hx rfl (hb hby d_p8_m5_93) rfl (l' := #[.val (.ref b), .val (.int x), .val (.int (rd + (1 : Int32))), .val (.int tq), .val (.ref (aC + 1 + ((rd + (1 : Int32)) - (1 : Int32)).toNatClampNeg)), .val (.ref (aC + 1 + (rd + (1 : Int32)).toNatClampNeg)), .val (.int (mxM (1 : Int32) ((rd + (1 : Int32)) - lim))), .val (.int (mnM (lenI src) ((rd + (1 : Int32)) + lim))), .unset, .unset, .unset, .unset, .unset, .unset, .unset, .unset]) rfl ?_
    show Steps p.tables e below (T15.setTop (mkF m 95 #[.val (.ref b), .val (.int x), .val (.int (rd + (1 : Int32))), .val (.int tq), .val (.ref (aC + 1 + ((rd + (1 : Int32)) - (1 : Int32)).toNatClampNeg)), .val (.ref (aC + 1 + (rd + (1 : Int32)).toNatClampNeg)), .val (.int (mxM (1 : Int32) ((rd + (1 : Int32)) - lim))), .val (.int (mnM (lenI src) ((rd + (1 : Int32)) + lim))), .unset, .unset, .unset, .unset, .unset, .unset, .unset, .unset] [])) _
    refine XS.aload X15.here hx rfl (hb hby d_p8_m5_95) rfl rfl ?_
    show Steps p.tables e below (T15.setTop (mkF m 97 #[.val (.ref b), .val (.int x), .val (.int (rd + (1 : Int32))), .val (.int tq), .val (.ref (aC + 1 + ((rd + (1 : Int32)) - (1 : Int32)).toNatClampNeg)), .val (.ref (aC + 1 + (rd + (1 : Int32)).toNatClampNeg)), .val (.int (mxM (1 : Int32) ((rd + (1 : Int32)) - lim))), .val (.int (mnM (lenI src) ((rd + (1 : Int32)) + lim))), .unset, .unset, .unset, .unset, .unset, .unset, .unset, .unset] [(.ref (aC + 1 + (rd + (1 : Int32)).toNatClampNeg))])) _
    refine XS.iconst X15.here hx rfl (hb hby d_p8_m5_97) ?_
    show Steps p.tables e below (T15.setTop (mkF m 98 #[.val (.ref b), .val (.int x), .val (.int (rd + (1 : Int32))), .val (.int tq), .val (.ref (aC + 1 + ((rd + (1 : Int32)) - (1 : Int32)).toNatClampNeg)), .val (.ref (aC + 1 + (rd + (1 : Int32)).toNatClampNeg)), .val (.int (mxM (1 : Int32) ((rd + (1 : Int32)) - lim))), .val (.int (mnM (lenI src) ((rd + (1 : Int32)) + lim))), .unset, .unset, .unset, .unset, .unset, .unset, .unset, .unset] [(.int (0 : Int32)), (.ref (aC + 1 + (rd + (1 : Int32)).toNatClampNeg))])) _
    refine XS.iloadN X15.here hx rfl (hb hby d_p8_m5_98) rfl ?_
    exact k
  obtain ⟨v16, hv16, H⟩ := ob H
  have lt17 := wr2O_lt hv16
  refine Go.g2S X15 hx hZ e15 G_aC (j := (rd + (1 : Int32))) (i := (0 : Int32)) hv16 (hb hby d_p8_m5_99) ?_
  intro T17 h17 X17 e17 W17 Vn17
  replace E_b := E_b.wr W17
  replace F_source := F_source.other W17 (Or.inl (show (b : Nat) ≠ (aC + 1 + (rd + (1 : Int32)).toNatClampNeg) by omega))
  replace F_limit := F_limit.other W17 (Or.inl (show (b : Nat) ≠ (aC + 1 + (rd + (1 : Int32)).toNatClampNeg) by omega))
  replace F_sourceLetters := F_sourceLetters.other W17 (Or.inl (show (b : Nat) ≠ (aC + 1 + (rd + (1 : Int32)).toNatClampNeg) by omega))
  replace F_distinct := F_distinct.other W17 (Or.inl (show (b : Nat) ≠ (aC + 1 + (rd + (1 : Int32)).toNatClampNeg) by omega))
  replace F_lastRowBefore := F_lastRowBefore.other W17 (Or.inl (show (b : Nat) ≠ (aC + 1 + (rd + (1 : Int32)).toNatClampNeg) by omega))
  replace F_columns := F_columns.other W17 (Or.inl (show (b : Nat) ≠ (aC + 1 + (rd + (1 : Int32)).toNatClampNeg) by omega))
  replace F_fewest := F_fewest.other W17 (Or.inl (show (b : Nat) ≠ (aC + 1 + (rd + (1 : Int32)).toNatClampNeg) by omega))
  replace F_targetLetters := F_targetLetters.other W17 (Or.inl (show (b : Nat) ≠ (aC + 1 + (rd + (1 : Int32)).toNatClampNeg) by omega))
  replace F_lastColumn := F_lastColumn.other W17 (Or.inl (show (b : Nat) ≠ (aC + 1 + (rd + (1 : Int32)).toNatClampNeg) by omega))
  replace F_replacedColumn := F_replacedColumn.other W17 (Or.inl (show (b : Nat) ≠ (aC + 1 + (rd + (1 : Int32)).toNatClampNeg) by omega))
  replace F_read := F_read.other W17 (Or.inl (show (b : Nat) ≠ (aC + 1 + (rd + (1 : Int32)).toNatClampNeg) by omega))
  replace I_aS := I_aS.other W17 (show (aS : Nat) ≠ (aC + 1 + (rd + (1 : Int32)).toNatClampNeg) by omega)
  replace I_aL := I_aL.other W17 (show (aL : Nat) ≠ (aC + 1 + (rd + (1 : Int32)).toNatClampNeg) by omega)
  replace I_aD := I_aD.other W17 (show (aD : Nat) ≠ (aC + 1 + (rd + (1 : Int32)).toNatClampNeg) by omega)
  replace G_aR := G_aR.other W17 (show ((aC + 1 + (rd + (1 : Int32)).toNatClampNeg) : Nat) < aR ∨ aR + lr.length < (aC + 1 + (rd + (1 : Int32)).toNatClampNeg) by omega)
  replace I_aF := I_aF.other W17 (show (aF : Nat) ≠ (aC + 1 + (rd + (1 : Int32)).toNatClampNeg) by omega)
  replace I_aT := I_aT.other W17 (show (aT : Nat) ≠ (aC + 1 + (rd + (1 : Int32)).toNatClampNeg) by omega)
  replace I_aX := I_aX.other W17 (show (aX : Nat) ≠ (aC + 1 + (rd + (1 : Int32)).toNatClampNeg) by omega)
  replace I_aP := I_aP.other W17 (show (aP : Nat) ≠ (aC + 1 + (rd + (1 : Int32)).toNatClampNeg) by omega)
  replace O := O.wr W17 (show (n0 : Nat) ≤ (aC + 1 + (rd + (1 : Int32)).toNatClampNeg) by omega)
  have N17 := Fr.snoc X17 N15 (show (n0 : Nat) ≤ (aC + 1 + (rd + (1 : Int32)).toNatClampNeg) by omega)
  replace K := K.wr W17 (Or.inl (in_rng (by omega) (by omega)))
  replace G_aC := Vn17
  clear Vn17
  replace hn_aC := (wr2O_len hv16).trans hn_aC
  show Go p e below _ T17 (mkF m 100 #[.val (.ref b), .val (.int x), .val (.int (rd + (1 : Int32))), .val (.int tq), .val (.ref (aC + 1 + ((rd + (1 : Int32)) - (1 : Int32)).toNatClampNeg)), .val (.ref (aC + 1 + (rd + (1 : Int32)).toNatClampNeg)), .val (.int (mxM (1 : Int32) ((rd + (1 : Int32)) - lim))), .val (.int (mnM (lenI src) ((rd + (1 : Int32)) + lim))), .unset, .unset, .unset, .unset, .unset, .unset, .unset, .unset] [])
  refine Go.by (T' := T17) (g' := (mkF m 101 #[.val (.ref b), .val (.int x), .val (.int (rd + (1 : Int32))), .val (.int tq), .val (.ref (aC + 1 + ((rd + (1 : Int32)) - (1 : Int32)).toNatClampNeg)), .val (.ref (aC + 1 + (rd + (1 : Int32)).toNatClampNeg)), .val (.int (mxM (1 : Int32) ((rd + (1 : Int32)) - lim))), .val (.int (mnM (lenI src) ((rd + (1 : Int32)) + lim))), .unset, .unset, .unset, .unset, .unset, .unset, .unset, .unset] [(.ref b)])) (fun t k => ?_) ?_
  · show Steps p.tables e below (T17.setTop (mkF m 100 #[.val (.ref b), .val (.int x), .val (.int (rd + (1 : Int32))), .val (.int tq), .val (.ref (aC + 1 + ((rd + (1 : Int32)) - (1 : Int32)).toNatClampNeg)), .val (.ref (aC + 1 + (rd + (1 : Int32)).toNatClampNeg)), .val (.int (mxM (1 : Int32) ((rd + (1 : Int32)) - lim))), .val (.int (mnM (lenI src) ((rd + (1 : Int32)) + lim))), .unset, .unset, .unset, .unset, .unset, .unset, .unset, .unset] [])) _
    refine XS.aloadN X17.here hx rfl (hb hby d_p8_m5_100) rfl rfl ?_
    exact k
  refine Go.getF X17 hx hZ hown (wd hw 21 rfl) Via.refl e17 F_limit (hb hby d_p8_m5_101) ?_
  intro T18 X18 e18
  show Go p e below _ T18 (mkF m 104 #[.val (.ref b), .val (.int x), .val (.int (rd + (1 : Int32))), .val (.int tq), .val (.ref (aC + 1 + ((rd + (1 : Int32)) - (1 : Int32)).toNatClampNeg)), .val (.ref (aC + 1 + (rd + (1 : Int32)).toNatClampNeg)), .val (.int (mxM (1 : Int32) ((rd + (1 : Int32)) - lim))), .val (.int (mnM (lenI src) ((rd + (1 : Int32)) + lim))), .unset, .unset, .unset, .unset, .unset, .unset, .unset, .unset] [(.int lim)])
  refine Go.by (T' := T18) (g' := (mkF m 111 #[.val (.ref b), .val (.int x), .val (.int (rd + (1 : Int32))), .val (.int tq), .val (.ref (aC + 1 + ((rd + (1 : Int32)) - (1 : Int32)).toNatClampNeg)), .val (.ref (aC + 1 + (rd + (1 : Int32)).toNatClampNeg)), .val (.int (mxM (1 : Int32) ((rd + (1 : Int32)) - lim))), .val (.int (mnM (lenI src) ((rd + (1 : Int32)) + lim))), .val (.int (lim + (1 : Int32))), .unset, .unset, .unset, .unset, .unset, .unset, .unset] [(.int (1 : Int32)), (.int (mxM (1 : Int32) ((rd + (1 : Int32)) - lim)))])) (fun t k => ?_) ?_
  · show Steps p.tables e below (T18.setTop (mkF m 104 #[.val (.ref b), .val (.int x), .val (.int (rd + (1 : Int32))), .val (.int tq), .val (.ref (aC + 1 + ((rd + (1 : Int32)) - (1 : Int32)).toNatClampNeg)), .val (.ref (aC + 1 + (rd + (1 : Int32)).toNatClampNeg)), .val (.int (mxM (1 : Int32) ((rd + (1 : Int32)) - lim))), .val (.int (mnM (lenI src) ((rd + (1 : Int32)) + lim))), .unset, .unset, .unset, .unset, .unset, .unset, .unset, .unset] [(.int lim)])) _
    refine XS.iconst X18.here hx rfl (hb hby d_p8_m5_104) ?_
    show Steps p.tables e below (T18.setTop (mkF m 105 #[.val (.ref b), .val (.int x), .val (.int (rd + (1 : Int32))), .val (.int tq), .val (.ref (aC + 1 + ((rd + (1 : Int32)) - (1 : Int32)).toNatClampNeg)), .val (.ref (aC + 1 + (rd + (1 : Int32)).toNatClampNeg)), .val (.int (mxM (1 : Int32) ((rd + (1 : Int32)) - lim))), .val (.int (mnM (lenI src) ((rd + (1 : Int32)) + lim))), .unset, .unset, .unset, .unset, .unset, .unset, .unset, .unset] [(.int (1 : Int32)), (.int lim)])) _
    refine XS.iadd X18.here hx rfl (hb hby d_p8_m5_105) rfl ?_
    show Steps p.tables e below (T18.setTop (mkF m 106 #[.val (.ref b), .val (.int x), .val (.int (rd + (1 : Int32))), .val (.int tq), .val (.ref (aC + 1 + ((rd + (1 : Int32)) - (1 : Int32)).toNatClampNeg)), .val (.ref (aC + 1 + (rd + (1 : Int32)).toNatClampNeg)), .val (.int (mxM (1 : Int32) ((rd + (1 : Int32)) - lim))), .val (.int (mnM (lenI src) ((rd + (1 : Int32)) + lim))), .unset, .unset, .unset, .unset, .unset, .unset, .unset, .unset] [(.int (lim + (1 : Int32)))])) _
    refine XS.istore X18.here hx rfl (hb hby d_p8_m5_106) rfl (l' := #[.val (.ref b), .val (.int x), .val (.int (rd + (1 : Int32))), .val (.int tq), .val (.ref (aC + 1 + ((rd + (1 : Int32)) - (1 : Int32)).toNatClampNeg)), .val (.ref (aC + 1 + (rd + (1 : Int32)).toNatClampNeg)), .val (.int (mxM (1 : Int32) ((rd + (1 : Int32)) - lim))), .val (.int (mnM (lenI src) ((rd + (1 : Int32)) + lim))), .val (.int (lim + (1 : Int32))), .unset, .unset, .unset, .unset, .unset, .unset, .unset]) rfl ?_
    show Steps p.tables e below (T18.setTop (mkF m 108 #[.val (.ref b), .val (.int x), .val (.int (rd + (1 : Int32))), .val (.int tq), .val (.ref (aC + 1 + ((rd + (1 : Int32)) - (1 : Int32)).toNatClampNeg)), .val (.ref (aC + 1 + (rd + (1 : Int32)).toNatClampNeg)), .val (.int (mxM (1 : Int32) ((rd + (1 : Int32)) - lim))), .val (.int (mnM (lenI src) ((rd + (1 : Int32)) + lim))), .val (.int (lim + (1 : Int32))), .unset, .unset, .unset, .unset, .unset, .unset, .unset] [])) _
    refine XS.iload X18.here hx rfl (hb hby d_p8_m5_108) rfl ?_
    show Steps p.tables e below (T18.setTop (mkF m 110 #[.val (.ref b), .val (.int x), .val (.int (rd + (1 : Int32))), .val (.int tq), .val (.ref (aC + 1 + ((rd + (1 : Int32)) - (1 : Int32)).toNatClampNeg)), .val (.ref (aC + 1 + (rd + (1 : Int32)).toNatClampNeg)), .val (.int (mxM (1 : Int32) ((rd + (1 : Int32)) - lim))), .val (.int (mnM (lenI src) ((rd + (1 : Int32)) + lim))), .val (.int (lim + (1 : Int32))), .unset, .unset, .unset, .unset, .unset, .unset, .unset] [(.int (mxM (1 : Int32) ((rd + (1 : Int32)) - lim)))])) _
    refine XS.iconst X18.here hx rfl (hb hby d_p8_m5_110) ?_
    exact k
  obtain ⟨⟨cs2, few2⟩, hu, H⟩ := ob H
  obtain ⟨⟨cs3, few3⟩, hp, H2⟩ := ob H
  dsimp only at hp H2
  have J19 : ∀ (f19 : Nat) (few : Int32) (j : Int32) (gs : List (List Int32)) (s10 : Slot) (s11 : Slot) (s12 : Slot) (s13 : Slot) (s14 : Slot) (s15 : Slot) (T19 : State) (h19 : Heap) (L19 : List Loc), (Stand p l e ({ frames := 1, cells := 0, slots := 0, locals := 16 } : Room) s m #[(.ref b), (.int x)] below meth c T19 L19 0 0) → (T19.heap = h19) → (Old Z n0 h19) → (Fr n0 L19) → (Keep h0 h19 (List.range' b w)) → (Exa Z h19 b "com/example/shingle/shingle/EditDistance") → (Fld Z h19 b "com/example/shingle/shingle/EditDistance" "source" "[I" (.ref aS)) → (Fld Z h19 b "com/example/shingle/shingle/EditDistance" "limit" "I" (.int lim)) → (Fld Z h19 b "com/example/shingle/shingle/EditDistance" "sourceLetters" "[I" (.ref aL)) → (Fld Z h19 b "com/example/shingle/shingle/EditDistance" "distinct" "[I" (.ref aD)) → (Fld Z h19 b "com/example/shingle/shingle/EditDistance" "lastRowBefore" "[[I" (.ref aR)) → (Fld Z h19 b "com/example/shingle/shingle/EditDistance" "columns" "[[I" (.ref aC)) → (Fld Z h19 b "com/example/shingle/shingle/EditDistance" "fewest" "[I" (.ref aF)) → (Fld Z h19 b "com/example/shingle/shingle/EditDistance" "targetLetters" "[I" (.ref aT)) → (Fld Z h19 b "com/example/shingle/shingle/EditDistance" "lastColumn" "[I" (.ref aX)) → (Fld Z h19 b "com/example/shingle/shingle/EditDistance" "replacedColumn" "[I" (.ref aP)) → (Fld Z h19 b "com/example/shingle/shingle/EditDistance" "read" "I" (.int rd)) → (IA Z h19 aS src) → (IA Z h19 aL sl) → (IA Z h19 aD di) → (GA Z h19 aR lr) → (GA Z h19 aC gs) → (IA Z h19 aF fw) → (IA Z h19 aT tl) → (IA Z h19 aX lc) → (IA Z h19 aP rc) → (lr.length = N_aR) → (gs.length = N_aC) → (s10 = .unset ∨ ∃ w, s10 = .val w ∧ w.category = 1) → (s11 = .unset ∨ ∃ w, s11 = .val w ∧ w.category = 1) → (s12 = .unset ∨ ∃ w, s12 = .val w ∧ w.category = 1) → (s13 = .unset ∨ ∃ w, s13 = .val w ∧ w.category = 1) → (s14 = .unset ∨ ∃ w, s14 = .val w ∧ w.category = 1) → (s15 = .unset ∨ ∃ w, s15 = .val w ∧ w.category = 1) → (puL f19 lim (rd + 1) tq sl lc lr (mnM (lenI src) (rd + 1 + lim)) j few gs = some (cs3, few3)) → Go p e below (EndF s ({ frames := 1, cells := 0, slots := 0, locals := 16 } : Room).cells ({ frames := 1, cells := 0, slots := 0, locals := 16 } : Room).slots (fun v h L => v = none ∧ Fr n0 L ∧ Keep h0 h (List.range' b w) ∧ ED Z h b w st')) T19 (mkF m 137 #[.val (.ref b), .val (.int x), .val (.int (rd + (1 : Int32))), .val (.int tq), .val (.ref (aC + 1 + ((rd + (1 : Int32)) - (1 : Int32)).toNatClampNeg)), .val (.ref (aC + 1 + (rd + (1 : Int32)).toNatClampNeg)), .val (.int (mxM (1 : Int32) ((rd + (1 : Int32)) - lim))), .val (.int (mnM (lenI src) ((rd + (1 : Int32)) + lim))), .val (.int few), .val (.int j), s10, s11, s12, s13, s14, s15] []) := by
    intro f19
    induction f19 with
    | zero => intro few j gs s10 s11 s12 s13 s14 s15 T19 h19 L19 X19 e19 O N19 K E_b F_source F_limit F_sourceLetters F_distinct F_lastRowBefore F_columns F_fewest F_targetLetters F_lastColumn F_replacedColumn F_read I_aS I_aL I_aD G_aR G_aC I_aF I_aT I_aX I_aP hn_aR hn_aC hs10 hs11 hs12 hs13 hs14 hs15 H; cases H
    | succ f19 ih19 =>
      intro few j gs s10 s11 s12 s13 s14 s15 T19 h19 L19 X19 e19 O N19 K E_b F_source F_limit F_sourceLetters F_distinct F_lastRowBefore F_columns F_fewest F_targetLetters F_lastColumn F_replacedColumn F_read I_aS I_aL I_aD G_aR G_aC I_aF I_aT I_aX I_aP hn_aR hn_aC hs10 hs11 hs12 hs13 hs14 hs15 H
      rw [puL] at H
      refine Go.by (T' := T19) (g' := (mkF m 141 #[.val (.ref b), .val (.int x), .val (.int (rd + (1 : Int32))), .val (.int tq), .val (.ref (aC + 1 + ((rd + (1 : Int32)) - (1 : Int32)).toNatClampNeg)), .val (.ref (aC + 1 + (rd + (1 : Int32)).toNatClampNeg)), .val (.int (mxM (1 : Int32) ((rd + (1 : Int32)) - lim))), .val (.int (mnM (lenI src) ((rd + (1 : Int32)) + lim))), .val (.int few), .val (.int j), s10, s11, s12, s13, s14, s15] [(.int (mnM (lenI src) ((rd + (1 : Int32)) + lim))), (.int j)])) (fun t k => ?_) ?_
      · show Steps p.tables e below (T19.setTop (mkF m 137 #[.val (.ref b), .val (.int x), .val (.int (rd + (1 : Int32))), .val (.int tq), .val (.ref (aC + 1 + ((rd + (1 : Int32)) - (1 : Int32)).toNatClampNeg)), .val (.ref (aC + 1 + (rd + (1 : Int32)).toNatClampNeg)), .val (.int (mxM (1 : Int32) ((rd + (1 : Int32)) - lim))), .val (.int (mnM (lenI src) ((rd + (1 : Int32)) + lim))), .val (.int few), .val (.int j), s10, s11, s12, s13, s14, s15] [])) _
        refine XS.iload X19.here hx rfl (hb hby d_p8_m5_137) rfl ?_
        show Steps p.tables e below (T19.setTop (mkF m 139 #[.val (.ref b), .val (.int x), .val (.int (rd + (1 : Int32))), .val (.int tq), .val (.ref (aC + 1 + ((rd + (1 : Int32)) - (1 : Int32)).toNatClampNeg)), .val (.ref (aC + 1 + (rd + (1 : Int32)).toNatClampNeg)), .val (.int (mxM (1 : Int32) ((rd + (1 : Int32)) - lim))), .val (.int (mnM (lenI src) ((rd + (1 : Int32)) + lim))), .val (.int few), .val (.int j), s10, s11, s12, s13, s14, s15] [(.int j)])) _
        refine XS.iload X19.here hx rfl (hb hby d_p8_m5_139) rfl ?_
        exact k
      by_cases hy20 : (mnM (lenI src) ((rd + (1 : Int32)) + lim)) < j
      · skip
        replace H := (if_pos hy20).symm.trans H
        obtain ⟨q1, q2⟩ := Prod.mk.inj (Option.some.inj H)
        rw [← q1, ← q2] at H2
        replace H := H2
        refine Go.by (T' := T19) (g' := (mkF m 320 #[.val (.ref b), .val (.int x), .val (.int (rd + (1 : Int32))), .val (.int tq), .val (.ref (aC + 1 + ((rd + (1 : Int32)) - (1 : Int32)).toNatClampNeg)), .val (.ref (aC + 1 + (rd + (1 : Int32)).toNatClampNeg)), .val (.int (mxM (1 : Int32) ((rd + (1 : Int32)) - lim))), .val (.int (mnM (lenI src) ((rd + (1 : Int32)) + lim))), .val (.int few), .val (.int j), s10, s11, s12, s13, s14, s15] [(.ref b), (.int (mnM (lenI src) ((rd + (1 : Int32)) + lim)))])) (fun t k => ?_) ?_
        · show Steps p.tables e below (T19.setTop (mkF m 141 #[.val (.ref b), .val (.int x), .val (.int (rd + (1 : Int32))), .val (.int tq), .val (.ref (aC + 1 + ((rd + (1 : Int32)) - (1 : Int32)).toNatClampNeg)), .val (.ref (aC + 1 + (rd + (1 : Int32)).toNatClampNeg)), .val (.int (mxM (1 : Int32) ((rd + (1 : Int32)) - lim))), .val (.int (mnM (lenI src) ((rd + (1 : Int32)) + lim))), .val (.int few), .val (.int j), s10, s11, s12, s13, s14, s15] [(.int (mnM (lenI src) ((rd + (1 : Int32)) + lim))), (.int j)])) _
          refine XS.icmpYes X19.here hx rfl (pc0 := 141) (pc' := 317) rfl (hb hby d_p8_m5_141) rfl (tlt hy20).2.2.1 (by decide) (by decide) ?_
          show Steps p.tables e below (T19.setTop (mkF m 317 #[.val (.ref b), .val (.int x), .val (.int (rd + (1 : Int32))), .val (.int tq), .val (.ref (aC + 1 + ((rd + (1 : Int32)) - (1 : Int32)).toNatClampNeg)), .val (.ref (aC + 1 + (rd + (1 : Int32)).toNatClampNeg)), .val (.int (mxM (1 : Int32) ((rd + (1 : Int32)) - lim))), .val (.int (mnM (lenI src) ((rd + (1 : Int32)) + lim))), .val (.int few), .val (.int j), s10, s11, s12, s13, s14, s15] [])) _
          refine XS.iload X19.here hx rfl (hb hby d_p8_m5_317) rfl ?_
          show Steps p.tables e below (T19.setTop (mkF m 319 #[.val (.ref b), .val (.int x), .val (.int (rd + (1 : Int32))), .val (.int tq), .val (.ref (aC + 1 + ((rd + (1 : Int32)) - (1 : Int32)).toNatClampNeg)), .val (.ref (aC + 1 + (rd + (1 : Int32)).toNatClampNeg)), .val (.int (mxM (1 : Int32) ((rd + (1 : Int32)) - lim))), .val (.int (mnM (lenI src) ((rd + (1 : Int32)) + lim))), .val (.int few), .val (.int j), s10, s11, s12, s13, s14, s15] [(.int (mnM (lenI src) ((rd + (1 : Int32)) + lim)))])) _
          refine XS.aloadN X19.here hx rfl (hb hby d_p8_m5_319) rfl rfl ?_
          exact k
        refine Go.getF X19 hx hZ hown (wd hw 19 rfl) Via.refl e19 F_source (hb hby d_p8_m5_320) ?_
        intro T21 X21 e21
        show Go p e below _ T21 (mkF m 323 #[.val (.ref b), .val (.int x), .val (.int (rd + (1 : Int32))), .val (.int tq), .val (.ref (aC + 1 + ((rd + (1 : Int32)) - (1 : Int32)).toNatClampNeg)), .val (.ref (aC + 1 + (rd + (1 : Int32)).toNatClampNeg)), .val (.int (mxM (1 : Int32) ((rd + (1 : Int32)) - lim))), .val (.int (mnM (lenI src) ((rd + (1 : Int32)) + lim))), .val (.int few), .val (.int j), s10, s11, s12, s13, s14, s15] [(.ref aS), (.int (mnM (lenI src) ((rd + (1 : Int32)) + lim)))])
        refine Go.iaN X21 hx hZ e21 I_aS (hb hby d_p8_m5_323) ?_
        show Go p e below _ T21 (mkF m 324 #[.val (.ref b), .val (.int x), .val (.int (rd + (1 : Int32))), .val (.int tq), .val (.ref (aC + 1 + ((rd + (1 : Int32)) - (1 : Int32)).toNatClampNeg)), .val (.ref (aC + 1 + (rd + (1 : Int32)).toNatClampNeg)), .val (.int (mxM (1 : Int32) ((rd + (1 : Int32)) - lim))), .val (.int (mnM (lenI src) ((rd + (1 : Int32)) + lim))), .val (.int few), .val (.int j), s10, s11, s12, s13, s14, s15] [(.int (lenI src)), (.int (mnM (lenI src) ((rd + (1 : Int32)) + lim)))])
        obtain ⟨cs4, h4, H⟩ := ob H
        have J22 : ∀ (T22 : State) (h22 : Heap) (L22 : List Loc), (Stand p l e ({ frames := 1, cells := 0, slots := 0, locals := 16 } : Room) s m #[(.ref b), (.int x)] below meth c T22 L22 0 0) → (T22.heap = h22) → (Old Z n0 h22) → (Fr n0 L22) → (Keep h0 h22 (List.range' b w)) → (Exa Z h22 b "com/example/shingle/shingle/EditDistance") → (Fld Z h22 b "com/example/shingle/shingle/EditDistance" "source" "[I" (.ref aS)) → (Fld Z h22 b "com/example/shingle/shingle/EditDistance" "limit" "I" (.int lim)) → (Fld Z h22 b "com/example/shingle/shingle/EditDistance" "sourceLetters" "[I" (.ref aL)) → (Fld Z h22 b "com/example/shingle/shingle/EditDistance" "distinct" "[I" (.ref aD)) → (Fld Z h22 b "com/example/shingle/shingle/EditDistance" "lastRowBefore" "[[I" (.ref aR)) → (Fld Z h22 b "com/example/shingle/shingle/EditDistance" "columns" "[[I" (.ref aC)) → (Fld Z h22 b "com/example/shingle/shingle/EditDistance" "fewest" "[I" (.ref aF)) → (Fld Z h22 b "com/example/shingle/shingle/EditDistance" "targetLetters" "[I" (.ref aT)) → (Fld Z h22 b "com/example/shingle/shingle/EditDistance" "lastColumn" "[I" (.ref aX)) → (Fld Z h22 b "com/example/shingle/shingle/EditDistance" "replacedColumn" "[I" (.ref aP)) → (Fld Z h22 b "com/example/shingle/shingle/EditDistance" "read" "I" (.int rd)) → (IA Z h22 aS src) → (IA Z h22 aL sl) → (IA Z h22 aD di) → (GA Z h22 aR lr) → (GA Z h22 aC cs4) → (IA Z h22 aF fw) → (IA Z h22 aT tl) → (IA Z h22 aX lc) → (IA Z h22 aP rc) → (lr.length = N_aR) → (cs4.length = N_aC) → Go p e below (EndF s ({ frames := 1, cells := 0, slots := 0, locals := 16 } : Room).cells ({ frames := 1, cells := 0, slots := 0, locals := 16 } : Room).slots (fun v h L => v = none ∧ Fr n0 L ∧ Keep h0 h (List.range' b w) ∧ ED Z h b w st')) T22 (mkF m 340 #[.val (.ref b), .val (.int x), .val (.int (rd + (1 : Int32))), .val (.int tq), .val (.ref (aC + 1 + ((rd + (1 : Int32)) - (1 : Int32)).toNatClampNeg)), .val (.ref (aC + 1 + (rd + (1 : Int32)).toNatClampNeg)), .val (.int (mxM (1 : Int32) ((rd + (1 : Int32)) - lim))), .val (.int (mnM (lenI src) ((rd + (1 : Int32)) + lim))), .val (.int few), .val (.int j), s10, s11, s12, s13, s14, s15] []) := by
          intro T22 h22 L22 X22 e22 O N22 K E_b F_source F_limit F_sourceLetters F_distinct F_lastRowBefore F_columns F_fewest F_targetLetters F_lastColumn F_replacedColumn F_read I_aS I_aL I_aD G_aR G_aC I_aF I_aT I_aX I_aP hn_aR hn_aC
          refine Go.by (T' := T22) (g' := (mkF m 341 #[.val (.ref b), .val (.int x), .val (.int (rd + (1 : Int32))), .val (.int tq), .val (.ref (aC + 1 + ((rd + (1 : Int32)) - (1 : Int32)).toNatClampNeg)), .val (.ref (aC + 1 + (rd + (1 : Int32)).toNatClampNeg)), .val (.int (mxM (1 : Int32) ((rd + (1 : Int32)) - lim))), .val (.int (mnM (lenI src) ((rd + (1 : Int32)) + lim))), .val (.int few), .val (.int j), s10, s11, s12, s13, s14, s15] [(.ref b)])) (fun t k => ?_) ?_
          · show Steps p.tables e below (T22.setTop (mkF m 340 #[.val (.ref b), .val (.int x), .val (.int (rd + (1 : Int32))), .val (.int tq), .val (.ref (aC + 1 + ((rd + (1 : Int32)) - (1 : Int32)).toNatClampNeg)), .val (.ref (aC + 1 + (rd + (1 : Int32)).toNatClampNeg)), .val (.int (mxM (1 : Int32) ((rd + (1 : Int32)) - lim))), .val (.int (mnM (lenI src) ((rd + (1 : Int32)) + lim))), .val (.int few), .val (.int j), s10, s11, s12, s13, s14, s15] [])) _
            refine XS.aloadN X22.here hx rfl (hb hby d_p8_m5_340) rfl rfl ?_
            exact k
          refine Go.getF X22 hx hZ hown (wd hw 44 rfl) Via.refl e22 F_fewest (hb hby d_p8_m5_341) ?_
          intro T23 X23 e23
          show Go p e below _ T23 (mkF m 344 #[.val (.ref b), .val (.int x), .val (.int (rd + (1 : Int32))), .val (.int tq), .val (.ref (aC + 1 + ((rd + (1 : Int32)) - (1 : Int32)).toNatClampNeg)), .val (.ref (aC + 1 + (rd + (1 : Int32)).toNatClampNeg)), .val (.int (mxM (1 : Int32) ((rd + (1 : Int32)) - lim))), .val (.int (mnM (lenI src) ((rd + (1 : Int32)) + lim))), .val (.int few), .val (.int j), s10, s11, s12, s13, s14, s15] [(.ref aF)])
          refine Go.by (T' := T23) (g' := (mkF m 347 #[.val (.ref b), .val (.int x), .val (.int (rd + (1 : Int32))), .val (.int tq), .val (.ref (aC + 1 + ((rd + (1 : Int32)) - (1 : Int32)).toNatClampNeg)), .val (.ref (aC + 1 + (rd + (1 : Int32)).toNatClampNeg)), .val (.int (mxM (1 : Int32) ((rd + (1 : Int32)) - lim))), .val (.int (mnM (lenI src) ((rd + (1 : Int32)) + lim))), .val (.int few), .val (.int j), s10, s11, s12, s13, s14, s15] [(.int few), (.int (rd + (1 : Int32))), (.ref aF)])) (fun t k => ?_) ?_
          · show Steps p.tables e below (T23.setTop (mkF m 344 #[.val (.ref b), .val (.int x), .val (.int (rd + (1 : Int32))), .val (.int tq), .val (.ref (aC + 1 + ((rd + (1 : Int32)) - (1 : Int32)).toNatClampNeg)), .val (.ref (aC + 1 + (rd + (1 : Int32)).toNatClampNeg)), .val (.int (mxM (1 : Int32) ((rd + (1 : Int32)) - lim))), .val (.int (mnM (lenI src) ((rd + (1 : Int32)) + lim))), .val (.int few), .val (.int j), s10, s11, s12, s13, s14, s15] [(.ref aF)])) _
            refine XS.iloadN X23.here hx rfl (hb hby d_p8_m5_344) rfl ?_
            show Steps p.tables e below (T23.setTop (mkF m 345 #[.val (.ref b), .val (.int x), .val (.int (rd + (1 : Int32))), .val (.int tq), .val (.ref (aC + 1 + ((rd + (1 : Int32)) - (1 : Int32)).toNatClampNeg)), .val (.ref (aC + 1 + (rd + (1 : Int32)).toNatClampNeg)), .val (.int (mxM (1 : Int32) ((rd + (1 : Int32)) - lim))), .val (.int (mnM (lenI src) ((rd + (1 : Int32)) + lim))), .val (.int few), .val (.int j), s10, s11, s12, s13, s14, s15] [(.int (rd + (1 : Int32))), (.ref aF)])) _
            refine XS.iload X23.here hx rfl (hb hby d_p8_m5_345) rfl ?_
            exact k
          obtain ⟨v24, hv24, H⟩ := ob H
          refine Go.iaS X23 hx hZ e23 I_aF (j := (rd + (1 : Int32))) hv24 (hb hby d_p8_m5_347) ?_
          intro T25 h25 X25 e25 W25 Vn25
          replace E_b := E_b.wr W25
          replace F_source := F_source.other W25 (Or.inl (show (b : Nat) ≠ aF by omega))
          replace F_limit := F_limit.other W25 (Or.inl (show (b : Nat) ≠ aF by omega))
          replace F_sourceLetters := F_sourceLetters.other W25 (Or.inl (show (b : Nat) ≠ aF by omega))
          replace F_distinct := F_distinct.other W25 (Or.inl (show (b : Nat) ≠ aF by omega))
          replace F_lastRowBefore := F_lastRowBefore.other W25 (Or.inl (show (b : Nat) ≠ aF by omega))
          replace F_columns := F_columns.other W25 (Or.inl (show (b : Nat) ≠ aF by omega))
          replace F_fewest := F_fewest.other W25 (Or.inl (show (b : Nat) ≠ aF by omega))
          replace F_targetLetters := F_targetLetters.other W25 (Or.inl (show (b : Nat) ≠ aF by omega))
          replace F_lastColumn := F_lastColumn.other W25 (Or.inl (show (b : Nat) ≠ aF by omega))
          replace F_replacedColumn := F_replacedColumn.other W25 (Or.inl (show (b : Nat) ≠ aF by omega))
          replace F_read := F_read.other W25 (Or.inl (show (b : Nat) ≠ aF by omega))
          replace I_aS := I_aS.other W25 (show (aS : Nat) ≠ aF by omega)
          replace I_aL := I_aL.other W25 (show (aL : Nat) ≠ aF by omega)
          replace I_aD := I_aD.other W25 (show (aD : Nat) ≠ aF by omega)
          replace G_aR := G_aR.other W25 (show (aF : Nat) < aR ∨ aR + lr.length < aF by omega)
          replace G_aC := G_aC.other W25 (show (aF : Nat) < aC ∨ aC + cs4.length < aF by omega)
          replace I_aT := I_aT.other W25 (show (aT : Nat) ≠ aF by omega)
          replace I_aX := I_aX.other W25 (show (aX : Nat) ≠ aF by omega)
          replace I_aP := I_aP.other W25 (show (aP : Nat) ≠ aF by omega)
          replace O := O.wr W25 (show (n0 : Nat) ≤ aF by omega)
          have N25 := Fr.snoc X25 N22 (show (n0 : Nat) ≤ aF by omega)
          replace K := K.wr W25 (Or.inl (in_rng (by omega) (by omega)))
          replace I_aF := Vn25
          clear Vn25
          show Go p e below _ T25 (mkF m 348 #[.val (.ref b), .val (.int x), .val (.int (rd + (1 : Int32))), .val (.int tq), .val (.ref (aC + 1 + ((rd + (1 : Int32)) - (1 : Int32)).toNatClampNeg)), .val (.ref (aC + 1 + (rd + (1 : Int32)).toNatClampNeg)), .val (.int (mxM (1 : Int32) ((rd + (1 : Int32)) - lim))), .val (.int (mnM (lenI src) ((rd + (1 : Int32)) + lim))), .val (.int few), .val (.int j), s10, s11, s12, s13, s14, s15] [])
          refine Go.by (T' := T25) (g' := (mkF m 349 #[.val (.ref b), .val (.int x), .val (.int (rd + (1 : Int32))), .val (.int tq), .val (.ref (aC + 1 + ((rd + (1 : Int32)) - (1 : Int32)).toNatClampNeg)), .val (.ref (aC + 1 + (rd + (1 : Int32)).toNatClampNeg)), .val (.int (mxM (1 : Int32) ((rd + (1 : Int32)) - lim))), .val (.int (mnM (lenI src) ((rd + (1 : Int32)) + lim))), .val (.int few), .val (.int j), s10, s11, s12, s13, s14, s15] [(.ref b)])) (fun t k => ?_) ?_
          · show Steps p.tables e below (T25.setTop (mkF m 348 #[.val (.ref b), .val (.int x), .val (.int (rd + (1 : Int32))), .val (.int tq), .val (.ref (aC + 1 + ((rd + (1 : Int32)) - (1 : Int32)).toNatClampNeg)), .val (.ref (aC + 1 + (rd + (1 : Int32)).toNatClampNeg)), .val (.int (mxM (1 : Int32) ((rd + (1 : Int32)) - lim))), .val (.int (mnM (lenI src) ((rd + (1 : Int32)) + lim))), .val (.int few), .val (.int j), s10, s11, s12, s13, s14, s15] [])) _
            refine XS.aloadN X25.here hx rfl (hb hby d_p8_m5_348) rfl rfl ?_
            exact k
          refine Go.getF X25 hx hZ hown (wd hw 46 rfl) Via.refl e25 F_targetLetters (hb hby d_p8_m5_349) ?_
          intro T26 X26 e26
          show Go p e below _ T26 (mkF m 352 #[.val (.ref b), .val (.int x), .val (.int (rd + (1 : Int32))), .val (.int tq), .val (.ref (aC + 1 + ((rd + (1 : Int32)) - (1 : Int32)).toNatClampNeg)), .val (.ref (aC + 1 + (rd + (1 : Int32)).toNatClampNeg)), .val (.int (mxM (1 : Int32) ((rd + (1 : Int32)) - lim))), .val (.int (mnM (lenI src) ((rd + (1 : Int32)) + lim))), .val (.int few), .val (.int j), s10, s11, s12, s13, s14, s15] [(.ref aT)])
          refine Go.by (T' := T26) (g' := (mkF m 354 #[.val (.ref b), .val (.int x), .val (.int (rd + (1 : Int32))), .val (.int tq), .val (.ref (aC + 1 + ((rd + (1 : Int32)) - (1 : Int32)).toNatClampNeg)), .val (.ref (aC + 1 + (rd + (1 : Int32)).toNatClampNeg)), .val (.int (mxM (1 : Int32) ((rd + (1 : Int32)) - lim))), .val (.int (mnM (lenI src) ((rd + (1 : Int32)) + lim))), .val (.int few), .val (.int j), s10, s11, s12, s13, s14, s15] [(.int tq), (.int (rd + (1 : Int32))), (.ref aT)])) (fun t k => ?_) ?_
          · show Steps p.tables e below (T26.setTop (mkF m 352 #[.val (.ref b), .val (.int x), .val (.int (rd + (1 : Int32))), .val (.int tq), .val (.ref (aC + 1 + ((rd + (1 : Int32)) - (1 : Int32)).toNatClampNeg)), .val (.ref (aC + 1 + (rd + (1 : Int32)).toNatClampNeg)), .val (.int (mxM (1 : Int32) ((rd + (1 : Int32)) - lim))), .val (.int (mnM (lenI src) ((rd + (1 : Int32)) + lim))), .val (.int few), .val (.int j), s10, s11, s12, s13, s14, s15] [(.ref aT)])) _
            refine XS.iloadN X26.here hx rfl (hb hby d_p8_m5_352) rfl ?_
            show Steps p.tables e below (T26.setTop (mkF m 353 #[.val (.ref b), .val (.int x), .val (.int (rd + (1 : Int32))), .val (.int tq), .val (.ref (aC + 1 + ((rd + (1 : Int32)) - (1 : Int32)).toNatClampNeg)), .val (.ref (aC + 1 + (rd + (1 : Int32)).toNatClampNeg)), .val (.int (mxM (1 : Int32) ((rd + (1 : Int32)) - lim))), .val (.int (mnM (lenI src) ((rd + (1 : Int32)) + lim))), .val (.int few), .val (.int j), s10, s11, s12, s13, s14, s15] [(.int (rd + (1 : Int32))), (.ref aT)])) _
            refine XS.iloadN X26.here hx rfl (hb hby d_p8_m5_353) rfl ?_
            exact k
          obtain ⟨v27, hv27, H⟩ := ob H
          refine Go.iaS X26 hx hZ e26 I_aT (j := (rd + (1 : Int32))) hv27 (hb hby d_p8_m5_354) ?_
          intro T28 h28 X28 e28 W28 Vn28
          replace E_b := E_b.wr W28
          replace F_source := F_source.other W28 (Or.inl (show (b : Nat) ≠ aT by omega))
          replace F_limit := F_limit.other W28 (Or.inl (show (b : Nat) ≠ aT by omega))
          replace F_sourceLetters := F_sourceLetters.other W28 (Or.inl (show (b : Nat) ≠ aT by omega))
          replace F_distinct := F_distinct.other W28 (Or.inl (show (b : Nat) ≠ aT by omega))
          replace F_lastRowBefore := F_lastRowBefore.other W28 (Or.inl (show (b : Nat) ≠ aT by omega))
          replace F_columns := F_columns.other W28 (Or.inl (show (b : Nat) ≠ aT by omega))
          replace F_fewest := F_fewest.other W28 (Or.inl (show (b : Nat) ≠ aT by omega))
          replace F_targetLetters := F_targetLetters.other W28 (Or.inl (show (b : Nat) ≠ aT by omega))
          replace F_lastColumn := F_lastColumn.other W28 (Or.inl (show (b : Nat) ≠ aT by omega))
          replace F_replacedColumn := F_replacedColumn.other W28 (Or.inl (show (b : Nat) ≠ aT by omega))
          replace F_read := F_read.other W28 (Or.inl (show (b : Nat) ≠ aT by omega))
          replace I_aS := I_aS.other W28 (show (aS : Nat) ≠ aT by omega)
          replace I_aL := I_aL.other W28 (show (aL : Nat) ≠ aT by omega)
          replace I_aD := I_aD.other W28 (show (aD : Nat) ≠ aT by omega)
          replace G_aR := G_aR.other W28 (show (aT : Nat) < aR ∨ aR + lr.length < aT by omega)
          replace G_aC := G_aC.other W28 (show (aT : Nat) < aC ∨ aC + cs4.length < aT by omega)
          replace I_aF := I_aF.other W28 (show (aF : Nat) ≠ aT by omega)
          replace I_aX := I_aX.other W28 (show (aX : Nat) ≠ aT by omega)
          replace I_aP := I_aP.other W28 (show (aP : Nat) ≠ aT by omega)
          replace O := O.wr W28 (show (n0 : Nat) ≤ aT by omega)
          have N28 := Fr.snoc X28 N25 (show (n0 : Nat) ≤ aT by omega)
          replace K := K.wr W28 (Or.inl (in_rng (by omega) (by omega)))
          replace I_aT := Vn28
          clear Vn28
          show Go p e below _ T28 (mkF m 355 #[.val (.ref b), .val (.int x), .val (.int (rd + (1 : Int32))), .val (.int tq), .val (.ref (aC + 1 + ((rd + (1 : Int32)) - (1 : Int32)).toNatClampNeg)), .val (.ref (aC + 1 + (rd + (1 : Int32)).toNatClampNeg)), .val (.int (mxM (1 : Int32) ((rd + (1 : Int32)) - lim))), .val (.int (mnM (lenI src) ((rd + (1 : Int32)) + lim))), .val (.int few), .val (.int j), s10, s11, s12, s13, s14, s15] [])
          refine Go.by (T' := T28) (g' := (mkF m 356 #[.val (.ref b), .val (.int x), .val (.int (rd + (1 : Int32))), .val (.int tq), .val (.ref (aC + 1 + ((rd + (1 : Int32)) - (1 : Int32)).toNatClampNeg)), .val (.ref (aC + 1 + (rd + (1 : Int32)).toNatClampNeg)), .val (.int (mxM (1 : Int32) ((rd + (1 : Int32)) - lim))), .val (.int (mnM (lenI src) ((rd + (1 : Int32)) + lim))), .val (.int few), .val (.int j), s10, s11, s12, s13, s14, s15] [(.int tq)])) (fun t k => ?_) ?_
          · show Steps p.tables e below (T28.setTop (mkF m 355 #[.val (.ref b), .val (.int x), .val (.int (rd + (1 : Int32))), .val (.int tq), .val (.ref (aC + 1 + ((rd + (1 : Int32)) - (1 : Int32)).toNatClampNeg)), .val (.ref (aC + 1 + (rd + (1 : Int32)).toNatClampNeg)), .val (.int (mxM (1 : Int32) ((rd + (1 : Int32)) - lim))), .val (.int (mnM (lenI src) ((rd + (1 : Int32)) + lim))), .val (.int few), .val (.int j), s10, s11, s12, s13, s14, s15] [])) _
            refine XS.iloadN X28.here hx rfl (hb hby d_p8_m5_355) rfl ?_
            exact k
          by_cases hy29 : tq < (0 : Int32)
          · skip
            replace H := (if_pos hy29).symm.trans H
            refine Go.by (T' := T28) (g' := (mkF m 380 #[.val (.ref b), .val (.int x), .val (.int (rd + (1 : Int32))), .val (.int tq), .val (.ref (aC + 1 + ((rd + (1 : Int32)) - (1 : Int32)).toNatClampNeg)), .val (.ref (aC + 1 + (rd + (1 : Int32)).toNatClampNeg)), .val (.int (mxM (1 : Int32) ((rd + (1 : Int32)) - lim))), .val (.int (mnM (lenI src) ((rd + (1 : Int32)) + lim))), .val (.int few), .val (.int j), s10, s11, s12, s13, s14, s15] [(.int (rd + (1 : Int32))), (.ref b)])) (fun t k => ?_) ?_
            · show Steps p.tables e below (T28.setTop (mkF m 356 #[.val (.ref b), .val (.int x), .val (.int (rd + (1 : Int32))), .val (.int tq), .val (.ref (aC + 1 + ((rd + (1 : Int32)) - (1 : Int32)).toNatClampNeg)), .val (.ref (aC + 1 + (rd + (1 : Int32)).toNatClampNeg)), .val (.int (mxM (1 : Int32) ((rd + (1 : Int32)) - lim))), .val (.int (mnM (lenI src) ((rd + (1 : Int32)) + lim))), .val (.int few), .val (.int j), s10, s11, s12, s13, s14, s15] [(.int tq)])) _
              refine XS.ifYes X28.here hx rfl (pc0 := 356) (pc' := 378) rfl (hb hby d_p8_m5_356) rfl ((if0 _ _).trans (tlt hy29).1) (by decide) (by decide) ?_
              show Steps p.tables e below (T28.setTop (mkF m 378 #[.val (.ref b), .val (.int x), .val (.int (rd + (1 : Int32))), .val (.int tq), .val (.ref (aC + 1 + ((rd + (1 : Int32)) - (1 : Int32)).toNatClampNeg)), .val (.ref (aC + 1 + (rd + (1 : Int32)).toNatClampNeg)), .val (.int (mxM (1 : Int32) ((rd + (1 : Int32)) - lim))), .val (.int (mnM (lenI src) ((rd + (1 : Int32)) + lim))), .val (.int few), .val (.int j), s10, s11, s12, s13, s14, s15] [])) _
              refine XS.aloadN X28.here hx rfl (hb hby d_p8_m5_378) rfl rfl ?_
              show Steps p.tables e below (T28.setTop (mkF m 379 #[.val (.ref b), .val (.int x), .val (.int (rd + (1 : Int32))), .val (.int tq), .val (.ref (aC + 1 + ((rd + (1 : Int32)) - (1 : Int32)).toNatClampNeg)), .val (.ref (aC + 1 + (rd + (1 : Int32)).toNatClampNeg)), .val (.int (mxM (1 : Int32) ((rd + (1 : Int32)) - lim))), .val (.int (mnM (lenI src) ((rd + (1 : Int32)) + lim))), .val (.int few), .val (.int j), s10, s11, s12, s13, s14, s15] [(.ref b)])) _
              refine XS.iloadN X28.here hx rfl (hb hby d_p8_m5_379) rfl ?_
              exact k
            refine Go.putF X28 hx hZ hown (wd hw 61 rfl) Via.refl e28 F_read E_b (Or.inl (wd hw 62 rfl)) (wd hw 2 rfl) (ty := .int) (by decide) rfl rfl (hb hby d_p8_m5_380) ?_
            intro T30 h30 X30 e30 W30
            replace E_b := E_b.wr W30
            replace F_source := F_source.other W30 (Or.inr (slot_ne (a0 := a0) (Or.inr (wd hw 20 rfl)) (Or.inl (wd hw 62 rfl)) (by decide) (t := (.array .int)) (t' := .int) (by decide) (by decide)))
            replace F_limit := F_limit.other W30 (Or.inr (slot_ne (a0 := a0) (Or.inr (wd hw 22 rfl)) (Or.inl (wd hw 62 rfl)) (by decide) (t := .int) (t' := .int) (by decide) (by decide)))
            replace F_sourceLetters := F_sourceLetters.other W30 (Or.inr (slot_ne (a0 := a0) (Or.inr (wd hw 24 rfl)) (Or.inl (wd hw 62 rfl)) (by decide) (t := (.array .int)) (t' := .int) (by decide) (by decide)))
            replace F_distinct := F_distinct.other W30 (Or.inr (slot_ne (a0 := a0) (Or.inr (wd hw 32 rfl)) (Or.inl (wd hw 62 rfl)) (by decide) (t := (.array .int)) (t' := .int) (by decide) (by decide)))
            replace F_lastRowBefore := F_lastRowBefore.other W30 (Or.inr (slot_ne (a0 := a0) (Or.inr (wd hw 36 rfl)) (Or.inl (wd hw 62 rfl)) (by decide) (t := (.array (.array .int))) (t' := .int) (by decide) (by decide)))
            replace F_columns := F_columns.other W30 (Or.inr (slot_ne (a0 := a0) (Or.inr (wd hw 43 rfl)) (Or.inl (wd hw 62 rfl)) (by decide) (t := (.array (.array .int))) (t' := .int) (by decide) (by decide)))
            replace F_fewest := F_fewest.other W30 (Or.inr (slot_ne (a0 := a0) (Or.inr (wd hw 45 rfl)) (Or.inl (wd hw 62 rfl)) (by decide) (t := (.array .int)) (t' := .int) (by decide) (by decide)))
            replace F_targetLetters := F_targetLetters.other W30 (Or.inr (slot_ne (a0 := a0) (Or.inr (wd hw 47 rfl)) (Or.inl (wd hw 62 rfl)) (by decide) (t := (.array .int)) (t' := .int) (by decide) (by decide)))
            replace F_lastColumn := F_lastColumn.other W30 (Or.inr (slot_ne (a0 := a0) (Or.inr (wd hw 49 rfl)) (Or.inl (wd hw 62 rfl)) (by decide) (t := (.array .int)) (t' := .int) (by decide) (by decide)))
            replace F_replacedColumn := F_replacedColumn.other W30 (Or.inr (slot_ne (a0 := a0) (Or.inr (wd hw 51 rfl)) (Or.inl (wd hw 62 rfl)) (by decide) (t := (.array .int)) (t' := .int) (by decide) (by decide)))
            replace F_read := F_read.same W30
            replace I_aS := I_aS.other W30 (show (aS : Nat) ≠ b by omega)
            replace I_aL := I_aL.other W30 (show (aL : Nat) ≠ b by omega)
            replace I_aD := I_aD.other W30 (show (aD : Nat) ≠ b by omega)
            replace G_aR := G_aR.other W30 (show (b : Nat) < aR ∨ aR + lr.length < b by omega)
            replace G_aC := G_aC.other W30 (show (b : Nat) < aC ∨ aC + cs4.length < b by omega)
            replace I_aF := I_aF.other W30 (show (aF : Nat) ≠ b by omega)
            replace I_aT := I_aT.other W30 (show (aT : Nat) ≠ b by omega)
            replace I_aX := I_aX.other W30 (show (aX : Nat) ≠ b by omega)
            replace I_aP := I_aP.other W30 (show (aP : Nat) ≠ b by omega)
            replace O := O.wr W30 (show (n0 : Nat) ≤ b by omega)
            have N30 := Fr.snoc X30 N28 (show (n0 : Nat) ≤ b by omega)
            replace K := K.wr W30 (Or.inl (in_rng (by omega) (by omega)))
            show Go p e below _ T30 (mkF m 383 #[.val (.ref b), .val (.int x), .val (.int (rd + (1 : Int32))), .val (.int tq), .val (.ref (aC + 1 + ((rd + (1 : Int32)) - (1 : Int32)).toNatClampNeg)), .val (.ref (aC + 1 + (rd + (1 : Int32)).toNatClampNeg)), .val (.int (mxM (1 : Int32) ((rd + (1 : Int32)) - lim))), .val (.int (mnM (lenI src) ((rd + (1 : Int32)) + lim))), .val (.int few), .val (.int j), s10, s11, s12, s13, s14, s15] [])
            refine Go.retV X30 hx hlk hret (hb hby d_p8_m5_383) (by decide) (by decide) e30 ?_
            cases H
            cases h1
            exact ⟨rfl, N30, K, aS, aL, aD, aR, aC, aF, aT, aX, aP, by rw [hn_aR, hn_aC]; exact ho, Nat.le_trans hz K.1, E_b, F_source, F_limit, F_sourceLetters, F_distinct, F_lastRowBefore, F_columns, F_fewest, F_targetLetters, F_lastColumn, F_replacedColumn, F_read, I_aS, I_aL, I_aD, G_aR, G_aC, I_aF, I_aT, I_aX, I_aP⟩
          · skip
            replace H := (if_neg hy29).symm.trans H
            refine Go.by (T' := T28) (g' := (mkF m 360 #[.val (.ref b), .val (.int x), .val (.int (rd + (1 : Int32))), .val (.int tq), .val (.ref (aC + 1 + ((rd + (1 : Int32)) - (1 : Int32)).toNatClampNeg)), .val (.ref (aC + 1 + (rd + (1 : Int32)).toNatClampNeg)), .val (.int (mxM (1 : Int32) ((rd + (1 : Int32)) - lim))), .val (.int (mnM (lenI src) ((rd + (1 : Int32)) + lim))), .val (.int few), .val (.int j), s10, s11, s12, s13, s14, s15] [(.ref b)])) (fun t k => ?_) ?_
            · show Steps p.tables e below (T28.setTop (mkF m 356 #[.val (.ref b), .val (.int x), .val (.int (rd + (1 : Int32))), .val (.int tq), .val (.ref (aC + 1 + ((rd + (1 : Int32)) - (1 : Int32)).toNatClampNeg)), .val (.ref (aC + 1 + (rd + (1 : Int32)).toNatClampNeg)), .val (.int (mxM (1 : Int32) ((rd + (1 : Int32)) - lim))), .val (.int (mnM (lenI src) ((rd + (1 : Int32)) + lim))), .val (.int few), .val (.int j), s10, s11, s12, s13, s14, s15] [(.int tq)])) _
              refine XS.ifNo X28.here hx rfl (hb hby d_p8_m5_356) rfl ((if0 _ _).trans (flt hy29).1) ?_
              show Steps p.tables e below (T28.setTop (mkF m 359 #[.val (.ref b), .val (.int x), .val (.int (rd + (1 : Int32))), .val (.int tq), .val (.ref (aC + 1 + ((rd + (1 : Int32)) - (1 : Int32)).toNatClampNeg)), .val (.ref (aC + 1 + (rd + (1 : Int32)).toNatClampNeg)), .val (.int (mxM (1 : Int32) ((rd + (1 : Int32)) - lim))), .val (.int (mnM (lenI src) ((rd + (1 : Int32)) + lim))), .val (.int few), .val (.int j), s10, s11, s12, s13, s14, s15] [])) _
              refine XS.aloadN X28.here hx rfl (hb hby d_p8_m5_359) rfl rfl ?_
              exact k
            refine Go.getF X28 hx hZ hown (wd hw 50 rfl) Via.refl e28 F_replacedColumn (hb hby d_p8_m5_360) ?_
            intro T31 X31 e31
            show Go p e below _ T31 (mkF m 363 #[.val (.ref b), .val (.int x), .val (.int (rd + (1 : Int32))), .val (.int tq), .val (.ref (aC + 1 + ((rd + (1 : Int32)) - (1 : Int32)).toNatClampNeg)), .val (.ref (aC + 1 + (rd + (1 : Int32)).toNatClampNeg)), .val (.int (mxM (1 : Int32) ((rd + (1 : Int32)) - lim))), .val (.int (mnM (lenI src) ((rd + (1 : Int32)) + lim))), .val (.int few), .val (.int j), s10, s11, s12, s13, s14, s15] [(.ref aP)])
            refine Go.by (T' := T31) (g' := (mkF m 365 #[.val (.ref b), .val (.int x), .val (.int (rd + (1 : Int32))), .val (.int tq), .val (.ref (aC + 1 + ((rd + (1 : Int32)) - (1 : Int32)).toNatClampNeg)), .val (.ref (aC + 1 + (rd + (1 : Int32)).toNatClampNeg)), .val (.int (mxM (1 : Int32) ((rd + (1 : Int32)) - lim))), .val (.int (mnM (lenI src) ((rd + (1 : Int32)) + lim))), .val (.int few), .val (.int j), s10, s11, s12, s13, s14, s15] [(.ref b), (.int (rd + (1 : Int32))), (.ref aP)])) (fun t k => ?_) ?_
            · show Steps p.tables e below (T31.setTop (mkF m 363 #[.val (.ref b), .val (.int x), .val (.int (rd + (1 : Int32))), .val (.int tq), .val (.ref (aC + 1 + ((rd + (1 : Int32)) - (1 : Int32)).toNatClampNeg)), .val (.ref (aC + 1 + (rd + (1 : Int32)).toNatClampNeg)), .val (.int (mxM (1 : Int32) ((rd + (1 : Int32)) - lim))), .val (.int (mnM (lenI src) ((rd + (1 : Int32)) + lim))), .val (.int few), .val (.int j), s10, s11, s12, s13, s14, s15] [(.ref aP)])) _
              refine XS.iloadN X31.here hx rfl (hb hby d_p8_m5_363) rfl ?_
              show Steps p.tables e below (T31.setTop (mkF m 364 #[.val (.ref b), .val (.int x), .val (.int (rd + (1 : Int32))), .val (.int tq), .val (.ref (aC + 1 + ((rd + (1 : Int32)) - (1 : Int32)).toNatClampNeg)), .val (.ref (aC + 1 + (rd + (1 : Int32)).toNatClampNeg)), .val (.int (mxM (1 : Int32) ((rd + (1 : Int32)) - lim))), .val (.int (mnM (lenI src) ((rd + (1 : Int32)) + lim))), .val (.int few), .val (.int j), s10, s11, s12, s13, s14, s15] [(.int (rd + (1 : Int32))), (.ref aP)])) _
              refine XS.aloadN X31.here hx rfl (hb hby d_p8_m5_364) rfl rfl ?_
              exact k
            refine Go.getF X31 hx hZ hown (wd hw 48 rfl) Via.refl e31 F_lastColumn (hb hby d_p8_m5_365) ?_
            intro T32 X32 e32
            show Go p e below _ T32 (mkF m 368 #[.val (.ref b), .val (.int x), .val (.int (rd + (1 : Int32))), .val (.int tq), .val (.ref (aC + 1 + ((rd + (1 : Int32)) - (1 : Int32)).toNatClampNeg)), .val (.ref (aC + 1 + (rd + (1 : Int32)).toNatClampNeg)), .val (.int (mxM (1 : Int32) ((rd + (1 : Int32)) - lim))), .val (.int (mnM (lenI src) ((rd + (1 : Int32)) + lim))), .val (.int few), .val (.int j), s10, s11, s12, s13, s14, s15] [(.ref aX), (.int (rd + (1 : Int32))), (.ref aP)])
            refine Go.by (T' := T32) (g' := (mkF m 369 #[.val (.ref b), .val (.int x), .val (.int (rd + (1 : Int32))), .val (.int tq), .val (.ref (aC + 1 + ((rd + (1 : Int32)) - (1 : Int32)).toNatClampNeg)), .val (.ref (aC + 1 + (rd + (1 : Int32)).toNatClampNeg)), .val (.int (mxM (1 : Int32) ((rd + (1 : Int32)) - lim))), .val (.int (mnM (lenI src) ((rd + (1 : Int32)) + lim))), .val (.int few), .val (.int j), s10, s11, s12, s13, s14, s15] [(.int tq), (.ref aX), (.int (rd + (1 : Int32))), (.ref aP)])) (fun t k => ?_) ?_
            · show Steps p.tables e below (T32.setTop (mkF m 368 #[.val (.ref b), .val (.int x), .val (.int (rd + (1 : Int32))), .val (.int tq), .val (.ref (aC + 1 + ((rd + (1 : Int32)) - (1 : Int32)).toNatClampNeg)), .val (.ref (aC + 1 + (rd + (1 : Int32)).toNatClampNeg)), .val (.int (mxM (1 : Int32) ((rd + (1 : Int32)) - lim))), .val (.int (mnM (lenI src) ((rd + (1 : Int32)) + lim))), .val (.int few), .val (.int j), s10, s11, s12, s13, s14, s15] [(.ref aX), (.int (rd + (1 : Int32))), (.ref aP)])) _
              refine XS.iloadN X32.here hx rfl (hb hby d_p8_m5_368) rfl ?_
              exact k
            obtain ⟨v33, hv33, H⟩ := ob H
            refine Go.iaL X32 hx hZ e32 I_aX (j := tq) hv33 (hb hby d_p8_m5_369) ?_
            show Go p e below _ T32 (mkF m 370 #[.val (.ref b), .val (.int x), .val (.int (rd + (1 : Int32))), .val (.int tq), .val (.ref (aC + 1 + ((rd + (1 : Int32)) - (1 : Int32)).toNatClampNeg)), .val (.ref (aC + 1 + (rd + (1 : Int32)).toNatClampNeg)), .val (.int (mxM (1 : Int32) ((rd + (1 : Int32)) - lim))), .val (.int (mnM (lenI src) ((rd + (1 : Int32)) + lim))), .val (.int few), .val (.int j), s10, s11, s12, s13, s14, s15] [(.int v33), (.int (rd + (1 : Int32))), (.ref aP)])
            obtain ⟨v34, hv34, H⟩ := ob H
            refine Go.iaS X32 hx hZ e32 I_aP (j := (rd + (1 : Int32))) hv34 (hb hby d_p8_m5_370) ?_
            intro T35 h35 X35 e35 W35 Vn35
            replace E_b := E_b.wr W35
            replace F_source := F_source.other W35 (Or.inl (show (b : Nat) ≠ aP by omega))
            replace F_limit := F_limit.other W35 (Or.inl (show (b : Nat) ≠ aP by omega))
            replace F_sourceLetters := F_sourceLetters.other W35 (Or.inl (show (b : Nat) ≠ aP by omega))
            replace F_distinct := F_distinct.other W35 (Or.inl (show (b : Nat) ≠ aP by omega))
            replace F_lastRowBefore := F_lastRowBefore.other W35 (Or.inl (show (b : Nat) ≠ aP by omega))
            replace F_columns := F_columns.other W35 (Or.inl (show (b : Nat) ≠ aP by omega))
            replace F_fewest := F_fewest.other W35 (Or.inl (show (b : Nat) ≠ aP by omega))
            replace F_targetLetters := F_targetLetters.other W35 (Or.inl (show (b : Nat) ≠ aP by omega))
            replace F_lastColumn := F_lastColumn.other W35 (Or.inl (show (b : Nat) ≠ aP by omega))
            replace F_replacedColumn := F_replacedColumn.other W35 (Or.inl (show (b : Nat) ≠ aP by omega))
            replace F_read := F_read.other W35 (Or.inl (show (b : Nat) ≠ aP by omega))
            replace I_aS := I_aS.other W35 (show (aS : Nat) ≠ aP by omega)
            replace I_aL := I_aL.other W35 (show (aL : Nat) ≠ aP by omega)
            replace I_aD := I_aD.other W35 (show (aD : Nat) ≠ aP by omega)
            replace G_aR := G_aR.other W35 (show (aP : Nat) < aR ∨ aR + lr.length < aP by omega)
            replace G_aC := G_aC.other W35 (show (aP : Nat) < aC ∨ aC + cs4.length < aP by omega)
            replace I_aF := I_aF.other W35 (show (aF : Nat) ≠ aP by omega)
            replace I_aT := I_aT.other W35 (show (aT : Nat) ≠ aP by omega)
            replace I_aX := I_aX.other W35 (show (aX : Nat) ≠ aP by omega)
            replace O := O.wr W35 (show (n0 : Nat) ≤ aP by omega)
            have N35 := Fr.snoc X35 N28 (show (n0 : Nat) ≤ aP by omega)
            replace K := K.wr W35 (Or.inl (in_rng (by omega) (by omega)))
            replace I_aP := Vn35
            clear Vn35
            show Go p e below _ T35 (mkF m 371 #[.val (.ref b), .val (.int x), .val (.int (rd + (1 : Int32))), .val (.int tq), .val (.ref (aC + 1 + ((rd + (1 : Int32)) - (1 : Int32)).toNatClampNeg)), .val (.ref (aC + 1 + (rd + (1 : Int32)).toNatClampNeg)), .val (.int (mxM (1 : Int32) ((rd + (1 : Int32)) - lim))), .val (.int (mnM (lenI src) ((rd + (1 : Int32)) + lim))), .val (.int few), .val (.int j), s10, s11, s12, s13, s14, s15] [])
            refine Go.by (T' := T35) (g' := (mkF m 372 #[.val (.ref b), .val (.int x), .val (.int (rd + (1 : Int32))), .val (.int tq), .val (.ref (aC + 1 + ((rd + (1 : Int32)) - (1 : Int32)).toNatClampNeg)), .val (.ref (aC + 1 + (rd + (1 : Int32)).toNatClampNeg)), .val (.int (mxM (1 : Int32) ((rd + (1 : Int32)) - lim))), .val (.int (mnM (lenI src) ((rd + (1 : Int32)) + lim))), .val (.int few), .val (.int j), s10, s11, s12, s13, s14, s15] [(.ref b)])) (fun t k => ?_) ?_
            · show Steps p.tables e below (T35.setTop (mkF m 371 #[.val (.ref b), .val (.int x), .val (.int (rd + (1 : Int32))), .val (.int tq), .val (.ref (aC + 1 + ((rd + (1 : Int32)) - (1 : Int32)).toNatClampNeg)), .val (.ref (aC + 1 + (rd + (1 : Int32)).toNatClampNeg)), .val (.int (mxM (1 : Int32) ((rd + (1 : Int32)) - lim))), .val (.int (mnM (lenI src) ((rd + (1 : Int32)) + lim))), .val (.int few), .val (.int j), s10, s11, s12, s13, s14, s15] [])) _
              refine XS.aloadN X35.here hx rfl (hb hby d_p8_m5_371) rfl rfl ?_
              exact k
            refine Go.getF X35 hx hZ hown (wd hw 48 rfl) Via.refl e35 F_lastColumn (hb hby d_p8_m5_372) ?_
            intro T36 X36 e36
            show Go p e below _ T36 (mkF m 375 #[.val (.ref b), .val (.int x), .val (.int (rd + (1 : Int32))), .val (.int tq), .val (.ref (aC + 1 + ((rd + (1 : Int32)) - (1 : Int32)).toNatClampNeg)), .val (.ref (aC + 1 + (rd + (1 : Int32)).toNatClampNeg)), .val (.int (mxM (1 : Int32) ((rd + (1 : Int32)) - lim))), .val (.int (mnM (lenI src) ((rd + (1 : Int32)) + lim))), .val (.int few), .val (.int j), s10, s11, s12, s13, s14, s15] [(.ref aX)])
            refine Go.by (T' := T36) (g' := (mkF m 377 #[.val (.ref b), .val (.int x), .val (.int (rd + (1 : Int32))), .val (.int tq), .val (.ref (aC + 1 + ((rd + (1 : Int32)) - (1 : Int32)).toNatClampNeg)), .val (.ref (aC + 1 + (rd + (1 : Int32)).toNatClampNeg)), .val (.int (mxM (1 : Int32) ((rd + (1 : Int32)) - lim))), .val (.int (mnM (lenI src) ((rd + (1 : Int32)) + lim))), .val (.int few), .val (.int j), s10, s11, s12, s13, s14, s15] [(.int (rd + (1 : Int32))), (.int tq), (.ref aX)])) (fun t k => ?_) ?_
            · show Steps p.tables e below (T36.setTop (mkF m 375 #[.val (.ref b), .val (.int x), .val (.int (rd + (1 : Int32))), .val (.int tq), .val (.ref (aC + 1 + ((rd + (1 : Int32)) - (1 : Int32)).toNatClampNeg)), .val (.ref (aC + 1 + (rd + (1 : Int32)).toNatClampNeg)), .val (.int (mxM (1 : Int32) ((rd + (1 : Int32)) - lim))), .val (.int (mnM (lenI src) ((rd + (1 : Int32)) + lim))), .val (.int few), .val (.int j), s10, s11, s12, s13, s14, s15] [(.ref aX)])) _
              refine XS.iloadN X36.here hx rfl (hb hby d_p8_m5_375) rfl ?_
              show Steps p.tables e below (T36.setTop (mkF m 376 #[.val (.ref b), .val (.int x), .val (.int (rd + (1 : Int32))), .val (.int tq), .val (.ref (aC + 1 + ((rd + (1 : Int32)) - (1 : Int32)).toNatClampNeg)), .val (.ref (aC + 1 + (rd + (1 : Int32)).toNatClampNeg)), .val (.int (mxM (1 : Int32) ((rd + (1 : Int32)) - lim))), .val (.int (mnM (lenI src) ((rd + (1 : Int32)) + lim))), .val (.int few), .val (.int j), s10, s11, s12, s13, s14, s15] [(.int tq), (.ref aX)])) _
              refine XS.iloadN X36.here hx rfl (hb hby d_p8_m5_376) rfl ?_
              exact k
            obtain ⟨v37, hv37, H⟩ := ob H
            refine Go.iaS X36 hx hZ e36 I_aX (j := tq) hv37 (hb hby d_p8_m5_377) ?_
            intro T38 h38 X38 e38 W38 Vn38
            replace E_b := E_b.wr W38
            replace F_source := F_source.other W38 (Or.inl (show (b : Nat) ≠ aX by omega))
            replace F_limit := F_limit.other W38 (Or.inl (show (b : Nat) ≠ aX by omega))
            replace F_sourceLetters := F_sourceLetters.other W38 (Or.inl (show (b : Nat) ≠ aX by omega))
            replace F_distinct := F_distinct.other W38 (Or.inl (show (b : Nat) ≠ aX by omega))
            replace F_lastRowBefore := F_lastRowBefore.other W38 (Or.inl (show (b : Nat) ≠ aX by omega))
            replace F_columns := F_columns.other W38 (Or.inl (show (b : Nat) ≠ aX by omega))
            replace F_fewest := F_fewest.other W38 (Or.inl (show (b : Nat) ≠ aX by omega))
            replace F_targetLetters := F_targetLetters.other W38 (Or.inl (show (b : Nat) ≠ aX by omega))
            replace F_lastColumn := F_lastColumn.other W38 (Or.inl (show (b : Nat) ≠ aX by omega))
            replace F_replacedColumn := F_replacedColumn.other W38 (Or.inl (show (b : Nat) ≠ aX by omega))
            replace F_read := F_read.other W38 (Or.inl (show (b : Nat) ≠ aX by omega))
            replace I_aS := I_aS.other W38 (show (aS : Nat) ≠ aX by omega)
            replace I_aL := I_aL.other W38 (show (aL : Nat) ≠ aX by omega)
            replace I_aD := I_aD.other W38 (show (aD : Nat) ≠ aX by omega)
            replace G_aR := G_aR.other W38 (show (aX : Nat) < aR ∨ aR + lr.length < aX by omega)
            replace G_aC := G_aC.other W38 (show (aX : Nat) < aC ∨ aC + cs4.length < aX by omega)
            replace I_aF := I_aF.other W38 (show (aF : Nat) ≠ aX by omega)
            replace I_aT := I_aT.other W38 (show (aT : Nat) ≠ aX by omega)
            replace I_aP := I_aP.other W38 (show (aP : Nat) ≠ aX by omega)
            replace O := O.wr W38 (show (n0 : Nat) ≤ aX by omega)
            have N38 := Fr.snoc X38 N35 (show (n0 : Nat) ≤ aX by omega)
            replace K := K.wr W38 (Or.inl (in_rng (by omega) (by omega)))
            replace I_aX := Vn38
            clear Vn38
            show Go p e below _ T38 (mkF m 378 #[.val (.ref b), .val (.int x), .val (.int (rd + (1 : Int32))), .val (.int tq), .val (.ref (aC + 1 + ((rd + (1 : Int32)) - (1 : Int32)).toNatClampNeg)), .val (.ref (aC + 1 + (rd + (1 : Int32)).toNatClampNeg)), .val (.int (mxM (1 : Int32) ((rd + (1 : Int32)) - lim))), .val (.int (mnM (lenI src) ((rd + (1 : Int32)) + lim))), .val (.int few), .val (.int j), s10, s11, s12, s13, s14, s15] [])
            refine Go.by (T' := T38) (g' := (mkF m 380 #[.val (.ref b), .val (.int x), .val (.int (rd + (1 : Int32))), .val (.int tq), .val (.ref (aC + 1 + ((rd + (1 : Int32)) - (1 : Int32)).toNatClampNeg)), .val (.ref (aC + 1 + (rd + (1 : Int32)).toNatClampNeg)), .val (.int (mxM (1 : Int32) ((rd + (1 : Int32)) - lim))), .val (.int (mnM (lenI src) ((rd + (1 : Int32)) + lim))), .val (.int few), .val (.int j), s10, s11, s12, s13, s14, s15] [(.int (rd + (1 : Int32))), (.ref b)])) (fun t k => ?_) ?_
            · show Steps p.tables e below (T38.setTop (mkF m 378 #[.val (.ref b), .val (.int x), .val (.int (rd + (1 : Int32))), .val (.int tq), .val (.ref (aC + 1 + ((rd + (1 : Int32)) - (1 : Int32)).toNatClampNeg)), .val (.ref (aC + 1 + (rd + (1 : Int32)).toNatClampNeg)), .val (.int (mxM (1 : Int32) ((rd + (1 : Int32)) - lim))), .val (.int (mnM (lenI src) ((rd + (1 : Int32)) + lim))), .val (.int few), .val (.int j), s10, s11, s12, s13, s14, s15] [])) _
              refine XS.aloadN X38.here hx rfl (hb hby d_p8_m5_378) rfl rfl ?_
              show Steps p.tables e below (T38.setTop (mkF m 379 #[.val (.ref b), .val (.int x), .val (.int (rd + (1 : Int32))), .val (.int tq), .val (.ref (aC + 1 + ((rd + (1 : Int32)) - (1 : Int32)).toNatClampNeg)), .val (.ref (aC + 1 + (rd + (1 : Int32)).toNatClampNeg)), .val (.int (mxM (1 : Int32) ((rd + (1 : Int32)) - lim))), .val (.int (mnM (lenI src) ((rd + (1 : Int32)) + lim))), .val (.int few), .val (.int j), s10, s11, s12, s13, s14, s15] [(.ref b)])) _
              refine XS.iloadN X38.here hx rfl (hb hby d_p8_m5_379) rfl ?_
              exact k
            refine Go.putF X38 hx hZ hown (wd hw 61 rfl) Via.refl e38 F_read E_b (Or.inl (wd hw 62 rfl)) (wd hw 2 rfl) (ty := .int) (by decide) rfl rfl (hb hby d_p8_m5_380) ?_
            intro T39 h39 X39 e39 W39
            replace E_b := E_b.wr W39
            replace F_source := F_source.other W39 (Or.inr (slot_ne (a0 := a0) (Or.inr (wd hw 20 rfl)) (Or.inl (wd hw 62 rfl)) (by decide) (t := (.array .int)) (t' := .int) (by decide) (by decide)))
            replace F_limit := F_limit.other W39 (Or.inr (slot_ne (a0 := a0) (Or.inr (wd hw 22 rfl)) (Or.inl (wd hw 62 rfl)) (by decide) (t := .int) (t' := .int) (by decide) (by decide)))
            replace F_sourceLetters := F_sourceLetters.other W39 (Or.inr (slot_ne (a0 := a0) (Or.inr (wd hw 24 rfl)) (Or.inl (wd hw 62 rfl)) (by decide) (t := (.array .int)) (t' := .int) (by decide) (by decide)))
            replace F_distinct := F_distinct.other W39 (Or.inr (slot_ne (a0 := a0) (Or.inr (wd hw 32 rfl)) (Or.inl (wd hw 62 rfl)) (by decide) (t := (.array .int)) (t' := .int) (by decide) (by decide)))
            replace F_lastRowBefore := F_lastRowBefore.other W39 (Or.inr (slot_ne (a0 := a0) (Or.inr (wd hw 36 rfl)) (Or.inl (wd hw 62 rfl)) (by decide) (t := (.array (.array .int))) (t' := .int) (by decide) (by decide)))
            replace F_columns := F_columns.other W39 (Or.inr (slot_ne (a0 := a0) (Or.inr (wd hw 43 rfl)) (Or.inl (wd hw 62 rfl)) (by decide) (t := (.array (.array .int))) (t' := .int) (by decide) (by decide)))
            replace F_fewest := F_fewest.other W39 (Or.inr (slot_ne (a0 := a0) (Or.inr (wd hw 45 rfl)) (Or.inl (wd hw 62 rfl)) (by decide) (t := (.array .int)) (t' := .int) (by decide) (by decide)))
            replace F_targetLetters := F_targetLetters.other W39 (Or.inr (slot_ne (a0 := a0) (Or.inr (wd hw 47 rfl)) (Or.inl (wd hw 62 rfl)) (by decide) (t := (.array .int)) (t' := .int) (by decide) (by decide)))
            replace F_lastColumn := F_lastColumn.other W39 (Or.inr (slot_ne (a0 := a0) (Or.inr (wd hw 49 rfl)) (Or.inl (wd hw 62 rfl)) (by decide) (t := (.array .int)) (t' := .int) (by decide) (by decide)))
            replace F_replacedColumn := F_replacedColumn.other W39 (Or.inr (slot_ne (a0 := a0) (Or.inr (wd hw 51 rfl)) (Or.inl (wd hw 62 rfl)) (by decide) (t := (.array .int)) (t' := .int) (by decide) (by decide)))
            replace F_read := F_read.same W39
            replace I_aS := I_aS.other W39 (show (aS : Nat) ≠ b by omega)
            replace I_aL := I_aL.other W39 (show (aL : Nat) ≠ b by omega)
            replace I_aD := I_aD.other W39 (show (aD : Nat) ≠ b by omega)
            replace G_aR := G_aR.other W39 (show (b : Nat) < aR ∨ aR + lr.length < b by omega)
            replace G_aC := G_aC.other W39 (show (b : Nat) < aC ∨ aC + cs4.length < b by omega)
            replace I_aF := I_aF.other W39 (show (aF : Nat) ≠ b by omega)
            replace I_aT := I_aT.other W39 (show (aT : Nat) ≠ b by omega)
            replace I_aX := I_aX.other W39 (show (aX : Nat) ≠ b by omega)
            replace I_aP := I_aP.other W39 (show (aP : Nat) ≠ b by omega)
            replace O := O.wr W39 (show (n0 : Nat) ≤ b by omega)
            have N39 := Fr.snoc X39 N38 (show (n0 : Nat) ≤ b by omega)
            replace K := K.wr W39 (Or.inl (in_rng (by omega) (by omega)))
            show Go p e below _ T39 (mkF m 383 #[.val (.ref b), .val (.int x), .val (.int (rd + (1 : Int32))), .val (.int tq), .val (.ref (aC + 1 + ((rd + (1 : Int32)) - (1 : Int32)).toNatClampNeg)), .val (.ref (aC + 1 + (rd + (1 : Int32)).toNatClampNeg)), .val (.int (mxM (1 : Int32) ((rd + (1 : Int32)) - lim))), .val (.int (mnM (lenI src) ((rd + (1 : Int32)) + lim))), .val (.int few), .val (.int j), s10, s11, s12, s13, s14, s15] [])
            refine Go.retV X39 hx hlk hret (hb hby d_p8_m5_383) (by decide) (by decide) e39 ?_
            cases H
            cases h1
            exact ⟨rfl, N39, K, aS, aL, aD, aR, aC, aF, aT, aX, aP, by rw [hn_aR, hn_aC]; exact ho, Nat.le_trans hz K.1, E_b, F_source, F_limit, F_sourceLetters, F_distinct, F_lastRowBefore, F_columns, F_fewest, F_targetLetters, F_lastColumn, F_replacedColumn, F_read, I_aS, I_aL, I_aD, G_aR, G_aC, I_aF, I_aT, I_aX, I_aP⟩
        by_cases hy40 : (mnM (lenI src) ((rd + (1 : Int32)) + lim)) < (lenI src)
        · skip
          replace h4 := (if_pos hy40).symm.trans h4
          refine Go.by (T' := T21) (g' := (mkF m 334 #[.val (.ref b), .val (.int x), .val (.int (rd + (1 : Int32))), .val (.int tq), .val (.ref (aC + 1 + ((rd + (1 : Int32)) - (1 : Int32)).toNatClampNeg)), .val (.ref (aC + 1 + (rd + (1 : Int32)).toNatClampNeg)), .val (.int (mxM (1 : Int32) ((rd + (1 : Int32)) - lim))), .val (.int (mnM (lenI src) ((rd + (1 : Int32)) + lim))), .val (.int few), .val (.int j), s10, s11, s12, s13, s14, s15] [(.ref b), (.int ((mnM (lenI src) ((rd + (1 : Int32)) + lim)) + (1 : Int32))), (.ref (aC + 1 + (rd + (1 : Int32)).toNatClampNeg))])) (fun t k => ?_) ?_
          · show Steps p.tables e below (T21.setTop (mkF m 324 #[.val (.ref b), .val (.int x), .val (.int (rd + (1 : Int32))), .val (.int tq), .val (.ref (aC + 1 + ((rd + (1 : Int32)) - (1 : Int32)).toNatClampNeg)), .val (.ref (aC + 1 + (rd + (1 : Int32)).toNatClampNeg)), .val (.int (mxM (1 : Int32) ((rd + (1 : Int32)) - lim))), .val (.int (mnM (lenI src) ((rd + (1 : Int32)) + lim))), .val (.int few), .val (.int j), s10, s11, s12, s13, s14, s15] [(.int (lenI src)), (.int (mnM (lenI src) ((rd + (1 : Int32)) + lim)))])) _
            refine XS.icmpNo X21.here hx rfl (hb hby d_p8_m5_324) rfl (tlt hy40).2.1 ?_
            show Steps p.tables e below (T21.setTop (mkF m 327 #[.val (.ref b), .val (.int x), .val (.int (rd + (1 : Int32))), .val (.int tq), .val (.ref (aC + 1 + ((rd + (1 : Int32)) - (1 : Int32)).toNatClampNeg)), .val (.ref (aC + 1 + (rd + (1 : Int32)).toNatClampNeg)), .val (.int (mxM (1 : Int32) ((rd + (1 : Int32)) - lim))), .val (.int (mnM (lenI src) ((rd + (1 : Int32)) + lim))), .val (.int few), .val (.int j), s10, s11, s12, s13, s14, s15] [])) _
            refine XS.aload X21.here hx rfl (hb hby d_p8_m5_327) rfl rfl ?_
            show Steps p.tables e below (T21.setTop (mkF m 329 #[.val (.ref b), .val (.int x), .val (.int (rd + (1 : Int32))), .val (.int tq), .val (.ref (aC + 1 + ((rd + (1 : Int32)) - (1 : Int32)).toNatClampNeg)), .val (.ref (aC + 1 + (rd + (1 : Int32)).toNatClampNeg)), .val (.int (mxM (1 : Int32) ((rd + (1 : Int32)) - lim))), .val (.int (mnM (lenI src) ((rd + (1 : Int32)) + lim))), .val (.int few), .val (.int j), s10, s11, s12, s13, s14, s15] [(.ref (aC + 1 + (rd + (1 : Int32)).toNatClampNeg))])) _
            refine XS.iload X21.here hx rfl (hb hby d_p8_m5_329) rfl ?_
            show Steps p.tables e below (T21.setTop (mkF m 331 #[.val (.ref b), .val (.int x), .val (.int (rd + (1 : Int32))), .val (.int tq), .val (.ref (aC + 1 + ((rd + (1 : Int32)) - (1 : Int32)).toNatClampNeg)), .val (.ref (aC + 1 + (rd + (1 : Int32)).toNatClampNeg)), .val (.int (mxM (1 : Int32) ((rd + (1 : Int32)) - lim))), .val (.int (mnM (lenI src) ((rd + (1 : Int32)) + lim))), .val (.int few), .val (.int j), s10, s11, s12, s13, s14, s15] [(.int (mnM (lenI src) ((rd + (1 : Int32)) + lim))), (.ref (aC + 1 + (rd + (1 : Int32)).toNatClampNeg))])) _
            refine XS.iconst X21.here hx rfl (hb hby d_p8_m5_331) ?_
            show Steps p.tables e below (T21.setTop (mkF m 332 #[.val (.ref b), .val (.int x), .val (.int (rd + (1 : Int32))), .val (.int tq), .val (.ref (aC + 1 + ((rd + (1 : Int32)) - (1 : Int32)).toNatClampNeg)), .val (.ref (aC + 1 + (rd + (1 : Int32)).toNatClampNeg)), .val (.int (mxM (1 : Int32) ((rd + (1 : Int32)) - lim))), .val (.int (mnM (lenI src) ((rd + (1 : Int32)) + lim))), .val (.int few), .val (.int j), s10, s11, s12, s13, s14, s15] [(.int (1 : Int32)), (.int (mnM (lenI src) ((rd + (1 : Int32)) + lim))), (.ref (aC + 1 + (rd + (1 : Int32)).toNatClampNeg))])) _
            refine XS.iadd X21.here hx rfl (hb hby d_p8_m5_332) rfl ?_
            show Steps p.tables e below (T21.setTop (mkF m 333 #[.val (.ref b), .val (.int x), .val (.int (rd + (1 : Int32))), .val (.int tq), .val (.ref (aC + 1 + ((rd + (1 : Int32)) - (1 : Int32)).toNatClampNeg)), .val (.ref (aC + 1 + (rd + (1 : Int32)).toNatClampNeg)), .val (.int (mxM (1 : Int32) ((rd + (1 : Int32)) - lim))), .val (.int (mnM (lenI src) ((rd + (1 : Int32)) + lim))), .val (.int few), .val (.int j), s10, s11, s12, s13, s14, s15] [(.int ((mnM (lenI src) ((rd + (1 : Int32)) + lim)) + (1 : Int32))), (.ref (aC + 1 + (rd + (1 : Int32)).toNatClampNeg))])) _
            refine XS.aloadN X21.here hx rfl (hb hby d_p8_m5_333) rfl rfl ?_
            exact k
          refine Go.getF X21 hx hZ hown (wd hw 21 rfl) Via.refl e21 F_limit (hb hby d_p8_m5_334) ?_
          intro T41 X41 e41
          show Go p e below _ T41 (mkF m 337 #[.val (.ref b), .val (.int x), .val (.int (rd + (1 : Int32))), .val (.int tq), .val (.ref (aC + 1 + ((rd + (1 : Int32)) - (1 : Int32)).toNatClampNeg)), .val (.ref (aC + 1 + (rd + (1 : Int32)).toNatClampNeg)), .val (.int (mxM (1 : Int32) ((rd + (1 : Int32)) - lim))), .val (.int (mnM (lenI src) ((rd + (1 : Int32)) + lim))), .val (.int few), .val (.int j), s10, s11, s12, s13, s14, s15] [(.int lim), (.int ((mnM (lenI src) ((rd + (1 : Int32)) + lim)) + (1 : Int32))), (.ref (aC + 1 + (rd + (1 : Int32)).toNatClampNeg))])
          refine Go.by (T' := T41) (g' := (mkF m 339 #[.val (.ref b), .val (.int x), .val (.int (rd + (1 : Int32))), .val (.int tq), .val (.ref (aC + 1 + ((rd + (1 : Int32)) - (1 : Int32)).toNatClampNeg)), .val (.ref (aC + 1 + (rd + (1 : Int32)).toNatClampNeg)), .val (.int (mxM (1 : Int32) ((rd + (1 : Int32)) - lim))), .val (.int (mnM (lenI src) ((rd + (1 : Int32)) + lim))), .val (.int few), .val (.int j), s10, s11, s12, s13, s14, s15] [(.int (lim + (1 : Int32))), (.int ((mnM (lenI src) ((rd + (1 : Int32)) + lim)) + (1 : Int32))), (.ref (aC + 1 + (rd + (1 : Int32)).toNatClampNeg))])) (fun t k => ?_) ?_
          · show Steps p.tables e below (T41.setTop (mkF m 337 #[.val (.ref b), .val (.int x), .val (.int (rd + (1 : Int32))), .val (.int tq), .val (.ref (aC + 1 + ((rd + (1 : Int32)) - (1 : Int32)).toNatClampNeg)), .val (.ref (aC + 1 + (rd + (1 : Int32)).toNatClampNeg)), .val (.int (mxM (1 : Int32) ((rd + (1 : Int32)) - lim))), .val (.int (mnM (lenI src) ((rd + (1 : Int32)) + lim))), .val (.int few), .val (.int j), s10, s11, s12, s13, s14, s15] [(.int lim), (.int ((mnM (lenI src) ((rd + (1 : Int32)) + lim)) + (1 : Int32))), (.ref (aC + 1 + (rd + (1 : Int32)).toNatClampNeg))])) _
            refine XS.iconst X41.here hx rfl (hb hby d_p8_m5_337) ?_
            show Steps p.tables e below (T41.setTop (mkF m 338 #[.val (.ref b), .val (.int x), .val (.int (rd + (1 : Int32))), .val (.int tq), .val (.ref (aC + 1 + ((rd + (1 : Int32)) - (1 : Int32)).toNatClampNeg)), .val (.ref (aC + 1 + (rd + (1 : Int32)).toNatClampNeg)), .val (.int (mxM (1 : Int32) ((rd + (1 : Int32)) - lim))), .val (.int (mnM (lenI src) ((rd + (1 : Int32)) + lim))), .val (.int few), .val (.int j), s10, s11, s12, s13, s14, s15] [(.int (1 : Int32)), (.int lim), (.int ((mnM (lenI src) ((rd + (1 : Int32)) + lim)) + (1 : Int32))), (.ref (aC + 1 + (rd + (1 : Int32)).toNatClampNeg))])) _
            refine XS.iadd X41.here hx rfl (hb hby d_p8_m5_338) rfl ?_
            exact k
          have lt42 := wr2O_lt h4
          refine Go.g2S X41 hx hZ e41 G_aC (j := (rd + (1 : Int32))) (i := ((mnM (lenI src) ((rd + (1 : Int32)) + lim)) + (1 : Int32))) h4 (hb hby d_p8_m5_339) ?_
          intro T42 h42 X42 e42 W42 Vn42
          replace E_b := E_b.wr W42
          replace F_source := F_source.other W42 (Or.inl (show (b : Nat) ≠ (aC + 1 + (rd + (1 : Int32)).toNatClampNeg) by omega))
          replace F_limit := F_limit.other W42 (Or.inl (show (b : Nat) ≠ (aC + 1 + (rd + (1 : Int32)).toNatClampNeg) by omega))
          replace F_sourceLetters := F_sourceLetters.other W42 (Or.inl (show (b : Nat) ≠ (aC + 1 + (rd + (1 : Int32)).toNatClampNeg) by omega))
          replace F_distinct := F_distinct.other W42 (Or.inl (show (b : Nat) ≠ (aC + 1 + (rd + (1 : Int32)).toNatClampNeg) by omega))
          replace F_lastRowBefore := F_lastRowBefore.other W42 (Or.inl (show (b : Nat) ≠ (aC + 1 + (rd + (1 : Int32)).toNatClampNeg) by omega))
          replace F_columns := F_columns.other W42 (Or.inl (show (b : Nat) ≠ (aC + 1 + (rd + (1 : Int32)).toNatClampNeg) by omega))
          replace F_fewest := F_fewest.other W42 (Or.inl (show (b : Nat) ≠ (aC + 1 + (rd + (1 : Int32)).toNatClampNeg) by omega))
          replace F_targetLetters := F_targetLetters.other W42 (Or.inl (show (b : Nat) ≠ (aC + 1 + (rd + (1 : Int32)).toNatClampNeg) by omega))
          replace F_lastColumn := F_lastColumn.other W42 (Or.inl (show (b : Nat) ≠ (aC + 1 + (rd + (1 : Int32)).toNatClampNeg) by omega))
          replace F_replacedColumn := F_replacedColumn.other W42 (Or.inl (show (b : Nat) ≠ (aC + 1 + (rd + (1 : Int32)).toNatClampNeg) by omega))
          replace F_read := F_read.other W42 (Or.inl (show (b : Nat) ≠ (aC + 1 + (rd + (1 : Int32)).toNatClampNeg) by omega))
          replace I_aS := I_aS.other W42 (show (aS : Nat) ≠ (aC + 1 + (rd + (1 : Int32)).toNatClampNeg) by omega)
          replace I_aL := I_aL.other W42 (show (aL : Nat) ≠ (aC + 1 + (rd + (1 : Int32)).toNatClampNeg) by omega)
          replace I_aD := I_aD.other W42 (show (aD : Nat) ≠ (aC + 1 + (rd + (1 : Int32)).toNatClampNeg) by omega)
          replace G_aR := G_aR.other W42 (show ((aC + 1 + (rd + (1 : Int32)).toNatClampNeg) : Nat) < aR ∨ aR + lr.length < (aC + 1 + (rd + (1 : Int32)).toNatClampNeg) by omega)
          replace I_aF := I_aF.other W42 (show (aF : Nat) ≠ (aC + 1 + (rd + (1 : Int32)).toNatClampNeg) by omega)
          replace I_aT := I_aT.other W42 (show (aT : Nat) ≠ (aC + 1 + (rd + (1 : Int32)).toNatClampNeg) by omega)
          replace I_aX := I_aX.other W42 (show (aX : Nat) ≠ (aC + 1 + (rd + (1 : Int32)).toNatClampNeg) by omega)
          replace I_aP := I_aP.other W42 (show (aP : Nat) ≠ (aC + 1 + (rd + (1 : Int32)).toNatClampNeg) by omega)
          replace O := O.wr W42 (show (n0 : Nat) ≤ (aC + 1 + (rd + (1 : Int32)).toNatClampNeg) by omega)
          have N42 := Fr.snoc X42 N19 (show (n0 : Nat) ≤ (aC + 1 + (rd + (1 : Int32)).toNatClampNeg) by omega)
          replace K := K.wr W42 (Or.inl (in_rng (by omega) (by omega)))
          replace G_aC := Vn42
          clear Vn42
          replace hn_aC := (wr2O_len h4).trans hn_aC
          show Go p e below _ T42 (mkF m 340 #[.val (.ref b), .val (.int x), .val (.int (rd + (1 : Int32))), .val (.int tq), .val (.ref (aC + 1 + ((rd + (1 : Int32)) - (1 : Int32)).toNatClampNeg)), .val (.ref (aC + 1 + (rd + (1 : Int32)).toNatClampNeg)), .val (.int (mxM (1 : Int32) ((rd + (1 : Int32)) - lim))), .val (.int (mnM (lenI src) ((rd + (1 : Int32)) + lim))), .val (.int few), .val (.int j), s10, s11, s12, s13, s14, s15] [])
          exact J22 _ _ _ X42 e42 O N42 K E_b F_source F_limit F_sourceLetters F_distinct F_lastRowBefore F_columns F_fewest F_targetLetters F_lastColumn F_replacedColumn F_read I_aS I_aL I_aD G_aR G_aC I_aF I_aT I_aX I_aP hn_aR hn_aC
        · skip
          have q4 := Option.some.inj ((if_neg hy40).symm.trans h4)
          refine Go.by (T' := T21) (g' := (mkF m 340 #[.val (.ref b), .val (.int x), .val (.int (rd + (1 : Int32))), .val (.int tq), .val (.ref (aC + 1 + ((rd + (1 : Int32)) - (1 : Int32)).toNatClampNeg)), .val (.ref (aC + 1 + (rd + (1 : Int32)).toNatClampNeg)), .val (.int (mxM (1 : Int32) ((rd + (1 : Int32)) - lim))), .val (.int (mnM (lenI src) ((rd + (1 : Int32)) + lim))), .val (.int few), .val (.int j), s10, s11, s12, s13, s14, s15] [])) (fun t k => ?_) ?_
          · show Steps p.tables e below (T21.setTop (mkF m 324 #[.val (.ref b), .val (.int x), .val (.int (rd + (1 : Int32))), .val (.int tq), .val (.ref (aC + 1 + ((rd + (1 : Int32)) - (1 : Int32)).toNatClampNeg)), .val (.ref (aC + 1 + (rd + (1 : Int32)).toNatClampNeg)), .val (.int (mxM (1 : Int32) ((rd + (1 : Int32)) - lim))), .val (.int (mnM (lenI src) ((rd + (1 : Int32)) + lim))), .val (.int few), .val (.int j), s10, s11, s12, s13, s14, s15] [(.int (lenI src)), (.int (mnM (lenI src) ((rd + (1 : Int32)) + lim)))])) _
            refine XS.icmpYes X21.here hx rfl (pc0 := 324) (pc' := 340) rfl (hb hby d_p8_m5_324) rfl (flt hy40).2.1 (by decide) (by decide) ?_
            exact k
          rw [q4] at G_aC hn_aC
          exact J22 _ _ _ X21 e21 O N19 K E_b F_source F_limit F_sourceLetters F_distinct F_lastRowBefore F_columns F_fewest F_targetLetters F_lastColumn F_replacedColumn F_read I_aS I_aL I_aD G_aR G_aC I_aF I_aT I_aX I_aP hn_aR hn_aC
      · skip
        replace H := (if_neg hy20).symm.trans H
        refine Go.by (T' := T19) (g' := (mkF m 145 #[.val (.ref b), .val (.int x), .val (.int (rd + (1 : Int32))), .val (.int tq), .val (.ref (aC + 1 + ((rd + (1 : Int32)) - (1 : Int32)).toNatClampNeg)), .val (.ref (aC + 1 + (rd + (1 : Int32)).toNatClampNeg)), .val (.int (mxM (1 : Int32) ((rd + (1 : Int32)) - lim))), .val (.int (mnM (lenI src) ((rd + (1 : Int32)) + lim))), .val (.int few), .val (.int j), s10, s11, s12, s13, s14, s15] [(.ref b)])) (fun t k => ?_) ?_
        · show Steps p.tables e below (T19.setTop (mkF m 141 #[.val (.ref b), .val (.int x), .val (.int (rd + (1 : Int32))), .val (.int tq), .val (.ref (aC + 1 + ((rd + (1 : Int32)) - (1 : Int32)).toNatClampNeg)), .val (.ref (aC + 1 + (rd + (1 : Int32)).toNatClampNeg)), .val (.int (mxM (1 : Int32) ((rd + (1 : Int32)) - lim))), .val (.int (mnM (lenI src) ((rd + (1 : Int32)) + lim))), .val (.int few), .val (.int j), s10, s11, s12, s13, s14, s15] [(.int (mnM (lenI src) ((rd + (1 : Int32)) + lim))), (.int j)])) _
          refine XS.icmpNo X19.here hx rfl (hb hby d_p8_m5_141) rfl (flt hy20).2.2.1 ?_
          show Steps p.tables e below (T19.setTop (mkF m 144 #[.val (.ref b), .val (.int x), .val (.int (rd + (1 : Int32))), .val (.int tq), .val (.ref (aC + 1 + ((rd + (1 : Int32)) - (1 : Int32)).toNatClampNeg)), .val (.ref (aC + 1 + (rd + (1 : Int32)).toNatClampNeg)), .val (.int (mxM (1 : Int32) ((rd + (1 : Int32)) - lim))), .val (.int (mnM (lenI src) ((rd + (1 : Int32)) + lim))), .val (.int few), .val (.int j), s10, s11, s12, s13, s14, s15] [])) _
          refine XS.aloadN X19.here hx rfl (hb hby d_p8_m5_144) rfl rfl ?_
          exact k
        refine Go.getF X19 hx hZ hown (wd hw 23 rfl) Via.refl e19 F_sourceLetters (hb hby d_p8_m5_145) ?_
        intro T43 X43 e43
        show Go p e below _ T43 (mkF m 148 #[.val (.ref b), .val (.int x), .val (.int (rd + (1 : Int32))), .val (.int tq), .val (.ref (aC + 1 + ((rd + (1 : Int32)) - (1 : Int32)).toNatClampNeg)), .val (.ref (aC + 1 + (rd + (1 : Int32)).toNatClampNeg)), .val (.int (mxM (1 : Int32) ((rd + (1 : Int32)) - lim))), .val (.int (mnM (lenI src) ((rd + (1 : Int32)) + lim))), .val (.int few), .val (.int j), s10, s11, s12, s13, s14, s15] [(.ref aL)])
        refine Go.by (T' := T43) (g' := (mkF m 152 #[.val (.ref b), .val (.int x), .val (.int (rd + (1 : Int32))), .val (.int tq), .val (.ref (aC + 1 + ((rd + (1 : Int32)) - (1 : Int32)).toNatClampNeg)), .val (.ref (aC + 1 + (rd + (1 : Int32)).toNatClampNeg)), .val (.int (mxM (1 : Int32) ((rd + (1 : Int32)) - lim))), .val (.int (mnM (lenI src) ((rd + (1 : Int32)) + lim))), .val (.int few), .val (.int j), s10, s11, s12, s13, s14, s15] [(.int (j - (1 : Int32))), (.ref aL)])) (fun t k => ?_) ?_
        · show Steps p.tables e below (T43.setTop (mkF m 148 #[.val (.ref b), .val (.int x), .val (.int (rd + (1 : Int32))), .val (.int tq), .val (.ref (aC + 1 + ((rd + (1 : Int32)) - (1 : Int32)).toNatClampNeg)), .val (.ref (aC + 1 + (rd + (1 : Int32)).toNatClampNeg)), .val (.int (mxM (1 : Int32) ((rd + (1 : Int32)) - lim))), .val (.int (mnM (lenI src) ((rd + (1 : Int32)) + lim))), .val (.int few), .val (.int j), s10, s11, s12, s13, s14, s15] [(.ref aL)])) _
          refine XS.iload X43.here hx rfl (hb hby d_p8_m5_148) rfl ?_
          show Steps p.tables e below (T43.setTop (mkF m 150 #[.val (.ref b), .val (.int x), .val (.int (rd + (1 : Int32))), .val (.int tq), .val (.ref (aC + 1 + ((rd + (1 : Int32)) - (1 : Int32)).toNatClampNeg)), .val (.ref (aC + 1 + (rd + (1 : Int32)).toNatClampNeg)), .val (.int (mxM (1 : Int32) ((rd + (1 : Int32)) - lim))), .val (.int (mnM (lenI src) ((rd + (1 : Int32)) + lim))), .val (.int few), .val (.int j), s10, s11, s12, s13, s14, s15] [(.int j), (.ref aL)])) _
          refine XS.iconst X43.here hx rfl (hb hby d_p8_m5_150) ?_
          show Steps p.tables e below (T43.setTop (mkF m 151 #[.val (.ref b), .val (.int x), .val (.int (rd + (1 : Int32))), .val (.int tq), .val (.ref (aC + 1 + ((rd + (1 : Int32)) - (1 : Int32)).toNatClampNeg)), .val (.ref (aC + 1 + (rd + (1 : Int32)).toNatClampNeg)), .val (.int (mxM (1 : Int32) ((rd + (1 : Int32)) - lim))), .val (.int (mnM (lenI src) ((rd + (1 : Int32)) + lim))), .val (.int few), .val (.int j), s10, s11, s12, s13, s14, s15] [(.int (1 : Int32)), (.int j), (.ref aL)])) _
          refine XS.isub X43.here hx rfl (hb hby d_p8_m5_151) rfl ?_
          exact k
        obtain ⟨q, hv_q, H⟩ := ob H
        refine Go.iaL X43 hx hZ e43 I_aL (j := (j - (1 : Int32))) hv_q (hb hby d_p8_m5_152) ?_
        show Go p e below _ T43 (mkF m 153 #[.val (.ref b), .val (.int x), .val (.int (rd + (1 : Int32))), .val (.int tq), .val (.ref (aC + 1 + ((rd + (1 : Int32)) - (1 : Int32)).toNatClampNeg)), .val (.ref (aC + 1 + (rd + (1 : Int32)).toNatClampNeg)), .val (.int (mxM (1 : Int32) ((rd + (1 : Int32)) - lim))), .val (.int (mnM (lenI src) ((rd + (1 : Int32)) + lim))), .val (.int few), .val (.int j), s10, s11, s12, s13, s14, s15] [(.int q)])
        refine Go.by (T' := T43) (g' := (mkF m 161 #[.val (.ref b), .val (.int x), .val (.int (rd + (1 : Int32))), .val (.int tq), .val (.ref (aC + 1 + ((rd + (1 : Int32)) - (1 : Int32)).toNatClampNeg)), .val (.ref (aC + 1 + (rd + (1 : Int32)).toNatClampNeg)), .val (.int (mxM (1 : Int32) ((rd + (1 : Int32)) - lim))), .val (.int (mnM (lenI src) ((rd + (1 : Int32)) + lim))), .val (.int few), .val (.int j), .val (.int q), .val (.int (1 : Int32)), s12, s13, s14, s15] [(.int tq), (.int q)])) (fun t k => ?_) ?_
        · show Steps p.tables e below (T43.setTop (mkF m 153 #[.val (.ref b), .val (.int x), .val (.int (rd + (1 : Int32))), .val (.int tq), .val (.ref (aC + 1 + ((rd + (1 : Int32)) - (1 : Int32)).toNatClampNeg)), .val (.ref (aC + 1 + (rd + (1 : Int32)).toNatClampNeg)), .val (.int (mxM (1 : Int32) ((rd + (1 : Int32)) - lim))), .val (.int (mnM (lenI src) ((rd + (1 : Int32)) + lim))), .val (.int few), .val (.int j), s10, s11, s12, s13, s14, s15] [(.int q)])) _
          refine XS.istore X43.here hx rfl (hb hby d_p8_m5_153) rfl (l' := #[.val (.ref b), .val (.int x), .val (.int (rd + (1 : Int32))), .val (.int tq), .val (.ref (aC + 1 + ((rd + (1 : Int32)) - (1 : Int32)).toNatClampNeg)), .val (.ref (aC + 1 + (rd + (1 : Int32)).toNatClampNeg)), .val (.int (mxM (1 : Int32) ((rd + (1 : Int32)) - lim))), .val (.int (mnM (lenI src) ((rd + (1 : Int32)) + lim))), .val (.int few), .val (.int j), .val (.int q), s11, s12, s13, s14, s15]) (XS.store1 rfl hs10 rfl) ?_
          show Steps p.tables e below (T43.setTop (mkF m 155 #[.val (.ref b), .val (.int x), .val (.int (rd + (1 : Int32))), .val (.int tq), .val (.ref (aC + 1 + ((rd + (1 : Int32)) - (1 : Int32)).toNatClampNeg)), .val (.ref (aC + 1 + (rd + (1 : Int32)).toNatClampNeg)), .val (.int (mxM (1 : Int32) ((rd + (1 : Int32)) - lim))), .val (.int (mnM (lenI src) ((rd + (1 : Int32)) + lim))), .val (.int few), .val (.int j), .val (.int q), s11, s12, s13, s14, s15] [])) _
          refine XS.iconst X43.here hx rfl (hb hby d_p8_m5_155) ?_
          show Steps p.tables e below (T43.setTop (mkF m 156 #[.val (.ref b), .val (.int x), .val (.int (rd + (1 : Int32))), .val (.int tq), .val (.ref (aC + 1 + ((rd + (1 : Int32)) - (1 : Int32)).toNatClampNeg)), .val (.ref (aC + 1 + (rd + (1 : Int32)).toNatClampNeg)), .val (.int (mxM (1 : Int32) ((rd + (1 : Int32)) - lim))), .val (.int (mnM (lenI src) ((rd + (1 : Int32)) + lim))), .val (.int few), .val (.int j), .val (.int q), s11, s12, s13, s14, s15] [(.int (1 : Int32))])) _
          refine XS.istore X43.here hx rfl (hb hby d_p8_m5_156) rfl (l' := #[.val (.ref b), .val (.int x), .val (.int (rd + (1 : Int32))), .val (.int tq), .val (.ref (aC + 1 + ((rd + (1 : Int32)) - (1 : Int32)).toNatClampNeg)), .val (.ref (aC + 1 + (rd + (1 : Int32)).toNatClampNeg)), .val (.int (mxM (1 : Int32) ((rd + (1 : Int32)) - lim))), .val (.int (mnM (lenI src) ((rd + (1 : Int32)) + lim))), .val (.int few), .val (.int j), .val (.int q), .val (.int (1 : Int32)), s12, s13, s14, s15]) (XS.store1 rfl hs11 rfl) ?_
          show Steps p.tables e below (T43.setTop (mkF m 158 #[.val (.ref b), .val (.int x), .val (.int (rd + (1 : Int32))), .val (.int tq), .val (.ref (aC + 1 + ((rd + (1 : Int32)) - (1 : Int32)).toNatClampNeg)), .val (.ref (aC + 1 + (rd + (1 : Int32)).toNatClampNeg)), .val (.int (mxM (1 : Int32) ((rd + (1 : Int32)) - lim))), .val (.int (mnM (lenI src) ((rd + (1 : Int32)) + lim))), .val (.int few), .val (.int j), .val (.int q), .val (.int (1 : Int32)), s12, s13, s14, s15] [])) _
          refine XS.iload X43.here hx rfl (hb hby d_p8_m5_158) rfl ?_
          show Steps p.tables e below (T43.setTop (mkF m 160 #[.val (.ref b), .val (.int x), .val (.int (rd + (1 : Int32))), .val (.int tq), .val (.ref (aC + 1 + ((rd + (1 : Int32)) - (1 : Int32)).toNatClampNeg)), .val (.ref (aC + 1 + (rd + (1 : Int32)).toNatClampNeg)), .val (.int (mxM (1 : Int32) ((rd + (1 : Int32)) - lim))), .val (.int (mnM (lenI src) ((rd + (1 : Int32)) + lim))), .val (.int few), .val (.int j), .val (.int q), .val (.int (1 : Int32)), s12, s13, s14, s15] [(.int q)])) _
          refine XS.iloadN X43.here hx rfl (hb hby d_p8_m5_160) rfl ?_
          exact k
        have J44 : ∀ (c11 : Int32), (c11 = if q = tq then (0 : Int32) else 1) → Go p e below (EndF s ({ frames := 1, cells := 0, slots := 0, locals := 16 } : Room).cells ({ frames := 1, cells := 0, slots := 0, locals := 16 } : Room).slots (fun v h L => v = none ∧ Fr n0 L ∧ Keep h0 h (List.range' b w) ∧ ED Z h b w st')) T43 (mkF m 167 #[.val (.ref b), .val (.int x), .val (.int (rd + (1 : Int32))), .val (.int tq), .val (.ref (aC + 1 + ((rd + (1 : Int32)) - (1 : Int32)).toNatClampNeg)), .val (.ref (aC + 1 + (rd + (1 : Int32)).toNatClampNeg)), .val (.int (mxM (1 : Int32) ((rd + (1 : Int32)) - lim))), .val (.int (mnM (lenI src) ((rd + (1 : Int32)) + lim))), .val (.int few), .val (.int j), .val (.int q), .val (.int c11), s12, s13, s14, s15] []) := by
          intro c11 hc11
          rw [← hc11] at H
          refine Go.by (T' := T43) (g' := (mkF m 173 #[.val (.ref b), .val (.int x), .val (.int (rd + (1 : Int32))), .val (.int tq), .val (.ref (aC + 1 + ((rd + (1 : Int32)) - (1 : Int32)).toNatClampNeg)), .val (.ref (aC + 1 + (rd + (1 : Int32)).toNatClampNeg)), .val (.int (mxM (1 : Int32) ((rd + (1 : Int32)) - lim))), .val (.int (mnM (lenI src) ((rd + (1 : Int32)) + lim))), .val (.int few), .val (.int j), .val (.int q), .val (.int c11), s12, s13, s14, s15] [(.int (j - (1 : Int32))), (.ref (aC + 1 + ((rd + (1 : Int32)) - (1 : Int32)).toNatClampNeg))])) (fun t k => ?_) ?_
          · show Steps p.tables e below (T43.setTop (mkF m 167 #[.val (.ref b), .val (.int x), .val (.int (rd + (1 : Int32))), .val (.int tq), .val (.ref (aC + 1 + ((rd + (1 : Int32)) - (1 : Int32)).toNatClampNeg)), .val (.ref (aC + 1 + (rd + (1 : Int32)).toNatClampNeg)), .val (.int (mxM (1 : Int32) ((rd + (1 : Int32)) - lim))), .val (.int (mnM (lenI src) ((rd + (1 : Int32)) + lim))), .val (.int few), .val (.int j), .val (.int q), .val (.int c11), s12, s13, s14, s15] [])) _
            refine XS.aload X43.here hx rfl (hb hby d_p8_m5_167) rfl rfl ?_
            show Steps p.tables e below (T43.setTop (mkF m 169 #[.val (.ref b), .val (.int x), .val (.int (rd + (1 : Int32))), .val (.int tq), .val (.ref (aC + 1 + ((rd + (1 : Int32)) - (1 : Int32)).toNatClampNeg)), .val (.ref (aC + 1 + (rd + (1 : Int32)).toNatClampNeg)), .val (.int (mxM (1 : Int32) ((rd + (1 : Int32)) - lim))), .val (.int (mnM (lenI src) ((rd + (1 : Int32)) + lim))), .val (.int few), .val (.int j), .val (.int q), .val (.int c11), s12, s13, s14, s15] [(.ref (aC + 1 + ((rd + (1 : Int32)) - (1 : Int32)).toNatClampNeg))])) _
            refine XS.iload X43.here hx rfl (hb hby d_p8_m5_169) rfl ?_
            show Steps p.tables e below (T43.setTop (mkF m 171 #[.val (.ref b), .val (.int x), .val (.int (rd + (1 : Int32))), .val (.int tq), .val (.ref (aC + 1 + ((rd + (1 : Int32)) - (1 : Int32)).toNatClampNeg)), .val (.ref (aC + 1 + (rd + (1 : Int32)).toNatClampNeg)), .val (.int (mxM (1 : Int32) ((rd + (1 : Int32)) - lim))), .val (.int (mnM (lenI src) ((rd + (1 : Int32)) + lim))), .val (.int few), .val (.int j), .val (.int q), .val (.int c11), s12, s13, s14, s15] [(.int j), (.ref (aC + 1 + ((rd + (1 : Int32)) - (1 : Int32)).toNatClampNeg))])) _
            refine XS.iconst X43.here hx rfl (hb hby d_p8_m5_171) ?_
            show Steps p.tables e below (T43.setTop (mkF m 172 #[.val (.ref b), .val (.int x), .val (.int (rd + (1 : Int32))), .val (.int tq), .val (.ref (aC + 1 + ((rd + (1 : Int32)) - (1 : Int32)).toNatClampNeg)), .val (.ref (aC + 1 + (rd + (1 : Int32)).toNatClampNeg)), .val (.int (mxM (1 : Int32) ((rd + (1 : Int32)) - lim))), .val (.int (mnM (lenI src) ((rd + (1 : Int32)) + lim))), .val (.int few), .val (.int j), .val (.int q), .val (.int c11), s12, s13, s14, s15] [(.int (1 : Int32)), (.int j), (.ref (aC + 1 + ((rd + (1 : Int32)) - (1 : Int32)).toNatClampNeg))])) _
            refine XS.isub X43.here hx rfl (hb hby d_p8_m5_172) rfl ?_
            exact k
          obtain ⟨x1, hv_x1, H⟩ := ob H
          refine Go.g2L X43 hx hZ e43 G_aC (j := ((rd + (1 : Int32)) - (1 : Int32))) (i := (j - (1 : Int32))) hv_x1 (hb hby d_p8_m5_173) ?_
          show Go p e below _ T43 (mkF m 174 #[.val (.ref b), .val (.int x), .val (.int (rd + (1 : Int32))), .val (.int tq), .val (.ref (aC + 1 + ((rd + (1 : Int32)) - (1 : Int32)).toNatClampNeg)), .val (.ref (aC + 1 + (rd + (1 : Int32)).toNatClampNeg)), .val (.int (mxM (1 : Int32) ((rd + (1 : Int32)) - lim))), .val (.int (mnM (lenI src) ((rd + (1 : Int32)) + lim))), .val (.int few), .val (.int j), .val (.int q), .val (.int c11), s12, s13, s14, s15] [(.int x1)])
          refine Go.by (T' := T43) (g' := (mkF m 181 #[.val (.ref b), .val (.int x), .val (.int (rd + (1 : Int32))), .val (.int tq), .val (.ref (aC + 1 + ((rd + (1 : Int32)) - (1 : Int32)).toNatClampNeg)), .val (.ref (aC + 1 + (rd + (1 : Int32)).toNatClampNeg)), .val (.int (mxM (1 : Int32) ((rd + (1 : Int32)) - lim))), .val (.int (mnM (lenI src) ((rd + (1 : Int32)) + lim))), .val (.int few), .val (.int j), .val (.int q), .val (.int c11), s12, s13, s14, s15] [(.int j), (.ref (aC + 1 + ((rd + (1 : Int32)) - (1 : Int32)).toNatClampNeg)), (.int (x1 + c11))])) (fun t k => ?_) ?_
          · show Steps p.tables e below (T43.setTop (mkF m 174 #[.val (.ref b), .val (.int x), .val (.int (rd + (1 : Int32))), .val (.int tq), .val (.ref (aC + 1 + ((rd + (1 : Int32)) - (1 : Int32)).toNatClampNeg)), .val (.ref (aC + 1 + (rd + (1 : Int32)).toNatClampNeg)), .val (.int (mxM (1 : Int32) ((rd + (1 : Int32)) - lim))), .val (.int (mnM (lenI src) ((rd + (1 : Int32)) + lim))), .val (.int few), .val (.int j), .val (.int q), .val (.int c11), s12, s13, s14, s15] [(.int x1)])) _
            refine XS.iload X43.here hx rfl (hb hby d_p8_m5_174) rfl ?_
            show Steps p.tables e below (T43.setTop (mkF m 176 #[.val (.ref b), .val (.int x), .val (.int (rd + (1 : Int32))), .val (.int tq), .val (.ref (aC + 1 + ((rd + (1 : Int32)) - (1 : Int32)).toNatClampNeg)), .val (.ref (aC + 1 + (rd + (1 : Int32)).toNatClampNeg)), .val (.int (mxM (1 : Int32) ((rd + (1 : Int32)) - lim))), .val (.int (mnM (lenI src) ((rd + (1 : Int32)) + lim))), .val (.int few), .val (.int j), .val (.int q), .val (.int c11), s12, s13, s14, s15] [(.int c11), (.int x1)])) _
            refine XS.iadd X43.here hx rfl (hb hby d_p8_m5_176) rfl ?_
            show Steps p.tables e below (T43.setTop (mkF m 177 #[.val (.ref b), .val (.int x), .val (.int (rd + (1 : Int32))), .val (.int tq), .val (.ref (aC + 1 + ((rd + (1 : Int32)) - (1 : Int32)).toNatClampNeg)), .val (.ref (aC + 1 + (rd + (1 : Int32)).toNatClampNeg)), .val (.int (mxM (1 : Int32) ((rd + (1 : Int32)) - lim))), .val (.int (mnM (lenI src) ((rd + (1 : Int32)) + lim))), .val (.int few), .val (.int j), .val (.int q), .val (.int c11), s12, s13, s14, s15] [(.int (x1 + c11))])) _
            refine XS.aload X43.here hx rfl (hb hby d_p8_m5_177) rfl rfl ?_
            show Steps p.tables e below (T43.setTop (mkF m 179 #[.val (.ref b), .val (.int x), .val (.int (rd + (1 : Int32))), .val (.int tq), .val (.ref (aC + 1 + ((rd + (1 : Int32)) - (1 : Int32)).toNatClampNeg)), .val (.ref (aC + 1 + (rd + (1 : Int32)).toNatClampNeg)), .val (.int (mxM (1 : Int32) ((rd + (1 : Int32)) - lim))), .val (.int (mnM (lenI src) ((rd + (1 : Int32)) + lim))), .val (.int few), .val (.int j), .val (.int q), .val (.int c11), s12, s13, s14, s15] [(.ref (aC + 1 + ((rd + (1 : Int32)) - (1 : Int32)).toNatClampNeg)), (.int (x1 + c11))])) _
            refine XS.iload X43.here hx rfl (hb hby d_p8_m5_179) rfl ?_
            exact k
          obtain ⟨x2, hv_x2, H⟩ := ob H
          refine Go.g2L X43 hx hZ e43 G_aC (j := ((rd + (1 : Int32)) - (1 : Int32))) (i := j) hv_x2 (hb hby d_p8_m5_181) ?_
          show Go p e below _ T43 (mkF m 182 #[.val (.ref b), .val (.int x), .val (.int (rd + (1 : Int32))), .val (.int tq), .val (.ref (aC + 1 + ((rd + (1 : Int32)) - (1 : Int32)).toNatClampNeg)), .val (.ref (aC + 1 + (rd + (1 : Int32)).toNatClampNeg)), .val (.int (mxM (1 : Int32) ((rd + (1 : Int32)) - lim))), .val (.int (mnM (lenI src) ((rd + (1 : Int32)) + lim))), .val (.int few), .val (.int j), .val (.int q), .val (.int c11), s12, s13, s14, s15] [(.int x2), (.int (x1 + c11))])
          refine Go.by (T' := T43) (g' := (mkF m 190 #[.val (.ref b), .val (.int x), .val (.int (rd + (1 : Int32))), .val (.int tq), .val (.ref (aC + 1 + ((rd + (1 : Int32)) - (1 : Int32)).toNatClampNeg)), .val (.ref (aC + 1 + (rd + (1 : Int32)).toNatClampNeg)), .val (.int (mxM (1 : Int32) ((rd + (1 : Int32)) - lim))), .val (.int (mnM (lenI src) ((rd + (1 : Int32)) + lim))), .val (.int few), .val (.int j), .val (.int q), .val (.int c11), s12, s13, s14, s15] [(.int (j - (1 : Int32))), (.ref (aC + 1 + (rd + (1 : Int32)).toNatClampNeg)), (.int (x2 + (1 : Int32))), (.int (x1 + c11))])) (fun t k => ?_) ?_
          · show Steps p.tables e below (T43.setTop (mkF m 182 #[.val (.ref b), .val (.int x), .val (.int (rd + (1 : Int32))), .val (.int tq), .val (.ref (aC + 1 + ((rd + (1 : Int32)) - (1 : Int32)).toNatClampNeg)), .val (.ref (aC + 1 + (rd + (1 : Int32)).toNatClampNeg)), .val (.int (mxM (1 : Int32) ((rd + (1 : Int32)) - lim))), .val (.int (mnM (lenI src) ((rd + (1 : Int32)) + lim))), .val (.int few), .val (.int j), .val (.int q), .val (.int c11), s12, s13, s14, s15] [(.int x2), (.int (x1 + c11))])) _
            refine XS.iconst X43.here hx rfl (hb hby d_p8_m5_182) ?_
            show Steps p.tables e below (T43.setTop (mkF m 183 #[.val (.ref b), .val (.int x), .val (.int (rd + (1 : Int32))), .val (.int tq), .val (.ref (aC + 1 + ((rd + (1 : Int32)) - (1 : Int32)).toNatClampNeg)), .val (.ref (aC + 1 + (rd + (1 : Int32)).toNatClampNeg)), .val (.int (mxM (1 : Int32) ((rd + (1 : Int32)) - lim))), .val (.int (mnM (lenI src) ((rd + (1 : Int32)) + lim))), .val (.int few), .val (.int j), .val (.int q), .val (.int c11), s12, s13, s14, s15] [(.int (1 : Int32)), (.int x2), (.int (x1 + c11))])) _
            refine XS.iadd X43.here hx rfl (hb hby d_p8_m5_183) rfl ?_
            show Steps p.tables e below (T43.setTop (mkF m 184 #[.val (.ref b), .val (.int x), .val (.int (rd + (1 : Int32))), .val (.int tq), .val (.ref (aC + 1 + ((rd + (1 : Int32)) - (1 : Int32)).toNatClampNeg)), .val (.ref (aC + 1 + (rd + (1 : Int32)).toNatClampNeg)), .val (.int (mxM (1 : Int32) ((rd + (1 : Int32)) - lim))), .val (.int (mnM (lenI src) ((rd + (1 : Int32)) + lim))), .val (.int few), .val (.int j), .val (.int q), .val (.int c11), s12, s13, s14, s15] [(.int (x2 + (1 : Int32))), (.int (x1 + c11))])) _
            refine XS.aload X43.here hx rfl (hb hby d_p8_m5_184) rfl rfl ?_
            show Steps p.tables e below (T43.setTop (mkF m 186 #[.val (.ref b), .val (.int x), .val (.int (rd + (1 : Int32))), .val (.int tq), .val (.ref (aC + 1 + ((rd + (1 : Int32)) - (1 : Int32)).toNatClampNeg)), .val (.ref (aC + 1 + (rd + (1 : Int32)).toNatClampNeg)), .val (.int (mxM (1 : Int32) ((rd + (1 : Int32)) - lim))), .val (.int (mnM (lenI src) ((rd + (1 : Int32)) + lim))), .val (.int few), .val (.int j), .val (.int q), .val (.int c11), s12, s13, s14, s15] [(.ref (aC + 1 + (rd + (1 : Int32)).toNatClampNeg)), (.int (x2 + (1 : Int32))), (.int (x1 + c11))])) _
            refine XS.iload X43.here hx rfl (hb hby d_p8_m5_186) rfl ?_
            show Steps p.tables e below (T43.setTop (mkF m 188 #[.val (.ref b), .val (.int x), .val (.int (rd + (1 : Int32))), .val (.int tq), .val (.ref (aC + 1 + ((rd + (1 : Int32)) - (1 : Int32)).toNatClampNeg)), .val (.ref (aC + 1 + (rd + (1 : Int32)).toNatClampNeg)), .val (.int (mxM (1 : Int32) ((rd + (1 : Int32)) - lim))), .val (.int (mnM (lenI src) ((rd + (1 : Int32)) + lim))), .val (.int few), .val (.int j), .val (.int q), .val (.int c11), s12, s13, s14, s15] [(.int j), (.ref (aC + 1 + (rd + (1 : Int32)).toNatClampNeg)), (.int (x2 + (1 : Int32))), (.int (x1 + c11))])) _
            refine XS.iconst X43.here hx rfl (hb hby d_p8_m5_188) ?_
            show Steps p.tables e below (T43.setTop (mkF m 189 #[.val (.ref b), .val (.int x), .val (.int (rd + (1 : Int32))), .val (.int tq), .val (.ref (aC + 1 + ((rd + (1 : Int32)) - (1 : Int32)).toNatClampNeg)), .val (.ref (aC + 1 + (rd + (1 : Int32)).toNatClampNeg)), .val (.int (mxM (1 : Int32) ((rd + (1 : Int32)) - lim))), .val (.int (mnM (lenI src) ((rd + (1 : Int32)) + lim))), .val (.int few), .val (.int j), .val (.int q), .val (.int c11), s12, s13, s14, s15] [(.int (1 : Int32)), (.int j), (.ref (aC + 1 + (rd + (1 : Int32)).toNatClampNeg)), (.int (x2 + (1 : Int32))), (.int (x1 + c11))])) _
            refine XS.isub X43.here hx rfl (hb hby d_p8_m5_189) rfl ?_
            exact k
          obtain ⟨x3, hv_x3, H⟩ := ob H
          refine Go.g2L X43 hx hZ e43 G_aC (j := (rd + (1 : Int32))) (i := (j - (1 : Int32))) hv_x3 (hb hby d_p8_m5_190) ?_
          show Go p e below _ T43 (mkF m 191 #[.val (.ref b), .val (.int x), .val (.int (rd + (1 : Int32))), .val (.int tq), .val (.ref (aC + 1 + ((rd + (1 : Int32)) - (1 : Int32)).toNatClampNeg)), .val (.ref (aC + 1 + (rd + (1 : Int32)).toNatClampNeg)), .val (.int (mxM (1 : Int32) ((rd + (1 : Int32)) - lim))), .val (.int (mnM (lenI src) ((rd + (1 : Int32)) + lim))), .val (.int few), .val (.int j), .val (.int q), .val (.int c11), s12, s13, s14, s15] [(.int x3), (.int (x2 + (1 : Int32))), (.int (x1 + c11))])
          refine Go.by (T' := T43) (g' := (mkF m 193 #[.val (.ref b), .val (.int x), .val (.int (rd + (1 : Int32))), .val (.int tq), .val (.ref (aC + 1 + ((rd + (1 : Int32)) - (1 : Int32)).toNatClampNeg)), .val (.ref (aC + 1 + (rd + (1 : Int32)).toNatClampNeg)), .val (.int (mxM (1 : Int32) ((rd + (1 : Int32)) - lim))), .val (.int (mnM (lenI src) ((rd + (1 : Int32)) + lim))), .val (.int few), .val (.int j), .val (.int q), .val (.int c11), s12, s13, s14, s15] [(.int (x3 + (1 : Int32))), (.int (x2 + (1 : Int32))), (.int (x1 + c11))])) (fun t k => ?_) ?_
          · show Steps p.tables e below (T43.setTop (mkF m 191 #[.val (.ref b), .val (.int x), .val (.int (rd + (1 : Int32))), .val (.int tq), .val (.ref (aC + 1 + ((rd + (1 : Int32)) - (1 : Int32)).toNatClampNeg)), .val (.ref (aC + 1 + (rd + (1 : Int32)).toNatClampNeg)), .val (.int (mxM (1 : Int32) ((rd + (1 : Int32)) - lim))), .val (.int (mnM (lenI src) ((rd + (1 : Int32)) + lim))), .val (.int few), .val (.int j), .val (.int q), .val (.int c11), s12, s13, s14, s15] [(.int x3), (.int (x2 + (1 : Int32))), (.int (x1 + c11))])) _
            refine XS.iconst X43.here hx rfl (hb hby d_p8_m5_191) ?_
            show Steps p.tables e below (T43.setTop (mkF m 192 #[.val (.ref b), .val (.int x), .val (.int (rd + (1 : Int32))), .val (.int tq), .val (.ref (aC + 1 + ((rd + (1 : Int32)) - (1 : Int32)).toNatClampNeg)), .val (.ref (aC + 1 + (rd + (1 : Int32)).toNatClampNeg)), .val (.int (mxM (1 : Int32) ((rd + (1 : Int32)) - lim))), .val (.int (mnM (lenI src) ((rd + (1 : Int32)) + lim))), .val (.int few), .val (.int j), .val (.int q), .val (.int c11), s12, s13, s14, s15] [(.int (1 : Int32)), (.int x3), (.int (x2 + (1 : Int32))), (.int (x1 + c11))])) _
            refine XS.iadd X43.here hx rfl (hb hby d_p8_m5_192) rfl ?_
            exact k
          refine Go.callS X43 hx hZ (W := 1) (argsL := [(.int (x2 + (1 : Int32))), (.int (x3 + (1 : Int32)))]) (rest := [(.int (x1 + c11))]) hown (wd hw 75 rfl) (wd hw 76 rfl) (wd hw 73 rfl) (wd hw 77 rfl) (by decide) (ct_min l Z a0 hw  (x2 + (1 : Int32)) (x3 + (1 : Int32)) h19 n0 O ) e43 (by rw [hml]; rfl) (lenOf pd__II_I_420 rfl) rfl rfl (hb hby d_p8_m5_193) (by decide) (by decide) (by decide) (by decide) ?_
          intro v45 T45 h45 L45 X45 e45 q45
          obtain ⟨rfl, N45, rfl⟩ := q45
          replace N45 := Fr.app N19 N45
          show Go p e below _ T45 (mkF m 196 #[.val (.ref b), .val (.int x), .val (.int (rd + (1 : Int32))), .val (.int tq), .val (.ref (aC + 1 + ((rd + (1 : Int32)) - (1 : Int32)).toNatClampNeg)), .val (.ref (aC + 1 + (rd + (1 : Int32)).toNatClampNeg)), .val (.int (mxM (1 : Int32) ((rd + (1 : Int32)) - lim))), .val (.int (mnM (lenI src) ((rd + (1 : Int32)) + lim))), .val (.int few), .val (.int j), .val (.int q), .val (.int c11), s12, s13, s14, s15] [(.int (mnM (x2 + (1 : Int32)) (x3 + (1 : Int32)))), (.int (x1 + c11))])
          refine Go.callS X45 hx hZ (W := 0) (argsL := [(.int (x1 + c11)), (.int (mnM (x2 + (1 : Int32)) (x3 + (1 : Int32))))]) (rest := []) hown (wd hw 75 rfl) (wd hw 76 rfl) (wd hw 73 rfl) (wd hw 77 rfl) (by decide) (ct_min l Z a0 hw  (x1 + c11) (mnM (x2 + (1 : Int32)) (x3 + (1 : Int32))) h19 n0 O ) e45 (by rw [hml]; rfl) (lenOf pd__II_I_420 rfl) rfl rfl (hb hby d_p8_m5_196) (by decide) (by decide) (by decide) (by decide) ?_
          intro v46 T46 h46 L46 X46 e46 q46
          obtain ⟨rfl, N46, rfl⟩ := q46
          replace N46 := Fr.app N45 N46
          show Go p e below _ T46 (mkF m 199 #[.val (.ref b), .val (.int x), .val (.int (rd + (1 : Int32))), .val (.int tq), .val (.ref (aC + 1 + ((rd + (1 : Int32)) - (1 : Int32)).toNatClampNeg)), .val (.ref (aC + 1 + (rd + (1 : Int32)).toNatClampNeg)), .val (.int (mxM (1 : Int32) ((rd + (1 : Int32)) - lim))), .val (.int (mnM (lenI src) ((rd + (1 : Int32)) + lim))), .val (.int few), .val (.int j), .val (.int q), .val (.int c11), s12, s13, s14, s15] [(.int (mnM (x1 + c11) (mnM (x2 + (1 : Int32)) (x3 + (1 : Int32)))))])
          refine Go.by (T' := T46) (g' := (mkF m 205 #[.val (.ref b), .val (.int x), .val (.int (rd + (1 : Int32))), .val (.int tq), .val (.ref (aC + 1 + ((rd + (1 : Int32)) - (1 : Int32)).toNatClampNeg)), .val (.ref (aC + 1 + (rd + (1 : Int32)).toNatClampNeg)), .val (.int (mxM (1 : Int32) ((rd + (1 : Int32)) - lim))), .val (.int (mnM (lenI src) ((rd + (1 : Int32)) + lim))), .val (.int few), .val (.int j), .val (.int q), .val (.int c11), .val (.int (mnM (x1 + c11) (mnM (x2 + (1 : Int32)) (x3 + (1 : Int32))))), .val (.int (0 : Int32)), s14, s15] [(.int tq)])) (fun t k => ?_) ?_
          · show Steps p.tables e below (T46.setTop (mkF m 199 #[.val (.ref b), .val (.int x), .val (.int (rd + (1 : Int32))), .val (.int tq), .val (.ref (aC + 1 + ((rd + (1 : Int32)) - (1 : Int32)).toNatClampNeg)), .val (.ref (aC + 1 + (rd + (1 : Int32)).toNatClampNeg)), .val (.int (mxM (1 : Int32) ((rd + (1 : Int32)) - lim))), .val (.int (mnM (lenI src) ((rd + (1 : Int32)) + lim))), .val (.int few), .val (.int j), .val (.int q), .val (.int c11), s12, s13, s14, s15] [(.int (mnM (x1 + c11) (mnM (x2 + (1 : Int32)) (x3 + (1 : Int32)))))])) _
            refine XS.istore X46.here hx rfl (hb hby d_p8_m5_199) rfl (l' := #[.val (.ref b), .val (.int x), .val (.int (rd + (1 : Int32))), .val (.int tq), .val (.ref (aC + 1 + ((rd + (1 : Int32)) - (1 : Int32)).toNatClampNeg)), .val (.ref (aC + 1 + (rd + (1 : Int32)).toNatClampNeg)), .val (.int (mxM (1 : Int32) ((rd + (1 : Int32)) - lim))), .val (.int (mnM (lenI src) ((rd + (1 : Int32)) + lim))), .val (.int few), .val (.int j), .val (.int q), .val (.int c11), .val (.int (mnM (x1 + c11) (mnM (x2 + (1 : Int32)) (x3 + (1 : Int32))))), s13, s14, s15]) (XS.store1 rfl hs12 rfl) ?_
            show Steps p.tables e below (T46.setTop (mkF m 201 #[.val (.ref b), .val (.int x), .val (.int (rd + (1 : Int32))), .val (.int tq), .val (.ref (aC + 1 + ((rd + (1 : Int32)) - (1 : Int32)).toNatClampNeg)), .val (.ref (aC + 1 + (rd + (1 : Int32)).toNatClampNeg)), .val (.int (mxM (1 : Int32) ((rd + (1 : Int32)) - lim))), .val (.int (mnM (lenI src) ((rd + (1 : Int32)) + lim))), .val (.int few), .val (.int j), .val (.int q), .val (.int c11), .val (.int (mnM (x1 + c11) (mnM (x2 + (1 : Int32)) (x3 + (1 : Int32))))), s13, s14, s15] [])) _
            refine XS.iconst X46.here hx rfl (hb hby d_p8_m5_201) ?_
            show Steps p.tables e below (T46.setTop (mkF m 202 #[.val (.ref b), .val (.int x), .val (.int (rd + (1 : Int32))), .val (.int tq), .val (.ref (aC + 1 + ((rd + (1 : Int32)) - (1 : Int32)).toNatClampNeg)), .val (.ref (aC + 1 + (rd + (1 : Int32)).toNatClampNeg)), .val (.int (mxM (1 : Int32) ((rd + (1 : Int32)) - lim))), .val (.int (mnM (lenI src) ((rd + (1 : Int32)) + lim))), .val (.int few), .val (.int j), .val (.int q), .val (.int c11), .val (.int (mnM (x1 + c11) (mnM (x2 + (1 : Int32)) (x3 + (1 : Int32))))), s13, s14, s15] [(.int (0 : Int32))])) _
            refine XS.istore X46.here hx rfl (hb hby d_p8_m5_202) rfl (l' := #[.val (.ref b), .val (.int x), .val (.int (rd + (1 : Int32))), .val (.int tq), .val (.ref (aC + 1 + ((rd + (1 : Int32)) - (1 : Int32)).toNatClampNeg)), .val (.ref (aC + 1 + (rd + (1 : Int32)).toNatClampNeg)), .val (.int (mxM (1 : Int32) ((rd + (1 : Int32)) - lim))), .val (.int (mnM (lenI src) ((rd + (1 : Int32)) + lim))), .val (.int few), .val (.int j), .val (.int q), .val (.int c11), .val (.int (mnM (x1 + c11) (mnM (x2 + (1 : Int32)) (x3 + (1 : Int32))))), .val (.int (0 : Int32)), s14, s15]) (XS.store1 rfl hs13 rfl) ?_
            show Steps p.tables e below (T46.setTop (mkF m 204 #[.val (.ref b), .val (.int x), .val (.int (rd + (1 : Int32))), .val (.int tq), .val (.ref (aC + 1 + ((rd + (1 : Int32)) - (1 : Int32)).toNatClampNeg)), .val (.ref (aC + 1 + (rd + (1 : Int32)).toNatClampNeg)), .val (.int (mxM (1 : Int32) ((rd + (1 : Int32)) - lim))), .val (.int (mnM (lenI src) ((rd + (1 : Int32)) + lim))), .val (.int few), .val (.int j), .val (.int q), .val (.int c11), .val (.int (mnM (x1 + c11) (mnM (x2 + (1 : Int32)) (x3 + (1 : Int32))))), .val (.int (0 : Int32)), s14, s15] [])) _
            refine XS.iloadN X46.here hx rfl (hb hby d_p8_m5_204) rfl ?_
            exact k
          obtain ⟨lw, hlw, H⟩ := ob H
          have J47 : ∀ (w13 : Int32) (T47 : State) (h47 : Heap) (L47 : List Loc), (Stand p l e ({ frames := 1, cells := 0, slots := 0, locals := 16 } : Room) s m #[(.ref b), (.int x)] below meth c T47 L47 0 0) → (T47.heap = h47) → (Old Z n0 h47) → (Fr n0 L47) → (Keep h0 h47 (List.range' b w)) → (Exa Z h47 b "com/example/shingle/shingle/EditDistance") → (Fld Z h47 b "com/example/shingle/shingle/EditDistance" "source" "[I" (.ref aS)) → (Fld Z h47 b "com/example/shingle/shingle/EditDistance" "limit" "I" (.int lim)) → (Fld Z h47 b "com/example/shingle/shingle/EditDistance" "sourceLetters" "[I" (.ref aL)) → (Fld Z h47 b "com/example/shingle/shingle/EditDistance" "distinct" "[I" (.ref aD)) → (Fld Z h47 b "com/example/shingle/shingle/EditDistance" "lastRowBefore" "[[I" (.ref aR)) → (Fld Z h47 b "com/example/shingle/shingle/EditDistance" "columns" "[[I" (.ref aC)) → (Fld Z h47 b "com/example/shingle/shingle/EditDistance" "fewest" "[I" (.ref aF)) → (Fld Z h47 b "com/example/shingle/shingle/EditDistance" "targetLetters" "[I" (.ref aT)) → (Fld Z h47 b "com/example/shingle/shingle/EditDistance" "lastColumn" "[I" (.ref aX)) → (Fld Z h47 b "com/example/shingle/shingle/EditDistance" "replacedColumn" "[I" (.ref aP)) → (Fld Z h47 b "com/example/shingle/shingle/EditDistance" "read" "I" (.int rd)) → (IA Z h47 aS src) → (IA Z h47 aL sl) → (IA Z h47 aD di) → (GA Z h47 aR lr) → (GA Z h47 aC gs) → (IA Z h47 aF fw) → (IA Z h47 aT tl) → (IA Z h47 aX lc) → (IA Z h47 aP rc) → (lr.length = N_aR) → (gs.length = N_aC) → (w13 = lw) → Go p e below (EndF s ({ frames := 1, cells := 0, slots := 0, locals := 16 } : Room).cells ({ frames := 1, cells := 0, slots := 0, locals := 16 } : Room).slots (fun v h L => v = none ∧ Fr n0 L ∧ Keep h0 h (List.range' b w) ∧ ED Z h b w st')) T47 (mkF m 219 #[.val (.ref b), .val (.int x), .val (.int (rd + (1 : Int32))), .val (.int tq), .val (.ref (aC + 1 + ((rd + (1 : Int32)) - (1 : Int32)).toNatClampNeg)), .val (.ref (aC + 1 + (rd + (1 : Int32)).toNatClampNeg)), .val (.int (mxM (1 : Int32) ((rd + (1 : Int32)) - lim))), .val (.int (mnM (lenI src) ((rd + (1 : Int32)) + lim))), .val (.int few), .val (.int j), .val (.int q), .val (.int c11), .val (.int (mnM (x1 + c11) (mnM (x2 + (1 : Int32)) (x3 + (1 : Int32))))), .val (.int w13), s14, s15] []) := by
            intro w13 T47 h47 L47 X47 e47 O N47 K E_b F_source F_limit F_sourceLetters F_distinct F_lastRowBefore F_columns F_fewest F_targetLetters F_lastColumn F_replacedColumn F_read I_aS I_aL I_aD G_aR G_aC I_aF I_aT I_aX I_aP hn_aR hn_aC hw13
            rw [← hw13] at H
            refine Go.by (T' := T47) (g' := (mkF m 220 #[.val (.ref b), .val (.int x), .val (.int (rd + (1 : Int32))), .val (.int tq), .val (.ref (aC + 1 + ((rd + (1 : Int32)) - (1 : Int32)).toNatClampNeg)), .val (.ref (aC + 1 + (rd + (1 : Int32)).toNatClampNeg)), .val (.int (mxM (1 : Int32) ((rd + (1 : Int32)) - lim))), .val (.int (mnM (lenI src) ((rd + (1 : Int32)) + lim))), .val (.int few), .val (.int j), .val (.int q), .val (.int c11), .val (.int (mnM (x1 + c11) (mnM (x2 + (1 : Int32)) (x3 + (1 : Int32))))), .val (.int w13), s14, s15] [(.ref b)])) (fun t k => ?_) ?_
            · show Steps p.tables e below (T47.setTop (mkF m 219 #[.val (.ref b), .val (.int x), .val (.int (rd + (1 : Int32))), .val (.int tq), .val (.ref (aC + 1 + ((rd + (1 : Int32)) - (1 : Int32)).toNatClampNeg)), .val (.ref (aC + 1 + (rd + (1 : Int32)).toNatClampNeg)), .val (.int (mxM (1 : Int32) ((rd + (1 : Int32)) - lim))), .val (.int (mnM (lenI src) ((rd + (1 : Int32)) + lim))), .val (.int few), .val (.int j), .val (.int q), .val (.int c11), .val (.int (mnM (x1 + c11) (mnM (x2 + (1 : Int32)) (x3 + (1 : Int32))))), .val (.int w13), s14, s15] [])) _
              refine XS.aloadN X47.here hx rfl (hb hby d_p8_m5_219) rfl rfl ?_
              exact k
            refine Go.getF X47 hx hZ hown (wd hw 48 rfl) Via.refl e47 F_lastColumn (hb hby d_p8_m5_220) ?_
            intro T48 X48 e48
            show Go p e below _ T48 (mkF m 223 #[.val (.ref b), .val (.int x), .val (.int (rd + (1 : Int32))), .val (.int tq), .val (.ref (aC + 1 + ((rd + (1 : Int32)) - (1 : Int32)).toNatClampNeg)), .val (.ref (aC + 1 + (rd + (1 : Int32)).toNatClampNeg)), .val (.int (mxM (1 : Int32) ((rd + (1 : Int32)) - lim))), .val (.int (mnM (lenI src) ((rd + (1 : Int32)) + lim))), .val (.int few), .val (.int j), .val (.int q), .val (.int c11), .val (.int (mnM (x1 + c11) (mnM (x2 + (1 : Int32)) (x3 + (1 : Int32))))), .val (.int w13), s14, s15] [(.ref aX)])
            refine Go.by (T' := T48) (g' := (mkF m 225 #[.val (.ref b), .val (.int x), .val (.int (rd + (1 : Int32))), .val (.int tq), .val (.ref (aC + 1 + ((rd + (1 : Int32)) - (1 : Int32)).toNatClampNeg)), .val (.ref (aC + 1 + (rd + (1 : Int32)).toNatClampNeg)), .val (.int (mxM (1 : Int32) ((rd + (1 : Int32)) - lim))), .val (.int (mnM (lenI src) ((rd + (1 : Int32)) + lim))), .val (.int few), .val (.int j), .val (.int q), .val (.int c11), .val (.int (mnM (x1 + c11) (mnM (x2 + (1 : Int32)) (x3 + (1 : Int32))))), .val (.int w13), s14, s15] [(.int q), (.ref aX)])) (fun t k => ?_) ?_
            · show Steps p.tables e below (T48.setTop (mkF m 223 #[.val (.ref b), .val (.int x), .val (.int (rd + (1 : Int32))), .val (.int tq), .val (.ref (aC + 1 + ((rd + (1 : Int32)) - (1 : Int32)).toNatClampNeg)), .val (.ref (aC + 1 + (rd + (1 : Int32)).toNatClampNeg)), .val (.int (mxM (1 : Int32) ((rd + (1 : Int32)) - lim))), .val (.int (mnM (lenI src) ((rd + (1 : Int32)) + lim))), .val (.int few), .val (.int j), .val (.int q), .val (.int c11), .val (.int (mnM (x1 + c11) (mnM (x2 + (1 : Int32)) (x3 + (1 : Int32))))), .val (.int w13), s14, s15] [(.ref aX)])) _
              refine XS.iload X48.here hx rfl (hb hby d_p8_m5_223) rfl ?_
              exact k
            obtain ⟨cl, hv_cl, H⟩ := ob H
            refine Go.iaL X48 hx hZ e48 I_aX (j := q) hv_cl (hb hby d_p8_m5_225) ?_
            show Go p e below _ T48 (mkF m 226 #[.val (.ref b), .val (.int x), .val (.int (rd + (1 : Int32))), .val (.int tq), .val (.ref (aC + 1 + ((rd + (1 : Int32)) - (1 : Int32)).toNatClampNeg)), .val (.ref (aC + 1 + (rd + (1 : Int32)).toNatClampNeg)), .val (.int (mxM (1 : Int32) ((rd + (1 : Int32)) - lim))), .val (.int (mnM (lenI src) ((rd + (1 : Int32)) + lim))), .val (.int few), .val (.int j), .val (.int q), .val (.int c11), .val (.int (mnM (x1 + c11) (mnM (x2 + (1 : Int32)) (x3 + (1 : Int32))))), .val (.int w13), s14, s15] [(.int cl)])
            refine Go.by (T' := T48) (g' := (mkF m 230 #[.val (.ref b), .val (.int x), .val (.int (rd + (1 : Int32))), .val (.int tq), .val (.ref (aC + 1 + ((rd + (1 : Int32)) - (1 : Int32)).toNatClampNeg)), .val (.ref (aC + 1 + (rd + (1 : Int32)).toNatClampNeg)), .val (.int (mxM (1 : Int32) ((rd + (1 : Int32)) - lim))), .val (.int (mnM (lenI src) ((rd + (1 : Int32)) + lim))), .val (.int few), .val (.int j), .val (.int q), .val (.int c11), .val (.int (mnM (x1 + c11) (mnM (x2 + (1 : Int32)) (x3 + (1 : Int32))))), .val (.int w13), .val (.int cl), s15] [(.int w13)])) (fun t k => ?_) ?_
            · show Steps p.tables e below (T48.setTop (mkF m 226 #[.val (.ref b), .val (.int x), .val (.int (rd + (1 : Int32))), .val (.int tq), .val (.ref (aC + 1 + ((rd + (1 : Int32)) - (1 : Int32)).toNatClampNeg)), .val (.ref (aC + 1 + (rd + (1 : Int32)).toNatClampNeg)), .val (.int (mxM (1 : Int32) ((rd + (1 : Int32)) - lim))), .val (.int (mnM (lenI src) ((rd + (1 : Int32)) + lim))), .val (.int few), .val (.int j), .val (.int q), .val (.int c11), .val (.int (mnM (x1 + c11) (mnM (x2 + (1 : Int32)) (x3 + (1 : Int32))))), .val (.int w13), s14, s15] [(.int cl)])) _
              refine XS.istore X48.here hx rfl (hb hby d_p8_m5_226) rfl (l' := #[.val (.ref b), .val (.int x), .val (.int (rd + (1 : Int32))), .val (.int tq), .val (.ref (aC + 1 + ((rd + (1 : Int32)) - (1 : Int32)).toNatClampNeg)), .val (.ref (aC + 1 + (rd + (1 : Int32)).toNatClampNeg)), .val (.int (mxM (1 : Int32) ((rd + (1 : Int32)) - lim))), .val (.int (mnM (lenI src) ((rd + (1 : Int32)) + lim))), .val (.int few), .val (.int j), .val (.int q), .val (.int c11), .val (.int (mnM (x1 + c11) (mnM (x2 + (1 : Int32)) (x3 + (1 : Int32))))), .val (.int w13), .val (.int cl), s15]) (XS.store1 rfl hs14 rfl) ?_
              show Steps p.tables e below (T48.setTop (mkF m 228 #[.val (.ref b), .val (.int x), .val (.int (rd + (1 : Int32))), .val (.int tq), .val (.ref (aC + 1 + ((rd + (1 : Int32)) - (1 : Int32)).toNatClampNeg)), .val (.ref (aC + 1 + (rd + (1 : Int32)).toNatClampNeg)), .val (.int (mxM (1 : Int32) ((rd + (1 : Int32)) - lim))), .val (.int (mnM (lenI src) ((rd + (1 : Int32)) + lim))), .val (.int few), .val (.int j), .val (.int q), .val (.int c11), .val (.int (mnM (x1 + c11) (mnM (x2 + (1 : Int32)) (x3 + (1 : Int32))))), .val (.int w13), .val (.int cl), s15] [])) _
              refine XS.iload X48.here hx rfl (hb hby d_p8_m5_228) rfl ?_
              exact k
            obtain ⟨best, hbest, H⟩ := ob H
            have J49 : ∀ (w12 : Int32) (u15 : Slot) (T49 : State) (h49 : Heap) (L49 : List Loc), (Stand p l e ({ frames := 1, cells := 0, slots := 0, locals := 16 } : Room) s m #[(.ref b), (.int x)] below meth c T49 L49 0 0) → (T49.heap = h49) → (Old Z n0 h49) → (Fr n0 L49) → (Keep h0 h49 (List.range' b w)) → (Exa Z h49 b "com/example/shingle/shingle/EditDistance") → (Fld Z h49 b "com/example/shingle/shingle/EditDistance" "source" "[I" (.ref aS)) → (Fld Z h49 b "com/example/shingle/shingle/EditDistance" "limit" "I" (.int lim)) → (Fld Z h49 b "com/example/shingle/shingle/EditDistance" "sourceLetters" "[I" (.ref aL)) → (Fld Z h49 b "com/example/shingle/shingle/EditDistance" "distinct" "[I" (.ref aD)) → (Fld Z h49 b "com/example/shingle/shingle/EditDistance" "lastRowBefore" "[[I" (.ref aR)) → (Fld Z h49 b "com/example/shingle/shingle/EditDistance" "columns" "[[I" (.ref aC)) → (Fld Z h49 b "com/example/shingle/shingle/EditDistance" "fewest" "[I" (.ref aF)) → (Fld Z h49 b "com/example/shingle/shingle/EditDistance" "targetLetters" "[I" (.ref aT)) → (Fld Z h49 b "com/example/shingle/shingle/EditDistance" "lastColumn" "[I" (.ref aX)) → (Fld Z h49 b "com/example/shingle/shingle/EditDistance" "replacedColumn" "[I" (.ref aP)) → (Fld Z h49 b "com/example/shingle/shingle/EditDistance" "read" "I" (.int rd)) → (IA Z h49 aS src) → (IA Z h49 aL sl) → (IA Z h49 aD di) → (GA Z h49 aR lr) → (GA Z h49 aC gs) → (IA Z h49 aF fw) → (IA Z h49 aT tl) → (IA Z h49 aX lc) → (IA Z h49 aP rc) → (lr.length = N_aR) → (gs.length = N_aC) → (w12 = best) → (u15 = .unset ∨ ∃ w, u15 = .val w ∧ w.category = 1) → Go p e below (EndF s ({ frames := 1, cells := 0, slots := 0, locals := 16 } : Room).cells ({ frames := 1, cells := 0, slots := 0, locals := 16 } : Room).slots (fun v h L => v = none ∧ Fr n0 L ∧ Keep h0 h (List.range' b w) ∧ ED Z h b w st')) T49 (mkF m 295 #[.val (.ref b), .val (.int x), .val (.int (rd + (1 : Int32))), .val (.int tq), .val (.ref (aC + 1 + ((rd + (1 : Int32)) - (1 : Int32)).toNatClampNeg)), .val (.ref (aC + 1 + (rd + (1 : Int32)).toNatClampNeg)), .val (.int (mxM (1 : Int32) ((rd + (1 : Int32)) - lim))), .val (.int (mnM (lenI src) ((rd + (1 : Int32)) + lim))), .val (.int few), .val (.int j), .val (.int q), .val (.int c11), .val (.int w12), .val (.int w13), .val (.int cl), u15] []) := by
              intro w12 u15 T49 h49 L49 X49 e49 O N49 K E_b F_source F_limit F_sourceLetters F_distinct F_lastRowBefore F_columns F_fewest F_targetLetters F_lastColumn F_replacedColumn F_read I_aS I_aL I_aD G_aR G_aC I_aF I_aT I_aX I_aP hn_aR hn_aC hw12 hu15
              rw [← hw12] at H
              refine Go.by (T' := T49) (g' := (mkF m 301 #[.val (.ref b), .val (.int x), .val (.int (rd + (1 : Int32))), .val (.int tq), .val (.ref (aC + 1 + ((rd + (1 : Int32)) - (1 : Int32)).toNatClampNeg)), .val (.ref (aC + 1 + (rd + (1 : Int32)).toNatClampNeg)), .val (.int (mxM (1 : Int32) ((rd + (1 : Int32)) - lim))), .val (.int (mnM (lenI src) ((rd + (1 : Int32)) + lim))), .val (.int few), .val (.int j), .val (.int q), .val (.int c11), .val (.int w12), .val (.int w13), .val (.int cl), u15] [(.int w12), (.int j), (.ref (aC + 1 + (rd + (1 : Int32)).toNatClampNeg))])) (fun t k => ?_) ?_
              · show Steps p.tables e below (T49.setTop (mkF m 295 #[.val (.ref b), .val (.int x), .val (.int (rd + (1 : Int32))), .val (.int tq), .val (.ref (aC + 1 + ((rd + (1 : Int32)) - (1 : Int32)).toNatClampNeg)), .val (.ref (aC + 1 + (rd + (1 : Int32)).toNatClampNeg)), .val (.int (mxM (1 : Int32) ((rd + (1 : Int32)) - lim))), .val (.int (mnM (lenI src) ((rd + (1 : Int32)) + lim))), .val (.int few), .val (.int j), .val (.int q), .val (.int c11), .val (.int w12), .val (.int w13), .val (.int cl), u15] [])) _
                refine XS.aload X49.here hx rfl (hb hby d_p8_m5_295) rfl rfl ?_
                show Steps p.tables e below (T49.setTop (mkF m 297 #[.val (.ref b), .val (.int x), .val (.int (rd + (1 : Int32))), .val (.int tq), .val (.ref (aC + 1 + ((rd + (1 : Int32)) - (1 : Int32)).toNatClampNeg)), .val (.ref (aC + 1 + (rd + (1 : Int32)).toNatClampNeg)), .val (.int (mxM (1 : Int32) ((rd + (1 : Int32)) - lim))), .val (.int (mnM (lenI src) ((rd + (1 : Int32)) + lim))), .val (.int few), .val (.int j), .val (.int q), .val (.int c11), .val (.int w12), .val (.int w13), .val (.int cl), u15] [(.ref (aC + 1 + (rd + (1 : Int32)).toNatClampNeg))])) _
                refine XS.iload X49.here hx rfl (hb hby d_p8_m5_297) rfl ?_
                show Steps p.tables e below (T49.setTop (mkF m 299 #[.val (.ref b), .val (.int x), .val (.int (rd + (1 : Int32))), .val (.int tq), .val (.ref (aC + 1 + ((rd + (1 : Int32)) - (1 : Int32)).toNatClampNeg)), .val (.ref (aC + 1 + (rd + (1 : Int32)).toNatClampNeg)), .val (.int (mxM (1 : Int32) ((rd + (1 : Int32)) - lim))), .val (.int (mnM (lenI src) ((rd + (1 : Int32)) + lim))), .val (.int few), .val (.int j), .val (.int q), .val (.int c11), .val (.int w12), .val (.int w13), .val (.int cl), u15] [(.int j), (.ref (aC + 1 + (rd + (1 : Int32)).toNatClampNeg))])) _
                refine XS.iload X49.here hx rfl (hb hby d_p8_m5_299) rfl ?_
                exact k
              obtain ⟨v50, hv50, H⟩ := ob H
              have lt51 := wr2O_lt hv50
              refine Go.g2S X49 hx hZ e49 G_aC (j := (rd + (1 : Int32))) (i := j) hv50 (hb hby d_p8_m5_301) ?_
              intro T51 h51 X51 e51 W51 Vn51
              replace E_b := E_b.wr W51
              replace F_source := F_source.other W51 (Or.inl (show (b : Nat) ≠ (aC + 1 + (rd + (1 : Int32)).toNatClampNeg) by omega))
              replace F_limit := F_limit.other W51 (Or.inl (show (b : Nat) ≠ (aC + 1 + (rd + (1 : Int32)).toNatClampNeg) by omega))
              replace F_sourceLetters := F_sourceLetters.other W51 (Or.inl (show (b : Nat) ≠ (aC + 1 + (rd + (1 : Int32)).toNatClampNeg) by omega))
              replace F_distinct := F_distinct.other W51 (Or.inl (show (b : Nat) ≠ (aC + 1 + (rd + (1 : Int32)).toNatClampNeg) by omega))
              replace F_lastRowBefore := F_lastRowBefore.other W51 (Or.inl (show (b : Nat) ≠ (aC + 1 + (rd + (1 : Int32)).toNatClampNeg) by omega))
              replace F_columns := F_columns.other W51 (Or.inl (show (b : Nat) ≠ (aC + 1 + (rd + (1 : Int32)).toNatClampNeg) by omega))
              replace F_fewest := F_fewest.other W51 (Or.inl (show (b : Nat) ≠ (aC + 1 + (rd + (1 : Int32)).toNatClampNeg) by omega))
              replace F_targetLetters := F_targetLetters.other W51 (Or.inl (show (b : Nat) ≠ (aC + 1 + (rd + (1 : Int32)).toNatClampNeg) by omega))
              replace F_lastColumn := F_lastColumn.other W51 (Or.inl (show (b : Nat) ≠ (aC + 1 + (rd + (1 : Int32)).toNatClampNeg) by omega))
              replace F_replacedColumn := F_replacedColumn.other W51 (Or.inl (show (b : Nat) ≠ (aC + 1 + (rd + (1 : Int32)).toNatClampNeg) by omega))
              replace F_read := F_read.other W51 (Or.inl (show (b : Nat) ≠ (aC + 1 + (rd + (1 : Int32)).toNatClampNeg) by omega))
              replace I_aS := I_aS.other W51 (show (aS : Nat) ≠ (aC + 1 + (rd + (1 : Int32)).toNatClampNeg) by omega)
              replace I_aL := I_aL.other W51 (show (aL : Nat) ≠ (aC + 1 + (rd + (1 : Int32)).toNatClampNeg) by omega)
              replace I_aD := I_aD.other W51 (show (aD : Nat) ≠ (aC + 1 + (rd + (1 : Int32)).toNatClampNeg) by omega)
              replace G_aR := G_aR.other W51 (show ((aC + 1 + (rd + (1 : Int32)).toNatClampNeg) : Nat) < aR ∨ aR + lr.length < (aC + 1 + (rd + (1 : Int32)).toNatClampNeg) by omega)
              replace I_aF := I_aF.other W51 (show (aF : Nat) ≠ (aC + 1 + (rd + (1 : Int32)).toNatClampNeg) by omega)
              replace I_aT := I_aT.other W51 (show (aT : Nat) ≠ (aC + 1 + (rd + (1 : Int32)).toNatClampNeg) by omega)
              replace I_aX := I_aX.other W51 (show (aX : Nat) ≠ (aC + 1 + (rd + (1 : Int32)).toNatClampNeg) by omega)
              replace I_aP := I_aP.other W51 (show (aP : Nat) ≠ (aC + 1 + (rd + (1 : Int32)).toNatClampNeg) by omega)
              replace O := O.wr W51 (show (n0 : Nat) ≤ (aC + 1 + (rd + (1 : Int32)).toNatClampNeg) by omega)
              have N51 := Fr.snoc X51 N49 (show (n0 : Nat) ≤ (aC + 1 + (rd + (1 : Int32)).toNatClampNeg) by omega)
              replace K := K.wr W51 (Or.inl (in_rng (by omega) (by omega)))
              replace G_aC := Vn51
              clear Vn51
              replace hn_aC := (wr2O_len hv50).trans hn_aC
              show Go p e below _ T51 (mkF m 302 #[.val (.ref b), .val (.int x), .val (.int (rd + (1 : Int32))), .val (.int tq), .val (.ref (aC + 1 + ((rd + (1 : Int32)) - (1 : Int32)).toNatClampNeg)), .val (.ref (aC + 1 + (rd + (1 : Int32)).toNatClampNeg)), .val (.int (mxM (1 : Int32) ((rd + (1 : Int32)) - lim))), .val (.int (mnM (lenI src) ((rd + (1 : Int32)) + lim))), .val (.int few), .val (.int j), .val (.int q), .val (.int c11), .val (.int w12), .val (.int w13), .val (.int cl), u15] [])
              refine Go.by (T' := T51) (g' := (mkF m 306 #[.val (.ref b), .val (.int x), .val (.int (rd + (1 : Int32))), .val (.int tq), .val (.ref (aC + 1 + ((rd + (1 : Int32)) - (1 : Int32)).toNatClampNeg)), .val (.ref (aC + 1 + (rd + (1 : Int32)).toNatClampNeg)), .val (.int (mxM (1 : Int32) ((rd + (1 : Int32)) - lim))), .val (.int (mnM (lenI src) ((rd + (1 : Int32)) + lim))), .val (.int few), .val (.int j), .val (.int q), .val (.int c11), .val (.int w12), .val (.int w13), .val (.int cl), u15] [(.int w12), (.int few)])) (fun t k => ?_) ?_
              · show Steps p.tables e below (T51.setTop (mkF m 302 #[.val (.ref b), .val (.int x), .val (.int (rd + (1 : Int32))), .val (.int tq), .val (.ref (aC + 1 + ((rd + (1 : Int32)) - (1 : Int32)).toNatClampNeg)), .val (.ref (aC + 1 + (rd + (1 : Int32)).toNatClampNeg)), .val (.int (mxM (1 : Int32) ((rd + (1 : Int32)) - lim))), .val (.int (mnM (lenI src) ((rd + (1 : Int32)) + lim))), .val (.int few), .val (.int j), .val (.int q), .val (.int c11), .val (.int w12), .val (.int w13), .val (.int cl), u15] [])) _
                refine XS.iload X51.here hx rfl (hb hby d_p8_m5_302) rfl ?_
                show Steps p.tables e below (T51.setTop (mkF m 304 #[.val (.ref b), .val (.int x), .val (.int (rd + (1 : Int32))), .val (.int tq), .val (.ref (aC + 1 + ((rd + (1 : Int32)) - (1 : Int32)).toNatClampNeg)), .val (.ref (aC + 1 + (rd + (1 : Int32)).toNatClampNeg)), .val (.int (mxM (1 : Int32) ((rd + (1 : Int32)) - lim))), .val (.int (mnM (lenI src) ((rd + (1 : Int32)) + lim))), .val (.int few), .val (.int j), .val (.int q), .val (.int c11), .val (.int w12), .val (.int w13), .val (.int cl), u15] [(.int few)])) _
                refine XS.iload X51.here hx rfl (hb hby d_p8_m5_304) rfl ?_
                exact k
              refine Go.callS X51 hx hZ (W := 0) (argsL := [(.int few), (.int w12)]) (rest := []) hown (wd hw 75 rfl) (wd hw 76 rfl) (wd hw 73 rfl) (wd hw 77 rfl) (by decide) (ct_min l Z a0 hw  few w12 h51 n0 O ) e51 (by rw [hml]; rfl) (lenOf pd__II_I_420 rfl) rfl rfl (hb hby d_p8_m5_306) (by decide) (by decide) (by decide) (by decide) ?_
              intro v52 T52 h52 L52 X52 e52 q52
              obtain ⟨rfl, N52, rfl⟩ := q52
              replace N52 := Fr.app N51 N52
              show Go p e below _ T52 (mkF m 309 #[.val (.ref b), .val (.int x), .val (.int (rd + (1 : Int32))), .val (.int tq), .val (.ref (aC + 1 + ((rd + (1 : Int32)) - (1 : Int32)).toNatClampNeg)), .val (.ref (aC + 1 + (rd + (1 : Int32)).toNatClampNeg)), .val (.int (mxM (1 : Int32) ((rd + (1 : Int32)) - lim))), .val (.int (mnM (lenI src) ((rd + (1 : Int32)) + lim))), .val (.int few), .val (.int j), .val (.int q), .val (.int c11), .val (.int w12), .val (.int w13), .val (.int cl), u15] [(.int (mnM few w12))])
              refine Go.by (T' := T52) (g' := (mkF m 137 #[.val (.ref b), .val (.int x), .val (.int (rd + (1 : Int32))), .val (.int tq), .val (.ref (aC + 1 + ((rd + (1 : Int32)) - (1 : Int32)).toNatClampNeg)), .val (.ref (aC + 1 + (rd + (1 : Int32)).toNatClampNeg)), .val (.int (mxM (1 : Int32) ((rd + (1 : Int32)) - lim))), .val (.int (mnM (lenI src) ((rd + (1 : Int32)) + lim))), .val (.int (mnM few w12)), .val (.int (j + (1 : Int32))), .val (.int q), .val (.int c11), .val (.int w12), .val (.int w13), .val (.int cl), u15] [])) (fun t k => ?_) ?_
              · show Steps p.tables e below (T52.setTop (mkF m 309 #[.val (.ref b), .val (.int x), .val (.int (rd + (1 : Int32))), .val (.int tq), .val (.ref (aC + 1 + ((rd + (1 : Int32)) - (1 : Int32)).toNatClampNeg)), .val (.ref (aC + 1 + (rd + (1 : Int32)).toNatClampNeg)), .val (.int (mxM (1 : Int32) ((rd + (1 : Int32)) - lim))), .val (.int (mnM (lenI src) ((rd + (1 : Int32)) + lim))), .val (.int few), .val (.int j), .val (.int q), .val (.int c11), .val (.int w12), .val (.int w13), .val (.int cl), u15] [(.int (mnM few w12))])) _
                refine XS.istore X52.here hx rfl (hb hby d_p8_m5_309) rfl (l' := #[.val (.ref b), .val (.int x), .val (.int (rd + (1 : Int32))), .val (.int tq), .val (.ref (aC + 1 + ((rd + (1 : Int32)) - (1 : Int32)).toNatClampNeg)), .val (.ref (aC + 1 + (rd + (1 : Int32)).toNatClampNeg)), .val (.int (mxM (1 : Int32) ((rd + (1 : Int32)) - lim))), .val (.int (mnM (lenI src) ((rd + (1 : Int32)) + lim))), .val (.int (mnM few w12)), .val (.int j), .val (.int q), .val (.int c11), .val (.int w12), .val (.int w13), .val (.int cl), u15]) rfl ?_
                show Steps p.tables e below (T52.setTop (mkF m 311 #[.val (.ref b), .val (.int x), .val (.int (rd + (1 : Int32))), .val (.int tq), .val (.ref (aC + 1 + ((rd + (1 : Int32)) - (1 : Int32)).toNatClampNeg)), .val (.ref (aC + 1 + (rd + (1 : Int32)).toNatClampNeg)), .val (.int (mxM (1 : Int32) ((rd + (1 : Int32)) - lim))), .val (.int (mnM (lenI src) ((rd + (1 : Int32)) + lim))), .val (.int (mnM few w12)), .val (.int j), .val (.int q), .val (.int c11), .val (.int w12), .val (.int w13), .val (.int cl), u15] [])) _
                refine XS.iinc X52.here hx rfl (hb hby d_p8_m5_311) rfl (l' := #[.val (.ref b), .val (.int x), .val (.int (rd + (1 : Int32))), .val (.int tq), .val (.ref (aC + 1 + ((rd + (1 : Int32)) - (1 : Int32)).toNatClampNeg)), .val (.ref (aC + 1 + (rd + (1 : Int32)).toNatClampNeg)), .val (.int (mxM (1 : Int32) ((rd + (1 : Int32)) - lim))), .val (.int (mnM (lenI src) ((rd + (1 : Int32)) + lim))), .val (.int (mnM few w12)), .val (.int (j + (1 : Int32))), .val (.int q), .val (.int c11), .val (.int w12), .val (.int w13), .val (.int cl), u15]) rfl ?_
                show Steps p.tables e below (T52.setTop (mkF m 314 #[.val (.ref b), .val (.int x), .val (.int (rd + (1 : Int32))), .val (.int tq), .val (.ref (aC + 1 + ((rd + (1 : Int32)) - (1 : Int32)).toNatClampNeg)), .val (.ref (aC + 1 + (rd + (1 : Int32)).toNatClampNeg)), .val (.int (mxM (1 : Int32) ((rd + (1 : Int32)) - lim))), .val (.int (mnM (lenI src) ((rd + (1 : Int32)) + lim))), .val (.int (mnM few w12)), .val (.int (j + (1 : Int32))), .val (.int q), .val (.int c11), .val (.int w12), .val (.int w13), .val (.int cl), u15] [])) _
                refine XS.goto X52.here hx rfl (pc0 := 314) (pc' := 137) rfl (hb hby d_p8_m5_314) (by decide) (by decide) ?_
                exact k
              exact ih19 _ _ _ _ _ _ _ _ _ _ _ _ X52 e52 O N52 K E_b F_source F_limit F_sourceLetters F_distinct F_lastRowBefore F_columns F_fewest F_targetLetters F_lastColumn F_replacedColumn F_read I_aS I_aL I_aD G_aR G_aC I_aF I_aT I_aX I_aP hn_aR hn_aC (SVi _) (SVi _) (SVi _) (SVi _) (SVi _) hu15 H
            by_cases hy53 : (0 : Int32) < w13
            · skip
              replace hbest := (if_pos hy53).symm.trans hbest
              refine Go.by (T' := T48) (g' := (mkF m 235 #[.val (.ref b), .val (.int x), .val (.int (rd + (1 : Int32))), .val (.int tq), .val (.ref (aC + 1 + ((rd + (1 : Int32)) - (1 : Int32)).toNatClampNeg)), .val (.ref (aC + 1 + (rd + (1 : Int32)).toNatClampNeg)), .val (.int (mxM (1 : Int32) ((rd + (1 : Int32)) - lim))), .val (.int (mnM (lenI src) ((rd + (1 : Int32)) + lim))), .val (.int few), .val (.int j), .val (.int q), .val (.int c11), .val (.int (mnM (x1 + c11) (mnM (x2 + (1 : Int32)) (x3 + (1 : Int32))))), .val (.int w13), .val (.int cl), s15] [(.int cl)])) (fun t k => ?_) ?_
              · show Steps p.tables e below (T48.setTop (mkF m 230 #[.val (.ref b), .val (.int x), .val (.int (rd + (1 : Int32))), .val (.int tq), .val (.ref (aC + 1 + ((rd + (1 : Int32)) - (1 : Int32)).toNatClampNeg)), .val (.ref (aC + 1 + (rd + (1 : Int32)).toNatClampNeg)), .val (.int (mxM (1 : Int32) ((rd + (1 : Int32)) - lim))), .val (.int (mnM (lenI src) ((rd + (1 : Int32)) + lim))), .val (.int few), .val (.int j), .val (.int q), .val (.int c11), .val (.int (mnM (x1 + c11) (mnM (x2 + (1 : Int32)) (x3 + (1 : Int32))))), .val (.int w13), .val (.int cl), s15] [(.int w13)])) _
                refine XS.ifNo X48.here hx rfl (hb hby d_p8_m5_230) rfl ((if0 _ _).trans (tlt hy53).2.2.2) ?_
                show Steps p.tables e below (T48.setTop (mkF m 233 #[.val (.ref b), .val (.int x), .val (.int (rd + (1 : Int32))), .val (.int tq), .val (.ref (aC + 1 + ((rd + (1 : Int32)) - (1 : Int32)).toNatClampNeg)), .val (.ref (aC + 1 + (rd + (1 : Int32)).toNatClampNeg)), .val (.int (mxM (1 : Int32) ((rd + (1 : Int32)) - lim))), .val (.int (mnM (lenI src) ((rd + (1 : Int32)) + lim))), .val (.int few), .val (.int j), .val (.int q), .val (.int c11), .val (.int (mnM (x1 + c11) (mnM (x2 + (1 : Int32)) (x3 + (1 : Int32))))), .val (.int w13), .val (.int cl), s15] [])) _
                refine XS.iload X48.here hx rfl (hb hby d_p8_m5_233) rfl ?_
                exact k
              by_cases hy54 : (0 : Int32) < cl
              · skip
                replace hbest := (if_pos hy54).symm.trans hbest
                refine Go.by (T' := T48) (g' := (mkF m 243 #[.val (.ref b), .val (.int x), .val (.int (rd + (1 : Int32))), .val (.int tq), .val (.ref (aC + 1 + ((rd + (1 : Int32)) - (1 : Int32)).toNatClampNeg)), .val (.ref (aC + 1 + (rd + (1 : Int32)).toNatClampNeg)), .val (.int (mxM (1 : Int32) ((rd + (1 : Int32)) - lim))), .val (.int (mnM (lenI src) ((rd + (1 : Int32)) + lim))), .val (.int few), .val (.int j), .val (.int q), .val (.int c11), .val (.int (mnM (x1 + c11) (mnM (x2 + (1 : Int32)) (x3 + (1 : Int32))))), .val (.int w13), .val (.int cl), s15] [(.int (w13 - cl))])) (fun t k => ?_) ?_
                · show Steps p.tables e below (T48.setTop (mkF m 235 #[.val (.ref b), .val (.int x), .val (.int (rd + (1 : Int32))), .val (.int tq), .val (.ref (aC + 1 + ((rd + (1 : Int32)) - (1 : Int32)).toNatClampNeg)), .val (.ref (aC + 1 + (rd + (1 : Int32)).toNatClampNeg)), .val (.int (mxM (1 : Int32) ((rd + (1 : Int32)) - lim))), .val (.int (mnM (lenI src) ((rd + (1 : Int32)) + lim))), .val (.int few), .val (.int j), .val (.int q), .val (.int c11), .val (.int (mnM (x1 + c11) (mnM (x2 + (1 : Int32)) (x3 + (1 : Int32))))), .val (.int w13), .val (.int cl), s15] [(.int cl)])) _
                  refine XS.ifNo X48.here hx rfl (hb hby d_p8_m5_235) rfl ((if0 _ _).trans (tlt hy54).2.2.2) ?_
                  show Steps p.tables e below (T48.setTop (mkF m 238 #[.val (.ref b), .val (.int x), .val (.int (rd + (1 : Int32))), .val (.int tq), .val (.ref (aC + 1 + ((rd + (1 : Int32)) - (1 : Int32)).toNatClampNeg)), .val (.ref (aC + 1 + (rd + (1 : Int32)).toNatClampNeg)), .val (.int (mxM (1 : Int32) ((rd + (1 : Int32)) - lim))), .val (.int (mnM (lenI src) ((rd + (1 : Int32)) + lim))), .val (.int few), .val (.int j), .val (.int q), .val (.int c11), .val (.int (mnM (x1 + c11) (mnM (x2 + (1 : Int32)) (x3 + (1 : Int32))))), .val (.int w13), .val (.int cl), s15] [])) _
                  refine XS.iload X48.here hx rfl (hb hby d_p8_m5_238) rfl ?_
                  show Steps p.tables e below (T48.setTop (mkF m 240 #[.val (.ref b), .val (.int x), .val (.int (rd + (1 : Int32))), .val (.int tq), .val (.ref (aC + 1 + ((rd + (1 : Int32)) - (1 : Int32)).toNatClampNeg)), .val (.ref (aC + 1 + (rd + (1 : Int32)).toNatClampNeg)), .val (.int (mxM (1 : Int32) ((rd + (1 : Int32)) - lim))), .val (.int (mnM (lenI src) ((rd + (1 : Int32)) + lim))), .val (.int few), .val (.int j), .val (.int q), .val (.int c11), .val (.int (mnM (x1 + c11) (mnM (x2 + (1 : Int32)) (x3 + (1 : Int32))))), .val (.int w13), .val (.int cl), s15] [(.int w13)])) _
                  refine XS.iload X48.here hx rfl (hb hby d_p8_m5_240) rfl ?_
                  show Steps p.tables e below (T48.setTop (mkF m 242 #[.val (.ref b), .val (.int x), .val (.int (rd + (1 : Int32))), .val (.int tq), .val (.ref (aC + 1 + ((rd + (1 : Int32)) - (1 : Int32)).toNatClampNeg)), .val (.ref (aC + 1 + (rd + (1 : Int32)).toNatClampNeg)), .val (.int (mxM (1 : Int32) ((rd + (1 : Int32)) - lim))), .val (.int (mnM (lenI src) ((rd + (1 : Int32)) + lim))), .val (.int few), .val (.int j), .val (.int q), .val (.int c11), .val (.int (mnM (x1 + c11) (mnM (x2 + (1 : Int32)) (x3 + (1 : Int32))))), .val (.int w13), .val (.int cl), s15] [(.int cl), (.int w13)])) _
                  refine XS.isub X48.here hx rfl (hb hby d_p8_m5_242) rfl ?_
                  exact k
                refine Go.callS X48 hx hZ (W := 0) (argsL := [(.int (w13 - cl))]) (rest := []) hown (wd hw 91 rfl) (wd hw 92 rfl) (wd hw 73 rfl) (wd hw 93 rfl) (by decide) (ct_abs l Z a0 hw  (w13 - cl) h47 n0 O ) e48 (by rw [hml]; rfl) (lenOf pd__I_I_7763 rfl) rfl rfl (hb hby d_p8_m5_243) (by decide) (by decide) (by decide) (by decide) ?_
                intro v55 T55 h55 L55 X55 e55 q55
                obtain ⟨rfl, N55, rfl⟩ := q55
                replace N55 := Fr.app N47 N55
                show Go p e below _ T55 (mkF m 246 #[.val (.ref b), .val (.int x), .val (.int (rd + (1 : Int32))), .val (.int tq), .val (.ref (aC + 1 + ((rd + (1 : Int32)) - (1 : Int32)).toNatClampNeg)), .val (.ref (aC + 1 + (rd + (1 : Int32)).toNatClampNeg)), .val (.int (mxM (1 : Int32) ((rd + (1 : Int32)) - lim))), .val (.int (mnM (lenI src) ((rd + (1 : Int32)) + lim))), .val (.int few), .val (.int j), .val (.int q), .val (.int c11), .val (.int (mnM (x1 + c11) (mnM (x2 + (1 : Int32)) (x3 + (1 : Int32))))), .val (.int w13), .val (.int cl), s15] [(.int (abM (w13 - cl)))])
                refine Go.by (T' := T55) (g' := (mkF m 247 #[.val (.ref b), .val (.int x), .val (.int (rd + (1 : Int32))), .val (.int tq), .val (.ref (aC + 1 + ((rd + (1 : Int32)) - (1 : Int32)).toNatClampNeg)), .val (.ref (aC + 1 + (rd + (1 : Int32)).toNatClampNeg)), .val (.int (mxM (1 : Int32) ((rd + (1 : Int32)) - lim))), .val (.int (mnM (lenI src) ((rd + (1 : Int32)) + lim))), .val (.int few), .val (.int j), .val (.int q), .val (.int c11), .val (.int (mnM (x1 + c11) (mnM (x2 + (1 : Int32)) (x3 + (1 : Int32))))), .val (.int w13), .val (.int cl), s15] [(.ref b), (.int (abM (w13 - cl)))])) (fun t k => ?_) ?_
                · show Steps p.tables e below (T55.setTop (mkF m 246 #[.val (.ref b), .val (.int x), .val (.int (rd + (1 : Int32))), .val (.int tq), .val (.ref (aC + 1 + ((rd + (1 : Int32)) - (1 : Int32)).toNatClampNeg)), .val (.ref (aC + 1 + (rd + (1 : Int32)).toNatClampNeg)), .val (.int (mxM (1 : Int32) ((rd + (1 : Int32)) - lim))), .val (.int (mnM (lenI src) ((rd + (1 : Int32)) + lim))), .val (.int few), .val (.int j), .val (.int q), .val (.int c11), .val (.int (mnM (x1 + c11) (mnM (x2 + (1 : Int32)) (x3 + (1 : Int32))))), .val (.int w13), .val (.int cl), s15] [(.int (abM (w13 - cl)))])) _
                  refine XS.aloadN X55.here hx rfl (hb hby d_p8_m5_246) rfl rfl ?_
                  exact k
                refine Go.getF X55 hx hZ hown (wd hw 21 rfl) Via.refl e55 F_limit (hb hby d_p8_m5_247) ?_
                intro T56 X56 e56
                show Go p e below _ T56 (mkF m 250 #[.val (.ref b), .val (.int x), .val (.int (rd + (1 : Int32))), .val (.int tq), .val (.ref (aC + 1 + ((rd + (1 : Int32)) - (1 : Int32)).toNatClampNeg)), .val (.ref (aC + 1 + (rd + (1 : Int32)).toNatClampNeg)), .val (.int (mxM (1 : Int32) ((rd + (1 : Int32)) - lim))), .val (.int (mnM (lenI src) ((rd + (1 : Int32)) + lim))), .val (.int few), .val (.int j), .val (.int q), .val (.int c11), .val (.int (mnM (x1 + c11) (mnM (x2 + (1 : Int32)) (x3 + (1 : Int32))))), .val (.int w13), .val (.int cl), s15] [(.int lim), (.int (abM (w13 - cl)))])
                by_cases hy57 : lim < (abM (w13 - cl))
                · skip
                  replace hbest := (if_pos hy57).symm.trans hbest
                  refine Go.by (T' := T56) (g' := (mkF m 295 #[.val (.ref b), .val (.int x), .val (.int (rd + (1 : Int32))), .val (.int tq), .val (.ref (aC + 1 + ((rd + (1 : Int32)) - (1 : Int32)).toNatClampNeg)), .val (.ref (aC + 1 + (rd + (1 : Int32)).toNatClampNeg)), .val (.int (mxM (1 : Int32) ((rd + (1 : Int32)) - lim))), .val (.int (mnM (lenI src) ((rd + (1 : Int32)) + lim))), .val (.int few), .val (.int j), .val (.int q), .val (.int c11), .val (.int (mnM (x1 + c11) (mnM (x2 + (1 : Int32)) (x3 + (1 : Int32))))), .val (.int w13), .val (.int cl), s15] [])) (fun t k => ?_) ?_
                  · show Steps p.tables e below (T56.setTop (mkF m 250 #[.val (.ref b), .val (.int x), .val (.int (rd + (1 : Int32))), .val (.int tq), .val (.ref (aC + 1 + ((rd + (1 : Int32)) - (1 : Int32)).toNatClampNeg)), .val (.ref (aC + 1 + (rd + (1 : Int32)).toNatClampNeg)), .val (.int (mxM (1 : Int32) ((rd + (1 : Int32)) - lim))), .val (.int (mnM (lenI src) ((rd + (1 : Int32)) + lim))), .val (.int few), .val (.int j), .val (.int q), .val (.int c11), .val (.int (mnM (x1 + c11) (mnM (x2 + (1 : Int32)) (x3 + (1 : Int32))))), .val (.int w13), .val (.int cl), s15] [(.int lim), (.int (abM (w13 - cl)))])) _
                    refine XS.icmpYes X56.here hx rfl (pc0 := 250) (pc' := 295) rfl (hb hby d_p8_m5_250) rfl (tlt hy57).2.2.1 (by decide) (by decide) ?_
                    exact k
                  exact J49 _ _ _ _ _ X56 e56 O N55 K E_b F_source F_limit F_sourceLetters F_distinct F_lastRowBefore F_columns F_fewest F_targetLetters F_lastColumn F_replacedColumn F_read I_aS I_aL I_aD G_aR G_aC I_aF I_aT I_aX I_aP hn_aR hn_aC (Option.some.inj hbest) hs15
                · skip
                  replace hbest := (if_neg hy57).symm.trans hbest
                  refine Go.by (T' := T56) (g' := (mkF m 254 #[.val (.ref b), .val (.int x), .val (.int (rd + (1 : Int32))), .val (.int tq), .val (.ref (aC + 1 + ((rd + (1 : Int32)) - (1 : Int32)).toNatClampNeg)), .val (.ref (aC + 1 + (rd + (1 : Int32)).toNatClampNeg)), .val (.int (mxM (1 : Int32) ((rd + (1 : Int32)) - lim))), .val (.int (mnM (lenI src) ((rd + (1 : Int32)) + lim))), .val (.int few), .val (.int j), .val (.int q), .val (.int c11), .val (.int (mnM (x1 + c11) (mnM (x2 + (1 : Int32)) (x3 + (1 : Int32))))), .val (.int w13), .val (.int cl), s15] [(.ref b)])) (fun t k => ?_) ?_
                  · show Steps p.tables e below (T56.setTop (mkF m 250 #[.val (.ref b), .val (.int x), .val (.int (rd + (1 : Int32))), .val (.int tq), .val (.ref (aC + 1 + ((rd + (1 : Int32)) - (1 : Int32)).toNatClampNeg)), .val (.ref (aC + 1 + (rd + (1 : Int32)).toNatClampNeg)), .val (.int (mxM (1 : Int32) ((rd + (1 : Int32)) - lim))), .val (.int (mnM (lenI src) ((rd + (1 : Int32)) + lim))), .val (.int few), .val (.int j), .val (.int q), .val (.int c11), .val (.int (mnM (x1 + c11) (mnM (x2 + (1 : Int32)) (x3 + (1 : Int32))))), .val (.int w13), .val (.int cl), s15] [(.int lim), (.int (abM (w13 - cl)))])) _
                    refine XS.icmpNo X56.here hx rfl (hb hby d_p8_m5_250) rfl (flt hy57).2.2.1 ?_
                    show Steps p.tables e below (T56.setTop (mkF m 253 #[.val (.ref b), .val (.int x), .val (.int (rd + (1 : Int32))), .val (.int tq), .val (.ref (aC + 1 + ((rd + (1 : Int32)) - (1 : Int32)).toNatClampNeg)), .val (.ref (aC + 1 + (rd + (1 : Int32)).toNatClampNeg)), .val (.int (mxM (1 : Int32) ((rd + (1 : Int32)) - lim))), .val (.int (mnM (lenI src) ((rd + (1 : Int32)) + lim))), .val (.int few), .val (.int j), .val (.int q), .val (.int c11), .val (.int (mnM (x1 + c11) (mnM (x2 + (1 : Int32)) (x3 + (1 : Int32))))), .val (.int w13), .val (.int cl), s15] [])) _
                    refine XS.aloadN X56.here hx rfl (hb hby d_p8_m5_253) rfl rfl ?_
                    exact k
                  refine Go.getF X56 hx hZ hown (wd hw 42 rfl) Via.refl e56 F_columns (hb hby d_p8_m5_254) ?_
                  intro T58 X58 e58
                  show Go p e below _ T58 (mkF m 257 #[.val (.ref b), .val (.int x), .val (.int (rd + (1 : Int32))), .val (.int tq), .val (.ref (aC + 1 + ((rd + (1 : Int32)) - (1 : Int32)).toNatClampNeg)), .val (.ref (aC + 1 + (rd + (1 : Int32)).toNatClampNeg)), .val (.int (mxM (1 : Int32) ((rd + (1 : Int32)) - lim))), .val (.int (mnM (lenI src) ((rd + (1 : Int32)) + lim))), .val (.int few), .val (.int j), .val (.int q), .val (.int c11), .val (.int (mnM (x1 + c11) (mnM (x2 + (1 : Int32)) (x3 + (1 : Int32))))), .val (.int w13), .val (.int cl), s15] [(.ref aC)])
                  refine Go.by (T' := T58) (g' := (mkF m 261 #[.val (.ref b), .val (.int x), .val (.int (rd + (1 : Int32))), .val (.int tq), .val (.ref (aC + 1 + ((rd + (1 : Int32)) - (1 : Int32)).toNatClampNeg)), .val (.ref (aC + 1 + (rd + (1 : Int32)).toNatClampNeg)), .val (.int (mxM (1 : Int32) ((rd + (1 : Int32)) - lim))), .val (.int (mnM (lenI src) ((rd + (1 : Int32)) + lim))), .val (.int few), .val (.int j), .val (.int q), .val (.int c11), .val (.int (mnM (x1 + c11) (mnM (x2 + (1 : Int32)) (x3 + (1 : Int32))))), .val (.int w13), .val (.int cl), s15] [(.int (cl - (1 : Int32))), (.ref aC)])) (fun t k => ?_) ?_
                  · show Steps p.tables e below (T58.setTop (mkF m 257 #[.val (.ref b), .val (.int x), .val (.int (rd + (1 : Int32))), .val (.int tq), .val (.ref (aC + 1 + ((rd + (1 : Int32)) - (1 : Int32)).toNatClampNeg)), .val (.ref (aC + 1 + (rd + (1 : Int32)).toNatClampNeg)), .val (.int (mxM (1 : Int32) ((rd + (1 : Int32)) - lim))), .val (.int (mnM (lenI src) ((rd + (1 : Int32)) + lim))), .val (.int few), .val (.int j), .val (.int q), .val (.int c11), .val (.int (mnM (x1 + c11) (mnM (x2 + (1 : Int32)) (x3 + (1 : Int32))))), .val (.int w13), .val (.int cl), s15] [(.ref aC)])) _
                    refine XS.iload X58.here hx rfl (hb hby d_p8_m5_257) rfl ?_
                    show Steps p.tables e below (T58.setTop (mkF m 259 #[.val (.ref b), .val (.int x), .val (.int (rd + (1 : Int32))), .val (.int tq), .val (.ref (aC + 1 + ((rd + (1 : Int32)) - (1 : Int32)).toNatClampNeg)), .val (.ref (aC + 1 + (rd + (1 : Int32)).toNatClampNeg)), .val (.int (mxM (1 : Int32) ((rd + (1 : Int32)) - lim))), .val (.int (mnM (lenI src) ((rd + (1 : Int32)) + lim))), .val (.int few), .val (.int j), .val (.int q), .val (.int c11), .val (.int (mnM (x1 + c11) (mnM (x2 + (1 : Int32)) (x3 + (1 : Int32))))), .val (.int w13), .val (.int cl), s15] [(.int cl), (.ref aC)])) _
                    refine XS.iconst X58.here hx rfl (hb hby d_p8_m5_259) ?_
                    show Steps p.tables e below (T58.setTop (mkF m 260 #[.val (.ref b), .val (.int x), .val (.int (rd + (1 : Int32))), .val (.int tq), .val (.ref (aC + 1 + ((rd + (1 : Int32)) - (1 : Int32)).toNatClampNeg)), .val (.ref (aC + 1 + (rd + (1 : Int32)).toNatClampNeg)), .val (.int (mxM (1 : Int32) ((rd + (1 : Int32)) - lim))), .val (.int (mnM (lenI src) ((rd + (1 : Int32)) + lim))), .val (.int few), .val (.int j), .val (.int q), .val (.int c11), .val (.int (mnM (x1 + c11) (mnM (x2 + (1 : Int32)) (x3 + (1 : Int32))))), .val (.int w13), .val (.int cl), s15] [(.int (1 : Int32)), (.int cl), (.ref aC)])) _
                    refine XS.isub X58.here hx rfl (hb hby d_p8_m5_260) rfl ?_
                    exact k
                  obtain ⟨_, hv59, hbest⟩ := ob hbest
                  refine Go.gaL X58 hx hZ e58 G_aC (j := (cl - (1 : Int32))) hv59 (hb hby d_p8_m5_261) ?_
                  show Go p e below _ T58 (mkF m 262 #[.val (.ref b), .val (.int x), .val (.int (rd + (1 : Int32))), .val (.int tq), .val (.ref (aC + 1 + ((rd + (1 : Int32)) - (1 : Int32)).toNatClampNeg)), .val (.ref (aC + 1 + (rd + (1 : Int32)).toNatClampNeg)), .val (.int (mxM (1 : Int32) ((rd + (1 : Int32)) - lim))), .val (.int (mnM (lenI src) ((rd + (1 : Int32)) + lim))), .val (.int few), .val (.int j), .val (.int q), .val (.int c11), .val (.int (mnM (x1 + c11) (mnM (x2 + (1 : Int32)) (x3 + (1 : Int32))))), .val (.int w13), .val (.int cl), s15] [(.ref (aC + 1 + (cl - (1 : Int32)).toNatClampNeg))])
                  refine Go.by (T' := T58) (g' := (mkF m 266 #[.val (.ref b), .val (.int x), .val (.int (rd + (1 : Int32))), .val (.int tq), .val (.ref (aC + 1 + ((rd + (1 : Int32)) - (1 : Int32)).toNatClampNeg)), .val (.ref (aC + 1 + (rd + (1 : Int32)).toNatClampNeg)), .val (.int (mxM (1 : Int32) ((rd + (1 : Int32)) - lim))), .val (.int (mnM (lenI src) ((rd + (1 : Int32)) + lim))), .val (.int few), .val (.int j), .val (.int q), .val (.int c11), .val (.int (mnM (x1 + c11) (mnM (x2 + (1 : Int32)) (x3 + (1 : Int32))))), .val (.int w13), .val (.int cl), s15] [(.int (w13 - (1 : Int32))), (.ref (aC + 1 + (cl - (1 : Int32)).toNatClampNeg))])) (fun t k => ?_) ?_
                  · show Steps p.tables e below (T58.setTop (mkF m 262 #[.val (.ref b), .val (.int x), .val (.int (rd + (1 : Int32))), .val (.int tq), .val (.ref (aC + 1 + ((rd + (1 : Int32)) - (1 : Int32)).toNatClampNeg)), .val (.ref (aC + 1 + (rd + (1 : Int32)).toNatClampNeg)), .val (.int (mxM (1 : Int32) ((rd + (1 : Int32)) - lim))), .val (.int (mnM (lenI src) ((rd + (1 : Int32)) + lim))), .val (.int few), .val (.int j), .val (.int q), .val (.int c11), .val (.int (mnM (x1 + c11) (mnM (x2 + (1 : Int32)) (x3 + (1 : Int32))))), .val (.int w13), .val (.int cl), s15] [(.ref (aC + 1 + (cl - (1 : Int32)).toNatClampNeg))])) _
                    refine XS.iload X58.here hx rfl (hb hby d_p8_m5_262) rfl ?_
                    show Steps p.tables e below (T58.setTop (mkF m 264 #[.val (.ref b), .val (.int x), .val (.int (rd + (1 : Int32))), .val (.int tq), .val (.ref (aC + 1 + ((rd + (1 : Int32)) - (1 : Int32)).toNatClampNeg)), .val (.ref (aC + 1 + (rd + (1 : Int32)).toNatClampNeg)), .val (.int (mxM (1 : Int32) ((rd + (1 : Int32)) - lim))), .val (.int (mnM (lenI src) ((rd + (1 : Int32)) + lim))), .val (.int few), .val (.int j), .val (.int q), .val (.int c11), .val (.int (mnM (x1 + c11) (mnM (x2 + (1 : Int32)) (x3 + (1 : Int32))))), .val (.int w13), .val (.int cl), s15] [(.int w13), (.ref (aC + 1 + (cl - (1 : Int32)).toNatClampNeg))])) _
                    refine XS.iconst X58.here hx rfl (hb hby d_p8_m5_264) ?_
                    show Steps p.tables e below (T58.setTop (mkF m 265 #[.val (.ref b), .val (.int x), .val (.int (rd + (1 : Int32))), .val (.int tq), .val (.ref (aC + 1 + ((rd + (1 : Int32)) - (1 : Int32)).toNatClampNeg)), .val (.ref (aC + 1 + (rd + (1 : Int32)).toNatClampNeg)), .val (.int (mxM (1 : Int32) ((rd + (1 : Int32)) - lim))), .val (.int (mnM (lenI src) ((rd + (1 : Int32)) + lim))), .val (.int few), .val (.int j), .val (.int q), .val (.int c11), .val (.int (mnM (x1 + c11) (mnM (x2 + (1 : Int32)) (x3 + (1 : Int32))))), .val (.int w13), .val (.int cl), s15] [(.int (1 : Int32)), (.int w13), (.ref (aC + 1 + (cl - (1 : Int32)).toNatClampNeg))])) _
                    refine XS.isub X58.here hx rfl (hb hby d_p8_m5_265) rfl ?_
                    exact k
                  obtain ⟨y, hv_y, hbest⟩ := ob hbest
                  refine Go.g2L X58 hx hZ e58 G_aC (j := (cl - (1 : Int32))) (i := (w13 - (1 : Int32))) hv_y (hb hby d_p8_m5_266) ?_
                  show Go p e below _ T58 (mkF m 267 #[.val (.ref b), .val (.int x), .val (.int (rd + (1 : Int32))), .val (.int tq), .val (.ref (aC + 1 + ((rd + (1 : Int32)) - (1 : Int32)).toNatClampNeg)), .val (.ref (aC + 1 + (rd + (1 : Int32)).toNatClampNeg)), .val (.int (mxM (1 : Int32) ((rd + (1 : Int32)) - lim))), .val (.int (mnM (lenI src) ((rd + (1 : Int32)) + lim))), .val (.int few), .val (.int j), .val (.int q), .val (.int c11), .val (.int (mnM (x1 + c11) (mnM (x2 + (1 : Int32)) (x3 + (1 : Int32))))), .val (.int w13), .val (.int cl), s15] [(.int y)])
                  refine Go.by (T' := T58) (g' := (mkF m 290 #[.val (.ref b), .val (.int x), .val (.int (rd + (1 : Int32))), .val (.int tq), .val (.ref (aC + 1 + ((rd + (1 : Int32)) - (1 : Int32)).toNatClampNeg)), .val (.ref (aC + 1 + (rd + (1 : Int32)).toNatClampNeg)), .val (.int (mxM (1 : Int32) ((rd + (1 : Int32)) - lim))), .val (.int (mnM (lenI src) ((rd + (1 : Int32)) + lim))), .val (.int few), .val (.int j), .val (.int q), .val (.int c11), .val (.int (mnM (x1 + c11) (mnM (x2 + (1 : Int32)) (x3 + (1 : Int32))))), .val (.int w13), .val (.int cl), .val (.int (((y + ((j - w13) - (1 : Int32))) + (1 : Int32)) + (((rd + (1 : Int32)) - cl) - (1 : Int32))))] [(.int (((y + ((j - w13) - (1 : Int32))) + (1 : Int32)) + (((rd + (1 : Int32)) - cl) - (1 : Int32)))), (.int (mnM (x1 + c11) (mnM (x2 + (1 : Int32)) (x3 + (1 : Int32)))))])) (fun t k => ?_) ?_
                  · show Steps p.tables e below (T58.setTop (mkF m 267 #[.val (.ref b), .val (.int x), .val (.int (rd + (1 : Int32))), .val (.int tq), .val (.ref (aC + 1 + ((rd + (1 : Int32)) - (1 : Int32)).toNatClampNeg)), .val (.ref (aC + 1 + (rd + (1 : Int32)).toNatClampNeg)), .val (.int (mxM (1 : Int32) ((rd + (1 : Int32)) - lim))), .val (.int (mnM (lenI src) ((rd + (1 : Int32)) + lim))), .val (.int few), .val (.int j), .val (.int q), .val (.int c11), .val (.int (mnM (x1 + c11) (mnM (x2 + (1 : Int32)) (x3 + (1 : Int32))))), .val (.int w13), .val (.int cl), s15] [(.int y)])) _
                    refine XS.iload X58.here hx rfl (hb hby d_p8_m5_267) rfl ?_
                    show Steps p.tables e below (T58.setTop (mkF m 269 #[.val (.ref b), .val (.int x), .val (.int (rd + (1 : Int32))), .val (.int tq), .val (.ref (aC + 1 + ((rd + (1 : Int32)) - (1 : Int32)).toNatClampNeg)), .val (.ref (aC + 1 + (rd + (1 : Int32)).toNatClampNeg)), .val (.int (mxM (1 : Int32) ((rd + (1 : Int32)) - lim))), .val (.int (mnM (lenI src) ((rd + (1 : Int32)) + lim))), .val (.int few), .val (.int j), .val (.int q), .val (.int c11), .val (.int (mnM (x1 + c11) (mnM (x2 + (1 : Int32)) (x3 + (1 : Int32))))), .val (.int w13), .val (.int cl), s15] [(.int j), (.int y)])) _
                    refine XS.iload X58.here hx rfl (hb hby d_p8_m5_269) rfl ?_
                    show Steps p.tables e below (T58.setTop (mkF m 271 #[.val (.ref b), .val (.int x), .val (.int (rd + (1 : Int32))), .val (.int tq), .val (.ref (aC + 1 + ((rd + (1 : Int32)) - (1 : Int32)).toNatClampNeg)), .val (.ref (aC + 1 + (rd + (1 : Int32)).toNatClampNeg)), .val (.int (mxM (1 : Int32) ((rd + (1 : Int32)) - lim))), .val (.int (mnM (lenI src) ((rd + (1 : Int32)) + lim))), .val (.int few), .val (.int j), .val (.int q), .val (.int c11), .val (.int (mnM (x1 + c11) (mnM (x2 + (1 : Int32)) (x3 + (1 : Int32))))), .val (.int w13), .val (.int cl), s15] [(.int w13), (.int j), (.int y)])) _
                    refine XS.isub X58.here hx rfl (hb hby d_p8_m5_271) rfl ?_
                    show Steps p.tables e below (T58.setTop (mkF m 272 #[.val (.ref b), .val (.int x), .val (.int (rd + (1 : Int32))), .val (.int tq), .val (.ref (aC + 1 + ((rd + (1 : Int32)) - (1 : Int32)).toNatClampNeg)), .val (.ref (aC + 1 + (rd + (1 : Int32)).toNatClampNeg)), .val (.int (mxM (1 : Int32) ((rd + (1 : Int32)) - lim))), .val (.int (mnM (lenI src) ((rd + (1 : Int32)) + lim))), .val (.int few), .val (.int j), .val (.int q), .val (.int c11), .val (.int (mnM (x1 + c11) (mnM (x2 + (1 : Int32)) (x3 + (1 : Int32))))), .val (.int w13), .val (.int cl), s15] [(.int (j - w13)), (.int y)])) _
                    refine XS.iconst X58.here hx rfl (hb hby d_p8_m5_272) ?_
                    show Steps p.tables e below (T58.setTop (mkF m 273 #[.val (.ref b), .val (.int x), .val (.int (rd + (1 : Int32))), .val (.int tq), .val (.ref (aC + 1 + ((rd + (1 : Int32)) - (1 : Int32)).toNatClampNeg)), .val (.ref (aC + 1 + (rd + (1 : Int32)).toNatClampNeg)), .val (.int (mxM (1 : Int32) ((rd + (1 : Int32)) - lim))), .val (.int (mnM (lenI src) ((rd + (1 : Int32)) + lim))), .val (.int few), .val (.int j), .val (.int q), .val (.int c11), .val (.int (mnM (x1 + c11) (mnM (x2 + (1 : Int32)) (x3 + (1 : Int32))))), .val (.int w13), .val (.int cl), s15] [(.int (1 : Int32)), (.int (j - w13)), (.int y)])) _
                    refine XS.isub X58.here hx rfl (hb hby d_p8_m5_273) rfl ?_
                    show Steps p.tables e below (T58.setTop (mkF m 274 #[.val (.ref b), .val (.int x), .val (.int (rd + (1 : Int32))), .val (.int tq), .val (.ref (aC + 1 + ((rd + (1 : Int32)) - (1 : Int32)).toNatClampNeg)), .val (.ref (aC + 1 + (rd + (1 : Int32)).toNatClampNeg)), .val (.int (mxM (1 : Int32) ((rd + (1 : Int32)) - lim))), .val (.int (mnM (lenI src) ((rd + (1 : Int32)) + lim))), .val (.int few), .val (.int j), .val (.int q), .val (.int c11), .val (.int (mnM (x1 + c11) (mnM (x2 + (1 : Int32)) (x3 + (1 : Int32))))), .val (.int w13), .val (.int cl), s15] [(.int ((j - w13) - (1 : Int32))), (.int y)])) _
                    refine XS.iadd X58.here hx rfl (hb hby d_p8_m5_274) rfl ?_
                    show Steps p.tables e below (T58.setTop (mkF m 275 #[.val (.ref b), .val (.int x), .val (.int (rd + (1 : Int32))), .val (.int tq), .val (.ref (aC + 1 + ((rd + (1 : Int32)) - (1 : Int32)).toNatClampNeg)), .val (.ref (aC + 1 + (rd + (1 : Int32)).toNatClampNeg)), .val (.int (mxM (1 : Int32) ((rd + (1 : Int32)) - lim))), .val (.int (mnM (lenI src) ((rd + (1 : Int32)) + lim))), .val (.int few), .val (.int j), .val (.int q), .val (.int c11), .val (.int (mnM (x1 + c11) (mnM (x2 + (1 : Int32)) (x3 + (1 : Int32))))), .val (.int w13), .val (.int cl), s15] [(.int (y + ((j - w13) - (1 : Int32))))])) _
                    refine XS.iconst X58.here hx rfl (hb hby d_p8_m5_275) ?_
                    show Steps p.tables e below (T58.setTop (mkF m 276 #[.val (.ref b), .val (.int x), .val (.int (rd + (1 : Int32))), .val (.int tq), .val (.ref (aC + 1 + ((rd + (1 : Int32)) - (1 : Int32)).toNatClampNeg)), .val (.ref (aC + 1 + (rd + (1 : Int32)).toNatClampNeg)), .val (.int (mxM (1 : Int32) ((rd + (1 : Int32)) - lim))), .val (.int (mnM (lenI src) ((rd + (1 : Int32)) + lim))), .val (.int few), .val (.int j), .val (.int q), .val (.int c11), .val (.int (mnM (x1 + c11) (mnM (x2 + (1 : Int32)) (x3 + (1 : Int32))))), .val (.int w13), .val (.int cl), s15] [(.int (1 : Int32)), (.int (y + ((j - w13) - (1 : Int32))))])) _
                    refine XS.iadd X58.here hx rfl (hb hby d_p8_m5_276) rfl ?_
                    show Steps p.tables e below (T58.setTop (mkF m 277 #[.val (.ref b), .val (.int x), .val (.int (rd + (1 : Int32))), .val (.int tq), .val (.ref (aC + 1 + ((rd + (1 : Int32)) - (1 : Int32)).toNatClampNeg)), .val (.ref (aC + 1 + (rd + (1 : Int32)).toNatClampNeg)), .val (.int (mxM (1 : Int32) ((rd + (1 : Int32)) - lim))), .val (.int (mnM (lenI src) ((rd + (1 : Int32)) + lim))), .val (.int few), .val (.int j), .val (.int q), .val (.int c11), .val (.int (mnM (x1 + c11) (mnM (x2 + (1 : Int32)) (x3 + (1 : Int32))))), .val (.int w13), .val (.int cl), s15] [(.int ((y + ((j - w13) - (1 : Int32))) + (1 : Int32)))])) _
                    refine XS.iloadN X58.here hx rfl (hb hby d_p8_m5_277) rfl ?_
                    show Steps p.tables e below (T58.setTop (mkF m 278 #[.val (.ref b), .val (.int x), .val (.int (rd + (1 : Int32))), .val (.int tq), .val (.ref (aC + 1 + ((rd + (1 : Int32)) - (1 : Int32)).toNatClampNeg)), .val (.ref (aC + 1 + (rd + (1 : Int32)).toNatClampNeg)), .val (.int (mxM (1 : Int32) ((rd + (1 : Int32)) - lim))), .val (.int (mnM (lenI src) ((rd + (1 : Int32)) + lim))), .val (.int few), .val (.int j), .val (.int q), .val (.int c11), .val (.int (mnM (x1 + c11) (mnM (x2 + (1 : Int32)) (x3 + (1 : Int32))))), .val (.int w13), .val (.int cl), s15] [(.int (rd + (1 : Int32))), (.int ((y + ((j - w13) - (1 : Int32))) + (1 : Int32)))])) _
                    refine XS.iload X58.here hx rfl (hb hby d_p8_m5_278) rfl ?_
                    show Steps p.tables e below (T58.setTop (mkF m 280 #[.val (.ref b), .val (.int x), .val (.int (rd + (1 : Int32))), .val (.int tq), .val (.ref (aC + 1 + ((rd + (1 : Int32)) - (1 : Int32)).toNatClampNeg)), .val (.ref (aC + 1 + (rd + (1 : Int32)).toNatClampNeg)), .val (.int (mxM (1 : Int32) ((rd + (1 : Int32)) - lim))), .val (.int (mnM (lenI src) ((rd + (1 : Int32)) + lim))), .val (.int few), .val (.int j), .val (.int q), .val (.int c11), .val (.int (mnM (x1 + c11) (mnM (x2 + (1 : Int32)) (x3 + (1 : Int32))))), .val (.int w13), .val (.int cl), s15] [(.int cl), (.int (rd + (1 : Int32))), (.int ((y + ((j - w13) - (1 : Int32))) + (1 : Int32)))])) _
                    refine XS.isub X58.here hx rfl (hb hby d_p8_m5_280) rfl ?_
                    show Steps p.tables e below (T58.setTop (mkF m 281 #[.val (.ref b), .val (.int x), .val (.int (rd + (1 : Int32))), .val (.int tq), .val (.ref (aC + 1 + ((rd + (1 : Int32)) - (1 : Int32)).toNatClampNeg)), .val (.ref (aC + 1 + (rd + (1 : Int32)).toNatClampNeg)), .val (.int (mxM (1 : Int32) ((rd + (1 : Int32)) - lim))), .val (.int (mnM (lenI src) ((rd + (1 : Int32)) + lim))), .val (.int few), .val (.int j), .val (.int q), .val (.int c11), .val (.int (mnM (x1 + c11) (mnM (x2 + (1 : Int32)) (x3 + (1 : Int32))))), .val (.int w13), .val (.int cl), s15] [(.int ((rd + (1 : Int32)) - cl)), (.int ((y + ((j - w13) - (1 : Int32))) + (1 : Int32)))])) _
                    refine XS.iconst X58.here hx rfl (hb hby d_p8_m5_281) ?_
                    show Steps p.tables e below (T58.setTop (mkF m 282 #[.val (.ref b), .val (.int x), .val (.int (rd + (1 : Int32))), .val (.int tq), .val (.ref (aC + 1 + ((rd + (1 : Int32)) - (1 : Int32)).toNatClampNeg)), .val (.ref (aC + 1 + (rd + (1 : Int32)).toNatClampNeg)), .val (.int (mxM (1 : Int32) ((rd + (1 : Int32)) - lim))), .val (.int (mnM (lenI src) ((rd + (1 : Int32)) + lim))), .val (.int few), .val (.int j), .val (.int q), .val (.int c11), .val (.int (mnM (x1 + c11) (mnM (x2 + (1 : Int32)) (x3 + (1 : Int32))))), .val (.int w13), .val (.int cl), s15] [(.int (1 : Int32)), (.int ((rd + (1 : Int32)) - cl)), (.int ((y + ((j - w13) - (1 : Int32))) + (1 : Int32)))])) _
                    refine XS.isub X58.here hx rfl (hb hby d_p8_m5_282) rfl ?_
                    show Steps p.tables e below (T58.setTop (mkF m 283 #[.val (.ref b), .val (.int x), .val (.int (rd + (1 : Int32))), .val (.int tq), .val (.ref (aC + 1 + ((rd + (1 : Int32)) - (1 : Int32)).toNatClampNeg)), .val (.ref (aC + 1 + (rd + (1 : Int32)).toNatClampNeg)), .val (.int (mxM (1 : Int32) ((rd + (1 : Int32)) - lim))), .val (.int (mnM (lenI src) ((rd + (1 : Int32)) + lim))), .val (.int few), .val (.int j), .val (.int q), .val (.int c11), .val (.int (mnM (x1 + c11) (mnM (x2 + (1 : Int32)) (x3 + (1 : Int32))))), .val (.int w13), .val (.int cl), s15] [(.int (((rd + (1 : Int32)) - cl) - (1 : Int32))), (.int ((y + ((j - w13) - (1 : Int32))) + (1 : Int32)))])) _
                    refine XS.iadd X58.here hx rfl (hb hby d_p8_m5_283) rfl ?_
                    show Steps p.tables e below (T58.setTop (mkF m 284 #[.val (.ref b), .val (.int x), .val (.int (rd + (1 : Int32))), .val (.int tq), .val (.ref (aC + 1 + ((rd + (1 : Int32)) - (1 : Int32)).toNatClampNeg)), .val (.ref (aC + 1 + (rd + (1 : Int32)).toNatClampNeg)), .val (.int (mxM (1 : Int32) ((rd + (1 : Int32)) - lim))), .val (.int (mnM (lenI src) ((rd + (1 : Int32)) + lim))), .val (.int few), .val (.int j), .val (.int q), .val (.int c11), .val (.int (mnM (x1 + c11) (mnM (x2 + (1 : Int32)) (x3 + (1 : Int32))))), .val (.int w13), .val (.int cl), s15] [(.int (((y + ((j - w13) - (1 : Int32))) + (1 : Int32)) + (((rd + (1 : Int32)) - cl) - (1 : Int32))))])) _
                    refine XS.istore X58.here hx rfl (hb hby d_p8_m5_284) rfl (l' := #[.val (.ref b), .val (.int x), .val (.int (rd + (1 : Int32))), .val (.int tq), .val (.ref (aC + 1 + ((rd + (1 : Int32)) - (1 : Int32)).toNatClampNeg)), .val (.ref (aC + 1 + (rd + (1 : Int32)).toNatClampNeg)), .val (.int (mxM (1 : Int32) ((rd + (1 : Int32)) - lim))), .val (.int (mnM (lenI src) ((rd + (1 : Int32)) + lim))), .val (.int few), .val (.int j), .val (.int q), .val (.int c11), .val (.int (mnM (x1 + c11) (mnM (x2 + (1 : Int32)) (x3 + (1 : Int32))))), .val (.int w13), .val (.int cl), .val (.int (((y + ((j - w13) - (1 : Int32))) + (1 : Int32)) + (((rd + (1 : Int32)) - cl) - (1 : Int32))))]) (XS.store1 rfl hs15 rfl) ?_
                    show Steps p.tables e below (T58.setTop (mkF m 286 #[.val (.ref b), .val (.int x), .val (.int (rd + (1 : Int32))), .val (.int tq), .val (.ref (aC + 1 + ((rd + (1 : Int32)) - (1 : Int32)).toNatClampNeg)), .val (.ref (aC + 1 + (rd + (1 : Int32)).toNatClampNeg)), .val (.int (mxM (1 : Int32) ((rd + (1 : Int32)) - lim))), .val (.int (mnM (lenI src) ((rd + (1 : Int32)) + lim))), .val (.int few), .val (.int j), .val (.int q), .val (.int c11), .val (.int (mnM (x1 + c11) (mnM (x2 + (1 : Int32)) (x3 + (1 : Int32))))), .val (.int w13), .val (.int cl), .val (.int (((y + ((j - w13) - (1 : Int32))) + (1 : Int32)) + (((rd + (1 : Int32)) - cl) - (1 : Int32))))] [])) _
                    refine XS.iload X58.here hx rfl (hb hby d_p8_m5_286) rfl ?_
                    show Steps p.tables e below (T58.setTop (mkF m 288 #[.val (.ref b), .val (.int x), .val (.int (rd + (1 : Int32))), .val (.int tq), .val (.ref (aC + 1 + ((rd + (1 : Int32)) - (1 : Int32)).toNatClampNeg)), .val (.ref (aC + 1 + (rd + (1 : Int32)).toNatClampNeg)), .val (.int (mxM (1 : Int32) ((rd + (1 : Int32)) - lim))), .val (.int (mnM (lenI src) ((rd + (1 : Int32)) + lim))), .val (.int few), .val (.int j), .val (.int q), .val (.int c11), .val (.int (mnM (x1 + c11) (mnM (x2 + (1 : Int32)) (x3 + (1 : Int32))))), .val (.int w13), .val (.int cl), .val (.int (((y + ((j - w13) - (1 : Int32))) + (1 : Int32)) + (((rd + (1 : Int32)) - cl) - (1 : Int32))))] [(.int (mnM (x1 + c11) (mnM (x2 + (1 : Int32)) (x3 + (1 : Int32)))))])) _
                    refine XS.iload X58.here hx rfl (hb hby d_p8_m5_288) rfl ?_
                    exact k
                  refine Go.callS X58 hx hZ (W := 0) (argsL := [(.int (mnM (x1 + c11) (mnM (x2 + (1 : Int32)) (x3 + (1 : Int32))))), (.int (((y + ((j - w13) - (1 : Int32))) + (1 : Int32)) + (((rd + (1 : Int32)) - cl) - (1 : Int32))))]) (rest := []) hown (wd hw 75 rfl) (wd hw 76 rfl) (wd hw 73 rfl) (wd hw 77 rfl) (by decide) (ct_min l Z a0 hw  (mnM (x1 + c11) (mnM (x2 + (1 : Int32)) (x3 + (1 : Int32)))) (((y + ((j - w13) - (1 : Int32))) + (1 : Int32)) + (((rd + (1 : Int32)) - cl) - (1 : Int32))) h47 n0 O ) e58 (by rw [hml]; rfl) (lenOf pd__II_I_420 rfl) rfl rfl (hb hby d_p8_m5_290) (by decide) (by decide) (by decide) (by decide) ?_
                  intro v60 T60 h60 L60 X60 e60 q60
                  obtain ⟨rfl, N60, rfl⟩ := q60
                  replace N60 := Fr.app N55 N60
                  show Go p e below _ T60 (mkF m 293 #[.val (.ref b), .val (.int x), .val (.int (rd + (1 : Int32))), .val (.int tq), .val (.ref (aC + 1 + ((rd + (1 : Int32)) - (1 : Int32)).toNatClampNeg)), .val (.ref (aC + 1 + (rd + (1 : Int32)).toNatClampNeg)), .val (.int (mxM (1 : Int32) ((rd + (1 : Int32)) - lim))), .val (.int (mnM (lenI src) ((rd + (1 : Int32)) + lim))), .val (.int few), .val (.int j), .val (.int q), .val (.int c11), .val (.int (mnM (x1 + c11) (mnM (x2 + (1 : Int32)) (x3 + (1 : Int32))))), .val (.int w13), .val (.int cl), .val (.int (((y + ((j - w13) - (1 : Int32))) + (1 : Int32)) + (((rd + (1 : Int32)) - cl) - (1 : Int32))))] [(.int (mnM (mnM (x1 + c11) (mnM (x2 + (1 : Int32)) (x3 + (1 : Int32)))) (((y + ((j - w13) - (1 : Int32))) + (1 : Int32)) + (((rd + (1 : Int32)) - cl) - (1 : Int32)))))])
                  refine Go.by (T' := T60) (g' := (mkF m 295 #[.val (.ref b), .val (.int x), .val (.int (rd + (1 : Int32))), .val (.int tq), .val (.ref (aC + 1 + ((rd + (1 : Int32)) - (1 : Int32)).toNatClampNeg)), .val (.ref (aC + 1 + (rd + (1 : Int32)).toNatClampNeg)), .val (.int (mxM (1 : Int32) ((rd + (1 : Int32)) - lim))), .val (.int (mnM (lenI src) ((rd + (1 : Int32)) + lim))), .val (.int few), .val (.int j), .val (.int q), .val (.int c11), .val (.int (mnM (mnM (x1 + c11) (mnM (x2 + (1 : Int32)) (x3 + (1 : Int32)))) (((y + ((j - w13) - (1 : Int32))) + (1 : Int32)) + (((rd + (1 : Int32)) - cl) - (1 : Int32))))), .val (.int w13), .val (.int cl), .val (.int (((y + ((j - w13) - (1 : Int32))) + (1 : Int32)) + (((rd + (1 : Int32)) - cl) - (1 : Int32))))] [])) (fun t k => ?_) ?_
                  · show Steps p.tables e below (T60.setTop (mkF m 293 #[.val (.ref b), .val (.int x), .val (.int (rd + (1 : Int32))), .val (.int tq), .val (.ref (aC + 1 + ((rd + (1 : Int32)) - (1 : Int32)).toNatClampNeg)), .val (.ref (aC + 1 + (rd + (1 : Int32)).toNatClampNeg)), .val (.int (mxM (1 : Int32) ((rd + (1 : Int32)) - lim))), .val (.int (mnM (lenI src) ((rd + (1 : Int32)) + lim))), .val (.int few), .val (.int j), .val (.int q), .val (.int c11), .val (.int (mnM (x1 + c11) (mnM (x2 + (1 : Int32)) (x3 + (1 : Int32))))), .val (.int w13), .val (.int cl), .val (.int (((y + ((j - w13) - (1 : Int32))) + (1 : Int32)) + (((rd + (1 : Int32)) - cl) - (1 : Int32))))] [(.int (mnM (mnM (x1 + c11) (mnM (x2 + (1 : Int32)) (x3 + (1 : Int32)))) (((y + ((j - w13) - (1 : Int32))) + (1 : Int32)) + (((rd + (1 : Int32)) - cl) - (1 : Int32)))))])) _
                    refine XS.istore X60.here hx rfl (hb hby d_p8_m5_293) rfl (l' := #[.val (.ref b), .val (.int x), .val (.int (rd + (1 : Int32))), .val (.int tq), .val (.ref (aC + 1 + ((rd + (1 : Int32)) - (1 : Int32)).toNatClampNeg)), .val (.ref (aC + 1 + (rd + (1 : Int32)).toNatClampNeg)), .val (.int (mxM (1 : Int32) ((rd + (1 : Int32)) - lim))), .val (.int (mnM (lenI src) ((rd + (1 : Int32)) + lim))), .val (.int few), .val (.int j), .val (.int q), .val (.int c11), .val (.int (mnM (mnM (x1 + c11) (mnM (x2 + (1 : Int32)) (x3 + (1 : Int32)))) (((y + ((j - w13) - (1 : Int32))) + (1 : Int32)) + (((rd + (1 : Int32)) - cl) - (1 : Int32))))), .val (.int w13), .val (.int cl), .val (.int (((y + ((j - w13) - (1 : Int32))) + (1 : Int32)) + (((rd + (1 : Int32)) - cl) - (1 : Int32))))]) rfl ?_
                    exact k
                  exact J49 _ _ _ _ _ X60 e60 O N60 K E_b F_source F_limit F_sourceLetters F_distinct F_lastRowBefore F_columns F_fewest F_targetLetters F_lastColumn F_replacedColumn F_read I_aS I_aL I_aD G_aR G_aC I_aF I_aT I_aX I_aP hn_aR hn_aC (Option.some.inj hbest) (SVi _)
              · skip
                replace hbest := (if_neg hy54).symm.trans hbest
                refine Go.by (T' := T48) (g' := (mkF m 295 #[.val (.ref b), .val (.int x), .val (.int (rd + (1 : Int32))), .val (.int tq), .val (.ref (aC + 1 + ((rd + (1 : Int32)) - (1 : Int32)).toNatClampNeg)), .val (.ref (aC + 1 + (rd + (1 : Int32)).toNatClampNeg)), .val (.int (mxM (1 : Int32) ((rd + (1 : Int32)) - lim))), .val (.int (mnM (lenI src) ((rd + (1 : Int32)) + lim))), .val (.int few), .val (.int j), .val (.int q), .val (.int c11), .val (.int (mnM (x1 + c11) (mnM (x2 + (1 : Int32)) (x3 + (1 : Int32))))), .val (.int w13), .val (.int cl), s15] [])) (fun t k => ?_) ?_
                · show Steps p.tables e below (T48.setTop (mkF m 235 #[.val (.ref b), .val (.int x), .val (.int (rd + (1 : Int32))), .val (.int tq), .val (.ref (aC + 1 + ((rd + (1 : Int32)) - (1 : Int32)).toNatClampNeg)), .val (.ref (aC + 1 + (rd + (1 : Int32)).toNatClampNeg)), .val (.int (mxM (1 : Int32) ((rd + (1 : Int32)) - lim))), .val (.int (mnM (lenI src) ((rd + (1 : Int32)) + lim))), .val (.int few), .val (.int j), .val (.int q), .val (.int c11), .val (.int (mnM (x1 + c11) (mnM (x2 + (1 : Int32)) (x3 + (1 : Int32))))), .val (.int w13), .val (.int cl), s15] [(.int cl)])) _
                  refine XS.ifYes X48.here hx rfl (pc0 := 235) (pc' := 295) rfl (hb hby d_p8_m5_235) rfl ((if0 _ _).trans (flt hy54).2.2.2) (by decide) (by decide) ?_
                  exact k
                exact J49 _ _ _ _ _ X48 e48 O N47 K E_b F_source F_limit F_sourceLetters F_distinct F_lastRowBefore F_columns F_fewest F_targetLetters F_lastColumn F_replacedColumn F_read I_aS I_aL I_aD G_aR G_aC I_aF I_aT I_aX I_aP hn_aR hn_aC (Option.some.inj hbest) hs15
            · skip
              replace hbest := (if_neg hy53).symm.trans hbest
              refine Go.by (T' := T48) (g' := (mkF m 295 #[.val (.ref b), .val (.int x), .val (.int (rd + (1 : Int32))), .val (.int tq), .val (.ref (aC + 1 + ((rd + (1 : Int32)) - (1 : Int32)).toNatClampNeg)), .val (.ref (aC + 1 + (rd + (1 : Int32)).toNatClampNeg)), .val (.int (mxM (1 : Int32) ((rd + (1 : Int32)) - lim))), .val (.int (mnM (lenI src) ((rd + (1 : Int32)) + lim))), .val (.int few), .val (.int j), .val (.int q), .val (.int c11), .val (.int (mnM (x1 + c11) (mnM (x2 + (1 : Int32)) (x3 + (1 : Int32))))), .val (.int w13), .val (.int cl), s15] [])) (fun t k => ?_) ?_
              · show Steps p.tables e below (T48.setTop (mkF m 230 #[.val (.ref b), .val (.int x), .val (.int (rd + (1 : Int32))), .val (.int tq), .val (.ref (aC + 1 + ((rd + (1 : Int32)) - (1 : Int32)).toNatClampNeg)), .val (.ref (aC + 1 + (rd + (1 : Int32)).toNatClampNeg)), .val (.int (mxM (1 : Int32) ((rd + (1 : Int32)) - lim))), .val (.int (mnM (lenI src) ((rd + (1 : Int32)) + lim))), .val (.int few), .val (.int j), .val (.int q), .val (.int c11), .val (.int (mnM (x1 + c11) (mnM (x2 + (1 : Int32)) (x3 + (1 : Int32))))), .val (.int w13), .val (.int cl), s15] [(.int w13)])) _
                refine XS.ifYes X48.here hx rfl (pc0 := 230) (pc' := 295) rfl (hb hby d_p8_m5_230) rfl ((if0 _ _).trans (flt hy53).2.2.2) (by decide) (by decide) ?_
                exact k
              exact J49 _ _ _ _ _ X48 e48 O N47 K E_b F_source F_limit F_sourceLetters F_distinct F_lastRowBefore F_columns F_fewest F_targetLetters F_lastColumn F_replacedColumn F_read I_aS I_aL I_aD G_aR G_aC I_aF I_aT I_aX I_aP hn_aR hn_aC (Option.some.inj hbest) hs15
          by_cases hy61 : tq < (0 : Int32)
          · skip
            refine Go.by (T' := T46) (g' := (mkF m 219 #[.val (.ref b), .val (.int x), .val (.int (rd + (1 : Int32))), .val (.int tq), .val (.ref (aC + 1 + ((rd + (1 : Int32)) - (1 : Int32)).toNatClampNeg)), .val (.ref (aC + 1 + (rd + (1 : Int32)).toNatClampNeg)), .val (.int (mxM (1 : Int32) ((rd + (1 : Int32)) - lim))), .val (.int (mnM (lenI src) ((rd + (1 : Int32)) + lim))), .val (.int few), .val (.int j), .val (.int q), .val (.int c11), .val (.int (mnM (x1 + c11) (mnM (x2 + (1 : Int32)) (x3 + (1 : Int32))))), .val (.int (0 : Int32)), s14, s15] [])) (fun t k => ?_) ?_
            · show Steps p.tables e below (T46.setTop (mkF m 205 #[.val (.ref b), .val (.int x), .val (.int (rd + (1 : Int32))), .val (.int tq), .val (.ref (aC + 1 + ((rd + (1 : Int32)) - (1 : Int32)).toNatClampNeg)), .val (.ref (aC + 1 + (rd + (1 : Int32)).toNatClampNeg)), .val (.int (mxM (1 : Int32) ((rd + (1 : Int32)) - lim))), .val (.int (mnM (lenI src) ((rd + (1 : Int32)) + lim))), .val (.int few), .val (.int j), .val (.int q), .val (.int c11), .val (.int (mnM (x1 + c11) (mnM (x2 + (1 : Int32)) (x3 + (1 : Int32))))), .val (.int (0 : Int32)), s14, s15] [(.int tq)])) _
              refine XS.ifYes X46.here hx rfl (pc0 := 205) (pc' := 219) rfl (hb hby d_p8_m5_205) rfl ((if0 _ _).trans (tlt hy61).1) (by decide) (by decide) ?_
              exact k
            exact J47 _ _ _ _ X46 e46 O N46 K E_b F_source F_limit F_sourceLetters F_distinct F_lastRowBefore F_columns F_fewest F_targetLetters F_lastColumn F_replacedColumn F_read I_aS I_aL I_aD G_aR G_aC I_aF I_aT I_aX I_aP hn_aR hn_aC (Option.some.inj ((if_pos hy61).symm.trans hlw))
          · skip
            replace hlw := (if_neg hy61).symm.trans hlw
            refine Go.by (T' := T46) (g' := (mkF m 209 #[.val (.ref b), .val (.int x), .val (.int (rd + (1 : Int32))), .val (.int tq), .val (.ref (aC + 1 + ((rd + (1 : Int32)) - (1 : Int32)).toNatClampNeg)), .val (.ref (aC + 1 + (rd + (1 : Int32)).toNatClampNeg)), .val (.int (mxM (1 : Int32) ((rd + (1 : Int32)) - lim))), .val (.int (mnM (lenI src) ((rd + (1 : Int32)) + lim))), .val (.int few), .val (.int j), .val (.int q), .val (.int c11), .val (.int (mnM (x1 + c11) (mnM (x2 + (1 : Int32)) (x3 + (1 : Int32))))), .val (.int (0 : Int32)), s14, s15] [(.ref b)])) (fun t k => ?_) ?_
            · show Steps p.tables e below (T46.setTop (mkF m 205 #[.val (.ref b), .val (.int x), .val (.int (rd + (1 : Int32))), .val (.int tq), .val (.ref (aC + 1 + ((rd + (1 : Int32)) - (1 : Int32)).toNatClampNeg)), .val (.ref (aC + 1 + (rd + (1 : Int32)).toNatClampNeg)), .val (.int (mxM (1 : Int32) ((rd + (1 : Int32)) - lim))), .val (.int (mnM (lenI src) ((rd + (1 : Int32)) + lim))), .val (.int few), .val (.int j), .val (.int q), .val (.int c11), .val (.int (mnM (x1 + c11) (mnM (x2 + (1 : Int32)) (x3 + (1 : Int32))))), .val (.int (0 : Int32)), s14, s15] [(.int tq)])) _
              refine XS.ifNo X46.here hx rfl (hb hby d_p8_m5_205) rfl ((if0 _ _).trans (flt hy61).1) ?_
              show Steps p.tables e below (T46.setTop (mkF m 208 #[.val (.ref b), .val (.int x), .val (.int (rd + (1 : Int32))), .val (.int tq), .val (.ref (aC + 1 + ((rd + (1 : Int32)) - (1 : Int32)).toNatClampNeg)), .val (.ref (aC + 1 + (rd + (1 : Int32)).toNatClampNeg)), .val (.int (mxM (1 : Int32) ((rd + (1 : Int32)) - lim))), .val (.int (mnM (lenI src) ((rd + (1 : Int32)) + lim))), .val (.int few), .val (.int j), .val (.int q), .val (.int c11), .val (.int (mnM (x1 + c11) (mnM (x2 + (1 : Int32)) (x3 + (1 : Int32))))), .val (.int (0 : Int32)), s14, s15] [])) _
              refine XS.aloadN X46.here hx rfl (hb hby d_p8_m5_208) rfl rfl ?_
              exact k
            refine Go.getF X46 hx hZ hown (wd hw 35 rfl) Via.refl e46 F_lastRowBefore (hb hby d_p8_m5_209) ?_
            intro T62 X62 e62
            show Go p e below _ T62 (mkF m 212 #[.val (.ref b), .val (.int x), .val (.int (rd + (1 : Int32))), .val (.int tq), .val (.ref (aC + 1 + ((rd + (1 : Int32)) - (1 : Int32)).toNatClampNeg)), .val (.ref (aC + 1 + (rd + (1 : Int32)).toNatClampNeg)), .val (.int (mxM (1 : Int32) ((rd + (1 : Int32)) - lim))), .val (.int (mnM (lenI src) ((rd + (1 : Int32)) + lim))), .val (.int few), .val (.int j), .val (.int q), .val (.int c11), .val (.int (mnM (x1 + c11) (mnM (x2 + (1 : Int32)) (x3 + (1 : Int32))))), .val (.int (0 : Int32)), s14, s15] [(.ref aR)])
            refine Go.by (T' := T62) (g' := (mkF m 213 #[.val (.ref b), .val (.int x), .val (.int (rd + (1 : Int32))), .val (.int tq), .val (.ref (aC + 1 + ((rd + (1 : Int32)) - (1 : Int32)).toNatClampNeg)), .val (.ref (aC + 1 + (rd + (1 : Int32)).toNatClampNeg)), .val (.int (mxM (1 : Int32) ((rd + (1 : Int32)) - lim))), .val (.int (mnM (lenI src) ((rd + (1 : Int32)) + lim))), .val (.int few), .val (.int j), .val (.int q), .val (.int c11), .val (.int (mnM (x1 + c11) (mnM (x2 + (1 : Int32)) (x3 + (1 : Int32))))), .val (.int (0 : Int32)), s14, s15] [(.int tq), (.ref aR)])) (fun t k => ?_) ?_
            · show Steps p.tables e below (T62.setTop (mkF m 212 #[.val (.ref b), .val (.int x), .val (.int (rd + (1 : Int32))), .val (.int tq), .val (.ref (aC + 1 + ((rd + (1 : Int32)) - (1 : Int32)).toNatClampNeg)), .val (.ref (aC + 1 + (rd + (1 : Int32)).toNatClampNeg)), .val (.int (mxM (1 : Int32) ((rd + (1 : Int32)) - lim))), .val (.int (mnM (lenI src) ((rd + (1 : Int32)) + lim))), .val (.int few), .val (.int j), .val (.int q), .val (.int c11), .val (.int (mnM (x1 + c11) (mnM (x2 + (1 : Int32)) (x3 + (1 : Int32))))), .val (.int (0 : Int32)), s14, s15] [(.ref aR)])) _
              refine XS.iloadN X62.here hx rfl (hb hby d_p8_m5_212) rfl ?_
              exact k
            obtain ⟨_, hv63, hlw⟩ := ob hlw
            refine Go.gaL X62 hx hZ e62 G_aR (j := tq) hv63 (hb hby d_p8_m5_213) ?_
            show Go p e below _ T62 (mkF m 214 #[.val (.ref b), .val (.int x), .val (.int (rd + (1 : Int32))), .val (.int tq), .val (.ref (aC + 1 + ((rd + (1 : Int32)) - (1 : Int32)).toNatClampNeg)), .val (.ref (aC + 1 + (rd + (1 : Int32)).toNatClampNeg)), .val (.int (mxM (1 : Int32) ((rd + (1 : Int32)) - lim))), .val (.int (mnM (lenI src) ((rd + (1 : Int32)) + lim))), .val (.int few), .val (.int j), .val (.int q), .val (.int c11), .val (.int (mnM (x1 + c11) (mnM (x2 + (1 : Int32)) (x3 + (1 : Int32))))), .val (.int (0 : Int32)), s14, s15] [(.ref (aR + 1 + tq.toNatClampNeg))])
            refine Go.by (T' := T62) (g' := (mkF m 216 #[.val (.ref b), .val (.int x), .val (.int (rd + (1 : Int32))), .val (.int tq), .val (.ref (aC + 1 + ((rd + (1 : Int32)) - (1 : Int32)).toNatClampNeg)), .val (.ref (aC + 1 + (rd + (1 : Int32)).toNatClampNeg)), .val (.int (mxM (1 : Int32) ((rd + (1 : Int32)) - lim))), .val (.int (mnM (lenI src) ((rd + (1 : Int32)) + lim))), .val (.int few), .val (.int j), .val (.int q), .val (.int c11), .val (.int (mnM (x1 + c11) (mnM (x2 + (1 : Int32)) (x3 + (1 : Int32))))), .val (.int (0 : Int32)), s14, s15] [(.int j), (.ref (aR + 1 + tq.toNatClampNeg))])) (fun t k => ?_) ?_
            · show Steps p.tables e below (T62.setTop (mkF m 214 #[.val (.ref b), .val (.int x), .val (.int (rd + (1 : Int32))), .val (.int tq), .val (.ref (aC + 1 + ((rd + (1 : Int32)) - (1 : Int32)).toNatClampNeg)), .val (.ref (aC + 1 + (rd + (1 : Int32)).toNatClampNeg)), .val (.int (mxM (1 : Int32) ((rd + (1 : Int32)) - lim))), .val (.int (mnM (lenI src) ((rd + (1 : Int32)) + lim))), .val (.int few), .val (.int j), .val (.int q), .val (.int c11), .val (.int (mnM (x1 + c11) (mnM (x2 + (1 : Int32)) (x3 + (1 : Int32))))), .val (.int (0 : Int32)), s14, s15] [(.ref (aR + 1 + tq.toNatClampNeg))])) _
              refine XS.iload X62.here hx rfl (hb hby d_p8_m5_214) rfl ?_
              exact k
            refine Go.g2L X62 hx hZ e62 G_aR (j := tq) (i := j) hlw (hb hby d_p8_m5_216) ?_
            show Go p e below _ T62 (mkF m 217 #[.val (.ref b), .val (.int x), .val (.int (rd + (1 : Int32))), .val (.int tq), .val (.ref (aC + 1 + ((rd + (1 : Int32)) - (1 : Int32)).toNatClampNeg)), .val (.ref (aC + 1 + (rd + (1 : Int32)).toNatClampNeg)), .val (.int (mxM (1 : Int32) ((rd + (1 : Int32)) - lim))), .val (.int (mnM (lenI src) ((rd + (1 : Int32)) + lim))), .val (.int few), .val (.int j), .val (.int q), .val (.int c11), .val (.int (mnM (x1 + c11) (mnM (x2 + (1 : Int32)) (x3 + (1 : Int32))))), .val (.int (0 : Int32)), s14, s15] [(.int lw)])
            refine Go.by (T' := T62) (g' := (mkF m 219 #[.val (.ref b), .val (.int x), .val (.int (rd + (1 : Int32))), .val (.int tq), .val (.ref (aC + 1 + ((rd + (1 : Int32)) - (1 : Int32)).toNatClampNeg)), .val (.ref (aC + 1 + (rd + (1 : Int32)).toNatClampNeg)), .val (.int (mxM (1 : Int32) ((rd + (1 : Int32)) - lim))), .val (.int (mnM (lenI src) ((rd + (1 : Int32)) + lim))), .val (.int few), .val (.int j), .val (.int q), .val (.int c11), .val (.int (mnM (x1 + c11) (mnM (x2 + (1 : Int32)) (x3 + (1 : Int32))))), .val (.int lw), s14, s15] [])) (fun t k => ?_) ?_
            · show Steps p.tables e below (T62.setTop (mkF m 217 #[.val (.ref b), .val (.int x), .val (.int (rd + (1 : Int32))), .val (.int tq), .val (.ref (aC + 1 + ((rd + (1 : Int32)) - (1 : Int32)).toNatClampNeg)), .val (.ref (aC + 1 + (rd + (1 : Int32)).toNatClampNeg)), .val (.int (mxM (1 : Int32) ((rd + (1 : Int32)) - lim))), .val (.int (mnM (lenI src) ((rd + (1 : Int32)) + lim))), .val (.int few), .val (.int j), .val (.int q), .val (.int c11), .val (.int (mnM (x1 + c11) (mnM (x2 + (1 : Int32)) (x3 + (1 : Int32))))), .val (.int (0 : Int32)), s14, s15] [(.int lw)])) _
              refine XS.istore X62.here hx rfl (hb hby d_p8_m5_217) rfl (l' := #[.val (.ref b), .val (.int x), .val (.int (rd + (1 : Int32))), .val (.int tq), .val (.ref (aC + 1 + ((rd + (1 : Int32)) - (1 : Int32)).toNatClampNeg)), .val (.ref (aC + 1 + (rd + (1 : Int32)).toNatClampNeg)), .val (.int (mxM (1 : Int32) ((rd + (1 : Int32)) - lim))), .val (.int (mnM (lenI src) ((rd + (1 : Int32)) + lim))), .val (.int few), .val (.int j), .val (.int q), .val (.int c11), .val (.int (mnM (x1 + c11) (mnM (x2 + (1 : Int32)) (x3 + (1 : Int32))))), .val (.int lw), s14, s15]) rfl ?_
              exact k
            exact J47 _ _ _ _ X62 e62 O N46 K E_b F_source F_limit F_sourceLetters F_distinct F_lastRowBefore F_columns F_fewest F_targetLetters F_lastColumn F_replacedColumn F_read I_aS I_aL I_aD G_aR G_aC I_aF I_aT I_aX I_aP hn_aR hn_aC rfl
        by_cases hy44 : q = tq
        · skip
          refine Go.by (T' := T43) (g' := (mkF m 167 #[.val (.ref b), .val (.int x), .val (.int (rd + (1 : Int32))), .val (.int tq), .val (.ref (aC + 1 + ((rd + (1 : Int32)) - (1 : Int32)).toNatClampNeg)), .val (.ref (aC + 1 + (rd + (1 : Int32)).toNatClampNeg)), .val (.int (mxM (1 : Int32) ((rd + (1 : Int32)) - lim))), .val (.int (mnM (lenI src) ((rd + (1 : Int32)) + lim))), .val (.int few), .val (.int j), .val (.int q), .val (.int (0 : Int32)), s12, s13, s14, s15] [])) (fun t k => ?_) ?_
          · show Steps p.tables e below (T43.setTop (mkF m 161 #[.val (.ref b), .val (.int x), .val (.int (rd + (1 : Int32))), .val (.int tq), .val (.ref (aC + 1 + ((rd + (1 : Int32)) - (1 : Int32)).toNatClampNeg)), .val (.ref (aC + 1 + (rd + (1 : Int32)).toNatClampNeg)), .val (.int (mxM (1 : Int32) ((rd + (1 : Int32)) - lim))), .val (.int (mnM (lenI src) ((rd + (1 : Int32)) + lim))), .val (.int few), .val (.int j), .val (.int q), .val (.int (1 : Int32)), s12, s13, s14, s15] [(.int tq), (.int q)])) _
            refine XS.icmpNo X43.here hx rfl (hb hby d_p8_m5_161) rfl (teq hy44).2 ?_
            show Steps p.tables e below (T43.setTop (mkF m 164 #[.val (.ref b), .val (.int x), .val (.int (rd + (1 : Int32))), .val (.int tq), .val (.ref (aC + 1 + ((rd + (1 : Int32)) - (1 : Int32)).toNatClampNeg)), .val (.ref (aC + 1 + (rd + (1 : Int32)).toNatClampNeg)), .val (.int (mxM (1 : Int32) ((rd + (1 : Int32)) - lim))), .val (.int (mnM (lenI src) ((rd + (1 : Int32)) + lim))), .val (.int few), .val (.int j), .val (.int q), .val (.int (1 : Int32)), s12, s13, s14, s15] [])) _
            refine XS.iconst X43.here hx rfl (hb hby d_p8_m5_164) ?_
            show Steps p.tables e below (T43.setTop (mkF m 165 #[.val (.ref b), .val (.int x), .val (.int (rd + (1 : Int32))), .val (.int tq), .val (.ref (aC + 1 + ((rd + (1 : Int32)) - (1 : Int32)).toNatClampNeg)), .val (.ref (aC + 1 + (rd + (1 : Int32)).toNatClampNeg)), .val (.int (mxM (1 : Int32) ((rd + (1 : Int32)) - lim))), .val (.int (mnM (lenI src) ((rd + (1 : Int32)) + lim))), .val (.int few), .val (.int j), .val (.int q), .val (.int (1 : Int32)), s12, s13, s14, s15] [(.int (0 : Int32))])) _
            refine XS.istore X43.here hx rfl (hb hby d_p8_m5_165) rfl (l' := #[.val (.ref b), .val (.int x), .val (.int (rd + (1 : Int32))), .val (.int tq), .val (.ref (aC + 1 + ((rd + (1 : Int32)) - (1 : Int32)).toNatClampNeg)), .val (.ref (aC + 1 + (rd + (1 : Int32)).toNatClampNeg)), .val (.int (mxM (1 : Int32) ((rd + (1 : Int32)) - lim))), .val (.int (mnM (lenI src) ((rd + (1 : Int32)) + lim))), .val (.int few), .val (.int j), .val (.int q), .val (.int (0 : Int32)), s12, s13, s14, s15]) rfl ?_
            exact k
          exact J44 _ (if_pos hy44 |>.symm)
        · skip
          refine Go.by (T' := T43) (g' := (mkF m 167 #[.val (.ref b), .val (.int x), .val (.int (rd + (1 : Int32))), .val (.int tq), .val (.ref (aC + 1 + ((rd + (1 : Int32)) - (1 : Int32)).toNatClampNeg)), .val (.ref (aC + 1 + (rd + (1 : Int32)).toNatClampNeg)), .val (.int (mxM (1 : Int32) ((rd + (1 : Int32)) - lim))), .val (.int (mnM (lenI src) ((rd + (1 : Int32)) + lim))), .val (.int few), .val (.int j), .val (.int q), .val (.int (1 : Int32)), s12, s13, s14, s15] [])) (fun t k => ?_) ?_
          · show Steps p.tables e below (T43.setTop (mkF m 161 #[.val (.ref b), .val (.int x), .val (.int (rd + (1 : Int32))), .val (.int tq), .val (.ref (aC + 1 + ((rd + (1 : Int32)) - (1 : Int32)).toNatClampNeg)), .val (.ref (aC + 1 + (rd + (1 : Int32)).toNatClampNeg)), .val (.int (mxM (1 : Int32) ((rd + (1 : Int32)) - lim))), .val (.int (mnM (lenI src) ((rd + (1 : Int32)) + lim))), .val (.int few), .val (.int j), .val (.int q), .val (.int (1 : Int32)), s12, s13, s14, s15] [(.int tq), (.int q)])) _
            refine XS.icmpYes X43.here hx rfl (pc0 := 161) (pc' := 167) rfl (hb hby d_p8_m5_161) rfl (feq hy44).2 (by decide) (by decide) ?_
            exact k
          exact J44 _ (if_neg hy44 |>.symm)
  by_cases hy64 : (mxM (1 : Int32) ((rd + (1 : Int32)) - lim)) = (1 : Int32)
  · skip
    replace hu := (if_pos hy64).symm.trans hu
    obtain ⟨q1, q2⟩ := Prod.mk.inj (Option.some.inj hu)
    rw [← q1, ← q2] at hp
    refine Go.by (T' := T18) (g' := (mkF m 137 #[.val (.ref b), .val (.int x), .val (.int (rd + (1 : Int32))), .val (.int tq), .val (.ref (aC + 1 + ((rd + (1 : Int32)) - (1 : Int32)).toNatClampNeg)), .val (.ref (aC + 1 + (rd + (1 : Int32)).toNatClampNeg)), .val (.int (mxM (1 : Int32) ((rd + (1 : Int32)) - lim))), .val (.int (mnM (lenI src) ((rd + (1 : Int32)) + lim))), .val (.int (rd + (1 : Int32))), .val (.int (mxM (1 : Int32) ((rd + (1 : Int32)) - lim))), .unset, .unset, .unset, .unset, .unset, .unset] [])) (fun t k => ?_) ?_
    · show Steps p.tables e below (T18.setTop (mkF m 111 #[.val (.ref b), .val (.int x), .val (.int (rd + (1 : Int32))), .val (.int tq), .val (.ref (aC + 1 + ((rd + (1 : Int32)) - (1 : Int32)).toNatClampNeg)), .val (.ref (aC + 1 + (rd + (1 : Int32)).toNatClampNeg)), .val (.int (mxM (1 : Int32) ((rd + (1 : Int32)) - lim))), .val (.int (mnM (lenI src) ((rd + (1 : Int32)) + lim))), .val (.int (lim + (1 : Int32))), .unset, .unset, .unset, .unset, .unset, .unset, .unset] [(.int (1 : Int32)), (.int (mxM (1 : Int32) ((rd + (1 : Int32)) - lim)))])) _
      refine XS.icmpNo X18.here hx rfl (hb hby d_p8_m5_111) rfl (teq hy64).2 ?_
      show Steps p.tables e below (T18.setTop (mkF m 114 #[.val (.ref b), .val (.int x), .val (.int (rd + (1 : Int32))), .val (.int tq), .val (.ref (aC + 1 + ((rd + (1 : Int32)) - (1 : Int32)).toNatClampNeg)), .val (.ref (aC + 1 + (rd + (1 : Int32)).toNatClampNeg)), .val (.int (mxM (1 : Int32) ((rd + (1 : Int32)) - lim))), .val (.int (mnM (lenI src) ((rd + (1 : Int32)) + lim))), .val (.int (lim + (1 : Int32))), .unset, .unset, .unset, .unset, .unset, .unset, .unset] [])) _
      refine XS.iloadN X18.here hx rfl (hb hby d_p8_m5_114) rfl ?_
      show Steps p.tables e below (T18.setTop (mkF m 115 #[.val (.ref b), .val (.int x), .val (.int (rd + (1 : Int32))), .val (.int tq), .val (.ref (aC + 1 + ((rd + (1 : Int32)) - (1 : Int32)).toNatClampNeg)), .val (.ref (aC + 1 + (rd + (1 : Int32)).toNatClampNeg)), .val (.int (mxM (1 : Int32) ((rd + (1 : Int32)) - lim))), .val (.int (mnM (lenI src) ((rd + (1 : Int32)) + lim))), .val (.int (lim + (1 : Int32))), .unset, .unset, .unset, .unset, .unset, .unset, .unset] [(.int (rd + (1 : Int32)))])) _
      refine XS.istore X18.here hx rfl (hb hby d_p8_m5_115) rfl (l' := #[.val (.ref b), .val (.int x), .val (.int (rd + (1 : Int32))), .val (.int tq), .val (.ref (aC + 1 + ((rd + (1 : Int32)) - (1 : Int32)).toNatClampNeg)), .val (.ref (aC + 1 + (rd + (1 : Int32)).toNatClampNeg)), .val (.int (mxM (1 : Int32) ((rd + (1 : Int32)) - lim))), .val (.int (mnM (lenI src) ((rd + (1 : Int32)) + lim))), .val (.int (rd + (1 : Int32))), .unset, .unset, .unset, .unset, .unset, .unset, .unset]) rfl ?_
      show Steps p.tables e below (T18.setTop (mkF m 117 #[.val (.ref b), .val (.int x), .val (.int (rd + (1 : Int32))), .val (.int tq), .val (.ref (aC + 1 + ((rd + (1 : Int32)) - (1 : Int32)).toNatClampNeg)), .val (.ref (aC + 1 + (rd + (1 : Int32)).toNatClampNeg)), .val (.int (mxM (1 : Int32) ((rd + (1 : Int32)) - lim))), .val (.int (mnM (lenI src) ((rd + (1 : Int32)) + lim))), .val (.int (rd + (1 : Int32))), .unset, .unset, .unset, .unset, .unset, .unset, .unset] [])) _
      refine XS.goto X18.here hx rfl (pc0 := 117) (pc' := 133) rfl (hb hby d_p8_m5_117) (by decide) (by decide) ?_
      show Steps p.tables e below (T18.setTop (mkF m 133 #[.val (.ref b), .val (.int x), .val (.int (rd + (1 : Int32))), .val (.int tq), .val (.ref (aC + 1 + ((rd + (1 : Int32)) - (1 : Int32)).toNatClampNeg)), .val (.ref (aC + 1 + (rd + (1 : Int32)).toNatClampNeg)), .val (.int (mxM (1 : Int32) ((rd + (1 : Int32)) - lim))), .val (.int (mnM (lenI src) ((rd + (1 : Int32)) + lim))), .val (.int (rd + (1 : Int32))), .unset, .unset, .unset, .unset, .unset, .unset, .unset] [])) _
      refine XS.iload X18.here hx rfl (hb hby d_p8_m5_133) rfl ?_
      show Steps p.tables e below (T18.setTop (mkF m 135 #[.val (.ref b), .val (.int x), .val (.int (rd + (1 : Int32))), .val (.int tq), .val (.ref (aC + 1 + ((rd + (1 : Int32)) - (1 : Int32)).toNatClampNeg)), .val (.ref (aC + 1 + (rd + (1 : Int32)).toNatClampNeg)), .val (.int (mxM (1 : Int32) ((rd + (1 : Int32)) - lim))), .val (.int (mnM (lenI src) ((rd + (1 : Int32)) + lim))), .val (.int (rd + (1 : Int32))), .unset, .unset, .unset, .unset, .unset, .unset, .unset] [(.int (mxM (1 : Int32) ((rd + (1 : Int32)) - lim)))])) _
      refine XS.istore X18.here hx rfl (hb hby d_p8_m5_135) rfl (l' := #[.val (.ref b), .val (.int x), .val (.int (rd + (1 : Int32))), .val (.int tq), .val (.ref (aC + 1 + ((rd + (1 : Int32)) - (1 : Int32)).toNatClampNeg)), .val (.ref (aC + 1 + (rd + (1 : Int32)).toNatClampNeg)), .val (.int (mxM (1 : Int32) ((rd + (1 : Int32)) - lim))), .val (.int (mnM (lenI src) ((rd + (1 : Int32)) + lim))), .val (.int (rd + (1 : Int32))), .val (.int (mxM (1 : Int32) ((rd + (1 : Int32)) - lim))), .unset, .unset, .unset, .unset, .unset, .unset]) rfl ?_
      exact k
    exact J19 _ _ _ _ _ _ _ _ _ _ _ _ _ X18 e18 O N17 K E_b F_source F_limit F_sourceLetters F_distinct F_lastRowBefore F_columns F_fewest F_targetLetters F_lastColumn F_replacedColumn F_read I_aS I_aL I_aD G_aR G_aC I_aF I_aT I_aX I_aP hn_aR hn_aC SVu SVu SVu SVu SVu SVu hp
  · skip
    replace hu := (if_neg hy64).symm.trans hu
    refine Go.by (T' := T18) (g' := (mkF m 127 #[.val (.ref b), .val (.int x), .val (.int (rd + (1 : Int32))), .val (.int tq), .val (.ref (aC + 1 + ((rd + (1 : Int32)) - (1 : Int32)).toNatClampNeg)), .val (.ref (aC + 1 + (rd + (1 : Int32)).toNatClampNeg)), .val (.int (mxM (1 : Int32) ((rd + (1 : Int32)) - lim))), .val (.int (mnM (lenI src) ((rd + (1 : Int32)) + lim))), .val (.int (lim + (1 : Int32))), .unset, .unset, .unset, .unset, .unset, .unset, .unset] [(.ref b), (.int ((mxM (1 : Int32) ((rd + (1 : Int32)) - lim)) - (1 : Int32))), (.ref (aC + 1 + (rd + (1 : Int32)).toNatClampNeg))])) (fun t k => ?_) ?_
    · show Steps p.tables e below (T18.setTop (mkF m 111 #[.val (.ref b), .val (.int x), .val (.int (rd + (1 : Int32))), .val (.int tq), .val (.ref (aC + 1 + ((rd + (1 : Int32)) - (1 : Int32)).toNatClampNeg)), .val (.ref (aC + 1 + (rd + (1 : Int32)).toNatClampNeg)), .val (.int (mxM (1 : Int32) ((rd + (1 : Int32)) - lim))), .val (.int (mnM (lenI src) ((rd + (1 : Int32)) + lim))), .val (.int (lim + (1 : Int32))), .unset, .unset, .unset, .unset, .unset, .unset, .unset] [(.int (1 : Int32)), (.int (mxM (1 : Int32) ((rd + (1 : Int32)) - lim)))])) _
      refine XS.icmpYes X18.here hx rfl (pc0 := 111) (pc' := 120) rfl (hb hby d_p8_m5_111) rfl (feq hy64).2 (by decide) (by decide) ?_
      show Steps p.tables e below (T18.setTop (mkF m 120 #[.val (.ref b), .val (.int x), .val (.int (rd + (1 : Int32))), .val (.int tq), .val (.ref (aC + 1 + ((rd + (1 : Int32)) - (1 : Int32)).toNatClampNeg)), .val (.ref (aC + 1 + (rd + (1 : Int32)).toNatClampNeg)), .val (.int (mxM (1 : Int32) ((rd + (1 : Int32)) - lim))), .val (.int (mnM (lenI src) ((rd + (1 : Int32)) + lim))), .val (.int (lim + (1 : Int32))), .unset, .unset, .unset, .unset, .unset, .unset, .unset] [])) _
      refine XS.aload X18.here hx rfl (hb hby d_p8_m5_120) rfl rfl ?_
      show Steps p.tables e below (T18.setTop (mkF m 122 #[.val (.ref b), .val (.int x), .val (.int (rd + (1 : Int32))), .val (.int tq), .val (.ref (aC + 1 + ((rd + (1 : Int32)) - (1 : Int32)).toNatClampNeg)), .val (.ref (aC + 1 + (rd + (1 : Int32)).toNatClampNeg)), .val (.int (mxM (1 : Int32) ((rd + (1 : Int32)) - lim))), .val (.int (mnM (lenI src) ((rd + (1 : Int32)) + lim))), .val (.int (lim + (1 : Int32))), .unset, .unset, .unset, .unset, .unset, .unset, .unset] [(.ref (aC + 1 + (rd + (1 : Int32)).toNatClampNeg))])) _
      refine XS.iload X18.here hx rfl (hb hby d_p8_m5_122) rfl ?_
      show Steps p.tables e below (T18.setTop (mkF m 124 #[.val (.ref b), .val (.int x), .val (.int (rd + (1 : Int32))), .val (.int tq), .val (.ref (aC + 1 + ((rd + (1 : Int32)) - (1 : Int32)).toNatClampNeg)), .val (.ref (aC + 1 + (rd + (1 : Int32)).toNatClampNeg)), .val (.int (mxM (1 : Int32) ((rd + (1 : Int32)) - lim))), .val (.int (mnM (lenI src) ((rd + (1 : Int32)) + lim))), .val (.int (lim + (1 : Int32))), .unset, .unset, .unset, .unset, .unset, .unset, .unset] [(.int (mxM (1 : Int32) ((rd + (1 : Int32)) - lim))), (.ref (aC + 1 + (rd + (1 : Int32)).toNatClampNeg))])) _
      refine XS.iconst X18.here hx rfl (hb hby d_p8_m5_124) ?_
      show Steps p.tables e below (T18.setTop (mkF m 125 #[.val (.ref b), .val (.int x), .val (.int (rd + (1 : Int32))), .val (.int tq), .val (.ref (aC + 1 + ((rd + (1 : Int32)) - (1 : Int32)).toNatClampNeg)), .val (.ref (aC + 1 + (rd + (1 : Int32)).toNatClampNeg)), .val (.int (mxM (1 : Int32) ((rd + (1 : Int32)) - lim))), .val (.int (mnM (lenI src) ((rd + (1 : Int32)) + lim))), .val (.int (lim + (1 : Int32))), .unset, .unset, .unset, .unset, .unset, .unset, .unset] [(.int (1 : Int32)), (.int (mxM (1 : Int32) ((rd + (1 : Int32)) - lim))), (.ref (aC + 1 + (rd + (1 : Int32)).toNatClampNeg))])) _
      refine XS.isub X18.here hx rfl (hb hby d_p8_m5_125) rfl ?_
      show Steps p.tables e below (T18.setTop (mkF m 126 #[.val (.ref b), .val (.int x), .val (.int (rd + (1 : Int32))), .val (.int tq), .val (.ref (aC + 1 + ((rd + (1 : Int32)) - (1 : Int32)).toNatClampNeg)), .val (.ref (aC + 1 + (rd + (1 : Int32)).toNatClampNeg)), .val (.int (mxM (1 : Int32) ((rd + (1 : Int32)) - lim))), .val (.int (mnM (lenI src) ((rd + (1 : Int32)) + lim))), .val (.int (lim + (1 : Int32))), .unset, .unset, .unset, .unset, .unset, .unset, .unset] [(.int ((mxM (1 : Int32) ((rd + (1 : Int32)) - lim)) - (1 : Int32))), (.ref (aC + 1 + (rd + (1 : Int32)).toNatClampNeg))])) _
      refine XS.aloadN X18.here hx rfl (hb hby d_p8_m5_126) rfl rfl ?_
      exact k
    refine Go.getF X18 hx hZ hown (wd hw 21 rfl) Via.refl e18 F_limit (hb hby d_p8_m5_127) ?_
    intro T65 X65 e65
    show Go p e below _ T65 (mkF m 130 #[.val (.ref b), .val (.int x), .val (.int (rd + (1 : Int32))), .val (.int tq), .val (.ref (aC + 1 + ((rd + (1 : Int32)) - (1 : Int32)).toNatClampNeg)), .val (.ref (aC + 1 + (rd + (1 : Int32)).toNatClampNeg)), .val (.int (mxM (1 : Int32) ((rd + (1 : Int32)) - lim))), .val (.int (mnM (lenI src) ((rd + (1 : Int32)) + lim))), .val (.int (lim + (1 : Int32))), .unset, .unset, .unset, .unset, .unset, .unset, .unset] [(.int lim), (.int ((mxM (1 : Int32) ((rd + (1 : Int32)) - lim)) - (1 : Int32))), (.ref (aC + 1 + (rd + (1 : Int32)).toNatClampNeg))])
    refine Go.by (T' := T65) (g' := (mkF m 132 #[.val (.ref b), .val (.int x), .val (.int (rd + (1 : Int32))), .val (.int tq), .val (.ref (aC + 1 + ((rd + (1 : Int32)) - (1 : Int32)).toNatClampNeg)), .val (.ref (aC + 1 + (rd + (1 : Int32)).toNatClampNeg)), .val (.int (mxM (1 : Int32) ((rd + (1 : Int32)) - lim))), .val (.int (mnM (lenI src) ((rd + (1 : Int32)) + lim))), .val (.int (lim + (1 : Int32))), .unset, .unset, .unset, .unset, .unset, .unset, .unset] [(.int (lim + (1 : Int32))), (.int ((mxM (1 : Int32) ((rd + (1 : Int32)) - lim)) - (1 : Int32))), (.ref (aC + 1 + (rd + (1 : Int32)).toNatClampNeg))])) (fun t k => ?_) ?_
    · show Steps p.tables e below (T65.setTop (mkF m 130 #[.val (.ref b), .val (.int x), .val (.int (rd + (1 : Int32))), .val (.int tq), .val (.ref (aC + 1 + ((rd + (1 : Int32)) - (1 : Int32)).toNatClampNeg)), .val (.ref (aC + 1 + (rd + (1 : Int32)).toNatClampNeg)), .val (.int (mxM (1 : Int32) ((rd + (1 : Int32)) - lim))), .val (.int (mnM (lenI src) ((rd + (1 : Int32)) + lim))), .val (.int (lim + (1 : Int32))), .unset, .unset, .unset, .unset, .unset, .unset, .unset] [(.int lim), (.int ((mxM (1 : Int32) ((rd + (1 : Int32)) - lim)) - (1 : Int32))), (.ref (aC + 1 + (rd + (1 : Int32)).toNatClampNeg))])) _
      refine XS.iconst X65.here hx rfl (hb hby d_p8_m5_130) ?_
      show Steps p.tables e below (T65.setTop (mkF m 131 #[.val (.ref b), .val (.int x), .val (.int (rd + (1 : Int32))), .val (.int tq), .val (.ref (aC + 1 + ((rd + (1 : Int32)) - (1 : Int32)).toNatClampNeg)), .val (.ref (aC + 1 + (rd + (1 : Int32)).toNatClampNeg)), .val (.int (mxM (1 : Int32) ((rd + (1 : Int32)) - lim))), .val (.int (mnM (lenI src) ((rd + (1 : Int32)) + lim))), .val (.int (lim + (1 : Int32))), .unset, .unset, .unset, .unset, .unset, .unset, .unset] [(.int (1 : Int32)), (.int lim), (.int ((mxM (1 : Int32) ((rd + (1 : Int32)) - lim)) - (1 : Int32))), (.ref (aC + 1 + (rd + (1 : Int32)).toNatClampNeg))])) _
      refine XS.iadd X65.here hx rfl (hb hby d_p8_m5_131) rfl ?_
      exact k
    obtain ⟨v66, hv66, hu⟩ := ob hu
    obtain ⟨q1, q2⟩ := Prod.mk.inj (Option.some.inj hu)
    rw [q1] at hv66
    rw [← q2] at hp
    have lt67 := wr2O_lt hv66
    refine Go.g2S X65 hx hZ e65 G_aC (j := (rd + (1 : Int32))) (i := ((mxM (1 : Int32) ((rd + (1 : Int32)) - lim)) - (1 : Int32))) hv66 (hb hby d_p8_m5_132) ?_
    intro T67 h67 X67 e67 W67 Vn67
    replace E_b := E_b.wr W67
    replace F_source := F_source.other W67 (Or.inl (show (b : Nat) ≠ (aC + 1 + (rd + (1 : Int32)).toNatClampNeg) by omega))
    replace F_limit := F_limit.other W67 (Or.inl (show (b : Nat) ≠ (aC + 1 + (rd + (1 : Int32)).toNatClampNeg) by omega))
    replace F_sourceLetters := F_sourceLetters.other W67 (Or.inl (show (b : Nat) ≠ (aC + 1 + (rd + (1 : Int32)).toNatClampNeg) by omega))
    replace F_distinct := F_distinct.other W67 (Or.inl (show (b : Nat) ≠ (aC + 1 + (rd + (1 : Int32)).toNatClampNeg) by omega))
    replace F_lastRowBefore := F_lastRowBefore.other W67 (Or.inl (show (b : Nat) ≠ (aC + 1 + (rd + (1 : Int32)).toNatClampNeg) by omega))
    replace F_columns := F_columns.other W67 (Or.inl (show (b : Nat) ≠ (aC + 1 + (rd + (1 : Int32)).toNatClampNeg) by omega))
    replace F_fewest := F_fewest.other W67 (Or.inl (show (b : Nat) ≠ (aC + 1 + (rd + (1 : Int32)).toNatClampNeg) by omega))
    replace F_targetLetters := F_targetLetters.other W67 (Or.inl (show (b : Nat) ≠ (aC + 1 + (rd + (1 : Int32)).toNatClampNeg) by omega))
    replace F_lastColumn := F_lastColumn.other W67 (Or.inl (show (b : Nat) ≠ (aC + 1 + (rd + (1 : Int32)).toNatClampNeg) by omega))
    replace F_replacedColumn := F_replacedColumn.other W67 (Or.inl (show (b : Nat) ≠ (aC + 1 + (rd + (1 : Int32)).toNatClampNeg) by omega))
    replace F_read := F_read.other W67 (Or.inl (show (b : Nat) ≠ (aC + 1 + (rd + (1 : Int32)).toNatClampNeg) by omega))
    replace I_aS := I_aS.other W67 (show (aS : Nat) ≠ (aC + 1 + (rd + (1 : Int32)).toNatClampNeg) by omega)
    replace I_aL := I_aL.other W67 (show (aL : Nat) ≠ (aC + 1 + (rd + (1 : Int32)).toNatClampNeg) by omega)
    replace I_aD := I_aD.other W67 (show (aD : Nat) ≠ (aC + 1 + (rd + (1 : Int32)).toNatClampNeg) by omega)
    replace G_aR := G_aR.other W67 (show ((aC + 1 + (rd + (1 : Int32)).toNatClampNeg) : Nat) < aR ∨ aR + lr.length < (aC + 1 + (rd + (1 : Int32)).toNatClampNeg) by omega)
    replace I_aF := I_aF.other W67 (show (aF : Nat) ≠ (aC + 1 + (rd + (1 : Int32)).toNatClampNeg) by omega)
    replace I_aT := I_aT.other W67 (show (aT : Nat) ≠ (aC + 1 + (rd + (1 : Int32)).toNatClampNeg) by omega)
    replace I_aX := I_aX.other W67 (show (aX : Nat) ≠ (aC + 1 + (rd + (1 : Int32)).toNatClampNeg) by omega)
    replace I_aP := I_aP.other W67 (show (aP : Nat) ≠ (aC + 1 + (rd + (1 : Int32)).toNatClampNeg) by omega)
    replace O := O.wr W67 (show (n0 : Nat) ≤ (aC + 1 + (rd + (1 : Int32)).toNatClampNeg) by omega)
    have N67 := Fr.snoc X67 N17 (show (n0 : Nat) ≤ (aC + 1 + (rd + (1 : Int32)).toNatClampNeg) by omega)
    replace K := K.wr W67 (Or.inl (in_rng (by omega) (by omega)))
    replace G_aC := Vn67
    clear Vn67
    replace hn_aC := (wr2O_len hv66).trans hn_aC
    show Go p e below _ T67 (mkF m 133 #[.val (.ref b), .val (.int x), .val (.int (rd + (1 : Int32))), .val (.int tq), .val (.ref (aC + 1 + ((rd + (1 : Int32)) - (1 : Int32)).toNatClampNeg)), .val (.ref (aC + 1 + (rd + (1 : Int32)).toNatClampNeg)), .val (.int (mxM (1 : Int32) ((rd + (1 : Int32)) - lim))), .val (.int (mnM (lenI src) ((rd + (1 : Int32)) + lim))), .val (.int (lim + (1 : Int32))), .unset, .unset, .unset, .unset, .unset, .unset, .unset] [])
    refine Go.by (T' := T67) (g' := (mkF m 137 #[.val (.ref b), .val (.int x), .val (.int (rd + (1 : Int32))), .val (.int tq), .val (.ref (aC + 1 + ((rd + (1 : Int32)) - (1 : Int32)).toNatClampNeg)), .val (.ref (aC + 1 + (rd + (1 : Int32)).toNatClampNeg)), .val (.int (mxM (1 : Int32) ((rd + (1 : Int32)) - lim))), .val (.int (mnM (lenI src) ((rd + (1 : Int32)) + lim))), .val (.int (lim + (1 : Int32))), .val (.int (mxM (1 : Int32) ((rd + (1 : Int32)) - lim))), .unset, .unset, .unset, .unset, .unset, .unset] [])) (fun t k => ?_) ?_
    · show Steps p.tables e below (T67.setTop (mkF m 133 #[.val (.ref b), .val (.int x), .val (.int (rd + (1 : Int32))), .val (.int tq), .val (.ref (aC + 1 + ((rd + (1 : Int32)) - (1 : Int32)).toNatClampNeg)), .val (.ref (aC + 1 + (rd + (1 : Int32)).toNatClampNeg)), .val (.int (mxM (1 : Int32) ((rd + (1 : Int32)) - lim))), .val (.int (mnM (lenI src) ((rd + (1 : Int32)) + lim))), .val (.int (lim + (1 : Int32))), .unset, .unset, .unset, .unset, .unset, .unset, .unset] [])) _
      refine XS.iload X67.here hx rfl (hb hby d_p8_m5_133) rfl ?_
      show Steps p.tables e below (T67.setTop (mkF m 135 #[.val (.ref b), .val (.int x), .val (.int (rd + (1 : Int32))), .val (.int tq), .val (.ref (aC + 1 + ((rd + (1 : Int32)) - (1 : Int32)).toNatClampNeg)), .val (.ref (aC + 1 + (rd + (1 : Int32)).toNatClampNeg)), .val (.int (mxM (1 : Int32) ((rd + (1 : Int32)) - lim))), .val (.int (mnM (lenI src) ((rd + (1 : Int32)) + lim))), .val (.int (lim + (1 : Int32))), .unset, .unset, .unset, .unset, .unset, .unset, .unset] [(.int (mxM (1 : Int32) ((rd + (1 : Int32)) - lim)))])) _
      refine XS.istore X67.here hx rfl (hb hby d_p8_m5_135) rfl (l' := #[.val (.ref b), .val (.int x), .val (.int (rd + (1 : Int32))), .val (.int tq), .val (.ref (aC + 1 + ((rd + (1 : Int32)) - (1 : Int32)).toNatClampNeg)), .val (.ref (aC + 1 + (rd + (1 : Int32)).toNatClampNeg)), .val (.int (mxM (1 : Int32) ((rd + (1 : Int32)) - lim))), .val (.int (mnM (lenI src) ((rd + (1 : Int32)) + lim))), .val (.int (lim + (1 : Int32))), .val (.int (mxM (1 : Int32) ((rd + (1 : Int32)) - lim))), .unset, .unset, .unset, .unset, .unset, .unset]) rfl ?_
      exact k
    exact J19 _ _ _ _ _ _ _ _ _ _ _ _ _ X67 e67 O N67 K E_b F_source F_limit F_sourceLetters F_distinct F_lastRowBefore F_columns F_fewest F_targetLetters F_lastColumn F_replacedColumn F_read I_aS I_aL I_aD G_aR G_aC I_aF I_aT I_aX I_aP hn_aR hn_aC SVu SVu SVu SVu SVu SVu hp
set_option maxRecDepth 65536 in
set_option maxHeartbeats 40000000 in
theorem ct_copy (l : Launch) (Z : State) (a0 : Array Value) (hw : ∀ d ∈ tables_1, d.before a0 Z = true) (a : Nat) (xs : List Int32) (n : Int32) (r : List Int32) (h0 : Heap) (n0 : Nat) (O : Old Z n0 h0) (I_a : IA Z h0 a xs) (hm : copyM xs n = some r) :
    Ct l (⟨"java/util/Arrays", "copyOf", "([II)[I"⟩ : MethodName) jdk_65_method_123_code 3 (some (.array .int)) ({ frames := 1, cells := 1, slots := 3, locals := 31 } : Room) Z #[(.ref a), (.int n)] h0 (fun v h L => ∃ b : Nat, v = some (.ref b) ∧ Fr n0 L ∧ Keep h0 h [] ∧ (h0.size : Nat) ≤ b ∧ IA Z h b r) := by
  refine Ct.of (plainFor_of_name pn_Arrays_940) ?_
  intro p e s m below meth c T0 X0 hx hby hml hown hnm hret hlk hZ e0
  have hown : s.vm.findClass "java/util/Arrays" = some m.cls := hown
  have hml : c.maxLocals = 3 := hml
  have N0 := Fr.nil n0
  have H := hm
  unfold copyM at H
  have K : Keep h0 h0 [] := Keep.refl _ _
  refine Go.cast (g' := mkF m 0 #[.val (.ref a), .val (.int n), .unset] []) (by first | (simp [entryFrame, mkF, argsToLocals, Value.category]; done) | rfl) ?_
  refine Go.by (T' := T0) (g' := (mkF m 2 #[.val (.ref a), .val (.int n), .unset] [(.ref a), (.int n)])) (fun t k => ?_) ?_
  · show Steps p.tables e below (T0.setTop (mkF m 0 #[.val (.ref a), .val (.int n), .unset] [])) _
    refine XS.iloadN X0.here hx rfl (hb hby d_j65_m123_0) rfl ?_
    show Steps p.tables e below (T0.setTop (mkF m 1 #[.val (.ref a), .val (.int n), .unset] [(.int n)])) _
    refine XS.aloadN X0.here hx rfl (hb hby d_j65_m123_1) rfl rfl ?_
    exact k
  refine Go.iaN X0 hx hZ e0 I_a (hb hby d_j65_m123_2) ?_
  show Go p e below _ T0 (mkF m 3 #[.val (.ref a), .val (.int n), .unset] [(.int (lenI xs)), (.int n)])
  by_cases hy1 : n = (lenI xs)
  · skip
    replace H := (if_pos hy1).symm.trans H
    have hlen : xs.length ≤ 3 := Decidable.byContradiction fun q => by rw [if_neg q] at H; cases H
    replace H := (if_pos hlen).symm.trans H
    refine Go.by (T' := T0) (g' := (mkF m 7 #[.val (.ref a), .val (.int n), .unset] [(.ref a)])) (fun t k => ?_) ?_
    · show Steps p.tables e below (T0.setTop (mkF m 3 #[.val (.ref a), .val (.int n), .unset] [(.int (lenI xs)), (.int n)])) _
      refine XS.icmpNo X0.here hx rfl (hb hby d_j65_m123_3) rfl (teq hy1).2 ?_
      show Steps p.tables e below (T0.setTop (mkF m 6 #[.val (.ref a), .val (.int n), .unset] [])) _
      refine XS.aloadN X0.here hx rfl (hb hby d_j65_m123_6) rfl rfl ?_
      exact k
    refine Go.iaClone X0 hx hZ hown (wd hw 29 rfl) (wd hw 11 rfl) (wd hw 15 rfl) (wd hw 13 rfl) (wd hw 14 rfl) (wd hw 16 rfl) e0 I_a (by rw [hml]; rfl) (hb hby d_j65_m123_7) (by decide) (W := 0) (cap := 3) rfl (by decide) hlen (by decide) (by decide) ?_
    intro T2 h2 b1 X2 e2 E2 g2 I_b1 EI_b1
    have lb2 : (h0.size : Nat) ≤ b1 := Nat.le_of_eq g2.symm
    have ord3 : (n0 : Nat) ≤ b1 ∧ (h0.size : Nat) ≤ b1 ∧ (a : Nat) < b1 := by
      have u0 : (n0 : Nat) ≤ h0.size := OwnKit.Old.le O
      have u1 : (h0.size : Nat) ≤ b1 := lb2
      have u2 : (h0.size : Nat) ≤ h0.size := K.1
      have z0 : (a : Nat) < h0.size := I_a.lt
      omega
    replace I_a := I_a.ext E2
    replace O := O.ext E2
    replace K := K.ext E2
    show Go p e below _ T2 (mkF m 10 #[.val (.ref a), .val (.int n), .unset] [(.ref b1)])
    refine Go.castY X2 hx hZ hown (wd hw 30 rfl) e2 (Ins.self EI_b1) (hb hby d_j65_m123_10) ?_
    intro T4 X4 e4
    show Go p e below _ T4 (mkF m 13 #[.val (.ref a), .val (.int n), .unset] [(.ref b1)])
    refine Go.retA X4 hx hlk hret rfl rfl (hb hby d_j65_m123_13) (by decide) (by decide) e4 ?_
    cases H
    exact ⟨b1, rfl, N0, K, by omega, I_b1⟩
  · skip
    replace H := (if_neg hy1).symm.trans H
    refine Go.by (T' := T0) (g' := (mkF m 15 #[.val (.ref a), .val (.int n), .unset] [(.int n)])) (fun t k => ?_) ?_
    · show Steps p.tables e below (T0.setTop (mkF m 3 #[.val (.ref a), .val (.int n), .unset] [(.int (lenI xs)), (.int n)])) _
      refine XS.icmpYes X0.here hx rfl (pc0 := 3) (pc' := 14) rfl (hb hby d_j65_m123_3) rfl (feq hy1).2 (by decide) (by decide) ?_
      show Steps p.tables e below (T0.setTop (mkF m 14 #[.val (.ref a), .val (.int n), .unset] [])) _
      refine XS.iloadN X0.here hx rfl (hb hby d_j65_m123_14) rfl ?_
      exact k
    obtain ⟨ys, hv_ys, H⟩ := ob H
    refine Go.iaNew X0 hx hZ (wd hw 0 rfl) e0 (cap := 3) hv_ys (hb hby d_j65_m123_15) (by decide) (by decide) (by decide) ?_
    intro T5 h5 b2 X5 e5 E5 g5 I_b2
    have lb5 : (h0.size : Nat) ≤ b2 := Nat.le_of_eq g5.symm
    have ord6 : (n0 : Nat) ≤ b2 ∧ (h0.size : Nat) ≤ b2 ∧ (a : Nat) < b2 := by
      have u0 : (n0 : Nat) ≤ h0.size := OwnKit.Old.le O
      have u1 : (h0.size : Nat) ≤ b2 := lb5
      have u2 : (h0.size : Nat) ≤ h0.size := K.1
      have z0 : (a : Nat) < h0.size := I_a.lt
      omega
    replace I_a := I_a.ext E5
    replace O := O.ext E5
    replace K := K.ext E5
    show Go p e below _ T5 (mkF m 17 #[.val (.ref a), .val (.int n), .unset] [(.ref b2)])
    refine Go.by (T' := T5) (g' := (mkF m 23 #[.val (.ref a), .val (.int n), .val (.ref b2)] [(.ref a), (.int (0 : Int32)), (.ref b2), (.int (0 : Int32)), (.ref a)])) (fun t k => ?_) ?_
    · show Steps p.tables e below (T5.setTop (mkF m 17 #[.val (.ref a), .val (.int n), .unset] [(.ref b2)])) _
      refine XS.astoreN X5.here hx rfl (hb hby d_j65_m123_17) rfl rfl (l' := #[.val (.ref a), .val (.int n), .val (.ref b2)]) rfl ?_
      show Steps p.tables e below (T5.setTop (mkF m 18 #[.val (.ref a), .val (.int n), .val (.ref b2)] [])) _
      refine XS.aloadN X5.here hx rfl (hb hby d_j65_m123_18) rfl rfl ?_
      show Steps p.tables e below (T5.setTop (mkF m 19 #[.val (.ref a), .val (.int n), .val (.ref b2)] [(.ref a)])) _
      refine XS.iconst X5.here hx rfl (hb hby d_j65_m123_19) ?_
      show Steps p.tables e below (T5.setTop (mkF m 20 #[.val (.ref a), .val (.int n), .val (.ref b2)] [(.int (0 : Int32)), (.ref a)])) _
      refine XS.aloadN X5.here hx rfl (hb hby d_j65_m123_20) rfl rfl ?_
      show Steps p.tables e below (T5.setTop (mkF m 21 #[.val (.ref a), .val (.int n), .val (.ref b2)] [(.ref b2), (.int (0 : Int32)), (.ref a)])) _
      refine XS.iconst X5.here hx rfl (hb hby d_j65_m123_21) ?_
      show Steps p.tables e below (T5.setTop (mkF m 22 #[.val (.ref a), .val (.int n), .val (.ref b2)] [(.int (0 : Int32)), (.ref b2), (.int (0 : Int32)), (.ref a)])) _
      refine XS.aloadN X5.here hx rfl (hb hby d_j65_m123_22) rfl rfl ?_
      exact k
    refine Go.iaN X5 hx hZ e5 I_a (hb hby d_j65_m123_23) ?_
    show Go p e below _ T5 (mkF m 24 #[.val (.ref a), .val (.int n), .val (.ref b2)] [(.int (lenI xs)), (.int (0 : Int32)), (.ref b2), (.int (0 : Int32)), (.ref a)])
    refine Go.by (T' := T5) (g' := (mkF m 25 #[.val (.ref a), .val (.int n), .val (.ref b2)] [(.int n), (.int (lenI xs)), (.int (0 : Int32)), (.ref b2), (.int (0 : Int32)), (.ref a)])) (fun t k => ?_) ?_
    · show Steps p.tables e below (T5.setTop (mkF m 24 #[.val (.ref a), .val (.int n), .val (.ref b2)] [(.int (lenI xs)), (.int (0 : Int32)), (.ref b2), (.int (0 : Int32)), (.ref a)])) _
      refine XS.iloadN X5.here hx rfl (hb hby d_j65_m123_24) rfl ?_
      exact k
    refine Go.callS X5 hx hZ (W := 4) (argsL := [(.int (lenI xs)), (.int n)]) (rest := [(.int (0 : Int32)), (.ref b2), (.int (0 : Int32)), (.ref a)]) hown (wd hw 83 rfl) (wd hw 76 rfl) (wd hw 73 rfl) (wd hw 77 rfl) (by decide) (ct_min l Z a0 hw  (lenI xs) n h5 n0 O ) e5 (by rw [hml]; rfl) (lenOf pd__II_I_420 rfl) rfl rfl (hb hby d_j65_m123_25) (by decide) (by decide) (by decide) (by decide) ?_
    intro v7 T7 h7 L7 X7 e7 q7
    obtain ⟨rfl, N7, rfl⟩ := q7
    replace N7 := Fr.app N0 N7
    show Go p e below _ T7 (mkF m 28 #[.val (.ref a), .val (.int n), .val (.ref b2)] [(.int (mnM (lenI xs) n)), (.int (0 : Int32)), (.ref b2), (.int (0 : Int32)), (.ref a)])
    have hlt : n < lenI xs := Decidable.byContradiction fun q => by rw [if_neg q] at H; cases H
    replace H := (if_pos hlt).symm.trans H
    have hle : n.toNatClampNeg ≤ xs.length := Decidable.byContradiction fun q => by rw [if_neg q] at H; cases H
    replace H := (if_pos hle).symm.trans H
    have hmn : mnM (lenI xs) n = n := if_pos hlt
    obtain ⟨hn1, hn2, hn3⟩ := nwO_iff hv_ys
    rw [hmn]
    refine Go.iaCopy X7 hx hZ hown (wd hw 84 rfl) (wd hw 87 rfl) (wd hw 85 rfl) (wd hw 86 rfl) e7 I_a I_b2 (nn := n) hn1 (by rw [hn3]; simp) hle N7 (by omega) (by rw [hml]; rfl) (hb hby d_j65_m123_28) (by decide) (W := 0) rfl (by decide) ?_
    intro T8 h8 L8 X8 e8 N8 K8 Vn8
    replace I_a := I_a.keep K8 (ninS (show (a : Nat) ≠ b2 by omega) nin0)
    replace I_b2 := Vn8
    replace O := O.keep K8 (allS (show (n0 : Nat) ≤ b2 by omega) all0)
    replace K := K.trans K8 (allS (Or.inr (show (h0.size : Nat) ≤ b2 by omega)) all0)
    show Go p e below _ T8 (mkF m 31 #[.val (.ref a), .val (.int n), .val (.ref b2)] [])
    refine Go.by (T' := T8) (g' := (mkF m 32 #[.val (.ref a), .val (.int n), .val (.ref b2)] [(.ref b2)])) (fun t k => ?_) ?_
    · show Steps p.tables e below (T8.setTop (mkF m 31 #[.val (.ref a), .val (.int n), .val (.ref b2)] [])) _
      refine XS.aloadN X8.here hx rfl (hb hby d_j65_m123_31) rfl rfl ?_
      exact k
    refine Go.retA X8 hx hlk hret rfl rfl (hb hby d_j65_m123_32) (by decide) (by decide) e8 ?_
    cases H
    exact ⟨b2, rfl, N8, K, by omega, I_b2⟩
set_option maxRecDepth 65536 in
set_option maxHeartbeats 40000000 in
theorem ct_init (l : Launch) (Z : State) (a0 : Array Value) (hw : ∀ d ∈ tables_1, d.before a0 Z = true) (b : Nat) (a : Nat) (src : List Int32) (lim : Int32) (st : EDS) (h0 : Heap) (n0 : Nat) (O : Old Z n0 h0) (g_b : (n0 : Nat) ≤ b) (hab : (a : Nat) < b) (E_b : Exa Z h0 b "com/example/shingle/shingle/EditDistance") (F_source : Fld Z h0 b "com/example/shingle/shingle/EditDistance" "source" "[I" .null) (F_limit : Fld Z h0 b "com/example/shingle/shingle/EditDistance" "limit" "I" (.int (0 : Int32))) (F_sourceLetters : Fld Z h0 b "com/example/shingle/shingle/EditDistance" "sourceLetters" "[I" .null) (F_distinct : Fld Z h0 b "com/example/shingle/shingle/EditDistance" "distinct" "[I" .null) (F_lastRowBefore : Fld Z h0 b "com/example/shingle/shingle/EditDistance" "lastRowBefore" "[[I" .null) (F_columns : Fld Z h0 b "com/example/shingle/shingle/EditDistance" "columns" "[[I" .null) (F_fewest : Fld Z h0 b "com/example/shingle/shingle/EditDistance" "fewest" "[I" .null) (F_targetLetters : Fld Z h0 b "com/example/shingle/shingle/EditDistance" "targetLetters" "[I" .null) (F_lastColumn : Fld Z h0 b "com/example/shingle/shingle/EditDistance" "lastColumn" "[I" .null) (F_replacedColumn : Fld Z h0 b "com/example/shingle/shingle/EditDistance" "replacedColumn" "[I" .null) (F_read : Fld Z h0 b "com/example/shingle/shingle/EditDistance" "read" "I" (.int (0 : Int32))) (I_a : IA Z h0 a src) (hm : initM src lim = some st) :
    Ct l (⟨"com/example/shingle/shingle/EditDistance", "<init>", "([II)V"⟩ : MethodName) prog_8_method_1_code 8 none ({ frames := 2, cells := 20, slots := 86, locals := 46 } : Room) Z #[(.ref b), (.ref a), (.int lim)] h0 (fun v h L => v = none ∧ Fr n0 L ∧ Keep h0 h [b] ∧ ∃ w, ED Z h b w st) := by
  refine Ct.of (plainFor_of_name pn_EditDistance_202) ?_
  intro p e s m below meth c T0 X0 hx hby hml hown hnm hret hlk hZ e0
  have hown : s.vm.findClass "com/example/shingle/shingle/EditDistance" = some m.cls := hown
  have hml : c.maxLocals = 8 := hml
  have N0 := Fr.nil n0
  have H := hm
  unfold initM at H
  have K : Keep h0 h0 [b] := Keep.refl _ _
  refine Go.cast (g' := mkF m 0 #[.val (.ref b), .val (.ref a), .val (.int lim), .unset, .unset, .unset, .unset, .unset] []) (by first | (simp [entryFrame, mkF, argsToLocals, Value.category]; done) | rfl) ?_
  refine Go.by (T' := T0) (g' := (mkF m 1 #[.val (.ref b), .val (.ref a), .val (.int lim), .unset, .unset, .unset, .unset, .unset] [(.ref b)])) (fun t k => ?_) ?_
  · show Steps p.tables e below (T0.setTop (mkF m 0 #[.val (.ref b), .val (.ref a), .val (.int lim), .unset, .unset, .unset, .unset, .unset] [])) _
    refine XS.aloadN X0.here hx rfl (hb hby d_p8_m1_0) rfl rfl ?_
    exact k
  refine Go.initO X0 hx hZ hown (wd hw 7 rfl) (wd hw 8 rfl) (wd hw 9 rfl) e0 (by rw [hml]; rfl) (hb hby d_p8_m1_1) (by decide) (W := 0) rfl (by decide) ?_
  intro T1 X1 e1
  show Go p e below _ T1 (mkF m 4 #[.val (.ref b), .val (.ref a), .val (.int lim), .unset, .unset, .unset, .unset, .unset] [])
  refine Go.by (T' := T1) (g' := (mkF m 5 #[.val (.ref b), .val (.ref a), .val (.int lim), .unset, .unset, .unset, .unset, .unset] [(.int lim)])) (fun t k => ?_) ?_
  · show Steps p.tables e below (T1.setTop (mkF m 4 #[.val (.ref b), .val (.ref a), .val (.int lim), .unset, .unset, .unset, .unset, .unset] [])) _
    refine XS.iloadN X1.here hx rfl (hb hby d_p8_m1_4) rfl ?_
    exact k
  have hne : ¬ (lim < (0 : Int32)) := fun q => by rw [if_pos q] at H; cases H
  replace H := (if_neg hne).symm.trans H
  have hlen : ¬ 3 < src.length := fun q => by rw [if_pos q] at H; cases H
  replace H := (if_neg hlen).symm.trans H
  refine Go.by (T' := T1) (g' := (mkF m 24 #[.val (.ref b), .val (.ref a), .val (.int lim), .unset, .unset, .unset, .unset, .unset] [(.ref a), (.ref b)])) (fun t k => ?_) ?_
  · show Steps p.tables e below (T1.setTop (mkF m 5 #[.val (.ref b), .val (.ref a), .val (.int lim), .unset, .unset, .unset, .unset, .unset] [(.int lim)])) _
    refine XS.ifYes X1.here hx rfl (pc0 := 5) (pc' := 22) rfl (hb hby d_p8_m1_5) rfl ((if0 _ _).trans (flt hne).2.1) (by decide) (by decide) ?_
    show Steps p.tables e below (T1.setTop (mkF m 22 #[.val (.ref b), .val (.ref a), .val (.int lim), .unset, .unset, .unset, .unset, .unset] [])) _
    refine XS.aloadN X1.here hx rfl (hb hby d_p8_m1_22) rfl rfl ?_
    show Steps p.tables e below (T1.setTop (mkF m 23 #[.val (.ref b), .val (.ref a), .val (.int lim), .unset, .unset, .unset, .unset, .unset] [(.ref b)])) _
    refine XS.aloadN X1.here hx rfl (hb hby d_p8_m1_23) rfl rfl ?_
    exact k
  refine Go.iaClone X1 hx hZ hown (wd hw 10 rfl) (wd hw 11 rfl) (wd hw 15 rfl) (wd hw 13 rfl) (wd hw 14 rfl) (wd hw 16 rfl) e1 I_a (by rw [hml]; rfl) (hb hby d_p8_m1_24) (by decide) (W := 1) (cap := 3) rfl (by decide) (by omega) (by decide) (by decide) ?_
  intro T2 h2 aS X2 e2 E2 g2 I_aS EI_aS
  have lb2 : (h0.size : Nat) ≤ aS := Nat.le_of_eq g2.symm
  have ord3 : (n0 : Nat) ≤ aS ∧ (h0.size : Nat) ≤ aS ∧ (b : Nat) < aS ∧ (a : Nat) < aS := by
    have u0 : (n0 : Nat) ≤ h0.size := OwnKit.Old.le O
    have u1 : (h0.size : Nat) ≤ aS := lb2
    have u2 : (h0.size : Nat) ≤ h0.size := K.1
    have z0 : (b : Nat) < h0.size := E_b.lt
    have z1 : (a : Nat) < h0.size := I_a.lt
    omega
  replace E_b := E_b.ext E2
  replace F_source := F_source.ext E2
  replace F_limit := F_limit.ext E2
  replace F_sourceLetters := F_sourceLetters.ext E2
  replace F_distinct := F_distinct.ext E2
  replace F_lastRowBefore := F_lastRowBefore.ext E2
  replace F_columns := F_columns.ext E2
  replace F_fewest := F_fewest.ext E2
  replace F_targetLetters := F_targetLetters.ext E2
  replace F_lastColumn := F_lastColumn.ext E2
  replace F_replacedColumn := F_replacedColumn.ext E2
  replace F_read := F_read.ext E2
  replace I_a := I_a.ext E2
  replace O := O.ext E2
  replace K := K.ext E2
  show Go p e below _ T2 (mkF m 27 #[.val (.ref b), .val (.ref a), .val (.int lim), .unset, .unset, .unset, .unset, .unset] [(.ref aS), (.ref b)])
  refine Go.castY X2 hx hZ hown (wd hw 17 rfl) e2 (Ins.self EI_aS) (hb hby d_p8_m1_27) ?_
  intro T4 X4 e4
  show Go p e below _ T4 (mkF m 30 #[.val (.ref b), .val (.ref a), .val (.int lim), .unset, .unset, .unset, .unset, .unset] [(.ref aS), (.ref b)])
  clear EI_aS
  refine Go.putF X4 hx hZ hown (wd hw 19 rfl) Via.refl e4 F_source E_b (Or.inr ⟨(wd hw 20 rfl), rfl, hnm⟩) (wd hw 2 rfl) (ty := (.array .int)) (by decide) rfl rfl (hb hby d_p8_m1_30) ?_
  intro T5 h5 X5 e5 W5
  replace E_b := E_b.wr W5
  replace F_source := F_source.same W5
  replace F_limit := F_limit.other W5 (Or.inr (slot_ne (a0 := a0) (Or.inr (wd hw 22 rfl)) (Or.inr (wd hw 20 rfl)) (by decide) (t := .int) (t' := (.array .int)) (by decide) (by decide)))
  replace F_sourceLetters := F_sourceLetters.other W5 (Or.inr (slot_ne (a0 := a0) (Or.inr (wd hw 24 rfl)) (Or.inr (wd hw 20 rfl)) (by decide) (t := (.array .int)) (t' := (.array .int)) (by decide) (by decide)))
  replace F_distinct := F_distinct.other W5 (Or.inr (slot_ne (a0 := a0) (Or.inr (wd hw 32 rfl)) (Or.inr (wd hw 20 rfl)) (by decide) (t := (.array .int)) (t' := (.array .int)) (by decide) (by decide)))
  replace F_lastRowBefore := F_lastRowBefore.other W5 (Or.inr (slot_ne (a0 := a0) (Or.inr (wd hw 36 rfl)) (Or.inr (wd hw 20 rfl)) (by decide) (t := (.array (.array .int))) (t' := (.array .int)) (by decide) (by decide)))
  replace F_columns := F_columns.other W5 (Or.inr (slot_ne (a0 := a0) (Or.inr (wd hw 43 rfl)) (Or.inr (wd hw 20 rfl)) (by decide) (t := (.array (.array .int))) (t' := (.array .int)) (by decide) (by decide)))
  replace F_fewest := F_fewest.other W5 (Or.inr (slot_ne (a0 := a0) (Or.inr (wd hw 45 rfl)) (Or.inr (wd hw 20 rfl)) (by decide) (t := (.array .int)) (t' := (.array .int)) (by decide) (by decide)))
  replace F_targetLetters := F_targetLetters.other W5 (Or.inr (slot_ne (a0 := a0) (Or.inr (wd hw 47 rfl)) (Or.inr (wd hw 20 rfl)) (by decide) (t := (.array .int)) (t' := (.array .int)) (by decide) (by decide)))
  replace F_lastColumn := F_lastColumn.other W5 (Or.inr (slot_ne (a0 := a0) (Or.inr (wd hw 49 rfl)) (Or.inr (wd hw 20 rfl)) (by decide) (t := (.array .int)) (t' := (.array .int)) (by decide) (by decide)))
  replace F_replacedColumn := F_replacedColumn.other W5 (Or.inr (slot_ne (a0 := a0) (Or.inr (wd hw 51 rfl)) (Or.inr (wd hw 20 rfl)) (by decide) (t := (.array .int)) (t' := (.array .int)) (by decide) (by decide)))
  replace F_read := F_read.other W5 (Or.inr (slot_ne (a0 := a0) (Or.inl (wd hw 62 rfl)) (Or.inr (wd hw 20 rfl)) (by decide) (t := .int) (t' := (.array .int)) (by decide) (by decide)))
  replace I_a := I_a.other W5 (show (a : Nat) ≠ b by omega)
  replace I_aS := I_aS.other W5 (show (aS : Nat) ≠ b by omega)
  replace O := O.wr W5 (show (n0 : Nat) ≤ b by omega)
  have N5 := Fr.snoc X5 N0 (show (n0 : Nat) ≤ b by omega)
  replace K := K.wr W5 (Or.inl (List.mem_singleton.mpr rfl))
  show Go p e below _ T5 (mkF m 33 #[.val (.ref b), .val (.ref a), .val (.int lim), .unset, .unset, .unset, .unset, .unset] [])
  refine Go.by (T' := T5) (g' := (mkF m 35 #[.val (.ref b), .val (.ref a), .val (.int lim), .unset, .unset, .unset, .unset, .unset] [(.int lim), (.ref b)])) (fun t k => ?_) ?_
  · show Steps p.tables e below (T5.setTop (mkF m 33 #[.val (.ref b), .val (.ref a), .val (.int lim), .unset, .unset, .unset, .unset, .unset] [])) _
    refine XS.aloadN X5.here hx rfl (hb hby d_p8_m1_33) rfl rfl ?_
    show Steps p.tables e below (T5.setTop (mkF m 34 #[.val (.ref b), .val (.ref a), .val (.int lim), .unset, .unset, .unset, .unset, .unset] [(.ref b)])) _
    refine XS.iloadN X5.here hx rfl (hb hby d_p8_m1_34) rfl ?_
    exact k
  refine Go.putF X5 hx hZ hown (wd hw 21 rfl) Via.refl e5 F_limit E_b (Or.inr ⟨(wd hw 22 rfl), rfl, hnm⟩) (wd hw 2 rfl) (ty := .int) (by decide) rfl rfl (hb hby d_p8_m1_35) ?_
  intro T6 h6 X6 e6 W6
  replace E_b := E_b.wr W6
  replace F_source := F_source.other W6 (Or.inr (slot_ne (a0 := a0) (Or.inr (wd hw 20 rfl)) (Or.inr (wd hw 22 rfl)) (by decide) (t := (.array .int)) (t' := .int) (by decide) (by decide)))
  replace F_limit := F_limit.same W6
  replace F_sourceLetters := F_sourceLetters.other W6 (Or.inr (slot_ne (a0 := a0) (Or.inr (wd hw 24 rfl)) (Or.inr (wd hw 22 rfl)) (by decide) (t := (.array .int)) (t' := .int) (by decide) (by decide)))
  replace F_distinct := F_distinct.other W6 (Or.inr (slot_ne (a0 := a0) (Or.inr (wd hw 32 rfl)) (Or.inr (wd hw 22 rfl)) (by decide) (t := (.array .int)) (t' := .int) (by decide) (by decide)))
  replace F_lastRowBefore := F_lastRowBefore.other W6 (Or.inr (slot_ne (a0 := a0) (Or.inr (wd hw 36 rfl)) (Or.inr (wd hw 22 rfl)) (by decide) (t := (.array (.array .int))) (t' := .int) (by decide) (by decide)))
  replace F_columns := F_columns.other W6 (Or.inr (slot_ne (a0 := a0) (Or.inr (wd hw 43 rfl)) (Or.inr (wd hw 22 rfl)) (by decide) (t := (.array (.array .int))) (t' := .int) (by decide) (by decide)))
  replace F_fewest := F_fewest.other W6 (Or.inr (slot_ne (a0 := a0) (Or.inr (wd hw 45 rfl)) (Or.inr (wd hw 22 rfl)) (by decide) (t := (.array .int)) (t' := .int) (by decide) (by decide)))
  replace F_targetLetters := F_targetLetters.other W6 (Or.inr (slot_ne (a0 := a0) (Or.inr (wd hw 47 rfl)) (Or.inr (wd hw 22 rfl)) (by decide) (t := (.array .int)) (t' := .int) (by decide) (by decide)))
  replace F_lastColumn := F_lastColumn.other W6 (Or.inr (slot_ne (a0 := a0) (Or.inr (wd hw 49 rfl)) (Or.inr (wd hw 22 rfl)) (by decide) (t := (.array .int)) (t' := .int) (by decide) (by decide)))
  replace F_replacedColumn := F_replacedColumn.other W6 (Or.inr (slot_ne (a0 := a0) (Or.inr (wd hw 51 rfl)) (Or.inr (wd hw 22 rfl)) (by decide) (t := (.array .int)) (t' := .int) (by decide) (by decide)))
  replace F_read := F_read.other W6 (Or.inr (slot_ne (a0 := a0) (Or.inl (wd hw 62 rfl)) (Or.inr (wd hw 22 rfl)) (by decide) (t := .int) (t' := .int) (by decide) (by decide)))
  replace I_a := I_a.other W6 (show (a : Nat) ≠ b by omega)
  replace I_aS := I_aS.other W6 (show (aS : Nat) ≠ b by omega)
  replace O := O.wr W6 (show (n0 : Nat) ≤ b by omega)
  have N6 := Fr.snoc X6 N5 (show (n0 : Nat) ≤ b by omega)
  replace K := K.wr W6 (Or.inl (List.mem_singleton.mpr rfl))
  show Go p e below _ T6 (mkF m 38 #[.val (.ref b), .val (.ref a), .val (.int lim), .unset, .unset, .unset, .unset, .unset] [])
  refine Go.by (T' := T6) (g' := (mkF m 39 #[.val (.ref b), .val (.ref a), .val (.int lim), .unset, .unset, .unset, .unset, .unset] [(.ref a)])) (fun t k => ?_) ?_
  · show Steps p.tables e below (T6.setTop (mkF m 38 #[.val (.ref b), .val (.ref a), .val (.int lim), .unset, .unset, .unset, .unset, .unset] [])) _
    refine XS.aloadN X6.here hx rfl (hb hby d_p8_m1_38) rfl rfl ?_
    exact k
  refine Go.iaN X6 hx hZ e6 I_a (hb hby d_p8_m1_39) ?_
  show Go p e below _ T6 (mkF m 40 #[.val (.ref b), .val (.ref a), .val (.int lim), .unset, .unset, .unset, .unset, .unset] [(.int (lenI src))])
  obtain ⟨sl0, hv_sl0, H⟩ := ob H
  refine Go.iaNew X6 hx hZ (wd hw 0 rfl) e6 (cap := 3) hv_sl0 (hb hby d_p8_m1_40) (by decide) (by decide) (by decide) ?_
  intro T7 h7 aL X7 e7 E7 g7 I_aL
  have lb7 : (h6.size : Nat) ≤ aL := Nat.le_of_eq g7.symm
  have ord8 : (n0 : Nat) ≤ aL ∧ (h0.size : Nat) ≤ aL ∧ (b : Nat) < aL ∧ (a : Nat) < aL ∧ (aS : Nat) < aL := by
    have u0 : (n0 : Nat) ≤ h6.size := OwnKit.Old.le O
    have u1 : (h6.size : Nat) ≤ aL := lb7
    have u2 : (h0.size : Nat) ≤ h6.size := K.1
    have z0 : (b : Nat) < h6.size := E_b.lt
    have z1 : (a : Nat) < h6.size := I_a.lt
    have z2 : (aS : Nat) < h6.size := I_aS.lt
    omega
  replace E_b := E_b.ext E7
  replace F_source := F_source.ext E7
  replace F_limit := F_limit.ext E7
  replace F_sourceLetters := F_sourceLetters.ext E7
  replace F_distinct := F_distinct.ext E7
  replace F_lastRowBefore := F_lastRowBefore.ext E7
  replace F_columns := F_columns.ext E7
  replace F_fewest := F_fewest.ext E7
  replace F_targetLetters := F_targetLetters.ext E7
  replace F_lastColumn := F_lastColumn.ext E7
  replace F_replacedColumn := F_replacedColumn.ext E7
  replace F_read := F_read.ext E7
  replace I_a := I_a.ext E7
  replace I_aS := I_aS.ext E7
  replace O := O.ext E7
  replace K := K.ext E7
  show Go p e below _ T7 (mkF m 42 #[.val (.ref b), .val (.ref a), .val (.int lim), .unset, .unset, .unset, .unset, .unset] [(.ref aL)])
  refine Go.by (T' := T7) (g' := (mkF m 44 #[.val (.ref b), .val (.ref a), .val (.int lim), .val (.ref aL), .unset, .unset, .unset, .unset] [(.ref a)])) (fun t k => ?_) ?_
  · show Steps p.tables e below (T7.setTop (mkF m 42 #[.val (.ref b), .val (.ref a), .val (.int lim), .unset, .unset, .unset, .unset, .unset] [(.ref aL)])) _
    refine XS.astoreN X7.here hx rfl (hb hby d_p8_m1_42) rfl rfl (l' := #[.val (.ref b), .val (.ref a), .val (.int lim), .val (.ref aL), .unset, .unset, .unset, .unset]) rfl ?_
    show Steps p.tables e below (T7.setTop (mkF m 43 #[.val (.ref b), .val (.ref a), .val (.int lim), .val (.ref aL), .unset, .unset, .unset, .unset] [])) _
    refine XS.aloadN X7.here hx rfl (hb hby d_p8_m1_43) rfl rfl ?_
    exact k
  refine Go.iaN X7 hx hZ e7 I_a (hb hby d_p8_m1_44) ?_
  show Go p e below _ T7 (mkF m 45 #[.val (.ref b), .val (.ref a), .val (.int lim), .val (.ref aL), .unset, .unset, .unset, .unset] [(.int (lenI src))])
  refine Go.iaNew X7 hx hZ (wd hw 0 rfl) e7 (cap := 3) hv_sl0 (hb hby d_p8_m1_45) (by decide) (by decide) (by decide) ?_
  intro T9 h9 aN X9 e9 E9 g9 I_aN
  have lb9 : (h7.size : Nat) ≤ aN := Nat.le_of_eq g9.symm
  have ord10 : (n0 : Nat) ≤ aN ∧ (h0.size : Nat) ≤ aN ∧ (b : Nat) < aN ∧ (a : Nat) < aN ∧ (aS : Nat) < aN ∧ (aL : Nat) < aN := by
    have u0 : (n0 : Nat) ≤ h7.size := OwnKit.Old.le O
    have u1 : (h7.size : Nat) ≤ aN := lb9
    have u2 : (h0.size : Nat) ≤ h7.size := K.1
    have z0 : (b : Nat) < h7.size := E_b.lt
    have z1 : (a : Nat) < h7.size := I_a.lt
    have z2 : (aS : Nat) < h7.size := I_aS.lt
    have z3 : (aL : Nat) < h7.size := I_aL.lt
    omega
  replace E_b := E_b.ext E9
  replace F_source := F_source.ext E9
  replace F_limit := F_limit.ext E9
  replace F_sourceLetters := F_sourceLetters.ext E9
  replace F_distinct := F_distinct.ext E9
  replace F_lastRowBefore := F_lastRowBefore.ext E9
  replace F_columns := F_columns.ext E9
  replace F_fewest := F_fewest.ext E9
  replace F_targetLetters := F_targetLetters.ext E9
  replace F_lastColumn := F_lastColumn.ext E9
  replace F_replacedColumn := F_replacedColumn.ext E9
  replace F_read := F_read.ext E9
  replace I_a := I_a.ext E9
  replace I_aS := I_aS.ext E9
  replace I_aL := I_aL.ext E9
  replace O := O.ext E9
  replace K := K.ext E9
  show Go p e below _ T9 (mkF m 47 #[.val (.ref b), .val (.ref a), .val (.int lim), .val (.ref aL), .unset, .unset, .unset, .unset] [(.ref aN)])
  refine Go.by (T' := T9) (g' := (mkF m 55 #[.val (.ref b), .val (.ref a), .val (.int lim), .val (.ref aL), .val (.ref aN), .val (.int (0 : Int32)), .val (.int (0 : Int32)), .unset] [])) (fun t k => ?_) ?_
  · show Steps p.tables e below (T9.setTop (mkF m 47 #[.val (.ref b), .val (.ref a), .val (.int lim), .val (.ref aL), .unset, .unset, .unset, .unset] [(.ref aN)])) _
    refine XS.astore X9.here hx rfl (hb hby d_p8_m1_47) rfl rfl (l' := #[.val (.ref b), .val (.ref a), .val (.int lim), .val (.ref aL), .val (.ref aN), .unset, .unset, .unset]) rfl ?_
    show Steps p.tables e below (T9.setTop (mkF m 49 #[.val (.ref b), .val (.ref a), .val (.int lim), .val (.ref aL), .val (.ref aN), .unset, .unset, .unset] [])) _
    refine XS.iconst X9.here hx rfl (hb hby d_p8_m1_49) ?_
    show Steps p.tables e below (T9.setTop (mkF m 50 #[.val (.ref b), .val (.ref a), .val (.int lim), .val (.ref aL), .val (.ref aN), .unset, .unset, .unset] [(.int (0 : Int32))])) _
    refine XS.istore X9.here hx rfl (hb hby d_p8_m1_50) rfl (l' := #[.val (.ref b), .val (.ref a), .val (.int lim), .val (.ref aL), .val (.ref aN), .val (.int (0 : Int32)), .unset, .unset]) rfl ?_
    show Steps p.tables e below (T9.setTop (mkF m 52 #[.val (.ref b), .val (.ref a), .val (.int lim), .val (.ref aL), .val (.ref aN), .val (.int (0 : Int32)), .unset, .unset] [])) _
    refine XS.iconst X9.here hx rfl (hb hby d_p8_m1_52) ?_
    show Steps p.tables e below (T9.setTop (mkF m 53 #[.val (.ref b), .val (.ref a), .val (.int lim), .val (.ref aL), .val (.ref aN), .val (.int (0 : Int32)), .unset, .unset] [(.int (0 : Int32))])) _
    refine XS.istore X9.here hx rfl (hb hby d_p8_m1_53) rfl (l' := #[.val (.ref b), .val (.ref a), .val (.int lim), .val (.ref aL), .val (.ref aN), .val (.int (0 : Int32)), .val (.int (0 : Int32)), .unset]) rfl ?_
    exact k
  obtain ⟨⟨sl1, se1, cn1⟩, hp, H2⟩ := ob H
  dsimp only at H2
  have J11 : ∀ (f11 : Nat) (cn : Int32) (ii : Int32) (sl : List Int32) (se : List Int32) (s7 : Slot) (T11 : State) (h11 : Heap) (L11 : List Loc), (Stand p l e ({ frames := 2, cells := 20, slots := 86, locals := 46 } : Room) s m #[(.ref b), (.ref a), (.int lim)] below meth c T11 L11 3 9) → (T11.heap = h11) → (Old Z n0 h11) → (Fr n0 L11) → (Keep h0 h11 [b]) → (Exa Z h11 b "com/example/shingle/shingle/EditDistance") → (Fld Z h11 b "com/example/shingle/shingle/EditDistance" "source" "[I" (.ref aS)) → (Fld Z h11 b "com/example/shingle/shingle/EditDistance" "limit" "I" (.int lim)) → (Fld Z h11 b "com/example/shingle/shingle/EditDistance" "sourceLetters" "[I" .null) → (Fld Z h11 b "com/example/shingle/shingle/EditDistance" "distinct" "[I" .null) → (Fld Z h11 b "com/example/shingle/shingle/EditDistance" "lastRowBefore" "[[I" .null) → (Fld Z h11 b "com/example/shingle/shingle/EditDistance" "columns" "[[I" .null) → (Fld Z h11 b "com/example/shingle/shingle/EditDistance" "fewest" "[I" .null) → (Fld Z h11 b "com/example/shingle/shingle/EditDistance" "targetLetters" "[I" .null) → (Fld Z h11 b "com/example/shingle/shingle/EditDistance" "lastColumn" "[I" .null) → (Fld Z h11 b "com/example/shingle/shingle/EditDistance" "replacedColumn" "[I" .null) → (Fld Z h11 b "com/example/shingle/shingle/EditDistance" "read" "I" (.int (0 : Int32))) → (IA Z h11 a src) → (IA Z h11 aS src) → (IA Z h11 aL sl) → (IA Z h11 aN se) → (s7 = .unset ∨ ∃ w, s7 = .val w ∧ w.category = 1) → (leL f11 src sl se cn ii = some (sl1, se1, cn1)) → Go p e below (EndF s ({ frames := 2, cells := 20, slots := 86, locals := 46 } : Room).cells ({ frames := 2, cells := 20, slots := 86, locals := 46 } : Room).slots (fun v h L => v = none ∧ Fr n0 L ∧ Keep h0 h [b] ∧ ∃ w, ED Z h b w st)) T11 (mkF m 55 #[.val (.ref b), .val (.ref a), .val (.int lim), .val (.ref aL), .val (.ref aN), .val (.int cn), .val (.int ii), s7] []) := by
    intro f11
    induction f11 with
    | zero => intro cn ii sl se s7 T11 h11 L11 X11 e11 O N11 K E_b F_source F_limit F_sourceLetters F_distinct F_lastRowBefore F_columns F_fewest F_targetLetters F_lastColumn F_replacedColumn F_read I_a I_aS I_aL I_aN hs7 H; cases H
    | succ f11 ih11 =>
      intro cn ii sl se s7 T11 h11 L11 X11 e11 O N11 K E_b F_source F_limit F_sourceLetters F_distinct F_lastRowBefore F_columns F_fewest F_targetLetters F_lastColumn F_replacedColumn F_read I_a I_aS I_aL I_aN hs7 H
      rw [leL] at H
      refine Go.by (T' := T11) (g' := (mkF m 58 #[.val (.ref b), .val (.ref a), .val (.int lim), .val (.ref aL), .val (.ref aN), .val (.int cn), .val (.int ii), s7] [(.ref a), (.int ii)])) (fun t k => ?_) ?_
      · show Steps p.tables e below (T11.setTop (mkF m 55 #[.val (.ref b), .val (.ref a), .val (.int lim), .val (.ref aL), .val (.ref aN), .val (.int cn), .val (.int ii), s7] [])) _
        refine XS.iload X11.here hx rfl (hb hby d_p8_m1_55) rfl ?_
        show Steps p.tables e below (T11.setTop (mkF m 57 #[.val (.ref b), .val (.ref a), .val (.int lim), .val (.ref aL), .val (.ref aN), .val (.int cn), .val (.int ii), s7] [(.int ii)])) _
        refine XS.aloadN X11.here hx rfl (hb hby d_p8_m1_57) rfl rfl ?_
        exact k
      refine Go.iaN X11 hx hZ e11 I_a (hb hby d_p8_m1_58) ?_
      show Go p e below _ T11 (mkF m 59 #[.val (.ref b), .val (.ref a), .val (.int lim), .val (.ref aL), .val (.ref aN), .val (.int cn), .val (.int ii), s7] [(.int (lenI src)), (.int ii)])
      by_cases hy12 : ii < (lenI src)
      · skip
        replace H := (if_pos hy12).symm.trans H
        refine Go.by (T' := T11) (g' := (mkF m 69 #[.val (.ref b), .val (.ref a), .val (.int lim), .val (.ref aL), .val (.ref aN), .val (.int cn), .val (.int ii), s7] [(.int ii), (.ref a), (.int cn), (.ref aN)])) (fun t k => ?_) ?_
        · show Steps p.tables e below (T11.setTop (mkF m 59 #[.val (.ref b), .val (.ref a), .val (.int lim), .val (.ref aL), .val (.ref aN), .val (.int cn), .val (.int ii), s7] [(.int (lenI src)), (.int ii)])) _
          refine XS.icmpNo X11.here hx rfl (hb hby d_p8_m1_59) rfl (tlt hy12).2.1 ?_
          show Steps p.tables e below (T11.setTop (mkF m 62 #[.val (.ref b), .val (.ref a), .val (.int lim), .val (.ref aL), .val (.ref aN), .val (.int cn), .val (.int ii), s7] [])) _
          refine XS.aload X11.here hx rfl (hb hby d_p8_m1_62) rfl rfl ?_
          show Steps p.tables e below (T11.setTop (mkF m 64 #[.val (.ref b), .val (.ref a), .val (.int lim), .val (.ref aL), .val (.ref aN), .val (.int cn), .val (.int ii), s7] [(.ref aN)])) _
          refine XS.iload X11.here hx rfl (hb hby d_p8_m1_64) rfl ?_
          show Steps p.tables e below (T11.setTop (mkF m 66 #[.val (.ref b), .val (.ref a), .val (.int lim), .val (.ref aL), .val (.ref aN), .val (.int cn), .val (.int ii), s7] [(.int cn), (.ref aN)])) _
          refine XS.aloadN X11.here hx rfl (hb hby d_p8_m1_66) rfl rfl ?_
          show Steps p.tables e below (T11.setTop (mkF m 67 #[.val (.ref b), .val (.ref a), .val (.int lim), .val (.ref aL), .val (.ref aN), .val (.int cn), .val (.int ii), s7] [(.ref a), (.int cn), (.ref aN)])) _
          refine XS.iload X11.here hx rfl (hb hby d_p8_m1_67) rfl ?_
          exact k
        obtain ⟨lv, hv_lv, H⟩ := ob H
        refine Go.iaL X11 hx hZ e11 I_a (j := ii) hv_lv (hb hby d_p8_m1_69) ?_
        show Go p e below _ T11 (mkF m 70 #[.val (.ref b), .val (.ref a), .val (.int lim), .val (.ref aL), .val (.ref aN), .val (.int cn), .val (.int ii), s7] [(.int lv), (.int cn), (.ref aN)])
        obtain ⟨r13, hr13, H⟩ := ob H
        refine Go.callS X11 hx hZ (W := 0) (argsL := [(.ref aN), (.int cn), (.int lv)]) (rest := []) hown (wd hw 63 rfl) (wd hw 64 rfl) (wd hw 3 rfl) (wd hw 65 rfl) (by decide) (ct_place l Z a0 hw  aN se cn lv r13 h11 n0 O I_aN hr13) e11 (by rw [hml]; rfl) (lenOf pd___III_I_9745 rfl) rfl rfl (hb hby d_p8_m1_70) (by decide) (by decide) (by decide) (by decide) ?_
        intro v14 T14 h14 L14 X14 e14 q14
        obtain ⟨rfl, N14, rfl⟩ := q14
        replace N14 := Fr.app N11 N14
        show Go p e below _ T14 (mkF m 73 #[.val (.ref b), .val (.ref a), .val (.int lim), .val (.ref aL), .val (.ref aN), .val (.int cn), .val (.int ii), s7] [(.int r13)])
        refine Go.by (T' := T14) (g' := (mkF m 77 #[.val (.ref b), .val (.ref a), .val (.int lim), .val (.ref aL), .val (.ref aN), .val (.int cn), .val (.int ii), .val (.int r13)] [(.int r13)])) (fun t k => ?_) ?_
        · show Steps p.tables e below (T14.setTop (mkF m 73 #[.val (.ref b), .val (.ref a), .val (.int lim), .val (.ref aL), .val (.ref aN), .val (.int cn), .val (.int ii), s7] [(.int r13)])) _
          refine XS.istore X14.here hx rfl (hb hby d_p8_m1_73) rfl (l' := #[.val (.ref b), .val (.ref a), .val (.int lim), .val (.ref aL), .val (.ref aN), .val (.int cn), .val (.int ii), .val (.int r13)]) (XS.store1 rfl hs7 rfl) ?_
          show Steps p.tables e below (T14.setTop (mkF m 75 #[.val (.ref b), .val (.ref a), .val (.int lim), .val (.ref aL), .val (.ref aN), .val (.int cn), .val (.int ii), .val (.int r13)] [])) _
          refine XS.iload X14.here hx rfl (hb hby d_p8_m1_75) rfl ?_
          exact k
        by_cases hy15 : r13 < (0 : Int32)
        · skip
          replace H := (if_pos hy15).symm.trans H
          refine Go.by (T' := T14) (g' := (mkF m 91 #[.val (.ref b), .val (.ref a), .val (.int lim), .val (.ref aL), .val (.ref aN), .val (.int cn), .val (.int ii), .val (.int cn)] [(.int ii), (.ref a), (.int cn), (.ref aN)])) (fun t k => ?_) ?_
          · show Steps p.tables e below (T14.setTop (mkF m 77 #[.val (.ref b), .val (.ref a), .val (.int lim), .val (.ref aL), .val (.ref aN), .val (.int cn), .val (.int ii), .val (.int r13)] [(.int r13)])) _
            refine XS.ifNo X14.here hx rfl (hb hby d_p8_m1_77) rfl ((if0 _ _).trans (tlt hy15).2.1) ?_
            show Steps p.tables e below (T14.setTop (mkF m 80 #[.val (.ref b), .val (.ref a), .val (.int lim), .val (.ref aL), .val (.ref aN), .val (.int cn), .val (.int ii), .val (.int r13)] [])) _
            refine XS.iload X14.here hx rfl (hb hby d_p8_m1_80) rfl ?_
            show Steps p.tables e below (T14.setTop (mkF m 82 #[.val (.ref b), .val (.ref a), .val (.int lim), .val (.ref aL), .val (.ref aN), .val (.int cn), .val (.int ii), .val (.int r13)] [(.int cn)])) _
            refine XS.istore X14.here hx rfl (hb hby d_p8_m1_82) rfl (l' := #[.val (.ref b), .val (.ref a), .val (.int lim), .val (.ref aL), .val (.ref aN), .val (.int cn), .val (.int ii), .val (.int cn)]) rfl ?_
            show Steps p.tables e below (T14.setTop (mkF m 84 #[.val (.ref b), .val (.ref a), .val (.int lim), .val (.ref aL), .val (.ref aN), .val (.int cn), .val (.int ii), .val (.int cn)] [])) _
            refine XS.aload X14.here hx rfl (hb hby d_p8_m1_84) rfl rfl ?_
            show Steps p.tables e below (T14.setTop (mkF m 86 #[.val (.ref b), .val (.ref a), .val (.int lim), .val (.ref aL), .val (.ref aN), .val (.int cn), .val (.int ii), .val (.int cn)] [(.ref aN)])) _
            refine XS.iload X14.here hx rfl (hb hby d_p8_m1_86) rfl ?_
            show Steps p.tables e below (T14.setTop (mkF m 88 #[.val (.ref b), .val (.ref a), .val (.int lim), .val (.ref aL), .val (.ref aN), .val (.int cn), .val (.int ii), .val (.int cn)] [(.int cn), (.ref aN)])) _
            refine XS.aloadN X14.here hx rfl (hb hby d_p8_m1_88) rfl rfl ?_
            show Steps p.tables e below (T14.setTop (mkF m 89 #[.val (.ref b), .val (.ref a), .val (.int lim), .val (.ref aL), .val (.ref aN), .val (.int cn), .val (.int ii), .val (.int cn)] [(.ref a), (.int cn), (.ref aN)])) _
            refine XS.iload X14.here hx rfl (hb hby d_p8_m1_89) rfl ?_
            exact k
          refine Go.iaL X14 hx hZ e14 I_a (j := ii) hv_lv (hb hby d_p8_m1_91) ?_
          show Go p e below _ T14 (mkF m 92 #[.val (.ref b), .val (.ref a), .val (.int lim), .val (.ref aL), .val (.ref aN), .val (.int cn), .val (.int ii), .val (.int cn)] [(.int lv), (.int cn), (.ref aN)])
          obtain ⟨v16, hv16, H⟩ := ob H
          refine Go.iaS X14 hx hZ e14 I_aN (j := cn) hv16 (hb hby d_p8_m1_92) ?_
          intro T17 h17 X17 e17 W17 Vn17
          replace E_b := E_b.wr W17
          replace F_source := F_source.other W17 (Or.inl (show (b : Nat) ≠ aN by omega))
          replace F_limit := F_limit.other W17 (Or.inl (show (b : Nat) ≠ aN by omega))
          replace F_sourceLetters := F_sourceLetters.other W17 (Or.inl (show (b : Nat) ≠ aN by omega))
          replace F_distinct := F_distinct.other W17 (Or.inl (show (b : Nat) ≠ aN by omega))
          replace F_lastRowBefore := F_lastRowBefore.other W17 (Or.inl (show (b : Nat) ≠ aN by omega))
          replace F_columns := F_columns.other W17 (Or.inl (show (b : Nat) ≠ aN by omega))
          replace F_fewest := F_fewest.other W17 (Or.inl (show (b : Nat) ≠ aN by omega))
          replace F_targetLetters := F_targetLetters.other W17 (Or.inl (show (b : Nat) ≠ aN by omega))
          replace F_lastColumn := F_lastColumn.other W17 (Or.inl (show (b : Nat) ≠ aN by omega))
          replace F_replacedColumn := F_replacedColumn.other W17 (Or.inl (show (b : Nat) ≠ aN by omega))
          replace F_read := F_read.other W17 (Or.inl (show (b : Nat) ≠ aN by omega))
          replace I_a := I_a.other W17 (show (a : Nat) ≠ aN by omega)
          replace I_aS := I_aS.other W17 (show (aS : Nat) ≠ aN by omega)
          replace I_aL := I_aL.other W17 (show (aL : Nat) ≠ aN by omega)
          replace O := O.wr W17 (show (n0 : Nat) ≤ aN by omega)
          have N17 := Fr.snoc X17 N14 (show (n0 : Nat) ≤ aN by omega)
          replace K := K.wr W17 (Or.inr (show (h0.size : Nat) ≤ aN by omega))
          replace I_aN := Vn17
          clear Vn17
          show Go p e below _ T17 (mkF m 93 #[.val (.ref b), .val (.ref a), .val (.int lim), .val (.ref aL), .val (.ref aN), .val (.int cn), .val (.int ii), .val (.int cn)] [])
          refine Go.by (T' := T17) (g' := (mkF m 101 #[.val (.ref b), .val (.ref a), .val (.int lim), .val (.ref aL), .val (.ref aN), .val (.int (cn + (1 : Int32))), .val (.int ii), .val (.int cn)] [(.int cn), (.int ii), (.ref aL)])) (fun t k => ?_) ?_
          · show Steps p.tables e below (T17.setTop (mkF m 93 #[.val (.ref b), .val (.ref a), .val (.int lim), .val (.ref aL), .val (.ref aN), .val (.int cn), .val (.int ii), .val (.int cn)] [])) _
            refine XS.iinc X17.here hx rfl (hb hby d_p8_m1_93) rfl (l' := #[.val (.ref b), .val (.ref a), .val (.int lim), .val (.ref aL), .val (.ref aN), .val (.int (cn + (1 : Int32))), .val (.int ii), .val (.int cn)]) rfl ?_
            show Steps p.tables e below (T17.setTop (mkF m 96 #[.val (.ref b), .val (.ref a), .val (.int lim), .val (.ref aL), .val (.ref aN), .val (.int (cn + (1 : Int32))), .val (.int ii), .val (.int cn)] [])) _
            refine XS.aloadN X17.here hx rfl (hb hby d_p8_m1_96) rfl rfl ?_
            show Steps p.tables e below (T17.setTop (mkF m 97 #[.val (.ref b), .val (.ref a), .val (.int lim), .val (.ref aL), .val (.ref aN), .val (.int (cn + (1 : Int32))), .val (.int ii), .val (.int cn)] [(.ref aL)])) _
            refine XS.iload X17.here hx rfl (hb hby d_p8_m1_97) rfl ?_
            show Steps p.tables e below (T17.setTop (mkF m 99 #[.val (.ref b), .val (.ref a), .val (.int lim), .val (.ref aL), .val (.ref aN), .val (.int (cn + (1 : Int32))), .val (.int ii), .val (.int cn)] [(.int ii), (.ref aL)])) _
            refine XS.iload X17.here hx rfl (hb hby d_p8_m1_99) rfl ?_
            exact k
          obtain ⟨v18, hv18, H⟩ := ob H
          refine Go.iaS X17 hx hZ e17 I_aL (j := ii) hv18 (hb hby d_p8_m1_101) ?_
          intro T19 h19 X19 e19 W19 Vn19
          replace E_b := E_b.wr W19
          replace F_source := F_source.other W19 (Or.inl (show (b : Nat) ≠ aL by omega))
          replace F_limit := F_limit.other W19 (Or.inl (show (b : Nat) ≠ aL by omega))
          replace F_sourceLetters := F_sourceLetters.other W19 (Or.inl (show (b : Nat) ≠ aL by omega))
          replace F_distinct := F_distinct.other W19 (Or.inl (show (b : Nat) ≠ aL by omega))
          replace F_lastRowBefore := F_lastRowBefore.other W19 (Or.inl (show (b : Nat) ≠ aL by omega))
          replace F_columns := F_columns.other W19 (Or.inl (show (b : Nat) ≠ aL by omega))
          replace F_fewest := F_fewest.other W19 (Or.inl (show (b : Nat) ≠ aL by omega))
          replace F_targetLetters := F_targetLetters.other W19 (Or.inl (show (b : Nat) ≠ aL by omega))
          replace F_lastColumn := F_lastColumn.other W19 (Or.inl (show (b : Nat) ≠ aL by omega))
          replace F_replacedColumn := F_replacedColumn.other W19 (Or.inl (show (b : Nat) ≠ aL by omega))
          replace F_read := F_read.other W19 (Or.inl (show (b : Nat) ≠ aL by omega))
          replace I_a := I_a.other W19 (show (a : Nat) ≠ aL by omega)
          replace I_aS := I_aS.other W19 (show (aS : Nat) ≠ aL by omega)
          replace I_aN := I_aN.other W19 (show (aN : Nat) ≠ aL by omega)
          replace O := O.wr W19 (show (n0 : Nat) ≤ aL by omega)
          have N19 := Fr.snoc X19 N17 (show (n0 : Nat) ≤ aL by omega)
          replace K := K.wr W19 (Or.inr (show (h0.size : Nat) ≤ aL by omega))
          replace I_aL := Vn19
          clear Vn19
          show Go p e below _ T19 (mkF m 102 #[.val (.ref b), .val (.ref a), .val (.int lim), .val (.ref aL), .val (.ref aN), .val (.int (cn + (1 : Int32))), .val (.int ii), .val (.int cn)] [])
          refine Go.by (T' := T19) (g' := (mkF m 55 #[.val (.ref b), .val (.ref a), .val (.int lim), .val (.ref aL), .val (.ref aN), .val (.int (cn + (1 : Int32))), .val (.int (ii + (1 : Int32))), .val (.int cn)] [])) (fun t k => ?_) ?_
          · show Steps p.tables e below (T19.setTop (mkF m 102 #[.val (.ref b), .val (.ref a), .val (.int lim), .val (.ref aL), .val (.ref aN), .val (.int (cn + (1 : Int32))), .val (.int ii), .val (.int cn)] [])) _
            refine XS.iinc X19.here hx rfl (hb hby d_p8_m1_102) rfl (l' := #[.val (.ref b), .val (.ref a), .val (.int lim), .val (.ref aL), .val (.ref aN), .val (.int (cn + (1 : Int32))), .val (.int (ii + (1 : Int32))), .val (.int cn)]) rfl ?_
            show Steps p.tables e below (T19.setTop (mkF m 105 #[.val (.ref b), .val (.ref a), .val (.int lim), .val (.ref aL), .val (.ref aN), .val (.int (cn + (1 : Int32))), .val (.int (ii + (1 : Int32))), .val (.int cn)] [])) _
            refine XS.goto X19.here hx rfl (pc0 := 105) (pc' := 55) rfl (hb hby d_p8_m1_105) (by decide) (by decide) ?_
            exact k
          exact ih11 _ _ _ _ _ _ _ _ X19 e19 O N19 K E_b F_source F_limit F_sourceLetters F_distinct F_lastRowBefore F_columns F_fewest F_targetLetters F_lastColumn F_replacedColumn F_read I_a I_aS I_aL I_aN (SVi _) H
        · skip
          replace H := (if_neg hy15).symm.trans H
          refine Go.by (T' := T14) (g' := (mkF m 101 #[.val (.ref b), .val (.ref a), .val (.int lim), .val (.ref aL), .val (.ref aN), .val (.int cn), .val (.int ii), .val (.int r13)] [(.int r13), (.int ii), (.ref aL)])) (fun t k => ?_) ?_
          · show Steps p.tables e below (T14.setTop (mkF m 77 #[.val (.ref b), .val (.ref a), .val (.int lim), .val (.ref aL), .val (.ref aN), .val (.int cn), .val (.int ii), .val (.int r13)] [(.int r13)])) _
            refine XS.ifYes X14.here hx rfl (pc0 := 77) (pc' := 96) rfl (hb hby d_p8_m1_77) rfl ((if0 _ _).trans (flt hy15).2.1) (by decide) (by decide) ?_
            show Steps p.tables e below (T14.setTop (mkF m 96 #[.val (.ref b), .val (.ref a), .val (.int lim), .val (.ref aL), .val (.ref aN), .val (.int cn), .val (.int ii), .val (.int r13)] [])) _
            refine XS.aloadN X14.here hx rfl (hb hby d_p8_m1_96) rfl rfl ?_
            show Steps p.tables e below (T14.setTop (mkF m 97 #[.val (.ref b), .val (.ref a), .val (.int lim), .val (.ref aL), .val (.ref aN), .val (.int cn), .val (.int ii), .val (.int r13)] [(.ref aL)])) _
            refine XS.iload X14.here hx rfl (hb hby d_p8_m1_97) rfl ?_
            show Steps p.tables e below (T14.setTop (mkF m 99 #[.val (.ref b), .val (.ref a), .val (.int lim), .val (.ref aL), .val (.ref aN), .val (.int cn), .val (.int ii), .val (.int r13)] [(.int ii), (.ref aL)])) _
            refine XS.iload X14.here hx rfl (hb hby d_p8_m1_99) rfl ?_
            exact k
          obtain ⟨v20, hv20, H⟩ := ob H
          refine Go.iaS X14 hx hZ e14 I_aL (j := ii) hv20 (hb hby d_p8_m1_101) ?_
          intro T21 h21 X21 e21 W21 Vn21
          replace E_b := E_b.wr W21
          replace F_source := F_source.other W21 (Or.inl (show (b : Nat) ≠ aL by omega))
          replace F_limit := F_limit.other W21 (Or.inl (show (b : Nat) ≠ aL by omega))
          replace F_sourceLetters := F_sourceLetters.other W21 (Or.inl (show (b : Nat) ≠ aL by omega))
          replace F_distinct := F_distinct.other W21 (Or.inl (show (b : Nat) ≠ aL by omega))
          replace F_lastRowBefore := F_lastRowBefore.other W21 (Or.inl (show (b : Nat) ≠ aL by omega))
          replace F_columns := F_columns.other W21 (Or.inl (show (b : Nat) ≠ aL by omega))
          replace F_fewest := F_fewest.other W21 (Or.inl (show (b : Nat) ≠ aL by omega))
          replace F_targetLetters := F_targetLetters.other W21 (Or.inl (show (b : Nat) ≠ aL by omega))
          replace F_lastColumn := F_lastColumn.other W21 (Or.inl (show (b : Nat) ≠ aL by omega))
          replace F_replacedColumn := F_replacedColumn.other W21 (Or.inl (show (b : Nat) ≠ aL by omega))
          replace F_read := F_read.other W21 (Or.inl (show (b : Nat) ≠ aL by omega))
          replace I_a := I_a.other W21 (show (a : Nat) ≠ aL by omega)
          replace I_aS := I_aS.other W21 (show (aS : Nat) ≠ aL by omega)
          replace I_aN := I_aN.other W21 (show (aN : Nat) ≠ aL by omega)
          replace O := O.wr W21 (show (n0 : Nat) ≤ aL by omega)
          have N21 := Fr.snoc X21 N14 (show (n0 : Nat) ≤ aL by omega)
          replace K := K.wr W21 (Or.inr (show (h0.size : Nat) ≤ aL by omega))
          replace I_aL := Vn21
          clear Vn21
          show Go p e below _ T21 (mkF m 102 #[.val (.ref b), .val (.ref a), .val (.int lim), .val (.ref aL), .val (.ref aN), .val (.int cn), .val (.int ii), .val (.int r13)] [])
          refine Go.by (T' := T21) (g' := (mkF m 55 #[.val (.ref b), .val (.ref a), .val (.int lim), .val (.ref aL), .val (.ref aN), .val (.int cn), .val (.int (ii + (1 : Int32))), .val (.int r13)] [])) (fun t k => ?_) ?_
          · show Steps p.tables e below (T21.setTop (mkF m 102 #[.val (.ref b), .val (.ref a), .val (.int lim), .val (.ref aL), .val (.ref aN), .val (.int cn), .val (.int ii), .val (.int r13)] [])) _
            refine XS.iinc X21.here hx rfl (hb hby d_p8_m1_102) rfl (l' := #[.val (.ref b), .val (.ref a), .val (.int lim), .val (.ref aL), .val (.ref aN), .val (.int cn), .val (.int (ii + (1 : Int32))), .val (.int r13)]) rfl ?_
            show Steps p.tables e below (T21.setTop (mkF m 105 #[.val (.ref b), .val (.ref a), .val (.int lim), .val (.ref aL), .val (.ref aN), .val (.int cn), .val (.int (ii + (1 : Int32))), .val (.int r13)] [])) _
            refine XS.goto X21.here hx rfl (pc0 := 105) (pc' := 55) rfl (hb hby d_p8_m1_105) (by decide) (by decide) ?_
            exact k
          exact ih11 _ _ _ _ _ _ _ _ X21 e21 O N21 K E_b F_source F_limit F_sourceLetters F_distinct F_lastRowBefore F_columns F_fewest F_targetLetters F_lastColumn F_replacedColumn F_read I_a I_aS I_aL I_aN (SVi _) H
      · skip
        replace H := (if_neg hy12).symm.trans H
        obtain ⟨q1, q2⟩ := Prod.mk.inj (Option.some.inj H)
        obtain ⟨q2, q3⟩ := Prod.mk.inj q2
        rw [← q1, ← q2, ← q3] at H2
        replace H := H2
        refine Go.by (T' := T11) (g' := (mkF m 110 #[.val (.ref b), .val (.ref a), .val (.int lim), .val (.ref aL), .val (.ref aN), .val (.int cn), .val (.int ii), s7] [(.ref aL), (.ref b)])) (fun t k => ?_) ?_
        · show Steps p.tables e below (T11.setTop (mkF m 59 #[.val (.ref b), .val (.ref a), .val (.int lim), .val (.ref aL), .val (.ref aN), .val (.int cn), .val (.int ii), s7] [(.int (lenI src)), (.int ii)])) _
          refine XS.icmpYes X11.here hx rfl (pc0 := 59) (pc' := 108) rfl (hb hby d_p8_m1_59) rfl (flt hy12).2.1 (by decide) (by decide) ?_
          show Steps p.tables e below (T11.setTop (mkF m 108 #[.val (.ref b), .val (.ref a), .val (.int lim), .val (.ref aL), .val (.ref aN), .val (.int cn), .val (.int ii), s7] [])) _
          refine XS.aloadN X11.here hx rfl (hb hby d_p8_m1_108) rfl rfl ?_
          show Steps p.tables e below (T11.setTop (mkF m 109 #[.val (.ref b), .val (.ref a), .val (.int lim), .val (.ref aL), .val (.ref aN), .val (.int cn), .val (.int ii), s7] [(.ref b)])) _
          refine XS.aloadN X11.here hx rfl (hb hby d_p8_m1_109) rfl rfl ?_
          exact k
        refine Go.putF X11 hx hZ hown (wd hw 23 rfl) Via.refl e11 F_sourceLetters E_b (Or.inr ⟨(wd hw 24 rfl), rfl, hnm⟩) (wd hw 2 rfl) (ty := (.array .int)) (by decide) rfl rfl (hb hby d_p8_m1_110) ?_
        intro T22 h22 X22 e22 W22
        replace E_b := E_b.wr W22
        replace F_source := F_source.other W22 (Or.inr (slot_ne (a0 := a0) (Or.inr (wd hw 20 rfl)) (Or.inr (wd hw 24 rfl)) (by decide) (t := (.array .int)) (t' := (.array .int)) (by decide) (by decide)))
        replace F_limit := F_limit.other W22 (Or.inr (slot_ne (a0 := a0) (Or.inr (wd hw 22 rfl)) (Or.inr (wd hw 24 rfl)) (by decide) (t := .int) (t' := (.array .int)) (by decide) (by decide)))
        replace F_sourceLetters := F_sourceLetters.same W22
        replace F_distinct := F_distinct.other W22 (Or.inr (slot_ne (a0 := a0) (Or.inr (wd hw 32 rfl)) (Or.inr (wd hw 24 rfl)) (by decide) (t := (.array .int)) (t' := (.array .int)) (by decide) (by decide)))
        replace F_lastRowBefore := F_lastRowBefore.other W22 (Or.inr (slot_ne (a0 := a0) (Or.inr (wd hw 36 rfl)) (Or.inr (wd hw 24 rfl)) (by decide) (t := (.array (.array .int))) (t' := (.array .int)) (by decide) (by decide)))
        replace F_columns := F_columns.other W22 (Or.inr (slot_ne (a0 := a0) (Or.inr (wd hw 43 rfl)) (Or.inr (wd hw 24 rfl)) (by decide) (t := (.array (.array .int))) (t' := (.array .int)) (by decide) (by decide)))
        replace F_fewest := F_fewest.other W22 (Or.inr (slot_ne (a0 := a0) (Or.inr (wd hw 45 rfl)) (Or.inr (wd hw 24 rfl)) (by decide) (t := (.array .int)) (t' := (.array .int)) (by decide) (by decide)))
        replace F_targetLetters := F_targetLetters.other W22 (Or.inr (slot_ne (a0 := a0) (Or.inr (wd hw 47 rfl)) (Or.inr (wd hw 24 rfl)) (by decide) (t := (.array .int)) (t' := (.array .int)) (by decide) (by decide)))
        replace F_lastColumn := F_lastColumn.other W22 (Or.inr (slot_ne (a0 := a0) (Or.inr (wd hw 49 rfl)) (Or.inr (wd hw 24 rfl)) (by decide) (t := (.array .int)) (t' := (.array .int)) (by decide) (by decide)))
        replace F_replacedColumn := F_replacedColumn.other W22 (Or.inr (slot_ne (a0 := a0) (Or.inr (wd hw 51 rfl)) (Or.inr (wd hw 24 rfl)) (by decide) (t := (.array .int)) (t' := (.array .int)) (by decide) (by decide)))
        replace F_read := F_read.other W22 (Or.inr (slot_ne (a0 := a0) (Or.inl (wd hw 62 rfl)) (Or.inr (wd hw 24 rfl)) (by decide) (t := .int) (t' := (.array .int)) (by decide) (by decide)))
        replace I_a := I_a.other W22 (show (a : Nat) ≠ b by omega)
        replace I_aS := I_aS.other W22 (show (aS : Nat) ≠ b by omega)
        replace I_aL := I_aL.other W22 (show (aL : Nat) ≠ b by omega)
        replace I_aN := I_aN.other W22 (show (aN : Nat) ≠ b by omega)
        replace O := O.wr W22 (show (n0 : Nat) ≤ b by omega)
        have N22 := Fr.snoc X22 N11 (show (n0 : Nat) ≤ b by omega)
        replace K := K.wr W22 (Or.inl (List.mem_singleton.mpr rfl))
        show Go p e below _ T22 (mkF m 113 #[.val (.ref b), .val (.ref a), .val (.int lim), .val (.ref aL), .val (.ref aN), .val (.int cn), .val (.int ii), s7] [])
        refine Go.by (T' := T22) (g' := (mkF m 118 #[.val (.ref b), .val (.ref a), .val (.int lim), .val (.ref aL), .val (.ref aN), .val (.int cn), .val (.int ii), s7] [(.int cn), (.ref aN), (.ref b)])) (fun t k => ?_) ?_
        · show Steps p.tables e below (T22.setTop (mkF m 113 #[.val (.ref b), .val (.ref a), .val (.int lim), .val (.ref aL), .val (.ref aN), .val (.int cn), .val (.int ii), s7] [])) _
          refine XS.aloadN X22.here hx rfl (hb hby d_p8_m1_113) rfl rfl ?_
          show Steps p.tables e below (T22.setTop (mkF m 114 #[.val (.ref b), .val (.ref a), .val (.int lim), .val (.ref aL), .val (.ref aN), .val (.int cn), .val (.int ii), s7] [(.ref b)])) _
          refine XS.aload X22.here hx rfl (hb hby d_p8_m1_114) rfl rfl ?_
          show Steps p.tables e below (T22.setTop (mkF m 116 #[.val (.ref b), .val (.ref a), .val (.int lim), .val (.ref aL), .val (.ref aN), .val (.int cn), .val (.int ii), s7] [(.ref aN), (.ref b)])) _
          refine XS.iload X22.here hx rfl (hb hby d_p8_m1_116) rfl ?_
          exact k
        obtain ⟨di, hdi, H⟩ := ob H
        obtain ⟨co, hC, h1⟩ := ob H
        have H : coreM (lenI src) lim cn sl = some co := hC
        unfold coreM at H
        refine Go.callS X22 hx hZ (W := 1) (argsL := [(.ref aN), (.int cn)]) (rest := [(.ref b)]) hown (wd hw 25 rfl) (wd hw 26 rfl) (wd hw 27 rfl) (wd hw 28 rfl) (by decide) (ct_copy l Z a0 hw  aN se cn di h22 n0 O I_aN hdi) e22 (by rw [hml]; rfl) (lenOf pd___II__I_543 rfl) rfl rfl (hb hby d_p8_m1_118) (by decide) (by decide) (by decide) (by decide) ?_
        intro v23 T23 h23 L23 X23 e23 q23
        obtain ⟨aD, rfl, N23, K23, lb23, I_aD⟩ := q23
        replace N23 := Fr.app N22 N23
        have ord24 : (n0 : Nat) ≤ aD ∧ (h0.size : Nat) ≤ aD ∧ (b : Nat) < aD ∧ (a : Nat) < aD ∧ (aS : Nat) < aD ∧ (aL : Nat) < aD ∧ (aN : Nat) < aD := by
          have u0 : (n0 : Nat) ≤ h22.size := OwnKit.Old.le O
          have u1 : (h22.size : Nat) ≤ aD := lb23
          have u2 : (h0.size : Nat) ≤ h22.size := K.1
          have z0 : (b : Nat) < h22.size := E_b.lt
          have z1 : (a : Nat) < h22.size := I_a.lt
          have z2 : (aS : Nat) < h22.size := I_aS.lt
          have z3 : (aL : Nat) < h22.size := I_aL.lt
          have z4 : (aN : Nat) < h22.size := I_aN.lt
          omega
        replace E_b := E_b.keep K23
        replace F_source := F_source.keep K23 nin0
        replace F_limit := F_limit.keep K23 nin0
        replace F_sourceLetters := F_sourceLetters.keep K23 nin0
        replace F_distinct := F_distinct.keep K23 nin0
        replace F_lastRowBefore := F_lastRowBefore.keep K23 nin0
        replace F_columns := F_columns.keep K23 nin0
        replace F_fewest := F_fewest.keep K23 nin0
        replace F_targetLetters := F_targetLetters.keep K23 nin0
        replace F_lastColumn := F_lastColumn.keep K23 nin0
        replace F_replacedColumn := F_replacedColumn.keep K23 nin0
        replace F_read := F_read.keep K23 nin0
        replace I_a := I_a.keep K23 nin0
        replace I_aS := I_aS.keep K23 nin0
        replace I_aL := I_aL.keep K23 nin0
        replace I_aN := I_aN.keep K23 nin0
        replace O := O.keep K23 (by intro (z : Nat) hz; exact nomatch hz)
        replace K := K.trans K23 (by intro (z : Nat) hz; exact nomatch hz)
        show Go p e below _ T23 (mkF m 121 #[.val (.ref b), .val (.ref a), .val (.int lim), .val (.ref aL), .val (.ref aN), .val (.int cn), .val (.int ii), s7] [(.ref aD), (.ref b)])
        refine Go.putF X23 hx hZ hown (wd hw 31 rfl) Via.refl e23 F_distinct E_b (Or.inr ⟨(wd hw 32 rfl), rfl, hnm⟩) (wd hw 2 rfl) (ty := (.array .int)) (by decide) rfl rfl (hb hby d_p8_m1_121) ?_
        intro T25 h25 X25 e25 W25
        replace E_b := E_b.wr W25
        replace F_source := F_source.other W25 (Or.inr (slot_ne (a0 := a0) (Or.inr (wd hw 20 rfl)) (Or.inr (wd hw 32 rfl)) (by decide) (t := (.array .int)) (t' := (.array .int)) (by decide) (by decide)))
        replace F_limit := F_limit.other W25 (Or.inr (slot_ne (a0 := a0) (Or.inr (wd hw 22 rfl)) (Or.inr (wd hw 32 rfl)) (by decide) (t := .int) (t' := (.array .int)) (by decide) (by decide)))
        replace F_sourceLetters := F_sourceLetters.other W25 (Or.inr (slot_ne (a0 := a0) (Or.inr (wd hw 24 rfl)) (Or.inr (wd hw 32 rfl)) (by decide) (t := (.array .int)) (t' := (.array .int)) (by decide) (by decide)))
        replace F_distinct := F_distinct.same W25
        replace F_lastRowBefore := F_lastRowBefore.other W25 (Or.inr (slot_ne (a0 := a0) (Or.inr (wd hw 36 rfl)) (Or.inr (wd hw 32 rfl)) (by decide) (t := (.array (.array .int))) (t' := (.array .int)) (by decide) (by decide)))
        replace F_columns := F_columns.other W25 (Or.inr (slot_ne (a0 := a0) (Or.inr (wd hw 43 rfl)) (Or.inr (wd hw 32 rfl)) (by decide) (t := (.array (.array .int))) (t' := (.array .int)) (by decide) (by decide)))
        replace F_fewest := F_fewest.other W25 (Or.inr (slot_ne (a0 := a0) (Or.inr (wd hw 45 rfl)) (Or.inr (wd hw 32 rfl)) (by decide) (t := (.array .int)) (t' := (.array .int)) (by decide) (by decide)))
        replace F_targetLetters := F_targetLetters.other W25 (Or.inr (slot_ne (a0 := a0) (Or.inr (wd hw 47 rfl)) (Or.inr (wd hw 32 rfl)) (by decide) (t := (.array .int)) (t' := (.array .int)) (by decide) (by decide)))
        replace F_lastColumn := F_lastColumn.other W25 (Or.inr (slot_ne (a0 := a0) (Or.inr (wd hw 49 rfl)) (Or.inr (wd hw 32 rfl)) (by decide) (t := (.array .int)) (t' := (.array .int)) (by decide) (by decide)))
        replace F_replacedColumn := F_replacedColumn.other W25 (Or.inr (slot_ne (a0 := a0) (Or.inr (wd hw 51 rfl)) (Or.inr (wd hw 32 rfl)) (by decide) (t := (.array .int)) (t' := (.array .int)) (by decide) (by decide)))
        replace F_read := F_read.other W25 (Or.inr (slot_ne (a0 := a0) (Or.inl (wd hw 62 rfl)) (Or.inr (wd hw 32 rfl)) (by decide) (t := .int) (t' := (.array .int)) (by decide) (by decide)))
        replace I_a := I_a.other W25 (show (a : Nat) ≠ b by omega)
        replace I_aS := I_aS.other W25 (show (aS : Nat) ≠ b by omega)
        replace I_aL := I_aL.other W25 (show (aL : Nat) ≠ b by omega)
        replace I_aN := I_aN.other W25 (show (aN : Nat) ≠ b by omega)
        replace I_aD := I_aD.other W25 (show (aD : Nat) ≠ b by omega)
        replace O := O.wr W25 (show (n0 : Nat) ≤ b by omega)
        have N25 := Fr.snoc X25 N23 (show (n0 : Nat) ≤ b by omega)
        replace K := K.wr W25 (Or.inl (List.mem_singleton.mpr rfl))
        show Go p e below _ T25 (mkF m 124 #[.val (.ref b), .val (.ref a), .val (.int lim), .val (.ref aL), .val (.ref aN), .val (.int cn), .val (.int ii), s7] [])
        refine Go.by (T' := T25) (g' := (mkF m 128 #[.val (.ref b), .val (.ref a), .val (.int lim), .val (.ref aL), .val (.ref aN), .val (.int cn), .val (.int ii), s7] [(.ref a), (.int cn), (.ref b)])) (fun t k => ?_) ?_
        · show Steps p.tables e below (T25.setTop (mkF m 124 #[.val (.ref b), .val (.ref a), .val (.int lim), .val (.ref aL), .val (.ref aN), .val (.int cn), .val (.int ii), s7] [])) _
          refine XS.aloadN X25.here hx rfl (hb hby d_p8_m1_124) rfl rfl ?_
          show Steps p.tables e below (T25.setTop (mkF m 125 #[.val (.ref b), .val (.ref a), .val (.int lim), .val (.ref aL), .val (.ref aN), .val (.int cn), .val (.int ii), s7] [(.ref b)])) _
          refine XS.iload X25.here hx rfl (hb hby d_p8_m1_125) rfl ?_
          show Steps p.tables e below (T25.setTop (mkF m 127 #[.val (.ref b), .val (.ref a), .val (.int lim), .val (.ref aL), .val (.ref aN), .val (.int cn), .val (.int ii), s7] [(.int cn), (.ref b)])) _
          refine XS.aloadN X25.here hx rfl (hb hby d_p8_m1_127) rfl rfl ?_
          exact k
        refine Go.iaN X25 hx hZ e25 I_a (hb hby d_p8_m1_128) ?_
        show Go p e below _ T25 (mkF m 129 #[.val (.ref b), .val (.ref a), .val (.int lim), .val (.ref aL), .val (.ref aN), .val (.int cn), .val (.int ii), s7] [(.int (lenI src)), (.int cn), (.ref b)])
        refine Go.by (T' := T25) (g' := (mkF m 131 #[.val (.ref b), .val (.ref a), .val (.int lim), .val (.ref aL), .val (.ref aN), .val (.int cn), .val (.int ii), s7] [(.int ((lenI src) + (1 : Int32))), (.int cn), (.ref b)])) (fun t k => ?_) ?_
        · show Steps p.tables e below (T25.setTop (mkF m 129 #[.val (.ref b), .val (.ref a), .val (.int lim), .val (.ref aL), .val (.ref aN), .val (.int cn), .val (.int ii), s7] [(.int (lenI src)), (.int cn), (.ref b)])) _
          refine XS.iconst X25.here hx rfl (hb hby d_p8_m1_129) ?_
          show Steps p.tables e below (T25.setTop (mkF m 130 #[.val (.ref b), .val (.ref a), .val (.int lim), .val (.ref aL), .val (.ref aN), .val (.int cn), .val (.int ii), s7] [(.int (1 : Int32)), (.int (lenI src)), (.int cn), (.ref b)])) _
          refine XS.iadd X25.here hx rfl (hb hby d_p8_m1_130) rfl ?_
          exact k
        obtain ⟨v26, hv26, H⟩ := ob H
        refine Go.gNew X25 hx hZ hown (wd hw 33 rfl) (wd hw 34 rfl) (wd hw 0 rfl) e25 (cN := 3) (cK := 4) hv26 (hb hby d_p8_m1_131) (by decide) (by decide) (by decide) (by decide) ?_
        intro T27 h27 aR X27 e27 E27 g27 G_aR
        have lb27 : (h25.size : Nat) ≤ aR := Nat.le_of_eq g27.symm
        have ord28 : (n0 : Nat) ≤ aR ∧ (h0.size : Nat) ≤ aR ∧ (b : Nat) < aR ∧ (a : Nat) < aR ∧ (aS : Nat) < aR ∧ (aL : Nat) < aR ∧ (aN : Nat) < aR ∧ (aD : Nat) < aR := by
          have u0 : (n0 : Nat) ≤ h25.size := OwnKit.Old.le O
          have u1 : (h25.size : Nat) ≤ aR := lb27
          have u2 : (h0.size : Nat) ≤ h25.size := K.1
          have z0 : (b : Nat) < h25.size := E_b.lt
          have z1 : (a : Nat) < h25.size := I_a.lt
          have z2 : (aS : Nat) < h25.size := I_aS.lt
          have z3 : (aL : Nat) < h25.size := I_aL.lt
          have z4 : (aN : Nat) < h25.size := I_aN.lt
          have z5 : (aD : Nat) < h25.size := I_aD.lt
          omega
        replace E_b := E_b.ext E27
        replace F_source := F_source.ext E27
        replace F_limit := F_limit.ext E27
        replace F_sourceLetters := F_sourceLetters.ext E27
        replace F_distinct := F_distinct.ext E27
        replace F_lastRowBefore := F_lastRowBefore.ext E27
        replace F_columns := F_columns.ext E27
        replace F_fewest := F_fewest.ext E27
        replace F_targetLetters := F_targetLetters.ext E27
        replace F_lastColumn := F_lastColumn.ext E27
        replace F_replacedColumn := F_replacedColumn.ext E27
        replace F_read := F_read.ext E27
        replace I_a := I_a.ext E27
        replace I_aS := I_aS.ext E27
        replace I_aL := I_aL.ext E27
        replace I_aN := I_aN.ext E27
        replace I_aD := I_aD.ext E27
        replace O := O.ext E27
        replace K := K.ext E27
        obtain ⟨N_aR, hn_aR⟩ : ∃ q : Nat, v26.length = q := ⟨_, rfl⟩
        show Go p e below _ T27 (mkF m 135 #[.val (.ref b), .val (.ref a), .val (.int lim), .val (.ref aL), .val (.ref aN), .val (.int cn), .val (.int ii), s7] [(.ref aR), (.ref b)])
        refine Go.putF X27 hx hZ hown (wd hw 35 rfl) Via.refl e27 F_lastRowBefore E_b (Or.inr ⟨(wd hw 36 rfl), rfl, hnm⟩) (wd hw 2 rfl) (ty := (.array (.array .int))) (by decide) rfl rfl (hb hby d_p8_m1_135) ?_
        intro T29 h29 X29 e29 W29
        replace E_b := E_b.wr W29
        replace F_source := F_source.other W29 (Or.inr (slot_ne (a0 := a0) (Or.inr (wd hw 20 rfl)) (Or.inr (wd hw 36 rfl)) (by decide) (t := (.array .int)) (t' := (.array (.array .int))) (by decide) (by decide)))
        replace F_limit := F_limit.other W29 (Or.inr (slot_ne (a0 := a0) (Or.inr (wd hw 22 rfl)) (Or.inr (wd hw 36 rfl)) (by decide) (t := .int) (t' := (.array (.array .int))) (by decide) (by decide)))
        replace F_sourceLetters := F_sourceLetters.other W29 (Or.inr (slot_ne (a0 := a0) (Or.inr (wd hw 24 rfl)) (Or.inr (wd hw 36 rfl)) (by decide) (t := (.array .int)) (t' := (.array (.array .int))) (by decide) (by decide)))
        replace F_distinct := F_distinct.other W29 (Or.inr (slot_ne (a0 := a0) (Or.inr (wd hw 32 rfl)) (Or.inr (wd hw 36 rfl)) (by decide) (t := (.array .int)) (t' := (.array (.array .int))) (by decide) (by decide)))
        replace F_lastRowBefore := F_lastRowBefore.same W29
        replace F_columns := F_columns.other W29 (Or.inr (slot_ne (a0 := a0) (Or.inr (wd hw 43 rfl)) (Or.inr (wd hw 36 rfl)) (by decide) (t := (.array (.array .int))) (t' := (.array (.array .int))) (by decide) (by decide)))
        replace F_fewest := F_fewest.other W29 (Or.inr (slot_ne (a0 := a0) (Or.inr (wd hw 45 rfl)) (Or.inr (wd hw 36 rfl)) (by decide) (t := (.array .int)) (t' := (.array (.array .int))) (by decide) (by decide)))
        replace F_targetLetters := F_targetLetters.other W29 (Or.inr (slot_ne (a0 := a0) (Or.inr (wd hw 47 rfl)) (Or.inr (wd hw 36 rfl)) (by decide) (t := (.array .int)) (t' := (.array (.array .int))) (by decide) (by decide)))
        replace F_lastColumn := F_lastColumn.other W29 (Or.inr (slot_ne (a0 := a0) (Or.inr (wd hw 49 rfl)) (Or.inr (wd hw 36 rfl)) (by decide) (t := (.array .int)) (t' := (.array (.array .int))) (by decide) (by decide)))
        replace F_replacedColumn := F_replacedColumn.other W29 (Or.inr (slot_ne (a0 := a0) (Or.inr (wd hw 51 rfl)) (Or.inr (wd hw 36 rfl)) (by decide) (t := (.array .int)) (t' := (.array (.array .int))) (by decide) (by decide)))
        replace F_read := F_read.other W29 (Or.inr (slot_ne (a0 := a0) (Or.inl (wd hw 62 rfl)) (Or.inr (wd hw 36 rfl)) (by decide) (t := .int) (t' := (.array (.array .int))) (by decide) (by decide)))
        replace I_a := I_a.other W29 (show (a : Nat) ≠ b by omega)
        replace I_aS := I_aS.other W29 (show (aS : Nat) ≠ b by omega)
        replace I_aL := I_aL.other W29 (show (aL : Nat) ≠ b by omega)
        replace I_aN := I_aN.other W29 (show (aN : Nat) ≠ b by omega)
        replace I_aD := I_aD.other W29 (show (aD : Nat) ≠ b by omega)
        replace G_aR := G_aR.other W29 (show (b : Nat) < aR ∨ aR + v26.length < b by omega)
        replace O := O.wr W29 (show (n0 : Nat) ≤ b by omega)
        have N29 := Fr.snoc X29 N25 (show (n0 : Nat) ≤ b by omega)
        replace K := K.wr W29 (Or.inl (List.mem_singleton.mpr rfl))
        show Go p e below _ T29 (mkF m 138 #[.val (.ref b), .val (.ref a), .val (.int lim), .val (.ref aL), .val (.ref aN), .val (.int cn), .val (.int ii), s7] [])
        refine Go.by (T' := T29) (g' := (mkF m 141 #[.val (.ref b), .val (.ref a), .val (.int lim), .val (.ref aL), .val (.ref aN), .val (.int cn), .val (.int (2 : Int32)), s7] [])) (fun t k => ?_) ?_
        · show Steps p.tables e below (T29.setTop (mkF m 138 #[.val (.ref b), .val (.ref a), .val (.int lim), .val (.ref aL), .val (.ref aN), .val (.int cn), .val (.int ii), s7] [])) _
          refine XS.iconst X29.here hx rfl (hb hby d_p8_m1_138) ?_
          show Steps p.tables e below (T29.setTop (mkF m 139 #[.val (.ref b), .val (.ref a), .val (.int lim), .val (.ref aL), .val (.ref aN), .val (.int cn), .val (.int ii), s7] [(.int (2 : Int32))])) _
          refine XS.istore X29.here hx rfl (hb hby d_p8_m1_139) rfl (l' := #[.val (.ref b), .val (.ref a), .val (.int lim), .val (.ref aL), .val (.ref aN), .val (.int cn), .val (.int (2 : Int32)), s7]) rfl ?_
          exact k
        obtain ⟨lr1, hp, H2⟩ := ob H
        have J30 : ∀ (f30 : Nat) (row : Int32) (lr : List (List Int32)) (s7 : Slot) (T30 : State) (h30 : Heap) (L30 : List Loc), (Stand p l e ({ frames := 2, cells := 20, slots := 86, locals := 46 } : Room) s m #[(.ref b), (.ref a), (.int lim)] below meth c T30 L30 8 27) → (T30.heap = h30) → (Old Z n0 h30) → (Fr n0 L30) → (Keep h0 h30 [b]) → (Exa Z h30 b "com/example/shingle/shingle/EditDistance") → (Fld Z h30 b "com/example/shingle/shingle/EditDistance" "source" "[I" (.ref aS)) → (Fld Z h30 b "com/example/shingle/shingle/EditDistance" "limit" "I" (.int lim)) → (Fld Z h30 b "com/example/shingle/shingle/EditDistance" "sourceLetters" "[I" (.ref aL)) → (Fld Z h30 b "com/example/shingle/shingle/EditDistance" "distinct" "[I" (.ref aD)) → (Fld Z h30 b "com/example/shingle/shingle/EditDistance" "lastRowBefore" "[[I" (.ref aR)) → (Fld Z h30 b "com/example/shingle/shingle/EditDistance" "columns" "[[I" .null) → (Fld Z h30 b "com/example/shingle/shingle/EditDistance" "fewest" "[I" .null) → (Fld Z h30 b "com/example/shingle/shingle/EditDistance" "targetLetters" "[I" .null) → (Fld Z h30 b "com/example/shingle/shingle/EditDistance" "lastColumn" "[I" .null) → (Fld Z h30 b "com/example/shingle/shingle/EditDistance" "replacedColumn" "[I" .null) → (Fld Z h30 b "com/example/shingle/shingle/EditDistance" "read" "I" (.int (0 : Int32))) → (IA Z h30 a src) → (IA Z h30 aS src) → (IA Z h30 aL sl) → (IA Z h30 aN se) → (IA Z h30 aD di) → (GA Z h30 aR lr) → (lr.length = N_aR) → (s7 = .unset ∨ ∃ w, s7 = .val w ∧ w.category = 1) → (lrL f30 (lenI src) sl cn lr row = some lr1) → Go p e below (EndF s ({ frames := 2, cells := 20, slots := 86, locals := 46 } : Room).cells ({ frames := 2, cells := 20, slots := 86, locals := 46 } : Room).slots (fun v h L => v = none ∧ Fr n0 L ∧ Keep h0 h [b] ∧ ∃ w, ED Z h b w st)) T30 (mkF m 141 #[.val (.ref b), .val (.ref a), .val (.int lim), .val (.ref aL), .val (.ref aN), .val (.int cn), .val (.int row), s7] []) := by
          intro f30
          induction f30 with
          | zero => intro row lr s7 T30 h30 L30 X30 e30 O N30 K E_b F_source F_limit F_sourceLetters F_distinct F_lastRowBefore F_columns F_fewest F_targetLetters F_lastColumn F_replacedColumn F_read I_a I_aS I_aL I_aN I_aD G_aR hn_aR hs7 H; cases H
          | succ f30 ih30 =>
            intro row lr s7 T30 h30 L30 X30 e30 O N30 K E_b F_source F_limit F_sourceLetters F_distinct F_lastRowBefore F_columns F_fewest F_targetLetters F_lastColumn F_replacedColumn F_read I_a I_aS I_aL I_aN I_aD G_aR hn_aR hs7 H
            rw [lrL] at H
            refine Go.by (T' := T30) (g' := (mkF m 144 #[.val (.ref b), .val (.ref a), .val (.int lim), .val (.ref aL), .val (.ref aN), .val (.int cn), .val (.int row), s7] [(.ref a), (.int row)])) (fun t k => ?_) ?_
            · show Steps p.tables e below (T30.setTop (mkF m 141 #[.val (.ref b), .val (.ref a), .val (.int lim), .val (.ref aL), .val (.ref aN), .val (.int cn), .val (.int row), s7] [])) _
              refine XS.iload X30.here hx rfl (hb hby d_p8_m1_141) rfl ?_
              show Steps p.tables e below (T30.setTop (mkF m 143 #[.val (.ref b), .val (.ref a), .val (.int lim), .val (.ref aL), .val (.ref aN), .val (.int cn), .val (.int row), s7] [(.int row)])) _
              refine XS.aloadN X30.here hx rfl (hb hby d_p8_m1_143) rfl rfl ?_
              exact k
            refine Go.iaN X30 hx hZ e30 I_a (hb hby d_p8_m1_144) ?_
            show Go p e below _ T30 (mkF m 145 #[.val (.ref b), .val (.ref a), .val (.int lim), .val (.ref aL), .val (.ref aN), .val (.int cn), .val (.int row), s7] [(.int (lenI src)), (.int row)])
            by_cases hy31 : (lenI src) < row
            · skip
              have q1 := Option.some.inj ((if_pos hy31).symm.trans H)
              rw [← q1] at H2
              replace H := H2
              refine Go.by (T' := T30) (g' := (mkF m 211 #[.val (.ref b), .val (.ref a), .val (.int lim), .val (.ref aL), .val (.ref aN), .val (.int cn), .val (.int row), s7] [(.ref b)])) (fun t k => ?_) ?_
              · show Steps p.tables e below (T30.setTop (mkF m 145 #[.val (.ref b), .val (.ref a), .val (.int lim), .val (.ref aL), .val (.ref aN), .val (.int cn), .val (.int row), s7] [(.int (lenI src)), (.int row)])) _
                refine XS.icmpYes X30.here hx rfl (pc0 := 145) (pc' := 210) rfl (hb hby d_p8_m1_145) rfl (tlt hy31).2.2.1 (by decide) (by decide) ?_
                show Steps p.tables e below (T30.setTop (mkF m 210 #[.val (.ref b), .val (.ref a), .val (.int lim), .val (.ref aL), .val (.ref aN), .val (.int cn), .val (.int row), s7] [])) _
                refine XS.aloadN X30.here hx rfl (hb hby d_p8_m1_210) rfl rfl ?_
                exact k
              refine Go.callV X30 hx hZ (W := 0) (argsL := []) (rest := []) hown (wd hw 37 rfl) (wd hw 38 rfl) (notFace_of_selects (args := #[]) (mvT hZ (wd hw 40 rfl))) (wd hw 40 rfl) (wd hw 39 rfl) (wd hw 3 rfl) (wd hw 41 rfl) (by decide) E_b (ct_longest l Z a0 hw  b aS lim src h30 n0 O F_source F_limit I_aS) e30 (by rw [hml]; rfl) (lenOf pd___I_8321 rfl) rfl rfl (hb hby d_p8_m1_211) (by decide) (by decide) (by decide) (by decide) ?_
              intro v32 T32 h32 L32 X32 e32 q32
              obtain ⟨rfl, N32, rfl⟩ := q32
              replace N32 := Fr.app N30 N32
              show Go p e below _ T32 (mkF m 214 #[.val (.ref b), .val (.ref a), .val (.int lim), .val (.ref aL), .val (.ref aN), .val (.int cn), .val (.int row), s7] [(.int (lenI src + lim))])
              refine Go.by (T' := T32) (g' := (mkF m 222 #[.val (.ref b), .val (.ref a), .val (.int lim), .val (.ref aL), .val (.ref aN), .val (.int cn), .val (.int (lenI src + lim)), s7] [(.ref a), (.int ((lenI src + lim) + (1 : Int32))), (.ref b)])) (fun t k => ?_) ?_
              · show Steps p.tables e below (T32.setTop (mkF m 214 #[.val (.ref b), .val (.ref a), .val (.int lim), .val (.ref aL), .val (.ref aN), .val (.int cn), .val (.int row), s7] [(.int (lenI src + lim))])) _
                refine XS.istore X32.here hx rfl (hb hby d_p8_m1_214) rfl (l' := #[.val (.ref b), .val (.ref a), .val (.int lim), .val (.ref aL), .val (.ref aN), .val (.int cn), .val (.int (lenI src + lim)), s7]) rfl ?_
                show Steps p.tables e below (T32.setTop (mkF m 216 #[.val (.ref b), .val (.ref a), .val (.int lim), .val (.ref aL), .val (.ref aN), .val (.int cn), .val (.int (lenI src + lim)), s7] [])) _
                refine XS.aloadN X32.here hx rfl (hb hby d_p8_m1_216) rfl rfl ?_
                show Steps p.tables e below (T32.setTop (mkF m 217 #[.val (.ref b), .val (.ref a), .val (.int lim), .val (.ref aL), .val (.ref aN), .val (.int cn), .val (.int (lenI src + lim)), s7] [(.ref b)])) _
                refine XS.iload X32.here hx rfl (hb hby d_p8_m1_217) rfl ?_
                show Steps p.tables e below (T32.setTop (mkF m 219 #[.val (.ref b), .val (.ref a), .val (.int lim), .val (.ref aL), .val (.ref aN), .val (.int cn), .val (.int (lenI src + lim)), s7] [(.int (lenI src + lim)), (.ref b)])) _
                refine XS.iconst X32.here hx rfl (hb hby d_p8_m1_219) ?_
                show Steps p.tables e below (T32.setTop (mkF m 220 #[.val (.ref b), .val (.ref a), .val (.int lim), .val (.ref aL), .val (.ref aN), .val (.int cn), .val (.int (lenI src + lim)), s7] [(.int (1 : Int32)), (.int (lenI src + lim)), (.ref b)])) _
                refine XS.iadd X32.here hx rfl (hb hby d_p8_m1_220) rfl ?_
                show Steps p.tables e below (T32.setTop (mkF m 221 #[.val (.ref b), .val (.ref a), .val (.int lim), .val (.ref aL), .val (.ref aN), .val (.int cn), .val (.int (lenI src + lim)), s7] [(.int ((lenI src + lim) + (1 : Int32))), (.ref b)])) _
                refine XS.aloadN X32.here hx rfl (hb hby d_p8_m1_221) rfl rfl ?_
                exact k
              refine Go.iaN X32 hx hZ e32 I_a (hb hby d_p8_m1_222) ?_
              show Go p e below _ T32 (mkF m 223 #[.val (.ref b), .val (.ref a), .val (.int lim), .val (.ref aL), .val (.ref aN), .val (.int cn), .val (.int (lenI src + lim)), s7] [(.int (lenI src)), (.int ((lenI src + lim) + (1 : Int32))), (.ref b)])
              refine Go.by (T' := T32) (g' := (mkF m 225 #[.val (.ref b), .val (.ref a), .val (.int lim), .val (.ref aL), .val (.ref aN), .val (.int cn), .val (.int (lenI src + lim)), s7] [(.int ((lenI src) + (1 : Int32))), (.int ((lenI src + lim) + (1 : Int32))), (.ref b)])) (fun t k => ?_) ?_
              · show Steps p.tables e below (T32.setTop (mkF m 223 #[.val (.ref b), .val (.ref a), .val (.int lim), .val (.ref aL), .val (.ref aN), .val (.int cn), .val (.int (lenI src + lim)), s7] [(.int (lenI src)), (.int ((lenI src + lim) + (1 : Int32))), (.ref b)])) _
                refine XS.iconst X32.here hx rfl (hb hby d_p8_m1_223) ?_
                show Steps p.tables e below (T32.setTop (mkF m 224 #[.val (.ref b), .val (.ref a), .val (.int lim), .val (.ref aL), .val (.ref aN), .val (.int cn), .val (.int (lenI src + lim)), s7] [(.int (1 : Int32)), (.int (lenI src)), (.int ((lenI src + lim) + (1 : Int32))), (.ref b)])) _
                refine XS.iadd X32.here hx rfl (hb hby d_p8_m1_224) rfl ?_
                exact k
              obtain ⟨v33, hv33, H⟩ := ob H
              refine Go.gNew X32 hx hZ hown (wd hw 33 rfl) (wd hw 34 rfl) (wd hw 0 rfl) e32 (cN := 7) (cK := 4) hv33 (hb hby d_p8_m1_225) (by decide) (by decide) (by decide) (by decide) ?_
              intro T34 h34 aC X34 e34 E34 g34 G_aC
              have lb34 : (h30.size : Nat) ≤ aC := Nat.le_of_eq g34.symm
              have ord35 : (n0 : Nat) ≤ aC ∧ (h0.size : Nat) ≤ aC ∧ (b : Nat) < aC ∧ (a : Nat) < aC ∧ (aS : Nat) < aC ∧ (aL : Nat) < aC ∧ (aN : Nat) < aC ∧ (aD : Nat) < aC ∧ (aR + N_aR : Nat) < aC := by
                have u0 : (n0 : Nat) ≤ h30.size := OwnKit.Old.le O
                have u1 : (h30.size : Nat) ≤ aC := lb34
                have u2 : (h0.size : Nat) ≤ h30.size := K.1
                have z0 : (b : Nat) < h30.size := E_b.lt
                have z1 : (a : Nat) < h30.size := I_a.lt
                have z2 : (aS : Nat) < h30.size := I_aS.lt
                have z3 : (aL : Nat) < h30.size := I_aL.lt
                have z4 : (aN : Nat) < h30.size := I_aN.lt
                have z5 : (aD : Nat) < h30.size := I_aD.lt
                have z6 : (aR + N_aR : Nat) < h30.size := G_aR.lts' hn_aR
                omega
              replace E_b := E_b.ext E34
              replace F_source := F_source.ext E34
              replace F_limit := F_limit.ext E34
              replace F_sourceLetters := F_sourceLetters.ext E34
              replace F_distinct := F_distinct.ext E34
              replace F_lastRowBefore := F_lastRowBefore.ext E34
              replace F_columns := F_columns.ext E34
              replace F_fewest := F_fewest.ext E34
              replace F_targetLetters := F_targetLetters.ext E34
              replace F_lastColumn := F_lastColumn.ext E34
              replace F_replacedColumn := F_replacedColumn.ext E34
              replace F_read := F_read.ext E34
              replace I_a := I_a.ext E34
              replace I_aS := I_aS.ext E34
              replace I_aL := I_aL.ext E34
              replace I_aN := I_aN.ext E34
              replace I_aD := I_aD.ext E34
              replace G_aR := G_aR.ext E34
              replace O := O.ext E34
              replace K := K.ext E34
              obtain ⟨N_aC, hn_aC⟩ : ∃ q : Nat, v33.length = q := ⟨_, rfl⟩
              show Go p e below _ T34 (mkF m 229 #[.val (.ref b), .val (.ref a), .val (.int lim), .val (.ref aL), .val (.ref aN), .val (.int cn), .val (.int (lenI src + lim)), s7] [(.ref aC), (.ref b)])
              refine Go.putF X34 hx hZ hown (wd hw 42 rfl) Via.refl e34 F_columns E_b (Or.inr ⟨(wd hw 43 rfl), rfl, hnm⟩) (wd hw 2 rfl) (ty := (.array (.array .int))) (by decide) rfl rfl (hb hby d_p8_m1_229) ?_
              intro T36 h36 X36 e36 W36
              replace E_b := E_b.wr W36
              replace F_source := F_source.other W36 (Or.inr (slot_ne (a0 := a0) (Or.inr (wd hw 20 rfl)) (Or.inr (wd hw 43 rfl)) (by decide) (t := (.array .int)) (t' := (.array (.array .int))) (by decide) (by decide)))
              replace F_limit := F_limit.other W36 (Or.inr (slot_ne (a0 := a0) (Or.inr (wd hw 22 rfl)) (Or.inr (wd hw 43 rfl)) (by decide) (t := .int) (t' := (.array (.array .int))) (by decide) (by decide)))
              replace F_sourceLetters := F_sourceLetters.other W36 (Or.inr (slot_ne (a0 := a0) (Or.inr (wd hw 24 rfl)) (Or.inr (wd hw 43 rfl)) (by decide) (t := (.array .int)) (t' := (.array (.array .int))) (by decide) (by decide)))
              replace F_distinct := F_distinct.other W36 (Or.inr (slot_ne (a0 := a0) (Or.inr (wd hw 32 rfl)) (Or.inr (wd hw 43 rfl)) (by decide) (t := (.array .int)) (t' := (.array (.array .int))) (by decide) (by decide)))
              replace F_lastRowBefore := F_lastRowBefore.other W36 (Or.inr (slot_ne (a0 := a0) (Or.inr (wd hw 36 rfl)) (Or.inr (wd hw 43 rfl)) (by decide) (t := (.array (.array .int))) (t' := (.array (.array .int))) (by decide) (by decide)))
              replace F_columns := F_columns.same W36
              replace F_fewest := F_fewest.other W36 (Or.inr (slot_ne (a0 := a0) (Or.inr (wd hw 45 rfl)) (Or.inr (wd hw 43 rfl)) (by decide) (t := (.array .int)) (t' := (.array (.array .int))) (by decide) (by decide)))
              replace F_targetLetters := F_targetLetters.other W36 (Or.inr (slot_ne (a0 := a0) (Or.inr (wd hw 47 rfl)) (Or.inr (wd hw 43 rfl)) (by decide) (t := (.array .int)) (t' := (.array (.array .int))) (by decide) (by decide)))
              replace F_lastColumn := F_lastColumn.other W36 (Or.inr (slot_ne (a0 := a0) (Or.inr (wd hw 49 rfl)) (Or.inr (wd hw 43 rfl)) (by decide) (t := (.array .int)) (t' := (.array (.array .int))) (by decide) (by decide)))
              replace F_replacedColumn := F_replacedColumn.other W36 (Or.inr (slot_ne (a0 := a0) (Or.inr (wd hw 51 rfl)) (Or.inr (wd hw 43 rfl)) (by decide) (t := (.array .int)) (t' := (.array (.array .int))) (by decide) (by decide)))
              replace F_read := F_read.other W36 (Or.inr (slot_ne (a0 := a0) (Or.inl (wd hw 62 rfl)) (Or.inr (wd hw 43 rfl)) (by decide) (t := .int) (t' := (.array (.array .int))) (by decide) (by decide)))
              replace I_a := I_a.other W36 (show (a : Nat) ≠ b by omega)
              replace I_aS := I_aS.other W36 (show (aS : Nat) ≠ b by omega)
              replace I_aL := I_aL.other W36 (show (aL : Nat) ≠ b by omega)
              replace I_aN := I_aN.other W36 (show (aN : Nat) ≠ b by omega)
              replace I_aD := I_aD.other W36 (show (aD : Nat) ≠ b by omega)
              replace G_aR := G_aR.other W36 (show (b : Nat) < aR ∨ aR + lr.length < b by omega)
              replace G_aC := G_aC.other W36 (show (b : Nat) < aC ∨ aC + v33.length < b by omega)
              replace O := O.wr W36 (show (n0 : Nat) ≤ b by omega)
              have N36 := Fr.snoc X36 N32 (show (n0 : Nat) ≤ b by omega)
              replace K := K.wr W36 (Or.inl (List.mem_singleton.mpr rfl))
              show Go p e below _ T36 (mkF m 232 #[.val (.ref b), .val (.ref a), .val (.int lim), .val (.ref aL), .val (.ref aN), .val (.int cn), .val (.int (lenI src + lim)), s7] [])
              refine Go.by (T' := T36) (g' := (mkF m 235 #[.val (.ref b), .val (.ref a), .val (.int lim), .val (.ref aL), .val (.ref aN), .val (.int cn), .val (.int (lenI src + lim)), .val (.int (0 : Int32))] [])) (fun t k => ?_) ?_
              · show Steps p.tables e below (T36.setTop (mkF m 232 #[.val (.ref b), .val (.ref a), .val (.int lim), .val (.ref aL), .val (.ref aN), .val (.int cn), .val (.int (lenI src + lim)), s7] [])) _
                refine XS.iconst X36.here hx rfl (hb hby d_p8_m1_232) ?_
                show Steps p.tables e below (T36.setTop (mkF m 233 #[.val (.ref b), .val (.ref a), .val (.int lim), .val (.ref aL), .val (.ref aN), .val (.int cn), .val (.int (lenI src + lim)), s7] [(.int (0 : Int32))])) _
                refine XS.istore X36.here hx rfl (hb hby d_p8_m1_233) rfl (l' := #[.val (.ref b), .val (.ref a), .val (.int lim), .val (.ref aL), .val (.ref aN), .val (.int cn), .val (.int (lenI src + lim)), .val (.int (0 : Int32))]) (XS.store1 rfl hs7 rfl) ?_
                exact k
              obtain ⟨cs1, hp, H2⟩ := ob H
              have J37 : ∀ (f37 : Nat) (jj : Int32) (cs : List (List Int32)) (T37 : State) (h37 : Heap) (L37 : List Loc), (Stand p l e ({ frames := 2, cells := 20, slots := 86, locals := 46 } : Room) s m #[(.ref b), (.ref a), (.int lim)] below meth c T37 L37 16 62) → (T37.heap = h37) → (Old Z n0 h37) → (Fr n0 L37) → (Keep h0 h37 [b]) → (Exa Z h37 b "com/example/shingle/shingle/EditDistance") → (Fld Z h37 b "com/example/shingle/shingle/EditDistance" "source" "[I" (.ref aS)) → (Fld Z h37 b "com/example/shingle/shingle/EditDistance" "limit" "I" (.int lim)) → (Fld Z h37 b "com/example/shingle/shingle/EditDistance" "sourceLetters" "[I" (.ref aL)) → (Fld Z h37 b "com/example/shingle/shingle/EditDistance" "distinct" "[I" (.ref aD)) → (Fld Z h37 b "com/example/shingle/shingle/EditDistance" "lastRowBefore" "[[I" (.ref aR)) → (Fld Z h37 b "com/example/shingle/shingle/EditDistance" "columns" "[[I" (.ref aC)) → (Fld Z h37 b "com/example/shingle/shingle/EditDistance" "fewest" "[I" .null) → (Fld Z h37 b "com/example/shingle/shingle/EditDistance" "targetLetters" "[I" .null) → (Fld Z h37 b "com/example/shingle/shingle/EditDistance" "lastColumn" "[I" .null) → (Fld Z h37 b "com/example/shingle/shingle/EditDistance" "replacedColumn" "[I" .null) → (Fld Z h37 b "com/example/shingle/shingle/EditDistance" "read" "I" (.int (0 : Int32))) → (IA Z h37 a src) → (IA Z h37 aS src) → (IA Z h37 aL sl) → (IA Z h37 aN se) → (IA Z h37 aD di) → (GA Z h37 aR lr) → (GA Z h37 aC cs) → (lr.length = N_aR) → (cs.length = N_aC) → (coL f37 (lenI src) cs jj = some cs1) → Go p e below (EndF s ({ frames := 2, cells := 20, slots := 86, locals := 46 } : Room).cells ({ frames := 2, cells := 20, slots := 86, locals := 46 } : Room).slots (fun v h L => v = none ∧ Fr n0 L ∧ Keep h0 h [b] ∧ ∃ w, ED Z h b w st)) T37 (mkF m 235 #[.val (.ref b), .val (.ref a), .val (.int lim), .val (.ref aL), .val (.ref aN), .val (.int cn), .val (.int (lenI src + lim)), .val (.int jj)] []) := by
                intro f37
                induction f37 with
                | zero => intro jj cs T37 h37 L37 X37 e37 O N37 K E_b F_source F_limit F_sourceLetters F_distinct F_lastRowBefore F_columns F_fewest F_targetLetters F_lastColumn F_replacedColumn F_read I_a I_aS I_aL I_aN I_aD G_aR G_aC hn_aR hn_aC H; cases H
                | succ f37 ih37 =>
                  intro jj cs T37 h37 L37 X37 e37 O N37 K E_b F_source F_limit F_sourceLetters F_distinct F_lastRowBefore F_columns F_fewest F_targetLetters F_lastColumn F_replacedColumn F_read I_a I_aS I_aL I_aN I_aD G_aR G_aC hn_aR hn_aC H
                  rw [coL] at H
                  refine Go.by (T' := T37) (g' := (mkF m 238 #[.val (.ref b), .val (.ref a), .val (.int lim), .val (.ref aL), .val (.ref aN), .val (.int cn), .val (.int (lenI src + lim)), .val (.int jj)] [(.ref a), (.int jj)])) (fun t k => ?_) ?_
                  · show Steps p.tables e below (T37.setTop (mkF m 235 #[.val (.ref b), .val (.ref a), .val (.int lim), .val (.ref aL), .val (.ref aN), .val (.int cn), .val (.int (lenI src + lim)), .val (.int jj)] [])) _
                    refine XS.iload X37.here hx rfl (hb hby d_p8_m1_235) rfl ?_
                    show Steps p.tables e below (T37.setTop (mkF m 237 #[.val (.ref b), .val (.ref a), .val (.int lim), .val (.ref aL), .val (.ref aN), .val (.int cn), .val (.int (lenI src + lim)), .val (.int jj)] [(.int jj)])) _
                    refine XS.aloadN X37.here hx rfl (hb hby d_p8_m1_237) rfl rfl ?_
                    exact k
                  refine Go.iaN X37 hx hZ e37 I_a (hb hby d_p8_m1_238) ?_
                  show Go p e below _ T37 (mkF m 239 #[.val (.ref b), .val (.ref a), .val (.int lim), .val (.ref aL), .val (.ref aN), .val (.int cn), .val (.int (lenI src + lim)), .val (.int jj)] [(.int (lenI src)), (.int jj)])
                  by_cases hy38 : (lenI src) < jj
                  · skip
                    have q1 := Option.some.inj ((if_pos hy38).symm.trans H)
                    rw [← q1] at H2
                    replace H := H2
                    refine Go.by (T' := T37) (g' := (mkF m 264 #[.val (.ref b), .val (.ref a), .val (.int lim), .val (.ref aL), .val (.ref aN), .val (.int cn), .val (.int (lenI src + lim)), .val (.int jj)] [(.int ((lenI src + lim) + (1 : Int32))), (.ref b)])) (fun t k => ?_) ?_
                    · show Steps p.tables e below (T37.setTop (mkF m 239 #[.val (.ref b), .val (.ref a), .val (.int lim), .val (.ref aL), .val (.ref aN), .val (.int cn), .val (.int (lenI src + lim)), .val (.int jj)] [(.int (lenI src)), (.int jj)])) _
                      refine XS.icmpYes X37.here hx rfl (pc0 := 239) (pc' := 259) rfl (hb hby d_p8_m1_239) rfl (tlt hy38).2.2.1 (by decide) (by decide) ?_
                      show Steps p.tables e below (T37.setTop (mkF m 259 #[.val (.ref b), .val (.ref a), .val (.int lim), .val (.ref aL), .val (.ref aN), .val (.int cn), .val (.int (lenI src + lim)), .val (.int jj)] [])) _
                      refine XS.aloadN X37.here hx rfl (hb hby d_p8_m1_259) rfl rfl ?_
                      show Steps p.tables e below (T37.setTop (mkF m 260 #[.val (.ref b), .val (.ref a), .val (.int lim), .val (.ref aL), .val (.ref aN), .val (.int cn), .val (.int (lenI src + lim)), .val (.int jj)] [(.ref b)])) _
                      refine XS.iload X37.here hx rfl (hb hby d_p8_m1_260) rfl ?_
                      show Steps p.tables e below (T37.setTop (mkF m 262 #[.val (.ref b), .val (.ref a), .val (.int lim), .val (.ref aL), .val (.ref aN), .val (.int cn), .val (.int (lenI src + lim)), .val (.int jj)] [(.int (lenI src + lim)), (.ref b)])) _
                      refine XS.iconst X37.here hx rfl (hb hby d_p8_m1_262) ?_
                      show Steps p.tables e below (T37.setTop (mkF m 263 #[.val (.ref b), .val (.ref a), .val (.int lim), .val (.ref aL), .val (.ref aN), .val (.int cn), .val (.int (lenI src + lim)), .val (.int jj)] [(.int (1 : Int32)), (.int (lenI src + lim)), (.ref b)])) _
                      refine XS.iadd X37.here hx rfl (hb hby d_p8_m1_263) rfl ?_
                      exact k
                    obtain ⟨fw, hv_fw, H⟩ := ob H
                    refine Go.iaNew X37 hx hZ (wd hw 0 rfl) e37 (cap := 7) hv_fw (hb hby d_p8_m1_264) (by decide) (by decide) (by decide) ?_
                    intro T39 h39 aF X39 e39 E39 g39 I_aF
                    have lb39 : (h37.size : Nat) ≤ aF := Nat.le_of_eq g39.symm
                    have ord40 : (n0 : Nat) ≤ aF ∧ (h0.size : Nat) ≤ aF ∧ (b : Nat) < aF ∧ (a : Nat) < aF ∧ (aS : Nat) < aF ∧ (aL : Nat) < aF ∧ (aN : Nat) < aF ∧ (aD : Nat) < aF ∧ (aR + N_aR : Nat) < aF ∧ (aC + N_aC : Nat) < aF := by
                      have u0 : (n0 : Nat) ≤ h37.size := OwnKit.Old.le O
                      have u1 : (h37.size : Nat) ≤ aF := lb39
                      have u2 : (h0.size : Nat) ≤ h37.size := K.1
                      have z0 : (b : Nat) < h37.size := E_b.lt
                      have z1 : (a : Nat) < h37.size := I_a.lt
                      have z2 : (aS : Nat) < h37.size := I_aS.lt
                      have z3 : (aL : Nat) < h37.size := I_aL.lt
                      have z4 : (aN : Nat) < h37.size := I_aN.lt
                      have z5 : (aD : Nat) < h37.size := I_aD.lt
                      have z6 : (aR + N_aR : Nat) < h37.size := G_aR.lts' hn_aR
                      have z7 : (aC + N_aC : Nat) < h37.size := G_aC.lts' hn_aC
                      omega
                    replace E_b := E_b.ext E39
                    replace F_source := F_source.ext E39
                    replace F_limit := F_limit.ext E39
                    replace F_sourceLetters := F_sourceLetters.ext E39
                    replace F_distinct := F_distinct.ext E39
                    replace F_lastRowBefore := F_lastRowBefore.ext E39
                    replace F_columns := F_columns.ext E39
                    replace F_fewest := F_fewest.ext E39
                    replace F_targetLetters := F_targetLetters.ext E39
                    replace F_lastColumn := F_lastColumn.ext E39
                    replace F_replacedColumn := F_replacedColumn.ext E39
                    replace F_read := F_read.ext E39
                    replace I_a := I_a.ext E39
                    replace I_aS := I_aS.ext E39
                    replace I_aL := I_aL.ext E39
                    replace I_aN := I_aN.ext E39
                    replace I_aD := I_aD.ext E39
                    replace G_aR := G_aR.ext E39
                    replace G_aC := G_aC.ext E39
                    replace O := O.ext E39
                    replace K := K.ext E39
                    show Go p e below _ T39 (mkF m 266 #[.val (.ref b), .val (.ref a), .val (.int lim), .val (.ref aL), .val (.ref aN), .val (.int cn), .val (.int (lenI src + lim)), .val (.int jj)] [(.ref aF), (.ref b)])
                    refine Go.putF X39 hx hZ hown (wd hw 44 rfl) Via.refl e39 F_fewest E_b (Or.inr ⟨(wd hw 45 rfl), rfl, hnm⟩) (wd hw 2 rfl) (ty := (.array .int)) (by decide) rfl rfl (hb hby d_p8_m1_266) ?_
                    intro T41 h41 X41 e41 W41
                    replace E_b := E_b.wr W41
                    replace F_source := F_source.other W41 (Or.inr (slot_ne (a0 := a0) (Or.inr (wd hw 20 rfl)) (Or.inr (wd hw 45 rfl)) (by decide) (t := (.array .int)) (t' := (.array .int)) (by decide) (by decide)))
                    replace F_limit := F_limit.other W41 (Or.inr (slot_ne (a0 := a0) (Or.inr (wd hw 22 rfl)) (Or.inr (wd hw 45 rfl)) (by decide) (t := .int) (t' := (.array .int)) (by decide) (by decide)))
                    replace F_sourceLetters := F_sourceLetters.other W41 (Or.inr (slot_ne (a0 := a0) (Or.inr (wd hw 24 rfl)) (Or.inr (wd hw 45 rfl)) (by decide) (t := (.array .int)) (t' := (.array .int)) (by decide) (by decide)))
                    replace F_distinct := F_distinct.other W41 (Or.inr (slot_ne (a0 := a0) (Or.inr (wd hw 32 rfl)) (Or.inr (wd hw 45 rfl)) (by decide) (t := (.array .int)) (t' := (.array .int)) (by decide) (by decide)))
                    replace F_lastRowBefore := F_lastRowBefore.other W41 (Or.inr (slot_ne (a0 := a0) (Or.inr (wd hw 36 rfl)) (Or.inr (wd hw 45 rfl)) (by decide) (t := (.array (.array .int))) (t' := (.array .int)) (by decide) (by decide)))
                    replace F_columns := F_columns.other W41 (Or.inr (slot_ne (a0 := a0) (Or.inr (wd hw 43 rfl)) (Or.inr (wd hw 45 rfl)) (by decide) (t := (.array (.array .int))) (t' := (.array .int)) (by decide) (by decide)))
                    replace F_fewest := F_fewest.same W41
                    replace F_targetLetters := F_targetLetters.other W41 (Or.inr (slot_ne (a0 := a0) (Or.inr (wd hw 47 rfl)) (Or.inr (wd hw 45 rfl)) (by decide) (t := (.array .int)) (t' := (.array .int)) (by decide) (by decide)))
                    replace F_lastColumn := F_lastColumn.other W41 (Or.inr (slot_ne (a0 := a0) (Or.inr (wd hw 49 rfl)) (Or.inr (wd hw 45 rfl)) (by decide) (t := (.array .int)) (t' := (.array .int)) (by decide) (by decide)))
                    replace F_replacedColumn := F_replacedColumn.other W41 (Or.inr (slot_ne (a0 := a0) (Or.inr (wd hw 51 rfl)) (Or.inr (wd hw 45 rfl)) (by decide) (t := (.array .int)) (t' := (.array .int)) (by decide) (by decide)))
                    replace F_read := F_read.other W41 (Or.inr (slot_ne (a0 := a0) (Or.inl (wd hw 62 rfl)) (Or.inr (wd hw 45 rfl)) (by decide) (t := .int) (t' := (.array .int)) (by decide) (by decide)))
                    replace I_a := I_a.other W41 (show (a : Nat) ≠ b by omega)
                    replace I_aS := I_aS.other W41 (show (aS : Nat) ≠ b by omega)
                    replace I_aL := I_aL.other W41 (show (aL : Nat) ≠ b by omega)
                    replace I_aN := I_aN.other W41 (show (aN : Nat) ≠ b by omega)
                    replace I_aD := I_aD.other W41 (show (aD : Nat) ≠ b by omega)
                    replace G_aR := G_aR.other W41 (show (b : Nat) < aR ∨ aR + lr.length < b by omega)
                    replace G_aC := G_aC.other W41 (show (b : Nat) < aC ∨ aC + cs.length < b by omega)
                    replace I_aF := I_aF.other W41 (show (aF : Nat) ≠ b by omega)
                    replace O := O.wr W41 (show (n0 : Nat) ≤ b by omega)
                    have N41 := Fr.snoc X41 N37 (show (n0 : Nat) ≤ b by omega)
                    replace K := K.wr W41 (Or.inl (List.mem_singleton.mpr rfl))
                    show Go p e below _ T41 (mkF m 269 #[.val (.ref b), .val (.ref a), .val (.int lim), .val (.ref aL), .val (.ref aN), .val (.int cn), .val (.int (lenI src + lim)), .val (.int jj)] [])
                    refine Go.by (T' := T41) (g' := (mkF m 274 #[.val (.ref b), .val (.ref a), .val (.int lim), .val (.ref aL), .val (.ref aN), .val (.int cn), .val (.int (lenI src + lim)), .val (.int jj)] [(.int ((lenI src + lim) + (1 : Int32))), (.ref b)])) (fun t k => ?_) ?_
                    · show Steps p.tables e below (T41.setTop (mkF m 269 #[.val (.ref b), .val (.ref a), .val (.int lim), .val (.ref aL), .val (.ref aN), .val (.int cn), .val (.int (lenI src + lim)), .val (.int jj)] [])) _
                      refine XS.aloadN X41.here hx rfl (hb hby d_p8_m1_269) rfl rfl ?_
                      show Steps p.tables e below (T41.setTop (mkF m 270 #[.val (.ref b), .val (.ref a), .val (.int lim), .val (.ref aL), .val (.ref aN), .val (.int cn), .val (.int (lenI src + lim)), .val (.int jj)] [(.ref b)])) _
                      refine XS.iload X41.here hx rfl (hb hby d_p8_m1_270) rfl ?_
                      show Steps p.tables e below (T41.setTop (mkF m 272 #[.val (.ref b), .val (.ref a), .val (.int lim), .val (.ref aL), .val (.ref aN), .val (.int cn), .val (.int (lenI src + lim)), .val (.int jj)] [(.int (lenI src + lim)), (.ref b)])) _
                      refine XS.iconst X41.here hx rfl (hb hby d_p8_m1_272) ?_
                      show Steps p.tables e below (T41.setTop (mkF m 273 #[.val (.ref b), .val (.ref a), .val (.int lim), .val (.ref aL), .val (.ref aN), .val (.int cn), .val (.int (lenI src + lim)), .val (.int jj)] [(.int (1 : Int32)), (.int (lenI src + lim)), (.ref b)])) _
                      refine XS.iadd X41.here hx rfl (hb hby d_p8_m1_273) rfl ?_
                      exact k
                    obtain ⟨tl, hv_tl, H⟩ := ob H
                    refine Go.iaNew X41 hx hZ (wd hw 0 rfl) e41 (cap := 7) hv_tl (hb hby d_p8_m1_274) (by decide) (by decide) (by decide) ?_
                    intro T42 h42 aT X42 e42 E42 g42 I_aT
                    have lb42 : (h41.size : Nat) ≤ aT := Nat.le_of_eq g42.symm
                    have ord43 : (n0 : Nat) ≤ aT ∧ (h0.size : Nat) ≤ aT ∧ (b : Nat) < aT ∧ (a : Nat) < aT ∧ (aS : Nat) < aT ∧ (aL : Nat) < aT ∧ (aN : Nat) < aT ∧ (aD : Nat) < aT ∧ (aR + N_aR : Nat) < aT ∧ (aC + N_aC : Nat) < aT ∧ (aF : Nat) < aT := by
                      have u0 : (n0 : Nat) ≤ h41.size := OwnKit.Old.le O
                      have u1 : (h41.size : Nat) ≤ aT := lb42
                      have u2 : (h0.size : Nat) ≤ h41.size := K.1
                      have z0 : (b : Nat) < h41.size := E_b.lt
                      have z1 : (a : Nat) < h41.size := I_a.lt
                      have z2 : (aS : Nat) < h41.size := I_aS.lt
                      have z3 : (aL : Nat) < h41.size := I_aL.lt
                      have z4 : (aN : Nat) < h41.size := I_aN.lt
                      have z5 : (aD : Nat) < h41.size := I_aD.lt
                      have z6 : (aR + N_aR : Nat) < h41.size := G_aR.lts' hn_aR
                      have z7 : (aC + N_aC : Nat) < h41.size := G_aC.lts' hn_aC
                      have z8 : (aF : Nat) < h41.size := I_aF.lt
                      omega
                    replace E_b := E_b.ext E42
                    replace F_source := F_source.ext E42
                    replace F_limit := F_limit.ext E42
                    replace F_sourceLetters := F_sourceLetters.ext E42
                    replace F_distinct := F_distinct.ext E42
                    replace F_lastRowBefore := F_lastRowBefore.ext E42
                    replace F_columns := F_columns.ext E42
                    replace F_fewest := F_fewest.ext E42
                    replace F_targetLetters := F_targetLetters.ext E42
                    replace F_lastColumn := F_lastColumn.ext E42
                    replace F_replacedColumn := F_replacedColumn.ext E42
                    replace F_read := F_read.ext E42
                    replace I_a := I_a.ext E42
                    replace I_aS := I_aS.ext E42
                    replace I_aL := I_aL.ext E42
                    replace I_aN := I_aN.ext E42
                    replace I_aD := I_aD.ext E42
                    replace G_aR := G_aR.ext E42
                    replace G_aC := G_aC.ext E42
                    replace I_aF := I_aF.ext E42
                    replace O := O.ext E42
                    replace K := K.ext E42
                    show Go p e below _ T42 (mkF m 276 #[.val (.ref b), .val (.ref a), .val (.int lim), .val (.ref aL), .val (.ref aN), .val (.int cn), .val (.int (lenI src + lim)), .val (.int jj)] [(.ref aT), (.ref b)])
                    refine Go.putF X42 hx hZ hown (wd hw 46 rfl) Via.refl e42 F_targetLetters E_b (Or.inr ⟨(wd hw 47 rfl), rfl, hnm⟩) (wd hw 2 rfl) (ty := (.array .int)) (by decide) rfl rfl (hb hby d_p8_m1_276) ?_
                    intro T44 h44 X44 e44 W44
                    replace E_b := E_b.wr W44
                    replace F_source := F_source.other W44 (Or.inr (slot_ne (a0 := a0) (Or.inr (wd hw 20 rfl)) (Or.inr (wd hw 47 rfl)) (by decide) (t := (.array .int)) (t' := (.array .int)) (by decide) (by decide)))
                    replace F_limit := F_limit.other W44 (Or.inr (slot_ne (a0 := a0) (Or.inr (wd hw 22 rfl)) (Or.inr (wd hw 47 rfl)) (by decide) (t := .int) (t' := (.array .int)) (by decide) (by decide)))
                    replace F_sourceLetters := F_sourceLetters.other W44 (Or.inr (slot_ne (a0 := a0) (Or.inr (wd hw 24 rfl)) (Or.inr (wd hw 47 rfl)) (by decide) (t := (.array .int)) (t' := (.array .int)) (by decide) (by decide)))
                    replace F_distinct := F_distinct.other W44 (Or.inr (slot_ne (a0 := a0) (Or.inr (wd hw 32 rfl)) (Or.inr (wd hw 47 rfl)) (by decide) (t := (.array .int)) (t' := (.array .int)) (by decide) (by decide)))
                    replace F_lastRowBefore := F_lastRowBefore.other W44 (Or.inr (slot_ne (a0 := a0) (Or.inr (wd hw 36 rfl)) (Or.inr (wd hw 47 rfl)) (by decide) (t := (.array (.array .int))) (t' := (.array .int)) (by decide) (by decide)))
                    replace F_columns := F_columns.other W44 (Or.inr (slot_ne (a0 := a0) (Or.inr (wd hw 43 rfl)) (Or.inr (wd hw 47 rfl)) (by decide) (t := (.array (.array .int))) (t' := (.array .int)) (by decide) (by decide)))
                    replace F_fewest := F_fewest.other W44 (Or.inr (slot_ne (a0 := a0) (Or.inr (wd hw 45 rfl)) (Or.inr (wd hw 47 rfl)) (by decide) (t := (.array .int)) (t' := (.array .int)) (by decide) (by decide)))
                    replace F_targetLetters := F_targetLetters.same W44
                    replace F_lastColumn := F_lastColumn.other W44 (Or.inr (slot_ne (a0 := a0) (Or.inr (wd hw 49 rfl)) (Or.inr (wd hw 47 rfl)) (by decide) (t := (.array .int)) (t' := (.array .int)) (by decide) (by decide)))
                    replace F_replacedColumn := F_replacedColumn.other W44 (Or.inr (slot_ne (a0 := a0) (Or.inr (wd hw 51 rfl)) (Or.inr (wd hw 47 rfl)) (by decide) (t := (.array .int)) (t' := (.array .int)) (by decide) (by decide)))
                    replace F_read := F_read.other W44 (Or.inr (slot_ne (a0 := a0) (Or.inl (wd hw 62 rfl)) (Or.inr (wd hw 47 rfl)) (by decide) (t := .int) (t' := (.array .int)) (by decide) (by decide)))
                    replace I_a := I_a.other W44 (show (a : Nat) ≠ b by omega)
                    replace I_aS := I_aS.other W44 (show (aS : Nat) ≠ b by omega)
                    replace I_aL := I_aL.other W44 (show (aL : Nat) ≠ b by omega)
                    replace I_aN := I_aN.other W44 (show (aN : Nat) ≠ b by omega)
                    replace I_aD := I_aD.other W44 (show (aD : Nat) ≠ b by omega)
                    replace G_aR := G_aR.other W44 (show (b : Nat) < aR ∨ aR + lr.length < b by omega)
                    replace G_aC := G_aC.other W44 (show (b : Nat) < aC ∨ aC + cs.length < b by omega)
                    replace I_aF := I_aF.other W44 (show (aF : Nat) ≠ b by omega)
                    replace I_aT := I_aT.other W44 (show (aT : Nat) ≠ b by omega)
                    replace O := O.wr W44 (show (n0 : Nat) ≤ b by omega)
                    have N44 := Fr.snoc X44 N41 (show (n0 : Nat) ≤ b by omega)
                    replace K := K.wr W44 (Or.inl (List.mem_singleton.mpr rfl))
                    show Go p e below _ T44 (mkF m 279 #[.val (.ref b), .val (.ref a), .val (.int lim), .val (.ref aL), .val (.ref aN), .val (.int cn), .val (.int (lenI src + lim)), .val (.int jj)] [])
                    refine Go.by (T' := T44) (g' := (mkF m 282 #[.val (.ref b), .val (.ref a), .val (.int lim), .val (.ref aL), .val (.ref aN), .val (.int cn), .val (.int (lenI src + lim)), .val (.int jj)] [(.int cn), (.ref b)])) (fun t k => ?_) ?_
                    · show Steps p.tables e below (T44.setTop (mkF m 279 #[.val (.ref b), .val (.ref a), .val (.int lim), .val (.ref aL), .val (.ref aN), .val (.int cn), .val (.int (lenI src + lim)), .val (.int jj)] [])) _
                      refine XS.aloadN X44.here hx rfl (hb hby d_p8_m1_279) rfl rfl ?_
                      show Steps p.tables e below (T44.setTop (mkF m 280 #[.val (.ref b), .val (.ref a), .val (.int lim), .val (.ref aL), .val (.ref aN), .val (.int cn), .val (.int (lenI src + lim)), .val (.int jj)] [(.ref b)])) _
                      refine XS.iload X44.here hx rfl (hb hby d_p8_m1_280) rfl ?_
                      exact k
                    obtain ⟨lc, hv_lc, H⟩ := ob H
                    refine Go.iaNew X44 hx hZ (wd hw 0 rfl) e44 (cap := 3) hv_lc (hb hby d_p8_m1_282) (by decide) (by decide) (by decide) ?_
                    intro T45 h45 aX X45 e45 E45 g45 I_aX
                    have lb45 : (h44.size : Nat) ≤ aX := Nat.le_of_eq g45.symm
                    have ord46 : (n0 : Nat) ≤ aX ∧ (h0.size : Nat) ≤ aX ∧ (b : Nat) < aX ∧ (a : Nat) < aX ∧ (aS : Nat) < aX ∧ (aL : Nat) < aX ∧ (aN : Nat) < aX ∧ (aD : Nat) < aX ∧ (aR + N_aR : Nat) < aX ∧ (aC + N_aC : Nat) < aX ∧ (aF : Nat) < aX ∧ (aT : Nat) < aX := by
                      have u0 : (n0 : Nat) ≤ h44.size := OwnKit.Old.le O
                      have u1 : (h44.size : Nat) ≤ aX := lb45
                      have u2 : (h0.size : Nat) ≤ h44.size := K.1
                      have z0 : (b : Nat) < h44.size := E_b.lt
                      have z1 : (a : Nat) < h44.size := I_a.lt
                      have z2 : (aS : Nat) < h44.size := I_aS.lt
                      have z3 : (aL : Nat) < h44.size := I_aL.lt
                      have z4 : (aN : Nat) < h44.size := I_aN.lt
                      have z5 : (aD : Nat) < h44.size := I_aD.lt
                      have z6 : (aR + N_aR : Nat) < h44.size := G_aR.lts' hn_aR
                      have z7 : (aC + N_aC : Nat) < h44.size := G_aC.lts' hn_aC
                      have z8 : (aF : Nat) < h44.size := I_aF.lt
                      have z9 : (aT : Nat) < h44.size := I_aT.lt
                      omega
                    replace E_b := E_b.ext E45
                    replace F_source := F_source.ext E45
                    replace F_limit := F_limit.ext E45
                    replace F_sourceLetters := F_sourceLetters.ext E45
                    replace F_distinct := F_distinct.ext E45
                    replace F_lastRowBefore := F_lastRowBefore.ext E45
                    replace F_columns := F_columns.ext E45
                    replace F_fewest := F_fewest.ext E45
                    replace F_targetLetters := F_targetLetters.ext E45
                    replace F_lastColumn := F_lastColumn.ext E45
                    replace F_replacedColumn := F_replacedColumn.ext E45
                    replace F_read := F_read.ext E45
                    replace I_a := I_a.ext E45
                    replace I_aS := I_aS.ext E45
                    replace I_aL := I_aL.ext E45
                    replace I_aN := I_aN.ext E45
                    replace I_aD := I_aD.ext E45
                    replace G_aR := G_aR.ext E45
                    replace G_aC := G_aC.ext E45
                    replace I_aF := I_aF.ext E45
                    replace I_aT := I_aT.ext E45
                    replace O := O.ext E45
                    replace K := K.ext E45
                    show Go p e below _ T45 (mkF m 284 #[.val (.ref b), .val (.ref a), .val (.int lim), .val (.ref aL), .val (.ref aN), .val (.int cn), .val (.int (lenI src + lim)), .val (.int jj)] [(.ref aX), (.ref b)])
                    refine Go.putF X45 hx hZ hown (wd hw 48 rfl) Via.refl e45 F_lastColumn E_b (Or.inr ⟨(wd hw 49 rfl), rfl, hnm⟩) (wd hw 2 rfl) (ty := (.array .int)) (by decide) rfl rfl (hb hby d_p8_m1_284) ?_
                    intro T47 h47 X47 e47 W47
                    replace E_b := E_b.wr W47
                    replace F_source := F_source.other W47 (Or.inr (slot_ne (a0 := a0) (Or.inr (wd hw 20 rfl)) (Or.inr (wd hw 49 rfl)) (by decide) (t := (.array .int)) (t' := (.array .int)) (by decide) (by decide)))
                    replace F_limit := F_limit.other W47 (Or.inr (slot_ne (a0 := a0) (Or.inr (wd hw 22 rfl)) (Or.inr (wd hw 49 rfl)) (by decide) (t := .int) (t' := (.array .int)) (by decide) (by decide)))
                    replace F_sourceLetters := F_sourceLetters.other W47 (Or.inr (slot_ne (a0 := a0) (Or.inr (wd hw 24 rfl)) (Or.inr (wd hw 49 rfl)) (by decide) (t := (.array .int)) (t' := (.array .int)) (by decide) (by decide)))
                    replace F_distinct := F_distinct.other W47 (Or.inr (slot_ne (a0 := a0) (Or.inr (wd hw 32 rfl)) (Or.inr (wd hw 49 rfl)) (by decide) (t := (.array .int)) (t' := (.array .int)) (by decide) (by decide)))
                    replace F_lastRowBefore := F_lastRowBefore.other W47 (Or.inr (slot_ne (a0 := a0) (Or.inr (wd hw 36 rfl)) (Or.inr (wd hw 49 rfl)) (by decide) (t := (.array (.array .int))) (t' := (.array .int)) (by decide) (by decide)))
                    replace F_columns := F_columns.other W47 (Or.inr (slot_ne (a0 := a0) (Or.inr (wd hw 43 rfl)) (Or.inr (wd hw 49 rfl)) (by decide) (t := (.array (.array .int))) (t' := (.array .int)) (by decide) (by decide)))
                    replace F_fewest := F_fewest.other W47 (Or.inr (slot_ne (a0 := a0) (Or.inr (wd hw 45 rfl)) (Or.inr (wd hw 49 rfl)) (by decide) (t := (.array .int)) (t' := (.array .int)) (by decide) (by decide)))
                    replace F_targetLetters := F_targetLetters.other W47 (Or.inr (slot_ne (a0 := a0) (Or.inr (wd hw 47 rfl)) (Or.inr (wd hw 49 rfl)) (by decide) (t := (.array .int)) (t' := (.array .int)) (by decide) (by decide)))
                    replace F_lastColumn := F_lastColumn.same W47
                    replace F_replacedColumn := F_replacedColumn.other W47 (Or.inr (slot_ne (a0 := a0) (Or.inr (wd hw 51 rfl)) (Or.inr (wd hw 49 rfl)) (by decide) (t := (.array .int)) (t' := (.array .int)) (by decide) (by decide)))
                    replace F_read := F_read.other W47 (Or.inr (slot_ne (a0 := a0) (Or.inl (wd hw 62 rfl)) (Or.inr (wd hw 49 rfl)) (by decide) (t := .int) (t' := (.array .int)) (by decide) (by decide)))
                    replace I_a := I_a.other W47 (show (a : Nat) ≠ b by omega)
                    replace I_aS := I_aS.other W47 (show (aS : Nat) ≠ b by omega)
                    replace I_aL := I_aL.other W47 (show (aL : Nat) ≠ b by omega)
                    replace I_aN := I_aN.other W47 (show (aN : Nat) ≠ b by omega)
                    replace I_aD := I_aD.other W47 (show (aD : Nat) ≠ b by omega)
                    replace G_aR := G_aR.other W47 (show (b : Nat) < aR ∨ aR + lr.length < b by omega)
                    replace G_aC := G_aC.other W47 (show (b : Nat) < aC ∨ aC + cs.length < b by omega)
                    replace I_aF := I_aF.other W47 (show (aF : Nat) ≠ b by omega)
                    replace I_aT := I_aT.other W47 (show (aT : Nat) ≠ b by omega)
                    replace I_aX := I_aX.other W47 (show (aX : Nat) ≠ b by omega)
                    replace O := O.wr W47 (show (n0 : Nat) ≤ b by omega)
                    have N47 := Fr.snoc X47 N44 (show (n0 : Nat) ≤ b by omega)
                    replace K := K.wr W47 (Or.inl (List.mem_singleton.mpr rfl))
                    show Go p e below _ T47 (mkF m 287 #[.val (.ref b), .val (.ref a), .val (.int lim), .val (.ref aL), .val (.ref aN), .val (.int cn), .val (.int (lenI src + lim)), .val (.int jj)] [])
                    refine Go.by (T' := T47) (g' := (mkF m 292 #[.val (.ref b), .val (.ref a), .val (.int lim), .val (.ref aL), .val (.ref aN), .val (.int cn), .val (.int (lenI src + lim)), .val (.int jj)] [(.int ((lenI src + lim) + (1 : Int32))), (.ref b)])) (fun t k => ?_) ?_
                    · show Steps p.tables e below (T47.setTop (mkF m 287 #[.val (.ref b), .val (.ref a), .val (.int lim), .val (.ref aL), .val (.ref aN), .val (.int cn), .val (.int (lenI src + lim)), .val (.int jj)] [])) _
                      refine XS.aloadN X47.here hx rfl (hb hby d_p8_m1_287) rfl rfl ?_
                      show Steps p.tables e below (T47.setTop (mkF m 288 #[.val (.ref b), .val (.ref a), .val (.int lim), .val (.ref aL), .val (.ref aN), .val (.int cn), .val (.int (lenI src + lim)), .val (.int jj)] [(.ref b)])) _
                      refine XS.iload X47.here hx rfl (hb hby d_p8_m1_288) rfl ?_
                      show Steps p.tables e below (T47.setTop (mkF m 290 #[.val (.ref b), .val (.ref a), .val (.int lim), .val (.ref aL), .val (.ref aN), .val (.int cn), .val (.int (lenI src + lim)), .val (.int jj)] [(.int (lenI src + lim)), (.ref b)])) _
                      refine XS.iconst X47.here hx rfl (hb hby d_p8_m1_290) ?_
                      show Steps p.tables e below (T47.setTop (mkF m 291 #[.val (.ref b), .val (.ref a), .val (.int lim), .val (.ref aL), .val (.ref aN), .val (.int cn), .val (.int (lenI src + lim)), .val (.int jj)] [(.int (1 : Int32)), (.int (lenI src + lim)), (.ref b)])) _
                      refine XS.iadd X47.here hx rfl (hb hby d_p8_m1_291) rfl ?_
                      exact k
                    obtain ⟨rc, hv_rc, H⟩ := ob H
                    refine Go.iaNew X47 hx hZ (wd hw 0 rfl) e47 (cap := 7) hv_rc (hb hby d_p8_m1_292) (by decide) (by decide) (by decide) ?_
                    intro T48 h48 aP X48 e48 E48 g48 I_aP
                    have lb48 : (h47.size : Nat) ≤ aP := Nat.le_of_eq g48.symm
                    have ord49 : (n0 : Nat) ≤ aP ∧ (h0.size : Nat) ≤ aP ∧ (b : Nat) < aP ∧ (a : Nat) < aP ∧ (aS : Nat) < aP ∧ (aL : Nat) < aP ∧ (aN : Nat) < aP ∧ (aD : Nat) < aP ∧ (aR + N_aR : Nat) < aP ∧ (aC + N_aC : Nat) < aP ∧ (aF : Nat) < aP ∧ (aT : Nat) < aP ∧ (aX : Nat) < aP := by
                      have u0 : (n0 : Nat) ≤ h47.size := OwnKit.Old.le O
                      have u1 : (h47.size : Nat) ≤ aP := lb48
                      have u2 : (h0.size : Nat) ≤ h47.size := K.1
                      have z0 : (b : Nat) < h47.size := E_b.lt
                      have z1 : (a : Nat) < h47.size := I_a.lt
                      have z2 : (aS : Nat) < h47.size := I_aS.lt
                      have z3 : (aL : Nat) < h47.size := I_aL.lt
                      have z4 : (aN : Nat) < h47.size := I_aN.lt
                      have z5 : (aD : Nat) < h47.size := I_aD.lt
                      have z6 : (aR + N_aR : Nat) < h47.size := G_aR.lts' hn_aR
                      have z7 : (aC + N_aC : Nat) < h47.size := G_aC.lts' hn_aC
                      have z8 : (aF : Nat) < h47.size := I_aF.lt
                      have z9 : (aT : Nat) < h47.size := I_aT.lt
                      have z10 : (aX : Nat) < h47.size := I_aX.lt
                      omega
                    replace E_b := E_b.ext E48
                    replace F_source := F_source.ext E48
                    replace F_limit := F_limit.ext E48
                    replace F_sourceLetters := F_sourceLetters.ext E48
                    replace F_distinct := F_distinct.ext E48
                    replace F_lastRowBefore := F_lastRowBefore.ext E48
                    replace F_columns := F_columns.ext E48
                    replace F_fewest := F_fewest.ext E48
                    replace F_targetLetters := F_targetLetters.ext E48
                    replace F_lastColumn := F_lastColumn.ext E48
                    replace F_replacedColumn := F_replacedColumn.ext E48
                    replace F_read := F_read.ext E48
                    replace I_a := I_a.ext E48
                    replace I_aS := I_aS.ext E48
                    replace I_aL := I_aL.ext E48
                    replace I_aN := I_aN.ext E48
                    replace I_aD := I_aD.ext E48
                    replace G_aR := G_aR.ext E48
                    replace G_aC := G_aC.ext E48
                    replace I_aF := I_aF.ext E48
                    replace I_aT := I_aT.ext E48
                    replace I_aX := I_aX.ext E48
                    replace O := O.ext E48
                    replace K := K.ext E48
                    show Go p e below _ T48 (mkF m 294 #[.val (.ref b), .val (.ref a), .val (.int lim), .val (.ref aL), .val (.ref aN), .val (.int cn), .val (.int (lenI src + lim)), .val (.int jj)] [(.ref aP), (.ref b)])
                    refine Go.putF X48 hx hZ hown (wd hw 50 rfl) Via.refl e48 F_replacedColumn E_b (Or.inr ⟨(wd hw 51 rfl), rfl, hnm⟩) (wd hw 2 rfl) (ty := (.array .int)) (by decide) rfl rfl (hb hby d_p8_m1_294) ?_
                    intro T50 h50 X50 e50 W50
                    replace E_b := E_b.wr W50
                    replace F_source := F_source.other W50 (Or.inr (slot_ne (a0 := a0) (Or.inr (wd hw 20 rfl)) (Or.inr (wd hw 51 rfl)) (by decide) (t := (.array .int)) (t' := (.array .int)) (by decide) (by decide)))
                    replace F_limit := F_limit.other W50 (Or.inr (slot_ne (a0 := a0) (Or.inr (wd hw 22 rfl)) (Or.inr (wd hw 51 rfl)) (by decide) (t := .int) (t' := (.array .int)) (by decide) (by decide)))
                    replace F_sourceLetters := F_sourceLetters.other W50 (Or.inr (slot_ne (a0 := a0) (Or.inr (wd hw 24 rfl)) (Or.inr (wd hw 51 rfl)) (by decide) (t := (.array .int)) (t' := (.array .int)) (by decide) (by decide)))
                    replace F_distinct := F_distinct.other W50 (Or.inr (slot_ne (a0 := a0) (Or.inr (wd hw 32 rfl)) (Or.inr (wd hw 51 rfl)) (by decide) (t := (.array .int)) (t' := (.array .int)) (by decide) (by decide)))
                    replace F_lastRowBefore := F_lastRowBefore.other W50 (Or.inr (slot_ne (a0 := a0) (Or.inr (wd hw 36 rfl)) (Or.inr (wd hw 51 rfl)) (by decide) (t := (.array (.array .int))) (t' := (.array .int)) (by decide) (by decide)))
                    replace F_columns := F_columns.other W50 (Or.inr (slot_ne (a0 := a0) (Or.inr (wd hw 43 rfl)) (Or.inr (wd hw 51 rfl)) (by decide) (t := (.array (.array .int))) (t' := (.array .int)) (by decide) (by decide)))
                    replace F_fewest := F_fewest.other W50 (Or.inr (slot_ne (a0 := a0) (Or.inr (wd hw 45 rfl)) (Or.inr (wd hw 51 rfl)) (by decide) (t := (.array .int)) (t' := (.array .int)) (by decide) (by decide)))
                    replace F_targetLetters := F_targetLetters.other W50 (Or.inr (slot_ne (a0 := a0) (Or.inr (wd hw 47 rfl)) (Or.inr (wd hw 51 rfl)) (by decide) (t := (.array .int)) (t' := (.array .int)) (by decide) (by decide)))
                    replace F_lastColumn := F_lastColumn.other W50 (Or.inr (slot_ne (a0 := a0) (Or.inr (wd hw 49 rfl)) (Or.inr (wd hw 51 rfl)) (by decide) (t := (.array .int)) (t' := (.array .int)) (by decide) (by decide)))
                    replace F_replacedColumn := F_replacedColumn.same W50
                    replace F_read := F_read.other W50 (Or.inr (slot_ne (a0 := a0) (Or.inl (wd hw 62 rfl)) (Or.inr (wd hw 51 rfl)) (by decide) (t := .int) (t' := (.array .int)) (by decide) (by decide)))
                    replace I_a := I_a.other W50 (show (a : Nat) ≠ b by omega)
                    replace I_aS := I_aS.other W50 (show (aS : Nat) ≠ b by omega)
                    replace I_aL := I_aL.other W50 (show (aL : Nat) ≠ b by omega)
                    replace I_aN := I_aN.other W50 (show (aN : Nat) ≠ b by omega)
                    replace I_aD := I_aD.other W50 (show (aD : Nat) ≠ b by omega)
                    replace G_aR := G_aR.other W50 (show (b : Nat) < aR ∨ aR + lr.length < b by omega)
                    replace G_aC := G_aC.other W50 (show (b : Nat) < aC ∨ aC + cs.length < b by omega)
                    replace I_aF := I_aF.other W50 (show (aF : Nat) ≠ b by omega)
                    replace I_aT := I_aT.other W50 (show (aT : Nat) ≠ b by omega)
                    replace I_aX := I_aX.other W50 (show (aX : Nat) ≠ b by omega)
                    replace I_aP := I_aP.other W50 (show (aP : Nat) ≠ b by omega)
                    replace O := O.wr W50 (show (n0 : Nat) ≤ b by omega)
                    have N50 := Fr.snoc X50 N47 (show (n0 : Nat) ≤ b by omega)
                    replace K := K.wr W50 (Or.inl (List.mem_singleton.mpr rfl))
                    show Go p e below _ T50 (mkF m 297 #[.val (.ref b), .val (.ref a), .val (.int lim), .val (.ref aL), .val (.ref aN), .val (.int cn), .val (.int (lenI src + lim)), .val (.int jj)] [])
                    refine Go.retV X50 hx hlk hret (hb hby d_p8_m1_297) (by decide) (by decide) e50 ?_
                    cases H
                    cases h1
                    have hz : (aP : Nat) < h50.size := I_aP.lt
                    exact ⟨rfl, N50, K, aP + 1 - b, aS, aL, aD, aR, aC, aF, aT, aX, aP, by rw [hn_aR, hn_aC]; omega, by omega, E_b, F_source, F_limit, F_sourceLetters, F_distinct, F_lastRowBefore, F_columns, F_fewest, F_targetLetters, F_lastColumn, F_replacedColumn, F_read, I_aS, I_aL, I_aD, G_aR, G_aC, I_aF, I_aT, I_aX, I_aP⟩
                  · skip
                    replace H := (if_neg hy38).symm.trans H
                    refine Go.by (T' := T37) (g' := (mkF m 243 #[.val (.ref b), .val (.ref a), .val (.int lim), .val (.ref aL), .val (.ref aN), .val (.int cn), .val (.int (lenI src + lim)), .val (.int jj)] [(.ref b)])) (fun t k => ?_) ?_
                    · show Steps p.tables e below (T37.setTop (mkF m 239 #[.val (.ref b), .val (.ref a), .val (.int lim), .val (.ref aL), .val (.ref aN), .val (.int cn), .val (.int (lenI src + lim)), .val (.int jj)] [(.int (lenI src)), (.int jj)])) _
                      refine XS.icmpNo X37.here hx rfl (hb hby d_p8_m1_239) rfl (flt hy38).2.2.1 ?_
                      show Steps p.tables e below (T37.setTop (mkF m 242 #[.val (.ref b), .val (.ref a), .val (.int lim), .val (.ref aL), .val (.ref aN), .val (.int cn), .val (.int (lenI src + lim)), .val (.int jj)] [])) _
                      refine XS.aloadN X37.here hx rfl (hb hby d_p8_m1_242) rfl rfl ?_
                      exact k
                    refine Go.getF X37 hx hZ hown (wd hw 42 rfl) Via.refl e37 F_columns (hb hby d_p8_m1_243) ?_
                    intro T51 X51 e51
                    show Go p e below _ T51 (mkF m 246 #[.val (.ref b), .val (.ref a), .val (.int lim), .val (.ref aL), .val (.ref aN), .val (.int cn), .val (.int (lenI src + lim)), .val (.int jj)] [(.ref aC)])
                    refine Go.by (T' := T51) (g' := (mkF m 247 #[.val (.ref b), .val (.ref a), .val (.int lim), .val (.ref aL), .val (.ref aN), .val (.int cn), .val (.int (lenI src + lim)), .val (.int jj)] [(.int (0 : Int32)), (.ref aC)])) (fun t k => ?_) ?_
                    · show Steps p.tables e below (T51.setTop (mkF m 246 #[.val (.ref b), .val (.ref a), .val (.int lim), .val (.ref aL), .val (.ref aN), .val (.int cn), .val (.int (lenI src + lim)), .val (.int jj)] [(.ref aC)])) _
                      refine XS.iconst X51.here hx rfl (hb hby d_p8_m1_246) ?_
                      exact k
                    obtain ⟨_, hv52, H⟩ := ob H
                    refine Go.gaL X51 hx hZ e51 G_aC (j := (0 : Int32)) hv52 (hb hby d_p8_m1_247) ?_
                    show Go p e below _ T51 (mkF m 248 #[.val (.ref b), .val (.ref a), .val (.int lim), .val (.ref aL), .val (.ref aN), .val (.int cn), .val (.int (lenI src + lim)), .val (.int jj)] [(.ref (aC + 1 + (0 : Int32).toNatClampNeg))])
                    refine Go.by (T' := T51) (g' := (mkF m 252 #[.val (.ref b), .val (.ref a), .val (.int lim), .val (.ref aL), .val (.ref aN), .val (.int cn), .val (.int (lenI src + lim)), .val (.int jj)] [(.int jj), (.int jj), (.ref (aC + 1 + (0 : Int32).toNatClampNeg))])) (fun t k => ?_) ?_
                    · show Steps p.tables e below (T51.setTop (mkF m 248 #[.val (.ref b), .val (.ref a), .val (.int lim), .val (.ref aL), .val (.ref aN), .val (.int cn), .val (.int (lenI src + lim)), .val (.int jj)] [(.ref (aC + 1 + (0 : Int32).toNatClampNeg))])) _
                      refine XS.iload X51.here hx rfl (hb hby d_p8_m1_248) rfl ?_
                      show Steps p.tables e below (T51.setTop (mkF m 250 #[.val (.ref b), .val (.ref a), .val (.int lim), .val (.ref aL), .val (.ref aN), .val (.int cn), .val (.int (lenI src + lim)), .val (.int jj)] [(.int jj), (.ref (aC + 1 + (0 : Int32).toNatClampNeg))])) _
                      refine XS.iload X51.here hx rfl (hb hby d_p8_m1_250) rfl ?_
                      exact k
                    obtain ⟨v53, hv53, H⟩ := ob H
                    have lt54 := wr2O_lt hv53
                    refine Go.g2S X51 hx hZ e51 G_aC (j := (0 : Int32)) (i := jj) hv53 (hb hby d_p8_m1_252) ?_
                    intro T54 h54 X54 e54 W54 Vn54
                    replace E_b := E_b.wr W54
                    replace F_source := F_source.other W54 (Or.inl (show (b : Nat) ≠ (aC + 1 + (0 : Int32).toNatClampNeg) by omega))
                    replace F_limit := F_limit.other W54 (Or.inl (show (b : Nat) ≠ (aC + 1 + (0 : Int32).toNatClampNeg) by omega))
                    replace F_sourceLetters := F_sourceLetters.other W54 (Or.inl (show (b : Nat) ≠ (aC + 1 + (0 : Int32).toNatClampNeg) by omega))
                    replace F_distinct := F_distinct.other W54 (Or.inl (show (b : Nat) ≠ (aC + 1 + (0 : Int32).toNatClampNeg) by omega))
                    replace F_lastRowBefore := F_lastRowBefore.other W54 (Or.inl (show (b : Nat) ≠ (aC + 1 + (0 : Int32).toNatClampNeg) by omega))
                    replace F_columns := F_columns.other W54 (Or.inl (show (b : Nat) ≠ (aC + 1 + (0 : Int32).toNatClampNeg) by omega))
                    replace F_fewest := F_fewest.other W54 (Or.inl (show (b : Nat) ≠ (aC + 1 + (0 : Int32).toNatClampNeg) by omega))
                    replace F_targetLetters := F_targetLetters.other W54 (Or.inl (show (b : Nat) ≠ (aC + 1 + (0 : Int32).toNatClampNeg) by omega))
                    replace F_lastColumn := F_lastColumn.other W54 (Or.inl (show (b : Nat) ≠ (aC + 1 + (0 : Int32).toNatClampNeg) by omega))
                    replace F_replacedColumn := F_replacedColumn.other W54 (Or.inl (show (b : Nat) ≠ (aC + 1 + (0 : Int32).toNatClampNeg) by omega))
                    replace F_read := F_read.other W54 (Or.inl (show (b : Nat) ≠ (aC + 1 + (0 : Int32).toNatClampNeg) by omega))
                    replace I_a := I_a.other W54 (show (a : Nat) ≠ (aC + 1 + (0 : Int32).toNatClampNeg) by omega)
                    replace I_aS := I_aS.other W54 (show (aS : Nat) ≠ (aC + 1 + (0 : Int32).toNatClampNeg) by omega)
                    replace I_aL := I_aL.other W54 (show (aL : Nat) ≠ (aC + 1 + (0 : Int32).toNatClampNeg) by omega)
                    replace I_aN := I_aN.other W54 (show (aN : Nat) ≠ (aC + 1 + (0 : Int32).toNatClampNeg) by omega)
                    replace I_aD := I_aD.other W54 (show (aD : Nat) ≠ (aC + 1 + (0 : Int32).toNatClampNeg) by omega)
                    replace G_aR := G_aR.other W54 (show ((aC + 1 + (0 : Int32).toNatClampNeg) : Nat) < aR ∨ aR + lr.length < (aC + 1 + (0 : Int32).toNatClampNeg) by omega)
                    replace O := O.wr W54 (show (n0 : Nat) ≤ (aC + 1 + (0 : Int32).toNatClampNeg) by omega)
                    have N54 := Fr.snoc X54 N37 (show (n0 : Nat) ≤ (aC + 1 + (0 : Int32).toNatClampNeg) by omega)
                    replace K := K.wr W54 (Or.inr (show (h0.size : Nat) ≤ (aC + 1 + (0 : Int32).toNatClampNeg) by omega))
                    replace G_aC := Vn54
                    clear Vn54
                    replace hn_aC := (wr2O_len hv53).trans hn_aC
                    show Go p e below _ T54 (mkF m 253 #[.val (.ref b), .val (.ref a), .val (.int lim), .val (.ref aL), .val (.ref aN), .val (.int cn), .val (.int (lenI src + lim)), .val (.int jj)] [])
                    refine Go.by (T' := T54) (g' := (mkF m 235 #[.val (.ref b), .val (.ref a), .val (.int lim), .val (.ref aL), .val (.ref aN), .val (.int cn), .val (.int (lenI src + lim)), .val (.int (jj + (1 : Int32)))] [])) (fun t k => ?_) ?_
                    · show Steps p.tables e below (T54.setTop (mkF m 253 #[.val (.ref b), .val (.ref a), .val (.int lim), .val (.ref aL), .val (.ref aN), .val (.int cn), .val (.int (lenI src + lim)), .val (.int jj)] [])) _
                      refine XS.iinc X54.here hx rfl (hb hby d_p8_m1_253) rfl (l' := #[.val (.ref b), .val (.ref a), .val (.int lim), .val (.ref aL), .val (.ref aN), .val (.int cn), .val (.int (lenI src + lim)), .val (.int (jj + (1 : Int32)))]) rfl ?_
                      show Steps p.tables e below (T54.setTop (mkF m 256 #[.val (.ref b), .val (.ref a), .val (.int lim), .val (.ref aL), .val (.ref aN), .val (.int cn), .val (.int (lenI src + lim)), .val (.int (jj + (1 : Int32)))] [])) _
                      refine XS.goto X54.here hx rfl (pc0 := 256) (pc' := 235) rfl (hb hby d_p8_m1_256) (by decide) (by decide) ?_
                      exact k
                    exact ih37 _ _ _ _ _ X54 e54 O N54 K E_b F_source F_limit F_sourceLetters F_distinct F_lastRowBefore F_columns F_fewest F_targetLetters F_lastColumn F_replacedColumn F_read I_a I_aS I_aL I_aN I_aD G_aR G_aC hn_aR hn_aC H
              exact J37 _ _ _ _ _ _ X36 e36 O N36 K E_b F_source F_limit F_sourceLetters F_distinct F_lastRowBefore F_columns F_fewest F_targetLetters F_lastColumn F_replacedColumn F_read I_a I_aS I_aL I_aN I_aD G_aR G_aC hn_aR hn_aC hp
            · skip
              replace H := (if_neg hy31).symm.trans H
              refine Go.by (T' := T30) (g' := (mkF m 151 #[.val (.ref b), .val (.ref a), .val (.int lim), .val (.ref aL), .val (.ref aN), .val (.int cn), .val (.int row), .val (.int (0 : Int32))] [])) (fun t k => ?_) ?_
              · show Steps p.tables e below (T30.setTop (mkF m 145 #[.val (.ref b), .val (.ref a), .val (.int lim), .val (.ref aL), .val (.ref aN), .val (.int cn), .val (.int row), s7] [(.int (lenI src)), (.int row)])) _
                refine XS.icmpNo X30.here hx rfl (hb hby d_p8_m1_145) rfl (flt hy31).2.2.1 ?_
                show Steps p.tables e below (T30.setTop (mkF m 148 #[.val (.ref b), .val (.ref a), .val (.int lim), .val (.ref aL), .val (.ref aN), .val (.int cn), .val (.int row), s7] [])) _
                refine XS.iconst X30.here hx rfl (hb hby d_p8_m1_148) ?_
                show Steps p.tables e below (T30.setTop (mkF m 149 #[.val (.ref b), .val (.ref a), .val (.int lim), .val (.ref aL), .val (.ref aN), .val (.int cn), .val (.int row), s7] [(.int (0 : Int32))])) _
                refine XS.istore X30.here hx rfl (hb hby d_p8_m1_149) rfl (l' := #[.val (.ref b), .val (.ref a), .val (.int lim), .val (.ref aL), .val (.ref aN), .val (.int cn), .val (.int row), .val (.int (0 : Int32))]) (XS.store1 rfl hs7 rfl) ?_
                exact k
              obtain ⟨lr2, hq, H3⟩ := ob H
              have J55 : ∀ (f55 : Nat) (jj : Int32) (lt : List (List Int32)) (T55 : State) (h55 : Heap) (L55 : List Loc), (Stand p l e ({ frames := 2, cells := 20, slots := 86, locals := 46 } : Room) s m #[(.ref b), (.ref a), (.int lim)] below meth c T55 L55 8 27) → (T55.heap = h55) → (Old Z n0 h55) → (Fr n0 L55) → (Keep h0 h55 [b]) → (Exa Z h55 b "com/example/shingle/shingle/EditDistance") → (Fld Z h55 b "com/example/shingle/shingle/EditDistance" "source" "[I" (.ref aS)) → (Fld Z h55 b "com/example/shingle/shingle/EditDistance" "limit" "I" (.int lim)) → (Fld Z h55 b "com/example/shingle/shingle/EditDistance" "sourceLetters" "[I" (.ref aL)) → (Fld Z h55 b "com/example/shingle/shingle/EditDistance" "distinct" "[I" (.ref aD)) → (Fld Z h55 b "com/example/shingle/shingle/EditDistance" "lastRowBefore" "[[I" (.ref aR)) → (Fld Z h55 b "com/example/shingle/shingle/EditDistance" "columns" "[[I" .null) → (Fld Z h55 b "com/example/shingle/shingle/EditDistance" "fewest" "[I" .null) → (Fld Z h55 b "com/example/shingle/shingle/EditDistance" "targetLetters" "[I" .null) → (Fld Z h55 b "com/example/shingle/shingle/EditDistance" "lastColumn" "[I" .null) → (Fld Z h55 b "com/example/shingle/shingle/EditDistance" "replacedColumn" "[I" .null) → (Fld Z h55 b "com/example/shingle/shingle/EditDistance" "read" "I" (.int (0 : Int32))) → (IA Z h55 a src) → (IA Z h55 aS src) → (IA Z h55 aL sl) → (IA Z h55 aN se) → (IA Z h55 aD di) → (GA Z h55 aR lt) → (lt.length = N_aR) → (lrI f55 cn row lt jj = some lr2) → Go p e below (EndF s ({ frames := 2, cells := 20, slots := 86, locals := 46 } : Room).cells ({ frames := 2, cells := 20, slots := 86, locals := 46 } : Room).slots (fun v h L => v = none ∧ Fr n0 L ∧ Keep h0 h [b] ∧ ∃ w, ED Z h b w st)) T55 (mkF m 151 #[.val (.ref b), .val (.ref a), .val (.int lim), .val (.ref aL), .val (.ref aN), .val (.int cn), .val (.int row), .val (.int jj)] []) := by
                intro f55
                induction f55 with
                | zero => intro jj lt T55 h55 L55 X55 e55 O N55 K E_b F_source F_limit F_sourceLetters F_distinct F_lastRowBefore F_columns F_fewest F_targetLetters F_lastColumn F_replacedColumn F_read I_a I_aS I_aL I_aN I_aD G_aR hn_aR H; cases H
                | succ f55 ih55 =>
                  intro jj lt T55 h55 L55 X55 e55 O N55 K E_b F_source F_limit F_sourceLetters F_distinct F_lastRowBefore F_columns F_fewest F_targetLetters F_lastColumn F_replacedColumn F_read I_a I_aS I_aL I_aN I_aD G_aR hn_aR H
                  rw [lrI] at H
                  refine Go.by (T' := T55) (g' := (mkF m 155 #[.val (.ref b), .val (.ref a), .val (.int lim), .val (.ref aL), .val (.ref aN), .val (.int cn), .val (.int row), .val (.int jj)] [(.int cn), (.int jj)])) (fun t k => ?_) ?_
                  · show Steps p.tables e below (T55.setTop (mkF m 151 #[.val (.ref b), .val (.ref a), .val (.int lim), .val (.ref aL), .val (.ref aN), .val (.int cn), .val (.int row), .val (.int jj)] [])) _
                    refine XS.iload X55.here hx rfl (hb hby d_p8_m1_151) rfl ?_
                    show Steps p.tables e below (T55.setTop (mkF m 153 #[.val (.ref b), .val (.ref a), .val (.int lim), .val (.ref aL), .val (.ref aN), .val (.int cn), .val (.int row), .val (.int jj)] [(.int jj)])) _
                    refine XS.iload X55.here hx rfl (hb hby d_p8_m1_153) rfl ?_
                    exact k
                  by_cases hy56 : jj < cn
                  · skip
                    replace H := (if_pos hy56).symm.trans H
                    refine Go.by (T' := T55) (g' := (mkF m 159 #[.val (.ref b), .val (.ref a), .val (.int lim), .val (.ref aL), .val (.ref aN), .val (.int cn), .val (.int row), .val (.int jj)] [(.ref b)])) (fun t k => ?_) ?_
                    · show Steps p.tables e below (T55.setTop (mkF m 155 #[.val (.ref b), .val (.ref a), .val (.int lim), .val (.ref aL), .val (.ref aN), .val (.int cn), .val (.int row), .val (.int jj)] [(.int cn), (.int jj)])) _
                      refine XS.icmpNo X55.here hx rfl (hb hby d_p8_m1_155) rfl (tlt hy56).2.1 ?_
                      show Steps p.tables e below (T55.setTop (mkF m 158 #[.val (.ref b), .val (.ref a), .val (.int lim), .val (.ref aL), .val (.ref aN), .val (.int cn), .val (.int row), .val (.int jj)] [])) _
                      refine XS.aloadN X55.here hx rfl (hb hby d_p8_m1_158) rfl rfl ?_
                      exact k
                    refine Go.getF X55 hx hZ hown (wd hw 35 rfl) Via.refl e55 F_lastRowBefore (hb hby d_p8_m1_159) ?_
                    intro T57 X57 e57
                    show Go p e below _ T57 (mkF m 162 #[.val (.ref b), .val (.ref a), .val (.int lim), .val (.ref aL), .val (.ref aN), .val (.int cn), .val (.int row), .val (.int jj)] [(.ref aR)])
                    refine Go.by (T' := T57) (g' := (mkF m 164 #[.val (.ref b), .val (.ref a), .val (.int lim), .val (.ref aL), .val (.ref aN), .val (.int cn), .val (.int row), .val (.int jj)] [(.int jj), (.ref aR)])) (fun t k => ?_) ?_
                    · show Steps p.tables e below (T57.setTop (mkF m 162 #[.val (.ref b), .val (.ref a), .val (.int lim), .val (.ref aL), .val (.ref aN), .val (.int cn), .val (.int row), .val (.int jj)] [(.ref aR)])) _
                      refine XS.iload X57.here hx rfl (hb hby d_p8_m1_162) rfl ?_
                      exact k
                    obtain ⟨_, hrw, H⟩ := ob H
                    refine Go.gaL X57 hx hZ e57 G_aR (j := jj) hrw (hb hby d_p8_m1_164) ?_
                    show Go p e below _ T57 (mkF m 165 #[.val (.ref b), .val (.ref a), .val (.int lim), .val (.ref aL), .val (.ref aN), .val (.int cn), .val (.int row), .val (.int jj)] [(.ref (aR + 1 + jj.toNatClampNeg))])
                    refine Go.by (T' := T57) (g' := (mkF m 168 #[.val (.ref b), .val (.ref a), .val (.int lim), .val (.ref aL), .val (.ref aN), .val (.int cn), .val (.int row), .val (.int jj)] [(.ref b), (.int row), (.ref (aR + 1 + jj.toNatClampNeg))])) (fun t k => ?_) ?_
                    · show Steps p.tables e below (T57.setTop (mkF m 165 #[.val (.ref b), .val (.ref a), .val (.int lim), .val (.ref aL), .val (.ref aN), .val (.int cn), .val (.int row), .val (.int jj)] [(.ref (aR + 1 + jj.toNatClampNeg))])) _
                      refine XS.iload X57.here hx rfl (hb hby d_p8_m1_165) rfl ?_
                      show Steps p.tables e below (T57.setTop (mkF m 167 #[.val (.ref b), .val (.ref a), .val (.int lim), .val (.ref aL), .val (.ref aN), .val (.int cn), .val (.int row), .val (.int jj)] [(.int row), (.ref (aR + 1 + jj.toNatClampNeg))])) _
                      refine XS.aloadN X57.here hx rfl (hb hby d_p8_m1_167) rfl rfl ?_
                      exact k
                    refine Go.getF X57 hx hZ hown (wd hw 35 rfl) Via.refl e57 F_lastRowBefore (hb hby d_p8_m1_168) ?_
                    intro T58 X58 e58
                    show Go p e below _ T58 (mkF m 171 #[.val (.ref b), .val (.ref a), .val (.int lim), .val (.ref aL), .val (.ref aN), .val (.int cn), .val (.int row), .val (.int jj)] [(.ref aR), (.int row), (.ref (aR + 1 + jj.toNatClampNeg))])
                    refine Go.by (T' := T58) (g' := (mkF m 173 #[.val (.ref b), .val (.ref a), .val (.int lim), .val (.ref aL), .val (.ref aN), .val (.int cn), .val (.int row), .val (.int jj)] [(.int jj), (.ref aR), (.int row), (.ref (aR + 1 + jj.toNatClampNeg))])) (fun t k => ?_) ?_
                    · show Steps p.tables e below (T58.setTop (mkF m 171 #[.val (.ref b), .val (.ref a), .val (.int lim), .val (.ref aL), .val (.ref aN), .val (.int cn), .val (.int row), .val (.int jj)] [(.ref aR), (.int row), (.ref (aR + 1 + jj.toNatClampNeg))])) _
                      refine XS.iload X58.here hx rfl (hb hby d_p8_m1_171) rfl ?_
                      exact k
                    refine Go.gaL X58 hx hZ e58 G_aR (j := jj) hrw (hb hby d_p8_m1_173) ?_
                    show Go p e below _ T58 (mkF m 174 #[.val (.ref b), .val (.ref a), .val (.int lim), .val (.ref aL), .val (.ref aN), .val (.int cn), .val (.int row), .val (.int jj)] [(.ref (aR + 1 + jj.toNatClampNeg)), (.int row), (.ref (aR + 1 + jj.toNatClampNeg))])
                    refine Go.by (T' := T58) (g' := (mkF m 178 #[.val (.ref b), .val (.ref a), .val (.int lim), .val (.ref aL), .val (.ref aN), .val (.int cn), .val (.int row), .val (.int jj)] [(.int (row - (1 : Int32))), (.ref (aR + 1 + jj.toNatClampNeg)), (.int row), (.ref (aR + 1 + jj.toNatClampNeg))])) (fun t k => ?_) ?_
                    · show Steps p.tables e below (T58.setTop (mkF m 174 #[.val (.ref b), .val (.ref a), .val (.int lim), .val (.ref aL), .val (.ref aN), .val (.int cn), .val (.int row), .val (.int jj)] [(.ref (aR + 1 + jj.toNatClampNeg)), (.int row), (.ref (aR + 1 + jj.toNatClampNeg))])) _
                      refine XS.iload X58.here hx rfl (hb hby d_p8_m1_174) rfl ?_
                      show Steps p.tables e below (T58.setTop (mkF m 176 #[.val (.ref b), .val (.ref a), .val (.int lim), .val (.ref aL), .val (.ref aN), .val (.int cn), .val (.int row), .val (.int jj)] [(.int row), (.ref (aR + 1 + jj.toNatClampNeg)), (.int row), (.ref (aR + 1 + jj.toNatClampNeg))])) _
                      refine XS.iconst X58.here hx rfl (hb hby d_p8_m1_176) ?_
                      show Steps p.tables e below (T58.setTop (mkF m 177 #[.val (.ref b), .val (.ref a), .val (.int lim), .val (.ref aL), .val (.ref aN), .val (.int cn), .val (.int row), .val (.int jj)] [(.int (1 : Int32)), (.int row), (.ref (aR + 1 + jj.toNatClampNeg)), (.int row), (.ref (aR + 1 + jj.toNatClampNeg))])) _
                      refine XS.isub X58.here hx rfl (hb hby d_p8_m1_177) rfl ?_
                      exact k
                    obtain ⟨v59, hv59, H⟩ := ob H
                    refine Go.g2L X58 hx hZ e58 G_aR (j := jj) (i := (row - (1 : Int32))) hv59 (hb hby d_p8_m1_178) ?_
                    show Go p e below _ T58 (mkF m 179 #[.val (.ref b), .val (.ref a), .val (.int lim), .val (.ref aL), .val (.ref aN), .val (.int cn), .val (.int row), .val (.int jj)] [(.int v59), (.int row), (.ref (aR + 1 + jj.toNatClampNeg))])
                    obtain ⟨v60, hv60, H⟩ := ob H
                    have lt61 := wr2O_lt hv60
                    refine Go.g2S X58 hx hZ e58 G_aR (j := jj) (i := row) hv60 (hb hby d_p8_m1_179) ?_
                    intro T61 h61 X61 e61 W61 Vn61
                    replace E_b := E_b.wr W61
                    replace F_source := F_source.other W61 (Or.inl (show (b : Nat) ≠ (aR + 1 + jj.toNatClampNeg) by omega))
                    replace F_limit := F_limit.other W61 (Or.inl (show (b : Nat) ≠ (aR + 1 + jj.toNatClampNeg) by omega))
                    replace F_sourceLetters := F_sourceLetters.other W61 (Or.inl (show (b : Nat) ≠ (aR + 1 + jj.toNatClampNeg) by omega))
                    replace F_distinct := F_distinct.other W61 (Or.inl (show (b : Nat) ≠ (aR + 1 + jj.toNatClampNeg) by omega))
                    replace F_lastRowBefore := F_lastRowBefore.other W61 (Or.inl (show (b : Nat) ≠ (aR + 1 + jj.toNatClampNeg) by omega))
                    replace F_columns := F_columns.other W61 (Or.inl (show (b : Nat) ≠ (aR + 1 + jj.toNatClampNeg) by omega))
                    replace F_fewest := F_fewest.other W61 (Or.inl (show (b : Nat) ≠ (aR + 1 + jj.toNatClampNeg) by omega))
                    replace F_targetLetters := F_targetLetters.other W61 (Or.inl (show (b : Nat) ≠ (aR + 1 + jj.toNatClampNeg) by omega))
                    replace F_lastColumn := F_lastColumn.other W61 (Or.inl (show (b : Nat) ≠ (aR + 1 + jj.toNatClampNeg) by omega))
                    replace F_replacedColumn := F_replacedColumn.other W61 (Or.inl (show (b : Nat) ≠ (aR + 1 + jj.toNatClampNeg) by omega))
                    replace F_read := F_read.other W61 (Or.inl (show (b : Nat) ≠ (aR + 1 + jj.toNatClampNeg) by omega))
                    replace I_a := I_a.other W61 (show (a : Nat) ≠ (aR + 1 + jj.toNatClampNeg) by omega)
                    replace I_aS := I_aS.other W61 (show (aS : Nat) ≠ (aR + 1 + jj.toNatClampNeg) by omega)
                    replace I_aL := I_aL.other W61 (show (aL : Nat) ≠ (aR + 1 + jj.toNatClampNeg) by omega)
                    replace I_aN := I_aN.other W61 (show (aN : Nat) ≠ (aR + 1 + jj.toNatClampNeg) by omega)
                    replace I_aD := I_aD.other W61 (show (aD : Nat) ≠ (aR + 1 + jj.toNatClampNeg) by omega)
                    replace O := O.wr W61 (show (n0 : Nat) ≤ (aR + 1 + jj.toNatClampNeg) by omega)
                    have N61 := Fr.snoc X61 N55 (show (n0 : Nat) ≤ (aR + 1 + jj.toNatClampNeg) by omega)
                    replace K := K.wr W61 (Or.inr (show (h0.size : Nat) ≤ (aR + 1 + jj.toNatClampNeg) by omega))
                    replace G_aR := Vn61
                    clear Vn61
                    replace hn_aR := (wr2O_len hv60).trans hn_aR
                    show Go p e below _ T61 (mkF m 180 #[.val (.ref b), .val (.ref a), .val (.int lim), .val (.ref aL), .val (.ref aN), .val (.int cn), .val (.int row), .val (.int jj)] [])
                    refine Go.by (T' := T61) (g' := (mkF m 151 #[.val (.ref b), .val (.ref a), .val (.int lim), .val (.ref aL), .val (.ref aN), .val (.int cn), .val (.int row), .val (.int (jj + (1 : Int32)))] [])) (fun t k => ?_) ?_
                    · show Steps p.tables e below (T61.setTop (mkF m 180 #[.val (.ref b), .val (.ref a), .val (.int lim), .val (.ref aL), .val (.ref aN), .val (.int cn), .val (.int row), .val (.int jj)] [])) _
                      refine XS.iinc X61.here hx rfl (hb hby d_p8_m1_180) rfl (l' := #[.val (.ref b), .val (.ref a), .val (.int lim), .val (.ref aL), .val (.ref aN), .val (.int cn), .val (.int row), .val (.int (jj + (1 : Int32)))]) rfl ?_
                      show Steps p.tables e below (T61.setTop (mkF m 183 #[.val (.ref b), .val (.ref a), .val (.int lim), .val (.ref aL), .val (.ref aN), .val (.int cn), .val (.int row), .val (.int (jj + (1 : Int32)))] [])) _
                      refine XS.goto X61.here hx rfl (pc0 := 183) (pc' := 151) rfl (hb hby d_p8_m1_183) (by decide) (by decide) ?_
                      exact k
                    exact ih55 _ _ _ _ _ X61 e61 O N61 K E_b F_source F_limit F_sourceLetters F_distinct F_lastRowBefore F_columns F_fewest F_targetLetters F_lastColumn F_replacedColumn F_read I_a I_aS I_aL I_aN I_aD G_aR hn_aR H
                  · skip
                    have q1 := Option.some.inj ((if_neg hy56).symm.trans H)
                    rw [← q1] at H3
                    replace H := H3
                    refine Go.by (T' := T55) (g' := (mkF m 187 #[.val (.ref b), .val (.ref a), .val (.int lim), .val (.ref aL), .val (.ref aN), .val (.int cn), .val (.int row), .val (.int jj)] [(.ref b)])) (fun t k => ?_) ?_
                    · show Steps p.tables e below (T55.setTop (mkF m 155 #[.val (.ref b), .val (.ref a), .val (.int lim), .val (.ref aL), .val (.ref aN), .val (.int cn), .val (.int row), .val (.int jj)] [(.int cn), (.int jj)])) _
                      refine XS.icmpYes X55.here hx rfl (pc0 := 155) (pc' := 186) rfl (hb hby d_p8_m1_155) rfl (flt hy56).2.1 (by decide) (by decide) ?_
                      show Steps p.tables e below (T55.setTop (mkF m 186 #[.val (.ref b), .val (.ref a), .val (.int lim), .val (.ref aL), .val (.ref aN), .val (.int cn), .val (.int row), .val (.int jj)] [])) _
                      refine XS.aloadN X55.here hx rfl (hb hby d_p8_m1_186) rfl rfl ?_
                      exact k
                    refine Go.getF X55 hx hZ hown (wd hw 35 rfl) Via.refl e55 F_lastRowBefore (hb hby d_p8_m1_187) ?_
                    intro T62 X62 e62
                    show Go p e below _ T62 (mkF m 190 #[.val (.ref b), .val (.ref a), .val (.int lim), .val (.ref aL), .val (.ref aN), .val (.int cn), .val (.int row), .val (.int jj)] [(.ref aR)])
                    refine Go.by (T' := T62) (g' := (mkF m 195 #[.val (.ref b), .val (.ref a), .val (.int lim), .val (.ref aL), .val (.ref aN), .val (.int cn), .val (.int row), .val (.int jj)] [(.int (row - (2 : Int32))), (.ref aL), (.ref aR)])) (fun t k => ?_) ?_
                    · show Steps p.tables e below (T62.setTop (mkF m 190 #[.val (.ref b), .val (.ref a), .val (.int lim), .val (.ref aL), .val (.ref aN), .val (.int cn), .val (.int row), .val (.int jj)] [(.ref aR)])) _
                      refine XS.aloadN X62.here hx rfl (hb hby d_p8_m1_190) rfl rfl ?_
                      show Steps p.tables e below (T62.setTop (mkF m 191 #[.val (.ref b), .val (.ref a), .val (.int lim), .val (.ref aL), .val (.ref aN), .val (.int cn), .val (.int row), .val (.int jj)] [(.ref aL), (.ref aR)])) _
                      refine XS.iload X62.here hx rfl (hb hby d_p8_m1_191) rfl ?_
                      show Steps p.tables e below (T62.setTop (mkF m 193 #[.val (.ref b), .val (.ref a), .val (.int lim), .val (.ref aL), .val (.ref aN), .val (.int cn), .val (.int row), .val (.int jj)] [(.int row), (.ref aL), (.ref aR)])) _
                      refine XS.iconst X62.here hx rfl (hb hby d_p8_m1_193) ?_
                      show Steps p.tables e below (T62.setTop (mkF m 194 #[.val (.ref b), .val (.ref a), .val (.int lim), .val (.ref aL), .val (.ref aN), .val (.int cn), .val (.int row), .val (.int jj)] [(.int (2 : Int32)), (.int row), (.ref aL), (.ref aR)])) _
                      refine XS.isub X62.here hx rfl (hb hby d_p8_m1_194) rfl ?_
                      exact k
                    obtain ⟨lq, hv_lq, H⟩ := ob H
                    refine Go.iaL X62 hx hZ e62 I_aL (j := (row - (2 : Int32))) hv_lq (hb hby d_p8_m1_195) ?_
                    show Go p e below _ T62 (mkF m 196 #[.val (.ref b), .val (.ref a), .val (.int lim), .val (.ref aL), .val (.ref aN), .val (.int cn), .val (.int row), .val (.int jj)] [(.int lq), (.ref aR)])
                    obtain ⟨_, hv63, H⟩ := ob H
                    refine Go.gaL X62 hx hZ e62 G_aR (j := lq) hv63 (hb hby d_p8_m1_196) ?_
                    show Go p e below _ T62 (mkF m 197 #[.val (.ref b), .val (.ref a), .val (.int lim), .val (.ref aL), .val (.ref aN), .val (.int cn), .val (.int row), .val (.int jj)] [(.ref (aR + 1 + lq.toNatClampNeg))])
                    refine Go.by (T' := T62) (g' := (mkF m 203 #[.val (.ref b), .val (.ref a), .val (.int lim), .val (.ref aL), .val (.ref aN), .val (.int cn), .val (.int row), .val (.int jj)] [(.int (row - (1 : Int32))), (.int row), (.ref (aR + 1 + lq.toNatClampNeg))])) (fun t k => ?_) ?_
                    · show Steps p.tables e below (T62.setTop (mkF m 197 #[.val (.ref b), .val (.ref a), .val (.int lim), .val (.ref aL), .val (.ref aN), .val (.int cn), .val (.int row), .val (.int jj)] [(.ref (aR + 1 + lq.toNatClampNeg))])) _
                      refine XS.iload X62.here hx rfl (hb hby d_p8_m1_197) rfl ?_
                      show Steps p.tables e below (T62.setTop (mkF m 199 #[.val (.ref b), .val (.ref a), .val (.int lim), .val (.ref aL), .val (.ref aN), .val (.int cn), .val (.int row), .val (.int jj)] [(.int row), (.ref (aR + 1 + lq.toNatClampNeg))])) _
                      refine XS.iload X62.here hx rfl (hb hby d_p8_m1_199) rfl ?_
                      show Steps p.tables e below (T62.setTop (mkF m 201 #[.val (.ref b), .val (.ref a), .val (.int lim), .val (.ref aL), .val (.ref aN), .val (.int cn), .val (.int row), .val (.int jj)] [(.int row), (.int row), (.ref (aR + 1 + lq.toNatClampNeg))])) _
                      refine XS.iconst X62.here hx rfl (hb hby d_p8_m1_201) ?_
                      show Steps p.tables e below (T62.setTop (mkF m 202 #[.val (.ref b), .val (.ref a), .val (.int lim), .val (.ref aL), .val (.ref aN), .val (.int cn), .val (.int row), .val (.int jj)] [(.int (1 : Int32)), (.int row), (.int row), (.ref (aR + 1 + lq.toNatClampNeg))])) _
                      refine XS.isub X62.here hx rfl (hb hby d_p8_m1_202) rfl ?_
                      exact k
                    obtain ⟨v64, hv64, H⟩ := ob H
                    have lt65 := wr2O_lt hv64
                    refine Go.g2S X62 hx hZ e62 G_aR (j := lq) (i := row) hv64 (hb hby d_p8_m1_203) ?_
                    intro T65 h65 X65 e65 W65 Vn65
                    replace E_b := E_b.wr W65
                    replace F_source := F_source.other W65 (Or.inl (show (b : Nat) ≠ (aR + 1 + lq.toNatClampNeg) by omega))
                    replace F_limit := F_limit.other W65 (Or.inl (show (b : Nat) ≠ (aR + 1 + lq.toNatClampNeg) by omega))
                    replace F_sourceLetters := F_sourceLetters.other W65 (Or.inl (show (b : Nat) ≠ (aR + 1 + lq.toNatClampNeg) by omega))
                    replace F_distinct := F_distinct.other W65 (Or.inl (show (b : Nat) ≠ (aR + 1 + lq.toNatClampNeg) by omega))
                    replace F_lastRowBefore := F_lastRowBefore.other W65 (Or.inl (show (b : Nat) ≠ (aR + 1 + lq.toNatClampNeg) by omega))
                    replace F_columns := F_columns.other W65 (Or.inl (show (b : Nat) ≠ (aR + 1 + lq.toNatClampNeg) by omega))
                    replace F_fewest := F_fewest.other W65 (Or.inl (show (b : Nat) ≠ (aR + 1 + lq.toNatClampNeg) by omega))
                    replace F_targetLetters := F_targetLetters.other W65 (Or.inl (show (b : Nat) ≠ (aR + 1 + lq.toNatClampNeg) by omega))
                    replace F_lastColumn := F_lastColumn.other W65 (Or.inl (show (b : Nat) ≠ (aR + 1 + lq.toNatClampNeg) by omega))
                    replace F_replacedColumn := F_replacedColumn.other W65 (Or.inl (show (b : Nat) ≠ (aR + 1 + lq.toNatClampNeg) by omega))
                    replace F_read := F_read.other W65 (Or.inl (show (b : Nat) ≠ (aR + 1 + lq.toNatClampNeg) by omega))
                    replace I_a := I_a.other W65 (show (a : Nat) ≠ (aR + 1 + lq.toNatClampNeg) by omega)
                    replace I_aS := I_aS.other W65 (show (aS : Nat) ≠ (aR + 1 + lq.toNatClampNeg) by omega)
                    replace I_aL := I_aL.other W65 (show (aL : Nat) ≠ (aR + 1 + lq.toNatClampNeg) by omega)
                    replace I_aN := I_aN.other W65 (show (aN : Nat) ≠ (aR + 1 + lq.toNatClampNeg) by omega)
                    replace I_aD := I_aD.other W65 (show (aD : Nat) ≠ (aR + 1 + lq.toNatClampNeg) by omega)
                    replace O := O.wr W65 (show (n0 : Nat) ≤ (aR + 1 + lq.toNatClampNeg) by omega)
                    have N65 := Fr.snoc X65 N55 (show (n0 : Nat) ≤ (aR + 1 + lq.toNatClampNeg) by omega)
                    replace K := K.wr W65 (Or.inr (show (h0.size : Nat) ≤ (aR + 1 + lq.toNatClampNeg) by omega))
                    replace G_aR := Vn65
                    clear Vn65
                    replace hn_aR := (wr2O_len hv64).trans hn_aR
                    show Go p e below _ T65 (mkF m 204 #[.val (.ref b), .val (.ref a), .val (.int lim), .val (.ref aL), .val (.ref aN), .val (.int cn), .val (.int row), .val (.int jj)] [])
                    refine Go.by (T' := T65) (g' := (mkF m 141 #[.val (.ref b), .val (.ref a), .val (.int lim), .val (.ref aL), .val (.ref aN), .val (.int cn), .val (.int (row + (1 : Int32))), .val (.int jj)] [])) (fun t k => ?_) ?_
                    · show Steps p.tables e below (T65.setTop (mkF m 204 #[.val (.ref b), .val (.ref a), .val (.int lim), .val (.ref aL), .val (.ref aN), .val (.int cn), .val (.int row), .val (.int jj)] [])) _
                      refine XS.iinc X65.here hx rfl (hb hby d_p8_m1_204) rfl (l' := #[.val (.ref b), .val (.ref a), .val (.int lim), .val (.ref aL), .val (.ref aN), .val (.int cn), .val (.int (row + (1 : Int32))), .val (.int jj)]) rfl ?_
                      show Steps p.tables e below (T65.setTop (mkF m 207 #[.val (.ref b), .val (.ref a), .val (.int lim), .val (.ref aL), .val (.ref aN), .val (.int cn), .val (.int (row + (1 : Int32))), .val (.int jj)] [])) _
                      refine XS.goto X65.here hx rfl (pc0 := 207) (pc' := 141) rfl (hb hby d_p8_m1_207) (by decide) (by decide) ?_
                      exact k
                    exact ih30 _ _ _ _ _ _ X65 e65 O N65 K E_b F_source F_limit F_sourceLetters F_distinct F_lastRowBefore F_columns F_fewest F_targetLetters F_lastColumn F_replacedColumn F_read I_a I_aS I_aL I_aN I_aD G_aR hn_aR (SVi _) H
              exact J55 _ _ _ _ _ _ X30 e30 O N30 K E_b F_source F_limit F_sourceLetters F_distinct F_lastRowBefore F_columns F_fewest F_targetLetters F_lastColumn F_replacedColumn F_read I_a I_aS I_aL I_aN I_aD G_aR hn_aR hq
        exact J30 _ _ _ _ _ _ _ X29 e29 O N29 K E_b F_source F_limit F_sourceLetters F_distinct F_lastRowBefore F_columns F_fewest F_targetLetters F_lastColumn F_replacedColumn F_read I_a I_aS I_aL I_aN I_aD G_aR hn_aR hs7 hp
  exact J11 _ _ _ _ _ _ _ _ _ X9 e9 O N6 K E_b F_source F_limit F_sourceLetters F_distinct F_lastRowBefore F_columns F_fewest F_targetLetters F_lastColumn F_replacedColumn F_read I_a I_aS I_aL I_aN SVu hp
set_option maxRecDepth 65536 in
set_option maxHeartbeats 40000000 in
theorem ct_pre (l : Launch) (Z : State) (a0 : Array Value) (hw : ∀ d ∈ tables_1, d.before a0 Z = true) (a : Nat) (d : Nat) (xt : List Int32) (xs : List Int32) (ti : Int32) (tn : Int32) (si : Int32) (sn : Int32) (r : Int32) (h0 : Heap) (n0 : Nat) (O : Old Z n0 h0) (I_a : IA Z h0 a xt) (I_d : IA Z h0 d xs) (hm : preM xt ti tn xs si sn = some r) :
    Ct l (⟨"com/example/shingle/shingle/EditDistanceIsOutOfReachPinLaw", "pre", "([III[III)Z"⟩ : MethodName) method_3_code 8 (some .boolean) ({ frames := 0, cells := 0, slots := 0, locals := 0 } : Room) Z #[(.ref a), (.int ti), (.int tn), (.ref d), (.int si), (.int sn)] h0 (fun v h L => v = some (.int r) ∧ Fr n0 L ∧ h0 = h ∧ (r = 0 ∨ r = 1)) := by
  refine Ct.of (plainFor_of_name pn_EditDistanceIsOutOfReachPinLaw_141) ?_
  intro p e s m below meth c T0 X0 hx hby hml hown hnm hret hlk hZ e0
  have hown : s.vm.findClass "com/example/shingle/shingle/EditDistanceIsOutOfReachPinLaw" = some m.cls := hown
  have hml : c.maxLocals = 8 := hml
  have N0 := Fr.nil n0
  have H := hm
  unfold preM at H
  refine Go.cast (g' := mkF m 0 #[.val (.ref a), .val (.int ti), .val (.int tn), .val (.ref d), .val (.int si), .val (.int sn), .unset, .unset] []) (by first | (simp [entryFrame, mkF, argsToLocals, Value.category]; done) | rfl) ?_
  refine Go.by (T' := T0) (g' := (mkF m 7 #[.val (.ref a), .val (.int ti), .val (.int tn), .val (.ref d), .val (.int si), .val (.int sn), .val (.int (tn - ti)), .unset] [(.int (tn - ti))])) (fun t k => ?_) ?_
  · show Steps p.tables e below (T0.setTop (mkF m 0 #[.val (.ref a), .val (.int ti), .val (.int tn), .val (.ref d), .val (.int si), .val (.int sn), .unset, .unset] [])) _
    refine XS.iloadN X0.here hx rfl (hb hby d_m3_0) rfl ?_
    show Steps p.tables e below (T0.setTop (mkF m 1 #[.val (.ref a), .val (.int ti), .val (.int tn), .val (.ref d), .val (.int si), .val (.int sn), .unset, .unset] [(.int tn)])) _
    refine XS.iloadN X0.here hx rfl (hb hby d_m3_1) rfl ?_
    show Steps p.tables e below (T0.setTop (mkF m 2 #[.val (.ref a), .val (.int ti), .val (.int tn), .val (.ref d), .val (.int si), .val (.int sn), .unset, .unset] [(.int ti), (.int tn)])) _
    refine XS.isub X0.here hx rfl (hb hby d_m3_2) rfl ?_
    show Steps p.tables e below (T0.setTop (mkF m 3 #[.val (.ref a), .val (.int ti), .val (.int tn), .val (.ref d), .val (.int si), .val (.int sn), .unset, .unset] [(.int (tn - ti))])) _
    refine XS.istore X0.here hx rfl (hb hby d_m3_3) rfl (l' := #[.val (.ref a), .val (.int ti), .val (.int tn), .val (.ref d), .val (.int si), .val (.int sn), .val (.int (tn - ti)), .unset]) rfl ?_
    show Steps p.tables e below (T0.setTop (mkF m 5 #[.val (.ref a), .val (.int ti), .val (.int tn), .val (.ref d), .val (.int si), .val (.int sn), .val (.int (tn - ti)), .unset] [])) _
    refine XS.iload X0.here hx rfl (hb hby d_m3_5) rfl ?_
    exact k
  by_cases hy1 : (0 : Int32) < (tn - ti)
  · skip
    replace H := (if_pos hy1).symm.trans H
    refine Go.by (T' := T0) (g' := (mkF m 19 #[.val (.ref a), .val (.int ti), .val (.int tn), .val (.ref d), .val (.int si), .val (.int sn), .val (.int (tn - ti)), .unset] [(.int (sn - si)), (.int (tn - ti))])) (fun t k => ?_) ?_
    · show Steps p.tables e below (T0.setTop (mkF m 7 #[.val (.ref a), .val (.int ti), .val (.int tn), .val (.ref d), .val (.int si), .val (.int sn), .val (.int (tn - ti)), .unset] [(.int (tn - ti))])) _
      refine XS.ifYes X0.here hx rfl (pc0 := 7) (pc' := 12) rfl (hb hby d_m3_7) rfl ((if0 _ _).trans (tlt hy1).2.2.1) (by decide) (by decide) ?_
      show Steps p.tables e below (T0.setTop (mkF m 12 #[.val (.ref a), .val (.int ti), .val (.int tn), .val (.ref d), .val (.int si), .val (.int sn), .val (.int (tn - ti)), .unset] [])) _
      refine XS.iload X0.here hx rfl (hb hby d_m3_12) rfl ?_
      show Steps p.tables e below (T0.setTop (mkF m 14 #[.val (.ref a), .val (.int ti), .val (.int tn), .val (.ref d), .val (.int si), .val (.int sn), .val (.int (tn - ti)), .unset] [(.int (tn - ti))])) _
      refine XS.iload X0.here hx rfl (hb hby d_m3_14) rfl ?_
      show Steps p.tables e below (T0.setTop (mkF m 16 #[.val (.ref a), .val (.int ti), .val (.int tn), .val (.ref d), .val (.int si), .val (.int sn), .val (.int (tn - ti)), .unset] [(.int sn), (.int (tn - ti))])) _
      refine XS.iload X0.here hx rfl (hb hby d_m3_16) rfl ?_
      show Steps p.tables e below (T0.setTop (mkF m 18 #[.val (.ref a), .val (.int ti), .val (.int tn), .val (.ref d), .val (.int si), .val (.int sn), .val (.int (tn - ti)), .unset] [(.int si), (.int sn), (.int (tn - ti))])) _
      refine XS.isub X0.here hx rfl (hb hby d_m3_18) rfl ?_
      exact k
    by_cases hy2 : (sn - si) < (tn - ti)
    · skip
      replace H := (if_pos hy2).symm.trans H
      refine Go.by (T' := T0) (g' := (mkF m 23 #[.val (.ref a), .val (.int ti), .val (.int tn), .val (.ref d), .val (.int si), .val (.int sn), .val (.int (tn - ti)), .unset] [(.int (0 : Int32))])) (fun t k => ?_) ?_
      · show Steps p.tables e below (T0.setTop (mkF m 19 #[.val (.ref a), .val (.int ti), .val (.int tn), .val (.ref d), .val (.int si), .val (.int sn), .val (.int (tn - ti)), .unset] [(.int (sn - si)), (.int (tn - ti))])) _
        refine XS.icmpNo X0.here hx rfl (hb hby d_m3_19) rfl (tlt hy2).2.2.2 ?_
        show Steps p.tables e below (T0.setTop (mkF m 22 #[.val (.ref a), .val (.int ti), .val (.int tn), .val (.ref d), .val (.int si), .val (.int sn), .val (.int (tn - ti)), .unset] [])) _
        refine XS.iconst X0.here hx rfl (hb hby d_m3_22) ?_
        exact k
      refine Go.retZ X0 hx hlk hret (Or.inl rfl) (hb hby d_m3_23) (by decide) (by decide) e0 ?_
      cases H
      exact ⟨rfl, N0, rfl, Or.inl rfl⟩
    · skip
      replace H := (if_neg hy2).symm.trans H
      refine Go.by (T' := T0) (g' := (mkF m 26 #[.val (.ref a), .val (.int ti), .val (.int tn), .val (.ref d), .val (.int si), .val (.int sn), .val (.int (tn - ti)), .unset] [(.int ti), (.ref a)])) (fun t k => ?_) ?_
      · show Steps p.tables e below (T0.setTop (mkF m 19 #[.val (.ref a), .val (.int ti), .val (.int tn), .val (.ref d), .val (.int si), .val (.int sn), .val (.int (tn - ti)), .unset] [(.int (sn - si)), (.int (tn - ti))])) _
        refine XS.icmpYes X0.here hx rfl (pc0 := 19) (pc' := 24) rfl (hb hby d_m3_19) rfl (flt hy2).2.2.2 (by decide) (by decide) ?_
        show Steps p.tables e below (T0.setTop (mkF m 24 #[.val (.ref a), .val (.int ti), .val (.int tn), .val (.ref d), .val (.int si), .val (.int sn), .val (.int (tn - ti)), .unset] [])) _
        refine XS.aloadN X0.here hx rfl (hb hby d_m3_24) rfl rfl ?_
        show Steps p.tables e below (T0.setTop (mkF m 25 #[.val (.ref a), .val (.int ti), .val (.int tn), .val (.ref d), .val (.int si), .val (.int sn), .val (.int (tn - ti)), .unset] [(.ref a)])) _
        refine XS.iloadN X0.here hx rfl (hb hby d_m3_25) rfl ?_
        exact k
      obtain ⟨x0, hv_x0, H⟩ := ob H
      refine Go.iaL X0 hx hZ e0 I_a (j := ti) hv_x0 (hb hby d_m3_26) ?_
      show Go p e below _ T0 (mkF m 27 #[.val (.ref a), .val (.int ti), .val (.int tn), .val (.ref d), .val (.int si), .val (.int sn), .val (.int (tn - ti)), .unset] [(.int x0)])
      refine Go.by (T' := T0) (g' := (mkF m 30 #[.val (.ref a), .val (.int ti), .val (.int tn), .val (.ref d), .val (.int si), .val (.int sn), .val (.int (tn - ti)), .unset] [(.int si), (.ref d), (.int x0)])) (fun t k => ?_) ?_
      · show Steps p.tables e below (T0.setTop (mkF m 27 #[.val (.ref a), .val (.int ti), .val (.int tn), .val (.ref d), .val (.int si), .val (.int sn), .val (.int (tn - ti)), .unset] [(.int x0)])) _
        refine XS.aloadN X0.here hx rfl (hb hby d_m3_27) rfl rfl ?_
        show Steps p.tables e below (T0.setTop (mkF m 28 #[.val (.ref a), .val (.int ti), .val (.int tn), .val (.ref d), .val (.int si), .val (.int sn), .val (.int (tn - ti)), .unset] [(.ref d), (.int x0)])) _
        refine XS.iload X0.here hx rfl (hb hby d_m3_28) rfl ?_
        exact k
      obtain ⟨y0, hv_y0, H⟩ := ob H
      refine Go.iaL X0 hx hZ e0 I_d (j := si) hv_y0 (hb hby d_m3_30) ?_
      show Go p e below _ T0 (mkF m 31 #[.val (.ref a), .val (.int ti), .val (.int tn), .val (.ref d), .val (.int si), .val (.int sn), .val (.int (tn - ti)), .unset] [(.int y0), (.int x0)])
      obtain ⟨k0, hk0, H⟩ := ob H
      have J3 : ∀ (ok0 : Int32), (ok0 = k0) → (ok0 = 0 ∨ ok0 = 1) → Go p e below (EndF s ({ frames := 0, cells := 0, slots := 0, locals := 0 } : Room).cells ({ frames := 0, cells := 0, slots := 0, locals := 0 } : Room).slots (fun v h L => v = some (.int r) ∧ Fr n0 L ∧ h0 = h ∧ (r = 0 ∨ r = 1))) T0 (mkF m 39 #[.val (.ref a), .val (.int ti), .val (.int tn), .val (.ref d), .val (.int si), .val (.int sn), .val (.int (tn - ti)), .unset] [(.int ok0)]) := by
        intro ok0 hq0 hb0
        rw [← hq0] at H
        refine Go.by (T' := T0) (g' := (mkF m 44 #[.val (.ref a), .val (.int ti), .val (.int tn), .val (.ref d), .val (.int si), .val (.int sn), .val (.int (tn - ti)), .val (.int ok0)] [(.int (1 : Int32)), (.int (tn - ti))])) (fun t k => ?_) ?_
        · show Steps p.tables e below (T0.setTop (mkF m 39 #[.val (.ref a), .val (.int ti), .val (.int tn), .val (.ref d), .val (.int si), .val (.int sn), .val (.int (tn - ti)), .unset] [(.int ok0)])) _
          refine XS.istore X0.here hx rfl (hb hby d_m3_39) rfl (l' := #[.val (.ref a), .val (.int ti), .val (.int tn), .val (.ref d), .val (.int si), .val (.int sn), .val (.int (tn - ti)), .val (.int ok0)]) rfl ?_
          show Steps p.tables e below (T0.setTop (mkF m 41 #[.val (.ref a), .val (.int ti), .val (.int tn), .val (.ref d), .val (.int si), .val (.int sn), .val (.int (tn - ti)), .val (.int ok0)] [])) _
          refine XS.iload X0.here hx rfl (hb hby d_m3_41) rfl ?_
          show Steps p.tables e below (T0.setTop (mkF m 43 #[.val (.ref a), .val (.int ti), .val (.int tn), .val (.ref d), .val (.int si), .val (.int sn), .val (.int (tn - ti)), .val (.int ok0)] [(.int (tn - ti))])) _
          refine XS.iconst X0.here hx rfl (hb hby d_m3_43) ?_
          exact k
        obtain ⟨k1, hk1, H⟩ := ob H
        have J4 : ∀ (ok1 : Int32), (ok1 = k1) → (ok1 = 0 ∨ ok1 = 1) → Go p e below (EndF s ({ frames := 0, cells := 0, slots := 0, locals := 0 } : Room).cells ({ frames := 0, cells := 0, slots := 0, locals := 0 } : Room).slots (fun v h L => v = some (.int r) ∧ Fr n0 L ∧ h0 = h ∧ (r = 0 ∨ r = 1))) T0 (mkF m 73 #[.val (.ref a), .val (.int ti), .val (.int tn), .val (.ref d), .val (.int si), .val (.int sn), .val (.int (tn - ti)), .val (.int ok1)] []) := by
          intro ok1 hq1 hb1
          rw [← hq1] at H
          refine Go.by (T' := T0) (g' := (mkF m 76 #[.val (.ref a), .val (.int ti), .val (.int tn), .val (.ref d), .val (.int si), .val (.int sn), .val (.int (tn - ti)), .val (.int ok1)] [(.int (2 : Int32)), (.int (tn - ti))])) (fun t k => ?_) ?_
          · show Steps p.tables e below (T0.setTop (mkF m 73 #[.val (.ref a), .val (.int ti), .val (.int tn), .val (.ref d), .val (.int si), .val (.int sn), .val (.int (tn - ti)), .val (.int ok1)] [])) _
            refine XS.iload X0.here hx rfl (hb hby d_m3_73) rfl ?_
            show Steps p.tables e below (T0.setTop (mkF m 75 #[.val (.ref a), .val (.int ti), .val (.int tn), .val (.ref d), .val (.int si), .val (.int sn), .val (.int (tn - ti)), .val (.int ok1)] [(.int (tn - ti))])) _
            refine XS.iconst X0.here hx rfl (hb hby d_m3_75) ?_
            exact k
          obtain ⟨k2, hk2, H⟩ := ob H
          have J5 : ∀ (ok2 : Int32), (ok2 = k2) → (ok2 = 0 ∨ ok2 = 1) → Go p e below (EndF s ({ frames := 0, cells := 0, slots := 0, locals := 0 } : Room).cells ({ frames := 0, cells := 0, slots := 0, locals := 0 } : Room).slots (fun v h L => v = some (.int r) ∧ Fr n0 L ∧ h0 = h ∧ (r = 0 ∨ r = 1))) T0 (mkF m 105 #[.val (.ref a), .val (.int ti), .val (.int tn), .val (.ref d), .val (.int si), .val (.int sn), .val (.int (tn - ti)), .val (.int ok2)] []) := by
            intro ok2 hq2 hb2
            rw [← hq2] at H
            refine Go.by (T' := T0) (g' := (mkF m 108 #[.val (.ref a), .val (.int ti), .val (.int tn), .val (.ref d), .val (.int si), .val (.int sn), .val (.int (tn - ti)), .val (.int ok2)] [(.int (3 : Int32)), (.int (tn - ti))])) (fun t k => ?_) ?_
            · show Steps p.tables e below (T0.setTop (mkF m 105 #[.val (.ref a), .val (.int ti), .val (.int tn), .val (.ref d), .val (.int si), .val (.int sn), .val (.int (tn - ti)), .val (.int ok2)] [])) _
              refine XS.iload X0.here hx rfl (hb hby d_m3_105) rfl ?_
              show Steps p.tables e below (T0.setTop (mkF m 107 #[.val (.ref a), .val (.int ti), .val (.int tn), .val (.ref d), .val (.int si), .val (.int sn), .val (.int (tn - ti)), .val (.int ok2)] [(.int (tn - ti))])) _
              refine XS.iconst X0.here hx rfl (hb hby d_m3_107) ?_
              exact k
            have hk3 := H
            have J6 : ∀ (ok3 : Int32), (ok3 = r) → (ok3 = 0 ∨ ok3 = 1) → Go p e below (EndF s ({ frames := 0, cells := 0, slots := 0, locals := 0 } : Room).cells ({ frames := 0, cells := 0, slots := 0, locals := 0 } : Room).slots (fun v h L => v = some (.int r) ∧ Fr n0 L ∧ h0 = h ∧ (r = 0 ∨ r = 1))) T0 (mkF m 137 #[.val (.ref a), .val (.int ti), .val (.int tn), .val (.ref d), .val (.int si), .val (.int sn), .val (.int (tn - ti)), .val (.int ok3)] []) := by
              intro ok3 hq3 hb3
              refine Go.by (T' := T0) (g' := (mkF m 139 #[.val (.ref a), .val (.int ti), .val (.int tn), .val (.ref d), .val (.int si), .val (.int sn), .val (.int (tn - ti)), .val (.int ok3)] [(.int ok3)])) (fun t k => ?_) ?_
              · show Steps p.tables e below (T0.setTop (mkF m 137 #[.val (.ref a), .val (.int ti), .val (.int tn), .val (.ref d), .val (.int si), .val (.int sn), .val (.int (tn - ti)), .val (.int ok3)] [])) _
                refine XS.iload X0.here hx rfl (hb hby d_m3_137) rfl ?_
                exact k
              refine Go.retZ X0 hx hlk hret hb3 (hb hby d_m3_139) (by decide) (by decide) e0 ?_
              subst hq3
              exact ⟨rfl, N0, rfl, hb3⟩
            by_cases hy7 : (3 : Int32) < (tn - ti)
            · skip
              replace hk3 := (if_pos hy7).symm.trans hk3
              unfold preS at hk3
              refine Go.by (T' := T0) (g' := (mkF m 113 #[.val (.ref a), .val (.int ti), .val (.int tn), .val (.ref d), .val (.int si), .val (.int sn), .val (.int (tn - ti)), .val (.int ok2)] [(.int ok2)])) (fun t k => ?_) ?_
              · show Steps p.tables e below (T0.setTop (mkF m 108 #[.val (.ref a), .val (.int ti), .val (.int tn), .val (.ref d), .val (.int si), .val (.int sn), .val (.int (tn - ti)), .val (.int ok2)] [(.int (3 : Int32)), (.int (tn - ti))])) _
                refine XS.icmpNo X0.here hx rfl (hb hby d_m3_108) rfl (tlt hy7).2.2.2 ?_
                show Steps p.tables e below (T0.setTop (mkF m 111 #[.val (.ref a), .val (.int ti), .val (.int tn), .val (.ref d), .val (.int si), .val (.int sn), .val (.int (tn - ti)), .val (.int ok2)] [])) _
                refine XS.iload X0.here hx rfl (hb hby d_m3_111) rfl ?_
                exact k
              by_cases hy8 : ok2 = (0 : Int32)
              · skip
                replace hk3 := (if_pos hy8).symm.trans hk3
                refine Go.by (T' := T0) (g' := (mkF m 137 #[.val (.ref a), .val (.int ti), .val (.int tn), .val (.ref d), .val (.int si), .val (.int sn), .val (.int (tn - ti)), .val (.int (0 : Int32))] [])) (fun t k => ?_) ?_
                · show Steps p.tables e below (T0.setTop (mkF m 113 #[.val (.ref a), .val (.int ti), .val (.int tn), .val (.ref d), .val (.int si), .val (.int sn), .val (.int (tn - ti)), .val (.int ok2)] [(.int ok2)])) _
                  refine XS.ifYes X0.here hx rfl (pc0 := 113) (pc' := 134) rfl (hb hby d_m3_113) rfl ((if0 _ _).trans (teq hy8).1) (by decide) (by decide) ?_
                  show Steps p.tables e below (T0.setTop (mkF m 134 #[.val (.ref a), .val (.int ti), .val (.int tn), .val (.ref d), .val (.int si), .val (.int sn), .val (.int (tn - ti)), .val (.int ok2)] [])) _
                  refine XS.iconst X0.here hx rfl (hb hby d_m3_134) ?_
                  show Steps p.tables e below (T0.setTop (mkF m 135 #[.val (.ref a), .val (.int ti), .val (.int tn), .val (.ref d), .val (.int si), .val (.int sn), .val (.int (tn - ti)), .val (.int ok2)] [(.int (0 : Int32))])) _
                  refine XS.istore X0.here hx rfl (hb hby d_m3_135) rfl (l' := #[.val (.ref a), .val (.int ti), .val (.int tn), .val (.ref d), .val (.int si), .val (.int sn), .val (.int (tn - ti)), .val (.int (0 : Int32))]) rfl ?_
                  exact k
                exact J6 _ (Option.some.inj hk3) (Or.inl rfl)
              · skip
                replace hk3 := (if_neg hy8).symm.trans hk3
                refine Go.by (T' := T0) (g' := (mkF m 120 #[.val (.ref a), .val (.int ti), .val (.int tn), .val (.ref d), .val (.int si), .val (.int sn), .val (.int (tn - ti)), .val (.int ok2)] [(.int (ti + (3 : Int32))), (.ref a)])) (fun t k => ?_) ?_
                · show Steps p.tables e below (T0.setTop (mkF m 113 #[.val (.ref a), .val (.int ti), .val (.int tn), .val (.ref d), .val (.int si), .val (.int sn), .val (.int (tn - ti)), .val (.int ok2)] [(.int ok2)])) _
                  refine XS.ifNo X0.here hx rfl (hb hby d_m3_113) rfl ((if0 _ _).trans (feq hy8).1) ?_
                  show Steps p.tables e below (T0.setTop (mkF m 116 #[.val (.ref a), .val (.int ti), .val (.int tn), .val (.ref d), .val (.int si), .val (.int sn), .val (.int (tn - ti)), .val (.int ok2)] [])) _
                  refine XS.aloadN X0.here hx rfl (hb hby d_m3_116) rfl rfl ?_
                  show Steps p.tables e below (T0.setTop (mkF m 117 #[.val (.ref a), .val (.int ti), .val (.int tn), .val (.ref d), .val (.int si), .val (.int sn), .val (.int (tn - ti)), .val (.int ok2)] [(.ref a)])) _
                  refine XS.iloadN X0.here hx rfl (hb hby d_m3_117) rfl ?_
                  show Steps p.tables e below (T0.setTop (mkF m 118 #[.val (.ref a), .val (.int ti), .val (.int tn), .val (.ref d), .val (.int si), .val (.int sn), .val (.int (tn - ti)), .val (.int ok2)] [(.int ti), (.ref a)])) _
                  refine XS.iconst X0.here hx rfl (hb hby d_m3_118) ?_
                  show Steps p.tables e below (T0.setTop (mkF m 119 #[.val (.ref a), .val (.int ti), .val (.int tn), .val (.ref d), .val (.int si), .val (.int sn), .val (.int (tn - ti)), .val (.int ok2)] [(.int (3 : Int32)), (.int ti), (.ref a)])) _
                  refine XS.iadd X0.here hx rfl (hb hby d_m3_119) rfl ?_
                  exact k
                obtain ⟨x3, hv_x3, hk3⟩ := ob hk3
                refine Go.iaL X0 hx hZ e0 I_a (j := (ti + (3 : Int32))) hv_x3 (hb hby d_m3_120) ?_
                show Go p e below _ T0 (mkF m 121 #[.val (.ref a), .val (.int ti), .val (.int tn), .val (.ref d), .val (.int si), .val (.int sn), .val (.int (tn - ti)), .val (.int ok2)] [(.int x3)])
                refine Go.by (T' := T0) (g' := (mkF m 126 #[.val (.ref a), .val (.int ti), .val (.int tn), .val (.ref d), .val (.int si), .val (.int sn), .val (.int (tn - ti)), .val (.int ok2)] [(.int (si + (3 : Int32))), (.ref d), (.int x3)])) (fun t k => ?_) ?_
                · show Steps p.tables e below (T0.setTop (mkF m 121 #[.val (.ref a), .val (.int ti), .val (.int tn), .val (.ref d), .val (.int si), .val (.int sn), .val (.int (tn - ti)), .val (.int ok2)] [(.int x3)])) _
                  refine XS.aloadN X0.here hx rfl (hb hby d_m3_121) rfl rfl ?_
                  show Steps p.tables e below (T0.setTop (mkF m 122 #[.val (.ref a), .val (.int ti), .val (.int tn), .val (.ref d), .val (.int si), .val (.int sn), .val (.int (tn - ti)), .val (.int ok2)] [(.ref d), (.int x3)])) _
                  refine XS.iload X0.here hx rfl (hb hby d_m3_122) rfl ?_
                  show Steps p.tables e below (T0.setTop (mkF m 124 #[.val (.ref a), .val (.int ti), .val (.int tn), .val (.ref d), .val (.int si), .val (.int sn), .val (.int (tn - ti)), .val (.int ok2)] [(.int si), (.ref d), (.int x3)])) _
                  refine XS.iconst X0.here hx rfl (hb hby d_m3_124) ?_
                  show Steps p.tables e below (T0.setTop (mkF m 125 #[.val (.ref a), .val (.int ti), .val (.int tn), .val (.ref d), .val (.int si), .val (.int sn), .val (.int (tn - ti)), .val (.int ok2)] [(.int (3 : Int32)), (.int si), (.ref d), (.int x3)])) _
                  refine XS.iadd X0.here hx rfl (hb hby d_m3_125) rfl ?_
                  exact k
                obtain ⟨y3, hv_y3, hk3⟩ := ob hk3
                refine Go.iaL X0 hx hZ e0 I_d (j := (si + (3 : Int32))) hv_y3 (hb hby d_m3_126) ?_
                show Go p e below _ T0 (mkF m 127 #[.val (.ref a), .val (.int ti), .val (.int tn), .val (.ref d), .val (.int si), .val (.int sn), .val (.int (tn - ti)), .val (.int ok2)] [(.int y3), (.int x3)])
                by_cases hy9 : x3 = y3
                · skip
                  replace hk3 := (if_pos hy9).symm.trans hk3
                  refine Go.by (T' := T0) (g' := (mkF m 137 #[.val (.ref a), .val (.int ti), .val (.int tn), .val (.ref d), .val (.int si), .val (.int sn), .val (.int (tn - ti)), .val (.int (1 : Int32))] [])) (fun t k => ?_) ?_
                  · show Steps p.tables e below (T0.setTop (mkF m 127 #[.val (.ref a), .val (.int ti), .val (.int tn), .val (.ref d), .val (.int si), .val (.int sn), .val (.int (tn - ti)), .val (.int ok2)] [(.int y3), (.int x3)])) _
                    refine XS.icmpNo X0.here hx rfl (hb hby d_m3_127) rfl (teq hy9).2 ?_
                    show Steps p.tables e below (T0.setTop (mkF m 130 #[.val (.ref a), .val (.int ti), .val (.int tn), .val (.ref d), .val (.int si), .val (.int sn), .val (.int (tn - ti)), .val (.int ok2)] [])) _
                    refine XS.iconst X0.here hx rfl (hb hby d_m3_130) ?_
                    show Steps p.tables e below (T0.setTop (mkF m 131 #[.val (.ref a), .val (.int ti), .val (.int tn), .val (.ref d), .val (.int si), .val (.int sn), .val (.int (tn - ti)), .val (.int ok2)] [(.int (1 : Int32))])) _
                    refine XS.goto X0.here hx rfl (pc0 := 131) (pc' := 135) rfl (hb hby d_m3_131) (by decide) (by decide) ?_
                    show Steps p.tables e below (T0.setTop (mkF m 135 #[.val (.ref a), .val (.int ti), .val (.int tn), .val (.ref d), .val (.int si), .val (.int sn), .val (.int (tn - ti)), .val (.int ok2)] [(.int (1 : Int32))])) _
                    refine XS.istore X0.here hx rfl (hb hby d_m3_135) rfl (l' := #[.val (.ref a), .val (.int ti), .val (.int tn), .val (.ref d), .val (.int si), .val (.int sn), .val (.int (tn - ti)), .val (.int (1 : Int32))]) rfl ?_
                    exact k
                  exact J6 _ (Option.some.inj hk3) (Or.inr rfl)
                · skip
                  replace hk3 := (if_neg hy9).symm.trans hk3
                  refine Go.by (T' := T0) (g' := (mkF m 137 #[.val (.ref a), .val (.int ti), .val (.int tn), .val (.ref d), .val (.int si), .val (.int sn), .val (.int (tn - ti)), .val (.int (0 : Int32))] [])) (fun t k => ?_) ?_
                  · show Steps p.tables e below (T0.setTop (mkF m 127 #[.val (.ref a), .val (.int ti), .val (.int tn), .val (.ref d), .val (.int si), .val (.int sn), .val (.int (tn - ti)), .val (.int ok2)] [(.int y3), (.int x3)])) _
                    refine XS.icmpYes X0.here hx rfl (pc0 := 127) (pc' := 134) rfl (hb hby d_m3_127) rfl (feq hy9).2 (by decide) (by decide) ?_
                    show Steps p.tables e below (T0.setTop (mkF m 134 #[.val (.ref a), .val (.int ti), .val (.int tn), .val (.ref d), .val (.int si), .val (.int sn), .val (.int (tn - ti)), .val (.int ok2)] [])) _
                    refine XS.iconst X0.here hx rfl (hb hby d_m3_134) ?_
                    show Steps p.tables e below (T0.setTop (mkF m 135 #[.val (.ref a), .val (.int ti), .val (.int tn), .val (.ref d), .val (.int si), .val (.int sn), .val (.int (tn - ti)), .val (.int ok2)] [(.int (0 : Int32))])) _
                    refine XS.istore X0.here hx rfl (hb hby d_m3_135) rfl (l' := #[.val (.ref a), .val (.int ti), .val (.int tn), .val (.ref d), .val (.int si), .val (.int sn), .val (.int (tn - ti)), .val (.int (0 : Int32))]) rfl ?_
                    exact k
                  exact J6 _ (Option.some.inj hk3) (Or.inl rfl)
            · skip
              replace hk3 := (if_neg hy7).symm.trans hk3
              refine Go.by (T' := T0) (g' := (mkF m 137 #[.val (.ref a), .val (.int ti), .val (.int tn), .val (.ref d), .val (.int si), .val (.int sn), .val (.int (tn - ti)), .val (.int ok2)] [])) (fun t k => ?_) ?_
              · show Steps p.tables e below (T0.setTop (mkF m 108 #[.val (.ref a), .val (.int ti), .val (.int tn), .val (.ref d), .val (.int si), .val (.int sn), .val (.int (tn - ti)), .val (.int ok2)] [(.int (3 : Int32)), (.int (tn - ti))])) _
                refine XS.icmpYes X0.here hx rfl (pc0 := 108) (pc' := 137) rfl (hb hby d_m3_108) rfl (flt hy7).2.2.2 (by decide) (by decide) ?_
                exact k
              exact J6 _ (Option.some.inj hk3) hb2
          by_cases hy10 : (2 : Int32) < (tn - ti)
          · skip
            replace hk2 := (if_pos hy10).symm.trans hk2
            unfold preS at hk2
            refine Go.by (T' := T0) (g' := (mkF m 81 #[.val (.ref a), .val (.int ti), .val (.int tn), .val (.ref d), .val (.int si), .val (.int sn), .val (.int (tn - ti)), .val (.int ok1)] [(.int ok1)])) (fun t k => ?_) ?_
            · show Steps p.tables e below (T0.setTop (mkF m 76 #[.val (.ref a), .val (.int ti), .val (.int tn), .val (.ref d), .val (.int si), .val (.int sn), .val (.int (tn - ti)), .val (.int ok1)] [(.int (2 : Int32)), (.int (tn - ti))])) _
              refine XS.icmpNo X0.here hx rfl (hb hby d_m3_76) rfl (tlt hy10).2.2.2 ?_
              show Steps p.tables e below (T0.setTop (mkF m 79 #[.val (.ref a), .val (.int ti), .val (.int tn), .val (.ref d), .val (.int si), .val (.int sn), .val (.int (tn - ti)), .val (.int ok1)] [])) _
              refine XS.iload X0.here hx rfl (hb hby d_m3_79) rfl ?_
              exact k
            by_cases hy11 : ok1 = (0 : Int32)
            · skip
              replace hk2 := (if_pos hy11).symm.trans hk2
              refine Go.by (T' := T0) (g' := (mkF m 105 #[.val (.ref a), .val (.int ti), .val (.int tn), .val (.ref d), .val (.int si), .val (.int sn), .val (.int (tn - ti)), .val (.int (0 : Int32))] [])) (fun t k => ?_) ?_
              · show Steps p.tables e below (T0.setTop (mkF m 81 #[.val (.ref a), .val (.int ti), .val (.int tn), .val (.ref d), .val (.int si), .val (.int sn), .val (.int (tn - ti)), .val (.int ok1)] [(.int ok1)])) _
                refine XS.ifYes X0.here hx rfl (pc0 := 81) (pc' := 102) rfl (hb hby d_m3_81) rfl ((if0 _ _).trans (teq hy11).1) (by decide) (by decide) ?_
                show Steps p.tables e below (T0.setTop (mkF m 102 #[.val (.ref a), .val (.int ti), .val (.int tn), .val (.ref d), .val (.int si), .val (.int sn), .val (.int (tn - ti)), .val (.int ok1)] [])) _
                refine XS.iconst X0.here hx rfl (hb hby d_m3_102) ?_
                show Steps p.tables e below (T0.setTop (mkF m 103 #[.val (.ref a), .val (.int ti), .val (.int tn), .val (.ref d), .val (.int si), .val (.int sn), .val (.int (tn - ti)), .val (.int ok1)] [(.int (0 : Int32))])) _
                refine XS.istore X0.here hx rfl (hb hby d_m3_103) rfl (l' := #[.val (.ref a), .val (.int ti), .val (.int tn), .val (.ref d), .val (.int si), .val (.int sn), .val (.int (tn - ti)), .val (.int (0 : Int32))]) rfl ?_
                exact k
              exact J5 _ (Option.some.inj hk2) (Or.inl rfl)
            · skip
              replace hk2 := (if_neg hy11).symm.trans hk2
              refine Go.by (T' := T0) (g' := (mkF m 88 #[.val (.ref a), .val (.int ti), .val (.int tn), .val (.ref d), .val (.int si), .val (.int sn), .val (.int (tn - ti)), .val (.int ok1)] [(.int (ti + (2 : Int32))), (.ref a)])) (fun t k => ?_) ?_
              · show Steps p.tables e below (T0.setTop (mkF m 81 #[.val (.ref a), .val (.int ti), .val (.int tn), .val (.ref d), .val (.int si), .val (.int sn), .val (.int (tn - ti)), .val (.int ok1)] [(.int ok1)])) _
                refine XS.ifNo X0.here hx rfl (hb hby d_m3_81) rfl ((if0 _ _).trans (feq hy11).1) ?_
                show Steps p.tables e below (T0.setTop (mkF m 84 #[.val (.ref a), .val (.int ti), .val (.int tn), .val (.ref d), .val (.int si), .val (.int sn), .val (.int (tn - ti)), .val (.int ok1)] [])) _
                refine XS.aloadN X0.here hx rfl (hb hby d_m3_84) rfl rfl ?_
                show Steps p.tables e below (T0.setTop (mkF m 85 #[.val (.ref a), .val (.int ti), .val (.int tn), .val (.ref d), .val (.int si), .val (.int sn), .val (.int (tn - ti)), .val (.int ok1)] [(.ref a)])) _
                refine XS.iloadN X0.here hx rfl (hb hby d_m3_85) rfl ?_
                show Steps p.tables e below (T0.setTop (mkF m 86 #[.val (.ref a), .val (.int ti), .val (.int tn), .val (.ref d), .val (.int si), .val (.int sn), .val (.int (tn - ti)), .val (.int ok1)] [(.int ti), (.ref a)])) _
                refine XS.iconst X0.here hx rfl (hb hby d_m3_86) ?_
                show Steps p.tables e below (T0.setTop (mkF m 87 #[.val (.ref a), .val (.int ti), .val (.int tn), .val (.ref d), .val (.int si), .val (.int sn), .val (.int (tn - ti)), .val (.int ok1)] [(.int (2 : Int32)), (.int ti), (.ref a)])) _
                refine XS.iadd X0.here hx rfl (hb hby d_m3_87) rfl ?_
                exact k
              obtain ⟨x2, hv_x2, hk2⟩ := ob hk2
              refine Go.iaL X0 hx hZ e0 I_a (j := (ti + (2 : Int32))) hv_x2 (hb hby d_m3_88) ?_
              show Go p e below _ T0 (mkF m 89 #[.val (.ref a), .val (.int ti), .val (.int tn), .val (.ref d), .val (.int si), .val (.int sn), .val (.int (tn - ti)), .val (.int ok1)] [(.int x2)])
              refine Go.by (T' := T0) (g' := (mkF m 94 #[.val (.ref a), .val (.int ti), .val (.int tn), .val (.ref d), .val (.int si), .val (.int sn), .val (.int (tn - ti)), .val (.int ok1)] [(.int (si + (2 : Int32))), (.ref d), (.int x2)])) (fun t k => ?_) ?_
              · show Steps p.tables e below (T0.setTop (mkF m 89 #[.val (.ref a), .val (.int ti), .val (.int tn), .val (.ref d), .val (.int si), .val (.int sn), .val (.int (tn - ti)), .val (.int ok1)] [(.int x2)])) _
                refine XS.aloadN X0.here hx rfl (hb hby d_m3_89) rfl rfl ?_
                show Steps p.tables e below (T0.setTop (mkF m 90 #[.val (.ref a), .val (.int ti), .val (.int tn), .val (.ref d), .val (.int si), .val (.int sn), .val (.int (tn - ti)), .val (.int ok1)] [(.ref d), (.int x2)])) _
                refine XS.iload X0.here hx rfl (hb hby d_m3_90) rfl ?_
                show Steps p.tables e below (T0.setTop (mkF m 92 #[.val (.ref a), .val (.int ti), .val (.int tn), .val (.ref d), .val (.int si), .val (.int sn), .val (.int (tn - ti)), .val (.int ok1)] [(.int si), (.ref d), (.int x2)])) _
                refine XS.iconst X0.here hx rfl (hb hby d_m3_92) ?_
                show Steps p.tables e below (T0.setTop (mkF m 93 #[.val (.ref a), .val (.int ti), .val (.int tn), .val (.ref d), .val (.int si), .val (.int sn), .val (.int (tn - ti)), .val (.int ok1)] [(.int (2 : Int32)), (.int si), (.ref d), (.int x2)])) _
                refine XS.iadd X0.here hx rfl (hb hby d_m3_93) rfl ?_
                exact k
              obtain ⟨y2, hv_y2, hk2⟩ := ob hk2
              refine Go.iaL X0 hx hZ e0 I_d (j := (si + (2 : Int32))) hv_y2 (hb hby d_m3_94) ?_
              show Go p e below _ T0 (mkF m 95 #[.val (.ref a), .val (.int ti), .val (.int tn), .val (.ref d), .val (.int si), .val (.int sn), .val (.int (tn - ti)), .val (.int ok1)] [(.int y2), (.int x2)])
              by_cases hy12 : x2 = y2
              · skip
                replace hk2 := (if_pos hy12).symm.trans hk2
                refine Go.by (T' := T0) (g' := (mkF m 105 #[.val (.ref a), .val (.int ti), .val (.int tn), .val (.ref d), .val (.int si), .val (.int sn), .val (.int (tn - ti)), .val (.int (1 : Int32))] [])) (fun t k => ?_) ?_
                · show Steps p.tables e below (T0.setTop (mkF m 95 #[.val (.ref a), .val (.int ti), .val (.int tn), .val (.ref d), .val (.int si), .val (.int sn), .val (.int (tn - ti)), .val (.int ok1)] [(.int y2), (.int x2)])) _
                  refine XS.icmpNo X0.here hx rfl (hb hby d_m3_95) rfl (teq hy12).2 ?_
                  show Steps p.tables e below (T0.setTop (mkF m 98 #[.val (.ref a), .val (.int ti), .val (.int tn), .val (.ref d), .val (.int si), .val (.int sn), .val (.int (tn - ti)), .val (.int ok1)] [])) _
                  refine XS.iconst X0.here hx rfl (hb hby d_m3_98) ?_
                  show Steps p.tables e below (T0.setTop (mkF m 99 #[.val (.ref a), .val (.int ti), .val (.int tn), .val (.ref d), .val (.int si), .val (.int sn), .val (.int (tn - ti)), .val (.int ok1)] [(.int (1 : Int32))])) _
                  refine XS.goto X0.here hx rfl (pc0 := 99) (pc' := 103) rfl (hb hby d_m3_99) (by decide) (by decide) ?_
                  show Steps p.tables e below (T0.setTop (mkF m 103 #[.val (.ref a), .val (.int ti), .val (.int tn), .val (.ref d), .val (.int si), .val (.int sn), .val (.int (tn - ti)), .val (.int ok1)] [(.int (1 : Int32))])) _
                  refine XS.istore X0.here hx rfl (hb hby d_m3_103) rfl (l' := #[.val (.ref a), .val (.int ti), .val (.int tn), .val (.ref d), .val (.int si), .val (.int sn), .val (.int (tn - ti)), .val (.int (1 : Int32))]) rfl ?_
                  exact k
                exact J5 _ (Option.some.inj hk2) (Or.inr rfl)
              · skip
                replace hk2 := (if_neg hy12).symm.trans hk2
                refine Go.by (T' := T0) (g' := (mkF m 105 #[.val (.ref a), .val (.int ti), .val (.int tn), .val (.ref d), .val (.int si), .val (.int sn), .val (.int (tn - ti)), .val (.int (0 : Int32))] [])) (fun t k => ?_) ?_
                · show Steps p.tables e below (T0.setTop (mkF m 95 #[.val (.ref a), .val (.int ti), .val (.int tn), .val (.ref d), .val (.int si), .val (.int sn), .val (.int (tn - ti)), .val (.int ok1)] [(.int y2), (.int x2)])) _
                  refine XS.icmpYes X0.here hx rfl (pc0 := 95) (pc' := 102) rfl (hb hby d_m3_95) rfl (feq hy12).2 (by decide) (by decide) ?_
                  show Steps p.tables e below (T0.setTop (mkF m 102 #[.val (.ref a), .val (.int ti), .val (.int tn), .val (.ref d), .val (.int si), .val (.int sn), .val (.int (tn - ti)), .val (.int ok1)] [])) _
                  refine XS.iconst X0.here hx rfl (hb hby d_m3_102) ?_
                  show Steps p.tables e below (T0.setTop (mkF m 103 #[.val (.ref a), .val (.int ti), .val (.int tn), .val (.ref d), .val (.int si), .val (.int sn), .val (.int (tn - ti)), .val (.int ok1)] [(.int (0 : Int32))])) _
                  refine XS.istore X0.here hx rfl (hb hby d_m3_103) rfl (l' := #[.val (.ref a), .val (.int ti), .val (.int tn), .val (.ref d), .val (.int si), .val (.int sn), .val (.int (tn - ti)), .val (.int (0 : Int32))]) rfl ?_
                  exact k
                exact J5 _ (Option.some.inj hk2) (Or.inl rfl)
          · skip
            replace hk2 := (if_neg hy10).symm.trans hk2
            refine Go.by (T' := T0) (g' := (mkF m 105 #[.val (.ref a), .val (.int ti), .val (.int tn), .val (.ref d), .val (.int si), .val (.int sn), .val (.int (tn - ti)), .val (.int ok1)] [])) (fun t k => ?_) ?_
            · show Steps p.tables e below (T0.setTop (mkF m 76 #[.val (.ref a), .val (.int ti), .val (.int tn), .val (.ref d), .val (.int si), .val (.int sn), .val (.int (tn - ti)), .val (.int ok1)] [(.int (2 : Int32)), (.int (tn - ti))])) _
              refine XS.icmpYes X0.here hx rfl (pc0 := 76) (pc' := 105) rfl (hb hby d_m3_76) rfl (flt hy10).2.2.2 (by decide) (by decide) ?_
              exact k
            exact J5 _ (Option.some.inj hk2) hb1
        by_cases hy13 : (1 : Int32) < (tn - ti)
        · skip
          replace hk1 := (if_pos hy13).symm.trans hk1
          unfold preS at hk1
          refine Go.by (T' := T0) (g' := (mkF m 49 #[.val (.ref a), .val (.int ti), .val (.int tn), .val (.ref d), .val (.int si), .val (.int sn), .val (.int (tn - ti)), .val (.int ok0)] [(.int ok0)])) (fun t k => ?_) ?_
          · show Steps p.tables e below (T0.setTop (mkF m 44 #[.val (.ref a), .val (.int ti), .val (.int tn), .val (.ref d), .val (.int si), .val (.int sn), .val (.int (tn - ti)), .val (.int ok0)] [(.int (1 : Int32)), (.int (tn - ti))])) _
            refine XS.icmpNo X0.here hx rfl (hb hby d_m3_44) rfl (tlt hy13).2.2.2 ?_
            show Steps p.tables e below (T0.setTop (mkF m 47 #[.val (.ref a), .val (.int ti), .val (.int tn), .val (.ref d), .val (.int si), .val (.int sn), .val (.int (tn - ti)), .val (.int ok0)] [])) _
            refine XS.iload X0.here hx rfl (hb hby d_m3_47) rfl ?_
            exact k
          by_cases hy14 : ok0 = (0 : Int32)
          · skip
            replace hk1 := (if_pos hy14).symm.trans hk1
            refine Go.by (T' := T0) (g' := (mkF m 73 #[.val (.ref a), .val (.int ti), .val (.int tn), .val (.ref d), .val (.int si), .val (.int sn), .val (.int (tn - ti)), .val (.int (0 : Int32))] [])) (fun t k => ?_) ?_
            · show Steps p.tables e below (T0.setTop (mkF m 49 #[.val (.ref a), .val (.int ti), .val (.int tn), .val (.ref d), .val (.int si), .val (.int sn), .val (.int (tn - ti)), .val (.int ok0)] [(.int ok0)])) _
              refine XS.ifYes X0.here hx rfl (pc0 := 49) (pc' := 70) rfl (hb hby d_m3_49) rfl ((if0 _ _).trans (teq hy14).1) (by decide) (by decide) ?_
              show Steps p.tables e below (T0.setTop (mkF m 70 #[.val (.ref a), .val (.int ti), .val (.int tn), .val (.ref d), .val (.int si), .val (.int sn), .val (.int (tn - ti)), .val (.int ok0)] [])) _
              refine XS.iconst X0.here hx rfl (hb hby d_m3_70) ?_
              show Steps p.tables e below (T0.setTop (mkF m 71 #[.val (.ref a), .val (.int ti), .val (.int tn), .val (.ref d), .val (.int si), .val (.int sn), .val (.int (tn - ti)), .val (.int ok0)] [(.int (0 : Int32))])) _
              refine XS.istore X0.here hx rfl (hb hby d_m3_71) rfl (l' := #[.val (.ref a), .val (.int ti), .val (.int tn), .val (.ref d), .val (.int si), .val (.int sn), .val (.int (tn - ti)), .val (.int (0 : Int32))]) rfl ?_
              exact k
            exact J4 _ (Option.some.inj hk1) (Or.inl rfl)
          · skip
            replace hk1 := (if_neg hy14).symm.trans hk1
            refine Go.by (T' := T0) (g' := (mkF m 56 #[.val (.ref a), .val (.int ti), .val (.int tn), .val (.ref d), .val (.int si), .val (.int sn), .val (.int (tn - ti)), .val (.int ok0)] [(.int (ti + (1 : Int32))), (.ref a)])) (fun t k => ?_) ?_
            · show Steps p.tables e below (T0.setTop (mkF m 49 #[.val (.ref a), .val (.int ti), .val (.int tn), .val (.ref d), .val (.int si), .val (.int sn), .val (.int (tn - ti)), .val (.int ok0)] [(.int ok0)])) _
              refine XS.ifNo X0.here hx rfl (hb hby d_m3_49) rfl ((if0 _ _).trans (feq hy14).1) ?_
              show Steps p.tables e below (T0.setTop (mkF m 52 #[.val (.ref a), .val (.int ti), .val (.int tn), .val (.ref d), .val (.int si), .val (.int sn), .val (.int (tn - ti)), .val (.int ok0)] [])) _
              refine XS.aloadN X0.here hx rfl (hb hby d_m3_52) rfl rfl ?_
              show Steps p.tables e below (T0.setTop (mkF m 53 #[.val (.ref a), .val (.int ti), .val (.int tn), .val (.ref d), .val (.int si), .val (.int sn), .val (.int (tn - ti)), .val (.int ok0)] [(.ref a)])) _
              refine XS.iloadN X0.here hx rfl (hb hby d_m3_53) rfl ?_
              show Steps p.tables e below (T0.setTop (mkF m 54 #[.val (.ref a), .val (.int ti), .val (.int tn), .val (.ref d), .val (.int si), .val (.int sn), .val (.int (tn - ti)), .val (.int ok0)] [(.int ti), (.ref a)])) _
              refine XS.iconst X0.here hx rfl (hb hby d_m3_54) ?_
              show Steps p.tables e below (T0.setTop (mkF m 55 #[.val (.ref a), .val (.int ti), .val (.int tn), .val (.ref d), .val (.int si), .val (.int sn), .val (.int (tn - ti)), .val (.int ok0)] [(.int (1 : Int32)), (.int ti), (.ref a)])) _
              refine XS.iadd X0.here hx rfl (hb hby d_m3_55) rfl ?_
              exact k
            obtain ⟨x1, hv_x1, hk1⟩ := ob hk1
            refine Go.iaL X0 hx hZ e0 I_a (j := (ti + (1 : Int32))) hv_x1 (hb hby d_m3_56) ?_
            show Go p e below _ T0 (mkF m 57 #[.val (.ref a), .val (.int ti), .val (.int tn), .val (.ref d), .val (.int si), .val (.int sn), .val (.int (tn - ti)), .val (.int ok0)] [(.int x1)])
            refine Go.by (T' := T0) (g' := (mkF m 62 #[.val (.ref a), .val (.int ti), .val (.int tn), .val (.ref d), .val (.int si), .val (.int sn), .val (.int (tn - ti)), .val (.int ok0)] [(.int (si + (1 : Int32))), (.ref d), (.int x1)])) (fun t k => ?_) ?_
            · show Steps p.tables e below (T0.setTop (mkF m 57 #[.val (.ref a), .val (.int ti), .val (.int tn), .val (.ref d), .val (.int si), .val (.int sn), .val (.int (tn - ti)), .val (.int ok0)] [(.int x1)])) _
              refine XS.aloadN X0.here hx rfl (hb hby d_m3_57) rfl rfl ?_
              show Steps p.tables e below (T0.setTop (mkF m 58 #[.val (.ref a), .val (.int ti), .val (.int tn), .val (.ref d), .val (.int si), .val (.int sn), .val (.int (tn - ti)), .val (.int ok0)] [(.ref d), (.int x1)])) _
              refine XS.iload X0.here hx rfl (hb hby d_m3_58) rfl ?_
              show Steps p.tables e below (T0.setTop (mkF m 60 #[.val (.ref a), .val (.int ti), .val (.int tn), .val (.ref d), .val (.int si), .val (.int sn), .val (.int (tn - ti)), .val (.int ok0)] [(.int si), (.ref d), (.int x1)])) _
              refine XS.iconst X0.here hx rfl (hb hby d_m3_60) ?_
              show Steps p.tables e below (T0.setTop (mkF m 61 #[.val (.ref a), .val (.int ti), .val (.int tn), .val (.ref d), .val (.int si), .val (.int sn), .val (.int (tn - ti)), .val (.int ok0)] [(.int (1 : Int32)), (.int si), (.ref d), (.int x1)])) _
              refine XS.iadd X0.here hx rfl (hb hby d_m3_61) rfl ?_
              exact k
            obtain ⟨y1, hv_y1, hk1⟩ := ob hk1
            refine Go.iaL X0 hx hZ e0 I_d (j := (si + (1 : Int32))) hv_y1 (hb hby d_m3_62) ?_
            show Go p e below _ T0 (mkF m 63 #[.val (.ref a), .val (.int ti), .val (.int tn), .val (.ref d), .val (.int si), .val (.int sn), .val (.int (tn - ti)), .val (.int ok0)] [(.int y1), (.int x1)])
            by_cases hy15 : x1 = y1
            · skip
              replace hk1 := (if_pos hy15).symm.trans hk1
              refine Go.by (T' := T0) (g' := (mkF m 73 #[.val (.ref a), .val (.int ti), .val (.int tn), .val (.ref d), .val (.int si), .val (.int sn), .val (.int (tn - ti)), .val (.int (1 : Int32))] [])) (fun t k => ?_) ?_
              · show Steps p.tables e below (T0.setTop (mkF m 63 #[.val (.ref a), .val (.int ti), .val (.int tn), .val (.ref d), .val (.int si), .val (.int sn), .val (.int (tn - ti)), .val (.int ok0)] [(.int y1), (.int x1)])) _
                refine XS.icmpNo X0.here hx rfl (hb hby d_m3_63) rfl (teq hy15).2 ?_
                show Steps p.tables e below (T0.setTop (mkF m 66 #[.val (.ref a), .val (.int ti), .val (.int tn), .val (.ref d), .val (.int si), .val (.int sn), .val (.int (tn - ti)), .val (.int ok0)] [])) _
                refine XS.iconst X0.here hx rfl (hb hby d_m3_66) ?_
                show Steps p.tables e below (T0.setTop (mkF m 67 #[.val (.ref a), .val (.int ti), .val (.int tn), .val (.ref d), .val (.int si), .val (.int sn), .val (.int (tn - ti)), .val (.int ok0)] [(.int (1 : Int32))])) _
                refine XS.goto X0.here hx rfl (pc0 := 67) (pc' := 71) rfl (hb hby d_m3_67) (by decide) (by decide) ?_
                show Steps p.tables e below (T0.setTop (mkF m 71 #[.val (.ref a), .val (.int ti), .val (.int tn), .val (.ref d), .val (.int si), .val (.int sn), .val (.int (tn - ti)), .val (.int ok0)] [(.int (1 : Int32))])) _
                refine XS.istore X0.here hx rfl (hb hby d_m3_71) rfl (l' := #[.val (.ref a), .val (.int ti), .val (.int tn), .val (.ref d), .val (.int si), .val (.int sn), .val (.int (tn - ti)), .val (.int (1 : Int32))]) rfl ?_
                exact k
              exact J4 _ (Option.some.inj hk1) (Or.inr rfl)
            · skip
              replace hk1 := (if_neg hy15).symm.trans hk1
              refine Go.by (T' := T0) (g' := (mkF m 73 #[.val (.ref a), .val (.int ti), .val (.int tn), .val (.ref d), .val (.int si), .val (.int sn), .val (.int (tn - ti)), .val (.int (0 : Int32))] [])) (fun t k => ?_) ?_
              · show Steps p.tables e below (T0.setTop (mkF m 63 #[.val (.ref a), .val (.int ti), .val (.int tn), .val (.ref d), .val (.int si), .val (.int sn), .val (.int (tn - ti)), .val (.int ok0)] [(.int y1), (.int x1)])) _
                refine XS.icmpYes X0.here hx rfl (pc0 := 63) (pc' := 70) rfl (hb hby d_m3_63) rfl (feq hy15).2 (by decide) (by decide) ?_
                show Steps p.tables e below (T0.setTop (mkF m 70 #[.val (.ref a), .val (.int ti), .val (.int tn), .val (.ref d), .val (.int si), .val (.int sn), .val (.int (tn - ti)), .val (.int ok0)] [])) _
                refine XS.iconst X0.here hx rfl (hb hby d_m3_70) ?_
                show Steps p.tables e below (T0.setTop (mkF m 71 #[.val (.ref a), .val (.int ti), .val (.int tn), .val (.ref d), .val (.int si), .val (.int sn), .val (.int (tn - ti)), .val (.int ok0)] [(.int (0 : Int32))])) _
                refine XS.istore X0.here hx rfl (hb hby d_m3_71) rfl (l' := #[.val (.ref a), .val (.int ti), .val (.int tn), .val (.ref d), .val (.int si), .val (.int sn), .val (.int (tn - ti)), .val (.int (0 : Int32))]) rfl ?_
                exact k
              exact J4 _ (Option.some.inj hk1) (Or.inl rfl)
        · skip
          replace hk1 := (if_neg hy13).symm.trans hk1
          refine Go.by (T' := T0) (g' := (mkF m 73 #[.val (.ref a), .val (.int ti), .val (.int tn), .val (.ref d), .val (.int si), .val (.int sn), .val (.int (tn - ti)), .val (.int ok0)] [])) (fun t k => ?_) ?_
          · show Steps p.tables e below (T0.setTop (mkF m 44 #[.val (.ref a), .val (.int ti), .val (.int tn), .val (.ref d), .val (.int si), .val (.int sn), .val (.int (tn - ti)), .val (.int ok0)] [(.int (1 : Int32)), (.int (tn - ti))])) _
            refine XS.icmpYes X0.here hx rfl (pc0 := 44) (pc' := 73) rfl (hb hby d_m3_44) rfl (flt hy13).2.2.2 (by decide) (by decide) ?_
            exact k
          exact J4 _ (Option.some.inj hk1) hb0
      by_cases hy16 : x0 = y0
      · skip
        replace hk0 := (if_pos hy16).symm.trans hk0
        refine Go.by (T' := T0) (g' := (mkF m 39 #[.val (.ref a), .val (.int ti), .val (.int tn), .val (.ref d), .val (.int si), .val (.int sn), .val (.int (tn - ti)), .unset] [(.int (1 : Int32))])) (fun t k => ?_) ?_
        · show Steps p.tables e below (T0.setTop (mkF m 31 #[.val (.ref a), .val (.int ti), .val (.int tn), .val (.ref d), .val (.int si), .val (.int sn), .val (.int (tn - ti)), .unset] [(.int y0), (.int x0)])) _
          refine XS.icmpNo X0.here hx rfl (hb hby d_m3_31) rfl (teq hy16).2 ?_
          show Steps p.tables e below (T0.setTop (mkF m 34 #[.val (.ref a), .val (.int ti), .val (.int tn), .val (.ref d), .val (.int si), .val (.int sn), .val (.int (tn - ti)), .unset] [])) _
          refine XS.iconst X0.here hx rfl (hb hby d_m3_34) ?_
          show Steps p.tables e below (T0.setTop (mkF m 35 #[.val (.ref a), .val (.int ti), .val (.int tn), .val (.ref d), .val (.int si), .val (.int sn), .val (.int (tn - ti)), .unset] [(.int (1 : Int32))])) _
          refine XS.goto X0.here hx rfl (pc0 := 35) (pc' := 39) rfl (hb hby d_m3_35) (by decide) (by decide) ?_
          exact k
        exact J3 _ (Option.some.inj hk0) (Or.inr rfl)
      · skip
        replace hk0 := (if_neg hy16).symm.trans hk0
        refine Go.by (T' := T0) (g' := (mkF m 39 #[.val (.ref a), .val (.int ti), .val (.int tn), .val (.ref d), .val (.int si), .val (.int sn), .val (.int (tn - ti)), .unset] [(.int (0 : Int32))])) (fun t k => ?_) ?_
        · show Steps p.tables e below (T0.setTop (mkF m 31 #[.val (.ref a), .val (.int ti), .val (.int tn), .val (.ref d), .val (.int si), .val (.int sn), .val (.int (tn - ti)), .unset] [(.int y0), (.int x0)])) _
          refine XS.icmpYes X0.here hx rfl (pc0 := 31) (pc' := 38) rfl (hb hby d_m3_31) rfl (feq hy16).2 (by decide) (by decide) ?_
          show Steps p.tables e below (T0.setTop (mkF m 38 #[.val (.ref a), .val (.int ti), .val (.int tn), .val (.ref d), .val (.int si), .val (.int sn), .val (.int (tn - ti)), .unset] [])) _
          refine XS.iconst X0.here hx rfl (hb hby d_m3_38) ?_
          exact k
        exact J3 _ (Option.some.inj hk0) (Or.inl rfl)
  · skip
    replace H := (if_neg hy1).symm.trans H
    refine Go.by (T' := T0) (g' := (mkF m 11 #[.val (.ref a), .val (.int ti), .val (.int tn), .val (.ref d), .val (.int si), .val (.int sn), .val (.int (tn - ti)), .unset] [(.int (1 : Int32))])) (fun t k => ?_) ?_
    · show Steps p.tables e below (T0.setTop (mkF m 7 #[.val (.ref a), .val (.int ti), .val (.int tn), .val (.ref d), .val (.int si), .val (.int sn), .val (.int (tn - ti)), .unset] [(.int (tn - ti))])) _
      refine XS.ifNo X0.here hx rfl (hb hby d_m3_7) rfl ((if0 _ _).trans (flt hy1).2.2.1) ?_
      show Steps p.tables e below (T0.setTop (mkF m 10 #[.val (.ref a), .val (.int ti), .val (.int tn), .val (.ref d), .val (.int si), .val (.int sn), .val (.int (tn - ti)), .unset] [])) _
      refine XS.iconst X0.here hx rfl (hb hby d_m3_10) ?_
      exact k
    refine Go.retZ X0 hx hlk hret (Or.inr rfl) (hb hby d_m3_11) (by decide) (by decide) e0 ?_
    cases H
    exact ⟨rfl, N0, rfl, Or.inr rfl⟩
set_option maxRecDepth 65536 in
set_option maxHeartbeats 40000000 in
theorem ct_one (l : Launch) (Z : State) (a0 : Array Value) (hw : ∀ d ∈ tables_1, d.before a0 Z = true) (a : Nat) (d : Nat) (xt : List Int32) (xs : List Int32) (tn : Int32) (sn : Int32) (j : Int32) (r : Int32) (h0 : Heap) (n0 : Nat) (O : Old Z n0 h0) (I_a : IA Z h0 a xt) (I_d : IA Z h0 d xs) (hm : oneM xt tn xs sn j = some r) :
    Ct l (⟨"com/example/shingle/shingle/EditDistanceIsOutOfReachPinLaw", "oneEdit", "([II[III)Z"⟩ : MethodName) method_4_code 9 (some .boolean) ({ frames := 1, cells := 0, slots := 0, locals := 19 } : Room) Z #[(.ref a), (.int tn), (.ref d), (.int sn), (.int j)] h0 (fun v h L => v = some (.int r) ∧ Fr n0 L ∧ h0 = h ∧ (r = 0 ∨ r = 1)) := by
  refine Ct.of (plainFor_of_name pn_EditDistanceIsOutOfReachPinLaw_141) ?_
  intro p e s m below meth c T0 X0 hx hby hml hown hnm hret hlk hZ e0
  have hown : s.vm.findClass "com/example/shingle/shingle/EditDistanceIsOutOfReachPinLaw" = some m.cls := hown
  have hml : c.maxLocals = 9 := hml
  have N0 := Fr.nil n0
  have H := hm
  unfold oneM at H
  refine Go.cast (g' := mkF m 0 #[.val (.ref a), .val (.int tn), .val (.ref d), .val (.int sn), .val (.int j), .unset, .unset, .unset, .unset] []) (by first | (simp [entryFrame, mkF, argsToLocals, Value.category]; done) | rfl) ?_
  refine Go.by (T' := T0) (g' := (mkF m 3 #[.val (.ref a), .val (.int tn), .val (.ref d), .val (.int sn), .val (.int j), .unset, .unset, .unset, .unset] [(.int tn), (.int j)])) (fun t k => ?_) ?_
  · show Steps p.tables e below (T0.setTop (mkF m 0 #[.val (.ref a), .val (.int tn), .val (.ref d), .val (.int sn), .val (.int j), .unset, .unset, .unset, .unset] [])) _
    refine XS.iload X0.here hx rfl (hb hby d_m4_0) rfl ?_
    show Steps p.tables e below (T0.setTop (mkF m 2 #[.val (.ref a), .val (.int tn), .val (.ref d), .val (.int sn), .val (.int j), .unset, .unset, .unset, .unset] [(.int j)])) _
    refine XS.iloadN X0.here hx rfl (hb hby d_m4_2) rfl ?_
    exact k
  by_cases hy1 : j < tn
  · skip
    replace H := (if_pos hy1).symm.trans H
    refine Go.by (T' := T0) (g' := (mkF m 15 #[.val (.ref a), .val (.int tn), .val (.ref d), .val (.int sn), .val (.int j), .unset, .unset, .unset, .unset] [(.int sn), (.int (0 : Int32)), (.ref d), (.int j), (.int (0 : Int32)), (.ref a)])) (fun t k => ?_) ?_
    · show Steps p.tables e below (T0.setTop (mkF m 3 #[.val (.ref a), .val (.int tn), .val (.ref d), .val (.int sn), .val (.int j), .unset, .unset, .unset, .unset] [(.int tn), (.int j)])) _
      refine XS.icmpYes X0.here hx rfl (pc0 := 3) (pc' := 8) rfl (hb hby d_m4_3) rfl (tlt hy1).1 (by decide) (by decide) ?_
      show Steps p.tables e below (T0.setTop (mkF m 8 #[.val (.ref a), .val (.int tn), .val (.ref d), .val (.int sn), .val (.int j), .unset, .unset, .unset, .unset] [])) _
      refine XS.aloadN X0.here hx rfl (hb hby d_m4_8) rfl rfl ?_
      show Steps p.tables e below (T0.setTop (mkF m 9 #[.val (.ref a), .val (.int tn), .val (.ref d), .val (.int sn), .val (.int j), .unset, .unset, .unset, .unset] [(.ref a)])) _
      refine XS.iconst X0.here hx rfl (hb hby d_m4_9) ?_
      show Steps p.tables e below (T0.setTop (mkF m 10 #[.val (.ref a), .val (.int tn), .val (.ref d), .val (.int sn), .val (.int j), .unset, .unset, .unset, .unset] [(.int (0 : Int32)), (.ref a)])) _
      refine XS.iload X0.here hx rfl (hb hby d_m4_10) rfl ?_
      show Steps p.tables e below (T0.setTop (mkF m 12 #[.val (.ref a), .val (.int tn), .val (.ref d), .val (.int sn), .val (.int j), .unset, .unset, .unset, .unset] [(.int j), (.int (0 : Int32)), (.ref a)])) _
      refine XS.aloadN X0.here hx rfl (hb hby d_m4_12) rfl rfl ?_
      show Steps p.tables e below (T0.setTop (mkF m 13 #[.val (.ref a), .val (.int tn), .val (.ref d), .val (.int sn), .val (.int j), .unset, .unset, .unset, .unset] [(.ref d), (.int j), (.int (0 : Int32)), (.ref a)])) _
      refine XS.iconst X0.here hx rfl (hb hby d_m4_13) ?_
      show Steps p.tables e below (T0.setTop (mkF m 14 #[.val (.ref a), .val (.int tn), .val (.ref d), .val (.int sn), .val (.int j), .unset, .unset, .unset, .unset] [(.int (0 : Int32)), (.ref d), (.int j), (.int (0 : Int32)), (.ref a)])) _
      refine XS.iloadN X0.here hx rfl (hb hby d_m4_14) rfl ?_
      exact k
    obtain ⟨r2, hr2, H⟩ := ob H
    refine Go.callS X0 hx hZ (W := 0) (argsL := [(.ref a), (.int (0 : Int32)), (.int j), (.ref d), (.int (0 : Int32)), (.int sn)]) (rest := []) hown (wd hw 52 rfl) (wd hw 53 rfl) (wd hw 54 rfl) (wd hw 55 rfl) (by decide) (ct_pre l Z a0 hw  a d xt xs (0 : Int32) j (0 : Int32) sn r2 h0 n0 O I_a I_d hr2) e0 (by rw [hml]; rfl) (lenOf pd___III_III_Z_6087 rfl) rfl rfl (hb hby d_m4_15) (by decide) (by decide) (by decide) (by decide) ?_
    intro v3 T3 h3 L3 X3 e3 q3
    obtain ⟨rfl, N3, rfl, hb3⟩ := q3
    replace N3 := Fr.app N0 N3
    show Go p e below _ T3 (mkF m 18 #[.val (.ref a), .val (.int tn), .val (.ref d), .val (.int sn), .val (.int j), .unset, .unset, .unset, .unset] [(.int r2)])
    by_cases hy4 : r2 = (0 : Int32)
    · skip
      replace H := (if_pos hy4).symm.trans H
      refine Go.by (T' := T3) (g' := (mkF m 22 #[.val (.ref a), .val (.int tn), .val (.ref d), .val (.int sn), .val (.int j), .unset, .unset, .unset, .unset] [(.int (0 : Int32))])) (fun t k => ?_) ?_
      · show Steps p.tables e below (T3.setTop (mkF m 18 #[.val (.ref a), .val (.int tn), .val (.ref d), .val (.int sn), .val (.int j), .unset, .unset, .unset, .unset] [(.int r2)])) _
        refine XS.ifNo X3.here hx rfl (hb hby d_m4_18) rfl ((if0 _ _).trans (teq hy4).2) ?_
        show Steps p.tables e below (T3.setTop (mkF m 21 #[.val (.ref a), .val (.int tn), .val (.ref d), .val (.int sn), .val (.int j), .unset, .unset, .unset, .unset] [])) _
        refine XS.iconst X3.here hx rfl (hb hby d_m4_21) ?_
        exact k
      refine Go.retZ X3 hx hlk hret (Or.inl rfl) (hb hby d_m4_22) (by decide) (by decide) e3 ?_
      cases H
      exact ⟨rfl, N3, rfl, Or.inl rfl⟩
    · skip
      replace H := (if_neg hy4).symm.trans H
      refine Go.by (T' := T3) (g' := (mkF m 26 #[.val (.ref a), .val (.int tn), .val (.ref d), .val (.int sn), .val (.int j), .unset, .unset, .unset, .unset] [(.int sn), (.int j)])) (fun t k => ?_) ?_
      · show Steps p.tables e below (T3.setTop (mkF m 18 #[.val (.ref a), .val (.int tn), .val (.ref d), .val (.int sn), .val (.int j), .unset, .unset, .unset, .unset] [(.int r2)])) _
        refine XS.ifYes X3.here hx rfl (pc0 := 18) (pc' := 23) rfl (hb hby d_m4_18) rfl ((if0 _ _).trans (feq hy4).2) (by decide) (by decide) ?_
        show Steps p.tables e below (T3.setTop (mkF m 23 #[.val (.ref a), .val (.int tn), .val (.ref d), .val (.int sn), .val (.int j), .unset, .unset, .unset, .unset] [])) _
        refine XS.iload X3.here hx rfl (hb hby d_m4_23) rfl ?_
        show Steps p.tables e below (T3.setTop (mkF m 25 #[.val (.ref a), .val (.int tn), .val (.ref d), .val (.int sn), .val (.int j), .unset, .unset, .unset, .unset] [(.int j)])) _
        refine XS.iloadN X3.here hx rfl (hb hby d_m4_25) rfl ?_
        exact k
      obtain ⟨k1, hk1, H⟩ := ob H
      have J5 : ∀ (u5 : Int32) (T5 : State) (L5 : List Loc), (Stand p l e ({ frames := 1, cells := 0, slots := 0, locals := 19 } : Room) s m #[(.ref a), (.int tn), (.ref d), (.int sn), (.int j)] below meth c T5 L5 0 0) → (T5.heap = h0) → (Fr n0 L5) → (u5 = k1) → Go p e below (EndF s ({ frames := 1, cells := 0, slots := 0, locals := 19 } : Room).cells ({ frames := 1, cells := 0, slots := 0, locals := 19 } : Room).slots (fun v h L => v = some (.int r) ∧ Fr n0 L ∧ h0 = h ∧ (r = 0 ∨ r = 1))) T5 (mkF m 54 #[.val (.ref a), .val (.int tn), .val (.ref d), .val (.int sn), .val (.int j), .val (.int u5), .unset, .unset, .unset] []) := by
        intro u5 T5 L5 X5 e5 N5 hq1
        rw [← hq1] at H
        refine Go.by (T' := T5) (g' := (mkF m 64 #[.val (.ref a), .val (.int tn), .val (.ref d), .val (.int sn), .val (.int j), .val (.int u5), .unset, .unset, .unset] [(.int sn), (.int j), (.ref d), (.int tn), (.int (j + (1 : Int32))), (.ref a)])) (fun t k => ?_) ?_
        · show Steps p.tables e below (T5.setTop (mkF m 54 #[.val (.ref a), .val (.int tn), .val (.ref d), .val (.int sn), .val (.int j), .val (.int u5), .unset, .unset, .unset] [])) _
          refine XS.aloadN X5.here hx rfl (hb hby d_m4_54) rfl rfl ?_
          show Steps p.tables e below (T5.setTop (mkF m 55 #[.val (.ref a), .val (.int tn), .val (.ref d), .val (.int sn), .val (.int j), .val (.int u5), .unset, .unset, .unset] [(.ref a)])) _
          refine XS.iload X5.here hx rfl (hb hby d_m4_55) rfl ?_
          show Steps p.tables e below (T5.setTop (mkF m 57 #[.val (.ref a), .val (.int tn), .val (.ref d), .val (.int sn), .val (.int j), .val (.int u5), .unset, .unset, .unset] [(.int j), (.ref a)])) _
          refine XS.iconst X5.here hx rfl (hb hby d_m4_57) ?_
          show Steps p.tables e below (T5.setTop (mkF m 58 #[.val (.ref a), .val (.int tn), .val (.ref d), .val (.int sn), .val (.int j), .val (.int u5), .unset, .unset, .unset] [(.int (1 : Int32)), (.int j), (.ref a)])) _
          refine XS.iadd X5.here hx rfl (hb hby d_m4_58) rfl ?_
          show Steps p.tables e below (T5.setTop (mkF m 59 #[.val (.ref a), .val (.int tn), .val (.ref d), .val (.int sn), .val (.int j), .val (.int u5), .unset, .unset, .unset] [(.int (j + (1 : Int32))), (.ref a)])) _
          refine XS.iloadN X5.here hx rfl (hb hby d_m4_59) rfl ?_
          show Steps p.tables e below (T5.setTop (mkF m 60 #[.val (.ref a), .val (.int tn), .val (.ref d), .val (.int sn), .val (.int j), .val (.int u5), .unset, .unset, .unset] [(.int tn), (.int (j + (1 : Int32))), (.ref a)])) _
          refine XS.aloadN X5.here hx rfl (hb hby d_m4_60) rfl rfl ?_
          show Steps p.tables e below (T5.setTop (mkF m 61 #[.val (.ref a), .val (.int tn), .val (.ref d), .val (.int sn), .val (.int j), .val (.int u5), .unset, .unset, .unset] [(.ref d), (.int tn), (.int (j + (1 : Int32))), (.ref a)])) _
          refine XS.iload X5.here hx rfl (hb hby d_m4_61) rfl ?_
          show Steps p.tables e below (T5.setTop (mkF m 63 #[.val (.ref a), .val (.int tn), .val (.ref d), .val (.int sn), .val (.int j), .val (.int u5), .unset, .unset, .unset] [(.int j), (.ref d), (.int tn), (.int (j + (1 : Int32))), (.ref a)])) _
          refine XS.iloadN X5.here hx rfl (hb hby d_m4_63) rfl ?_
          exact k
        obtain ⟨r6, hr6, H⟩ := ob H
        refine Go.callS X5 hx hZ (W := 0) (argsL := [(.ref a), (.int (j + (1 : Int32))), (.int tn), (.ref d), (.int j), (.int sn)]) (rest := []) hown (wd hw 52 rfl) (wd hw 53 rfl) (wd hw 54 rfl) (wd hw 55 rfl) (by decide) (ct_pre l Z a0 hw  a d xt xs (j + (1 : Int32)) tn j sn r6 h0 n0 O I_a I_d hr6) e5 (by rw [hml]; rfl) (lenOf pd___III_III_Z_6087 rfl) rfl rfl (hb hby d_m4_64) (by decide) (by decide) (by decide) (by decide) ?_
        intro v7 T7 h7 L7 X7 e7 q7
        obtain ⟨rfl, N7, rfl, hb7⟩ := q7
        replace N7 := Fr.app N5 N7
        show Go p e below _ T7 (mkF m 67 #[.val (.ref a), .val (.int tn), .val (.ref d), .val (.int sn), .val (.int j), .val (.int u5), .unset, .unset, .unset] [(.int r6)])
        refine Go.by (T' := T7) (g' := (mkF m 72 #[.val (.ref a), .val (.int tn), .val (.ref d), .val (.int sn), .val (.int j), .val (.int u5), .val (.int r6), .unset, .unset] [(.int sn), (.int j)])) (fun t k => ?_) ?_
        · show Steps p.tables e below (T7.setTop (mkF m 67 #[.val (.ref a), .val (.int tn), .val (.ref d), .val (.int sn), .val (.int j), .val (.int u5), .unset, .unset, .unset] [(.int r6)])) _
          refine XS.istore X7.here hx rfl (hb hby d_m4_67) rfl (l' := #[.val (.ref a), .val (.int tn), .val (.ref d), .val (.int sn), .val (.int j), .val (.int u5), .val (.int r6), .unset, .unset]) rfl ?_
          show Steps p.tables e below (T7.setTop (mkF m 69 #[.val (.ref a), .val (.int tn), .val (.ref d), .val (.int sn), .val (.int j), .val (.int u5), .val (.int r6), .unset, .unset] [])) _
          refine XS.iload X7.here hx rfl (hb hby d_m4_69) rfl ?_
          show Steps p.tables e below (T7.setTop (mkF m 71 #[.val (.ref a), .val (.int tn), .val (.ref d), .val (.int sn), .val (.int j), .val (.int u5), .val (.int r6), .unset, .unset] [(.int j)])) _
          refine XS.iloadN X7.here hx rfl (hb hby d_m4_71) rfl ?_
          exact k
        obtain ⟨k3, hk3, H⟩ := ob H
        have J8 : ∀ (u7 : Int32) (T8 : State) (L8 : List Loc), (Stand p l e ({ frames := 1, cells := 0, slots := 0, locals := 19 } : Room) s m #[(.ref a), (.int tn), (.ref d), (.int sn), (.int j)] below meth c T8 L8 0 0) → (T8.heap = h0) → (Fr n0 L8) → (u7 = k3) → Go p e below (EndF s ({ frames := 1, cells := 0, slots := 0, locals := 19 } : Room).cells ({ frames := 1, cells := 0, slots := 0, locals := 19 } : Room).slots (fun v h L => v = some (.int r) ∧ Fr n0 L ∧ h0 = h ∧ (r = 0 ∨ r = 1))) T8 (mkF m 98 #[.val (.ref a), .val (.int tn), .val (.ref d), .val (.int sn), .val (.int j), .val (.int u5), .val (.int r6), .val (.int u7), .unset] []) := by
          intro u7 T8 L8 X8 e8 N8 hq3
          rw [← hq3] at H
          refine Go.by (T' := T8) (g' := (mkF m 103 #[.val (.ref a), .val (.int tn), .val (.ref d), .val (.int sn), .val (.int j), .val (.int u5), .val (.int r6), .val (.int u7), .unset] [(.int tn), (.int (j + (1 : Int32)))])) (fun t k => ?_) ?_
          · show Steps p.tables e below (T8.setTop (mkF m 98 #[.val (.ref a), .val (.int tn), .val (.ref d), .val (.int sn), .val (.int j), .val (.int u5), .val (.int r6), .val (.int u7), .unset] [])) _
            refine XS.iload X8.here hx rfl (hb hby d_m4_98) rfl ?_
            show Steps p.tables e below (T8.setTop (mkF m 100 #[.val (.ref a), .val (.int tn), .val (.ref d), .val (.int sn), .val (.int j), .val (.int u5), .val (.int r6), .val (.int u7), .unset] [(.int j)])) _
            refine XS.iconst X8.here hx rfl (hb hby d_m4_100) ?_
            show Steps p.tables e below (T8.setTop (mkF m 101 #[.val (.ref a), .val (.int tn), .val (.ref d), .val (.int sn), .val (.int j), .val (.int u5), .val (.int r6), .val (.int u7), .unset] [(.int (1 : Int32)), (.int j)])) _
            refine XS.iadd X8.here hx rfl (hb hby d_m4_101) rfl ?_
            show Steps p.tables e below (T8.setTop (mkF m 102 #[.val (.ref a), .val (.int tn), .val (.ref d), .val (.int sn), .val (.int j), .val (.int u5), .val (.int r6), .val (.int u7), .unset] [(.int (j + (1 : Int32)))])) _
            refine XS.iloadN X8.here hx rfl (hb hby d_m4_102) rfl ?_
            exact k
          obtain ⟨k4, hk4, H⟩ := ob H
          unfold swM at hk4
          have J9 : ∀ (u8 : Int32) (T9 : State) (L9 : List Loc), (Stand p l e ({ frames := 1, cells := 0, slots := 0, locals := 19 } : Room) s m #[(.ref a), (.int tn), (.ref d), (.int sn), (.int j)] below meth c T9 L9 0 0) → (T9.heap = h0) → (Fr n0 L9) → (u8 = k4) → Go p e below (EndF s ({ frames := 1, cells := 0, slots := 0, locals := 19 } : Room).cells ({ frames := 1, cells := 0, slots := 0, locals := 19 } : Room).slots (fun v h L => v = some (.int r) ∧ Fr n0 L ∧ h0 = h ∧ (r = 0 ∨ r = 1))) T9 (mkF m 165 #[.val (.ref a), .val (.int tn), .val (.ref d), .val (.int sn), .val (.int j), .val (.int u5), .val (.int r6), .val (.int u7), .val (.int u8)] []) := by
            intro u8 T9 L9 X9 e9 N9 hq4
            rw [← hq4] at H
            refine Go.by (T' := T9) (g' := (mkF m 167 #[.val (.ref a), .val (.int tn), .val (.ref d), .val (.int sn), .val (.int j), .val (.int u5), .val (.int r6), .val (.int u7), .val (.int u8)] [(.int u5)])) (fun t k => ?_) ?_
            · show Steps p.tables e below (T9.setTop (mkF m 165 #[.val (.ref a), .val (.int tn), .val (.ref d), .val (.int sn), .val (.int j), .val (.int u5), .val (.int r6), .val (.int u7), .val (.int u8)] [])) _
              refine XS.iload X9.here hx rfl (hb hby d_m4_165) rfl ?_
              exact k
            by_cases hy10 : u5 = (0 : Int32)
            · skip
              replace H := (if_pos hy10).symm.trans H
              refine Go.by (T' := T9) (g' := (mkF m 172 #[.val (.ref a), .val (.int tn), .val (.ref d), .val (.int sn), .val (.int j), .val (.int u5), .val (.int r6), .val (.int u7), .val (.int u8)] [(.int r6)])) (fun t k => ?_) ?_
              · show Steps p.tables e below (T9.setTop (mkF m 167 #[.val (.ref a), .val (.int tn), .val (.ref d), .val (.int sn), .val (.int j), .val (.int u5), .val (.int r6), .val (.int u7), .val (.int u8)] [(.int u5)])) _
                refine XS.ifNo X9.here hx rfl (hb hby d_m4_167) rfl ((if0 _ _).trans (teq hy10).2) ?_
                show Steps p.tables e below (T9.setTop (mkF m 170 #[.val (.ref a), .val (.int tn), .val (.ref d), .val (.int sn), .val (.int j), .val (.int u5), .val (.int r6), .val (.int u7), .val (.int u8)] [])) _
                refine XS.iload X9.here hx rfl (hb hby d_m4_170) rfl ?_
                exact k
              by_cases hy11 : r6 = (0 : Int32)
              · skip
                replace H := (if_pos hy11).symm.trans H
                refine Go.by (T' := T9) (g' := (mkF m 177 #[.val (.ref a), .val (.int tn), .val (.ref d), .val (.int sn), .val (.int j), .val (.int u5), .val (.int r6), .val (.int u7), .val (.int u8)] [(.int u7)])) (fun t k => ?_) ?_
                · show Steps p.tables e below (T9.setTop (mkF m 172 #[.val (.ref a), .val (.int tn), .val (.ref d), .val (.int sn), .val (.int j), .val (.int u5), .val (.int r6), .val (.int u7), .val (.int u8)] [(.int r6)])) _
                  refine XS.ifNo X9.here hx rfl (hb hby d_m4_172) rfl ((if0 _ _).trans (teq hy11).2) ?_
                  show Steps p.tables e below (T9.setTop (mkF m 175 #[.val (.ref a), .val (.int tn), .val (.ref d), .val (.int sn), .val (.int j), .val (.int u5), .val (.int r6), .val (.int u7), .val (.int u8)] [])) _
                  refine XS.iload X9.here hx rfl (hb hby d_m4_175) rfl ?_
                  exact k
                by_cases hy12 : u7 = (0 : Int32)
                · skip
                  replace H := (if_pos hy12).symm.trans H
                  refine Go.by (T' := T9) (g' := (mkF m 182 #[.val (.ref a), .val (.int tn), .val (.ref d), .val (.int sn), .val (.int j), .val (.int u5), .val (.int r6), .val (.int u7), .val (.int u8)] [(.int u8)])) (fun t k => ?_) ?_
                  · show Steps p.tables e below (T9.setTop (mkF m 177 #[.val (.ref a), .val (.int tn), .val (.ref d), .val (.int sn), .val (.int j), .val (.int u5), .val (.int r6), .val (.int u7), .val (.int u8)] [(.int u7)])) _
                    refine XS.ifNo X9.here hx rfl (hb hby d_m4_177) rfl ((if0 _ _).trans (teq hy12).2) ?_
                    show Steps p.tables e below (T9.setTop (mkF m 180 #[.val (.ref a), .val (.int tn), .val (.ref d), .val (.int sn), .val (.int j), .val (.int u5), .val (.int r6), .val (.int u7), .val (.int u8)] [])) _
                    refine XS.iload X9.here hx rfl (hb hby d_m4_180) rfl ?_
                    exact k
                  by_cases hy13 : u8 = (0 : Int32)
                  · skip
                    replace H := (if_pos hy13).symm.trans H
                    refine Go.by (T' := T9) (g' := (mkF m 190 #[.val (.ref a), .val (.int tn), .val (.ref d), .val (.int sn), .val (.int j), .val (.int u5), .val (.int r6), .val (.int u7), .val (.int u8)] [(.int (0 : Int32))])) (fun t k => ?_) ?_
                    · show Steps p.tables e below (T9.setTop (mkF m 182 #[.val (.ref a), .val (.int tn), .val (.ref d), .val (.int sn), .val (.int j), .val (.int u5), .val (.int r6), .val (.int u7), .val (.int u8)] [(.int u8)])) _
                      refine XS.ifYes X9.here hx rfl (pc0 := 182) (pc' := 189) rfl (hb hby d_m4_182) rfl ((if0 _ _).trans (teq hy13).1) (by decide) (by decide) ?_
                      show Steps p.tables e below (T9.setTop (mkF m 189 #[.val (.ref a), .val (.int tn), .val (.ref d), .val (.int sn), .val (.int j), .val (.int u5), .val (.int r6), .val (.int u7), .val (.int u8)] [])) _
                      refine XS.iconst X9.here hx rfl (hb hby d_m4_189) ?_
                      exact k
                    refine Go.retZ X9 hx hlk hret (Or.inl rfl) (hb hby d_m4_190) (by decide) (by decide) e9 ?_
                    cases H
                    exact ⟨rfl, N9, rfl, Or.inl rfl⟩
                  · skip
                    replace H := (if_neg hy13).symm.trans H
                    refine Go.by (T' := T9) (g' := (mkF m 190 #[.val (.ref a), .val (.int tn), .val (.ref d), .val (.int sn), .val (.int j), .val (.int u5), .val (.int r6), .val (.int u7), .val (.int u8)] [(.int (1 : Int32))])) (fun t k => ?_) ?_
                    · show Steps p.tables e below (T9.setTop (mkF m 182 #[.val (.ref a), .val (.int tn), .val (.ref d), .val (.int sn), .val (.int j), .val (.int u5), .val (.int r6), .val (.int u7), .val (.int u8)] [(.int u8)])) _
                      refine XS.ifNo X9.here hx rfl (hb hby d_m4_182) rfl ((if0 _ _).trans (feq hy13).1) ?_
                      show Steps p.tables e below (T9.setTop (mkF m 185 #[.val (.ref a), .val (.int tn), .val (.ref d), .val (.int sn), .val (.int j), .val (.int u5), .val (.int r6), .val (.int u7), .val (.int u8)] [])) _
                      refine XS.iconst X9.here hx rfl (hb hby d_m4_185) ?_
                      show Steps p.tables e below (T9.setTop (mkF m 186 #[.val (.ref a), .val (.int tn), .val (.ref d), .val (.int sn), .val (.int j), .val (.int u5), .val (.int r6), .val (.int u7), .val (.int u8)] [(.int (1 : Int32))])) _
                      refine XS.goto X9.here hx rfl (pc0 := 186) (pc' := 190) rfl (hb hby d_m4_186) (by decide) (by decide) ?_
                      exact k
                    refine Go.retZ X9 hx hlk hret (Or.inr rfl) (hb hby d_m4_190) (by decide) (by decide) e9 ?_
                    cases H
                    exact ⟨rfl, N9, rfl, Or.inr rfl⟩
                · skip
                  replace H := (if_neg hy12).symm.trans H
                  refine Go.by (T' := T9) (g' := (mkF m 190 #[.val (.ref a), .val (.int tn), .val (.ref d), .val (.int sn), .val (.int j), .val (.int u5), .val (.int r6), .val (.int u7), .val (.int u8)] [(.int (1 : Int32))])) (fun t k => ?_) ?_
                  · show Steps p.tables e below (T9.setTop (mkF m 177 #[.val (.ref a), .val (.int tn), .val (.ref d), .val (.int sn), .val (.int j), .val (.int u5), .val (.int r6), .val (.int u7), .val (.int u8)] [(.int u7)])) _
                    refine XS.ifYes X9.here hx rfl (pc0 := 177) (pc' := 185) rfl (hb hby d_m4_177) rfl ((if0 _ _).trans (feq hy12).2) (by decide) (by decide) ?_
                    show Steps p.tables e below (T9.setTop (mkF m 185 #[.val (.ref a), .val (.int tn), .val (.ref d), .val (.int sn), .val (.int j), .val (.int u5), .val (.int r6), .val (.int u7), .val (.int u8)] [])) _
                    refine XS.iconst X9.here hx rfl (hb hby d_m4_185) ?_
                    show Steps p.tables e below (T9.setTop (mkF m 186 #[.val (.ref a), .val (.int tn), .val (.ref d), .val (.int sn), .val (.int j), .val (.int u5), .val (.int r6), .val (.int u7), .val (.int u8)] [(.int (1 : Int32))])) _
                    refine XS.goto X9.here hx rfl (pc0 := 186) (pc' := 190) rfl (hb hby d_m4_186) (by decide) (by decide) ?_
                    exact k
                  refine Go.retZ X9 hx hlk hret (Or.inr rfl) (hb hby d_m4_190) (by decide) (by decide) e9 ?_
                  cases H
                  exact ⟨rfl, N9, rfl, Or.inr rfl⟩
              · skip
                replace H := (if_neg hy11).symm.trans H
                refine Go.by (T' := T9) (g' := (mkF m 190 #[.val (.ref a), .val (.int tn), .val (.ref d), .val (.int sn), .val (.int j), .val (.int u5), .val (.int r6), .val (.int u7), .val (.int u8)] [(.int (1 : Int32))])) (fun t k => ?_) ?_
                · show Steps p.tables e below (T9.setTop (mkF m 172 #[.val (.ref a), .val (.int tn), .val (.ref d), .val (.int sn), .val (.int j), .val (.int u5), .val (.int r6), .val (.int u7), .val (.int u8)] [(.int r6)])) _
                  refine XS.ifYes X9.here hx rfl (pc0 := 172) (pc' := 185) rfl (hb hby d_m4_172) rfl ((if0 _ _).trans (feq hy11).2) (by decide) (by decide) ?_
                  show Steps p.tables e below (T9.setTop (mkF m 185 #[.val (.ref a), .val (.int tn), .val (.ref d), .val (.int sn), .val (.int j), .val (.int u5), .val (.int r6), .val (.int u7), .val (.int u8)] [])) _
                  refine XS.iconst X9.here hx rfl (hb hby d_m4_185) ?_
                  show Steps p.tables e below (T9.setTop (mkF m 186 #[.val (.ref a), .val (.int tn), .val (.ref d), .val (.int sn), .val (.int j), .val (.int u5), .val (.int r6), .val (.int u7), .val (.int u8)] [(.int (1 : Int32))])) _
                  refine XS.goto X9.here hx rfl (pc0 := 186) (pc' := 190) rfl (hb hby d_m4_186) (by decide) (by decide) ?_
                  exact k
                refine Go.retZ X9 hx hlk hret (Or.inr rfl) (hb hby d_m4_190) (by decide) (by decide) e9 ?_
                cases H
                exact ⟨rfl, N9, rfl, Or.inr rfl⟩
            · skip
              replace H := (if_neg hy10).symm.trans H
              refine Go.by (T' := T9) (g' := (mkF m 190 #[.val (.ref a), .val (.int tn), .val (.ref d), .val (.int sn), .val (.int j), .val (.int u5), .val (.int r6), .val (.int u7), .val (.int u8)] [(.int (1 : Int32))])) (fun t k => ?_) ?_
              · show Steps p.tables e below (T9.setTop (mkF m 167 #[.val (.ref a), .val (.int tn), .val (.ref d), .val (.int sn), .val (.int j), .val (.int u5), .val (.int r6), .val (.int u7), .val (.int u8)] [(.int u5)])) _
                refine XS.ifYes X9.here hx rfl (pc0 := 167) (pc' := 185) rfl (hb hby d_m4_167) rfl ((if0 _ _).trans (feq hy10).2) (by decide) (by decide) ?_
                show Steps p.tables e below (T9.setTop (mkF m 185 #[.val (.ref a), .val (.int tn), .val (.ref d), .val (.int sn), .val (.int j), .val (.int u5), .val (.int r6), .val (.int u7), .val (.int u8)] [])) _
                refine XS.iconst X9.here hx rfl (hb hby d_m4_185) ?_
                show Steps p.tables e below (T9.setTop (mkF m 186 #[.val (.ref a), .val (.int tn), .val (.ref d), .val (.int sn), .val (.int j), .val (.int u5), .val (.int r6), .val (.int u7), .val (.int u8)] [(.int (1 : Int32))])) _
                refine XS.goto X9.here hx rfl (pc0 := 186) (pc' := 190) rfl (hb hby d_m4_186) (by decide) (by decide) ?_
                exact k
              refine Go.retZ X9 hx hlk hret (Or.inr rfl) (hb hby d_m4_190) (by decide) (by decide) e9 ?_
              cases H
              exact ⟨rfl, N9, rfl, Or.inr rfl⟩
          by_cases hy14 : (j + (1 : Int32)) < tn
          · skip
            replace hk4 := (if_pos hy14).symm.trans hk4
            refine Go.by (T' := T8) (g' := (mkF m 111 #[.val (.ref a), .val (.int tn), .val (.ref d), .val (.int sn), .val (.int j), .val (.int u5), .val (.int r6), .val (.int u7), .unset] [(.int sn), (.int (j + (1 : Int32)))])) (fun t k => ?_) ?_
            · show Steps p.tables e below (T8.setTop (mkF m 103 #[.val (.ref a), .val (.int tn), .val (.ref d), .val (.int sn), .val (.int j), .val (.int u5), .val (.int r6), .val (.int u7), .unset] [(.int tn), (.int (j + (1 : Int32)))])) _
              refine XS.icmpNo X8.here hx rfl (hb hby d_m4_103) rfl (tlt hy14).2.1 ?_
              show Steps p.tables e below (T8.setTop (mkF m 106 #[.val (.ref a), .val (.int tn), .val (.ref d), .val (.int sn), .val (.int j), .val (.int u5), .val (.int r6), .val (.int u7), .unset] [])) _
              refine XS.iload X8.here hx rfl (hb hby d_m4_106) rfl ?_
              show Steps p.tables e below (T8.setTop (mkF m 108 #[.val (.ref a), .val (.int tn), .val (.ref d), .val (.int sn), .val (.int j), .val (.int u5), .val (.int r6), .val (.int u7), .unset] [(.int j)])) _
              refine XS.iconst X8.here hx rfl (hb hby d_m4_108) ?_
              show Steps p.tables e below (T8.setTop (mkF m 109 #[.val (.ref a), .val (.int tn), .val (.ref d), .val (.int sn), .val (.int j), .val (.int u5), .val (.int r6), .val (.int u7), .unset] [(.int (1 : Int32)), (.int j)])) _
              refine XS.iadd X8.here hx rfl (hb hby d_m4_109) rfl ?_
              show Steps p.tables e below (T8.setTop (mkF m 110 #[.val (.ref a), .val (.int tn), .val (.ref d), .val (.int sn), .val (.int j), .val (.int u5), .val (.int r6), .val (.int u7), .unset] [(.int (j + (1 : Int32)))])) _
              refine XS.iloadN X8.here hx rfl (hb hby d_m4_110) rfl ?_
              exact k
            by_cases hy15 : (j + (1 : Int32)) < sn
            · skip
              replace hk4 := (if_pos hy15).symm.trans hk4
              refine Go.by (T' := T8) (g' := (mkF m 117 #[.val (.ref a), .val (.int tn), .val (.ref d), .val (.int sn), .val (.int j), .val (.int u5), .val (.int r6), .val (.int u7), .unset] [(.int j), (.ref a)])) (fun t k => ?_) ?_
              · show Steps p.tables e below (T8.setTop (mkF m 111 #[.val (.ref a), .val (.int tn), .val (.ref d), .val (.int sn), .val (.int j), .val (.int u5), .val (.int r6), .val (.int u7), .unset] [(.int sn), (.int (j + (1 : Int32)))])) _
                refine XS.icmpNo X8.here hx rfl (hb hby d_m4_111) rfl (tlt hy15).2.1 ?_
                show Steps p.tables e below (T8.setTop (mkF m 114 #[.val (.ref a), .val (.int tn), .val (.ref d), .val (.int sn), .val (.int j), .val (.int u5), .val (.int r6), .val (.int u7), .unset] [])) _
                refine XS.aloadN X8.here hx rfl (hb hby d_m4_114) rfl rfl ?_
                show Steps p.tables e below (T8.setTop (mkF m 115 #[.val (.ref a), .val (.int tn), .val (.ref d), .val (.int sn), .val (.int j), .val (.int u5), .val (.int r6), .val (.int u7), .unset] [(.ref a)])) _
                refine XS.iload X8.here hx rfl (hb hby d_m4_115) rfl ?_
                exact k
              obtain ⟨x1, hv_x1, hk4⟩ := ob hk4
              refine Go.iaL X8 hx hZ e8 I_a (j := j) hv_x1 (hb hby d_m4_117) ?_
              show Go p e below _ T8 (mkF m 118 #[.val (.ref a), .val (.int tn), .val (.ref d), .val (.int sn), .val (.int j), .val (.int u5), .val (.int r6), .val (.int u7), .unset] [(.int x1)])
              refine Go.by (T' := T8) (g' := (mkF m 123 #[.val (.ref a), .val (.int tn), .val (.ref d), .val (.int sn), .val (.int j), .val (.int u5), .val (.int r6), .val (.int u7), .unset] [(.int (j + (1 : Int32))), (.ref d), (.int x1)])) (fun t k => ?_) ?_
              · show Steps p.tables e below (T8.setTop (mkF m 118 #[.val (.ref a), .val (.int tn), .val (.ref d), .val (.int sn), .val (.int j), .val (.int u5), .val (.int r6), .val (.int u7), .unset] [(.int x1)])) _
                refine XS.aloadN X8.here hx rfl (hb hby d_m4_118) rfl rfl ?_
                show Steps p.tables e below (T8.setTop (mkF m 119 #[.val (.ref a), .val (.int tn), .val (.ref d), .val (.int sn), .val (.int j), .val (.int u5), .val (.int r6), .val (.int u7), .unset] [(.ref d), (.int x1)])) _
                refine XS.iload X8.here hx rfl (hb hby d_m4_119) rfl ?_
                show Steps p.tables e below (T8.setTop (mkF m 121 #[.val (.ref a), .val (.int tn), .val (.ref d), .val (.int sn), .val (.int j), .val (.int u5), .val (.int r6), .val (.int u7), .unset] [(.int j), (.ref d), (.int x1)])) _
                refine XS.iconst X8.here hx rfl (hb hby d_m4_121) ?_
                show Steps p.tables e below (T8.setTop (mkF m 122 #[.val (.ref a), .val (.int tn), .val (.ref d), .val (.int sn), .val (.int j), .val (.int u5), .val (.int r6), .val (.int u7), .unset] [(.int (1 : Int32)), (.int j), (.ref d), (.int x1)])) _
                refine XS.iadd X8.here hx rfl (hb hby d_m4_122) rfl ?_
                exact k
              obtain ⟨y1, hv_y1, hk4⟩ := ob hk4
              refine Go.iaL X8 hx hZ e8 I_d (j := (j + (1 : Int32))) hv_y1 (hb hby d_m4_123) ?_
              show Go p e below _ T8 (mkF m 124 #[.val (.ref a), .val (.int tn), .val (.ref d), .val (.int sn), .val (.int j), .val (.int u5), .val (.int r6), .val (.int u7), .unset] [(.int y1), (.int x1)])
              by_cases hy16 : x1 = y1
              · skip
                replace hk4 := (if_pos hy16).symm.trans hk4
                refine Go.by (T' := T8) (g' := (mkF m 132 #[.val (.ref a), .val (.int tn), .val (.ref d), .val (.int sn), .val (.int j), .val (.int u5), .val (.int r6), .val (.int u7), .unset] [(.int (j + (1 : Int32))), (.ref a)])) (fun t k => ?_) ?_
                · show Steps p.tables e below (T8.setTop (mkF m 124 #[.val (.ref a), .val (.int tn), .val (.ref d), .val (.int sn), .val (.int j), .val (.int u5), .val (.int r6), .val (.int u7), .unset] [(.int y1), (.int x1)])) _
                  refine XS.icmpNo X8.here hx rfl (hb hby d_m4_124) rfl (teq hy16).2 ?_
                  show Steps p.tables e below (T8.setTop (mkF m 127 #[.val (.ref a), .val (.int tn), .val (.ref d), .val (.int sn), .val (.int j), .val (.int u5), .val (.int r6), .val (.int u7), .unset] [])) _
                  refine XS.aloadN X8.here hx rfl (hb hby d_m4_127) rfl rfl ?_
                  show Steps p.tables e below (T8.setTop (mkF m 128 #[.val (.ref a), .val (.int tn), .val (.ref d), .val (.int sn), .val (.int j), .val (.int u5), .val (.int r6), .val (.int u7), .unset] [(.ref a)])) _
                  refine XS.iload X8.here hx rfl (hb hby d_m4_128) rfl ?_
                  show Steps p.tables e below (T8.setTop (mkF m 130 #[.val (.ref a), .val (.int tn), .val (.ref d), .val (.int sn), .val (.int j), .val (.int u5), .val (.int r6), .val (.int u7), .unset] [(.int j), (.ref a)])) _
                  refine XS.iconst X8.here hx rfl (hb hby d_m4_130) ?_
                  show Steps p.tables e below (T8.setTop (mkF m 131 #[.val (.ref a), .val (.int tn), .val (.ref d), .val (.int sn), .val (.int j), .val (.int u5), .val (.int r6), .val (.int u7), .unset] [(.int (1 : Int32)), (.int j), (.ref a)])) _
                  refine XS.iadd X8.here hx rfl (hb hby d_m4_131) rfl ?_
                  exact k
                obtain ⟨x2, hv_x2, hk4⟩ := ob hk4
                refine Go.iaL X8 hx hZ e8 I_a (j := (j + (1 : Int32))) hv_x2 (hb hby d_m4_132) ?_
                show Go p e below _ T8 (mkF m 133 #[.val (.ref a), .val (.int tn), .val (.ref d), .val (.int sn), .val (.int j), .val (.int u5), .val (.int r6), .val (.int u7), .unset] [(.int x2)])
                refine Go.by (T' := T8) (g' := (mkF m 136 #[.val (.ref a), .val (.int tn), .val (.ref d), .val (.int sn), .val (.int j), .val (.int u5), .val (.int r6), .val (.int u7), .unset] [(.int j), (.ref d), (.int x2)])) (fun t k => ?_) ?_
                · show Steps p.tables e below (T8.setTop (mkF m 133 #[.val (.ref a), .val (.int tn), .val (.ref d), .val (.int sn), .val (.int j), .val (.int u5), .val (.int r6), .val (.int u7), .unset] [(.int x2)])) _
                  refine XS.aloadN X8.here hx rfl (hb hby d_m4_133) rfl rfl ?_
                  show Steps p.tables e below (T8.setTop (mkF m 134 #[.val (.ref a), .val (.int tn), .val (.ref d), .val (.int sn), .val (.int j), .val (.int u5), .val (.int r6), .val (.int u7), .unset] [(.ref d), (.int x2)])) _
                  refine XS.iload X8.here hx rfl (hb hby d_m4_134) rfl ?_
                  exact k
                obtain ⟨y2, hv_y2, hk4⟩ := ob hk4
                refine Go.iaL X8 hx hZ e8 I_d (j := j) hv_y2 (hb hby d_m4_136) ?_
                show Go p e below _ T8 (mkF m 137 #[.val (.ref a), .val (.int tn), .val (.ref d), .val (.int sn), .val (.int j), .val (.int u5), .val (.int r6), .val (.int u7), .unset] [(.int y2), (.int x2)])
                by_cases hy17 : x2 = y2
                · skip
                  replace hk4 := (if_pos hy17).symm.trans hk4
                  refine Go.by (T' := T8) (g' := (mkF m 152 #[.val (.ref a), .val (.int tn), .val (.ref d), .val (.int sn), .val (.int j), .val (.int u5), .val (.int r6), .val (.int u7), .unset] [(.int sn), (.int (j + (2 : Int32))), (.ref d), (.int tn), (.int (j + (2 : Int32))), (.ref a)])) (fun t k => ?_) ?_
                  · show Steps p.tables e below (T8.setTop (mkF m 137 #[.val (.ref a), .val (.int tn), .val (.ref d), .val (.int sn), .val (.int j), .val (.int u5), .val (.int r6), .val (.int u7), .unset] [(.int y2), (.int x2)])) _
                    refine XS.icmpNo X8.here hx rfl (hb hby d_m4_137) rfl (teq hy17).2 ?_
                    show Steps p.tables e below (T8.setTop (mkF m 140 #[.val (.ref a), .val (.int tn), .val (.ref d), .val (.int sn), .val (.int j), .val (.int u5), .val (.int r6), .val (.int u7), .unset] [])) _
                    refine XS.aloadN X8.here hx rfl (hb hby d_m4_140) rfl rfl ?_
                    show Steps p.tables e below (T8.setTop (mkF m 141 #[.val (.ref a), .val (.int tn), .val (.ref d), .val (.int sn), .val (.int j), .val (.int u5), .val (.int r6), .val (.int u7), .unset] [(.ref a)])) _
                    refine XS.iload X8.here hx rfl (hb hby d_m4_141) rfl ?_
                    show Steps p.tables e below (T8.setTop (mkF m 143 #[.val (.ref a), .val (.int tn), .val (.ref d), .val (.int sn), .val (.int j), .val (.int u5), .val (.int r6), .val (.int u7), .unset] [(.int j), (.ref a)])) _
                    refine XS.iconst X8.here hx rfl (hb hby d_m4_143) ?_
                    show Steps p.tables e below (T8.setTop (mkF m 144 #[.val (.ref a), .val (.int tn), .val (.ref d), .val (.int sn), .val (.int j), .val (.int u5), .val (.int r6), .val (.int u7), .unset] [(.int (2 : Int32)), (.int j), (.ref a)])) _
                    refine XS.iadd X8.here hx rfl (hb hby d_m4_144) rfl ?_
                    show Steps p.tables e below (T8.setTop (mkF m 145 #[.val (.ref a), .val (.int tn), .val (.ref d), .val (.int sn), .val (.int j), .val (.int u5), .val (.int r6), .val (.int u7), .unset] [(.int (j + (2 : Int32))), (.ref a)])) _
                    refine XS.iloadN X8.here hx rfl (hb hby d_m4_145) rfl ?_
                    show Steps p.tables e below (T8.setTop (mkF m 146 #[.val (.ref a), .val (.int tn), .val (.ref d), .val (.int sn), .val (.int j), .val (.int u5), .val (.int r6), .val (.int u7), .unset] [(.int tn), (.int (j + (2 : Int32))), (.ref a)])) _
                    refine XS.aloadN X8.here hx rfl (hb hby d_m4_146) rfl rfl ?_
                    show Steps p.tables e below (T8.setTop (mkF m 147 #[.val (.ref a), .val (.int tn), .val (.ref d), .val (.int sn), .val (.int j), .val (.int u5), .val (.int r6), .val (.int u7), .unset] [(.ref d), (.int tn), (.int (j + (2 : Int32))), (.ref a)])) _
                    refine XS.iload X8.here hx rfl (hb hby d_m4_147) rfl ?_
                    show Steps p.tables e below (T8.setTop (mkF m 149 #[.val (.ref a), .val (.int tn), .val (.ref d), .val (.int sn), .val (.int j), .val (.int u5), .val (.int r6), .val (.int u7), .unset] [(.int j), (.ref d), (.int tn), (.int (j + (2 : Int32))), (.ref a)])) _
                    refine XS.iconst X8.here hx rfl (hb hby d_m4_149) ?_
                    show Steps p.tables e below (T8.setTop (mkF m 150 #[.val (.ref a), .val (.int tn), .val (.ref d), .val (.int sn), .val (.int j), .val (.int u5), .val (.int r6), .val (.int u7), .unset] [(.int (2 : Int32)), (.int j), (.ref d), (.int tn), (.int (j + (2 : Int32))), (.ref a)])) _
                    refine XS.iadd X8.here hx rfl (hb hby d_m4_150) rfl ?_
                    show Steps p.tables e below (T8.setTop (mkF m 151 #[.val (.ref a), .val (.int tn), .val (.ref d), .val (.int sn), .val (.int j), .val (.int u5), .val (.int r6), .val (.int u7), .unset] [(.int (j + (2 : Int32))), (.ref d), (.int tn), (.int (j + (2 : Int32))), (.ref a)])) _
                    refine XS.iloadN X8.here hx rfl (hb hby d_m4_151) rfl ?_
                    exact k
                  unfold nzM at hk4
                  obtain ⟨r18, hr18, hk4⟩ := ob hk4
                  refine Go.callS X8 hx hZ (W := 0) (argsL := [(.ref a), (.int (j + (2 : Int32))), (.int tn), (.ref d), (.int (j + (2 : Int32))), (.int sn)]) (rest := []) hown (wd hw 52 rfl) (wd hw 53 rfl) (wd hw 54 rfl) (wd hw 55 rfl) (by decide) (ct_pre l Z a0 hw  a d xt xs (j + (2 : Int32)) tn (j + (2 : Int32)) sn r18 h0 n0 O I_a I_d hr18) e8 (by rw [hml]; rfl) (lenOf pd___III_III_Z_6087 rfl) rfl rfl (hb hby d_m4_152) (by decide) (by decide) (by decide) (by decide) ?_
                  intro v19 T19 h19 L19 X19 e19 q19
                  obtain ⟨rfl, N19, rfl, hb19⟩ := q19
                  replace N19 := Fr.app N8 N19
                  show Go p e below _ T19 (mkF m 155 #[.val (.ref a), .val (.int tn), .val (.ref d), .val (.int sn), .val (.int j), .val (.int u5), .val (.int r6), .val (.int u7), .unset] [(.int r18)])
                  by_cases hy20 : r18 = (0 : Int32)
                  · skip
                    replace hk4 := (if_pos hy20).symm.trans hk4
                    refine Go.by (T' := T19) (g' := (mkF m 165 #[.val (.ref a), .val (.int tn), .val (.ref d), .val (.int sn), .val (.int j), .val (.int u5), .val (.int r6), .val (.int u7), .val (.int (0 : Int32))] [])) (fun t k => ?_) ?_
                    · show Steps p.tables e below (T19.setTop (mkF m 155 #[.val (.ref a), .val (.int tn), .val (.ref d), .val (.int sn), .val (.int j), .val (.int u5), .val (.int r6), .val (.int u7), .unset] [(.int r18)])) _
                      refine XS.ifYes X19.here hx rfl (pc0 := 155) (pc' := 162) rfl (hb hby d_m4_155) rfl ((if0 _ _).trans (teq hy20).1) (by decide) (by decide) ?_
                      show Steps p.tables e below (T19.setTop (mkF m 162 #[.val (.ref a), .val (.int tn), .val (.ref d), .val (.int sn), .val (.int j), .val (.int u5), .val (.int r6), .val (.int u7), .unset] [])) _
                      refine XS.iconst X19.here hx rfl (hb hby d_m4_162) ?_
                      show Steps p.tables e below (T19.setTop (mkF m 163 #[.val (.ref a), .val (.int tn), .val (.ref d), .val (.int sn), .val (.int j), .val (.int u5), .val (.int r6), .val (.int u7), .unset] [(.int (0 : Int32))])) _
                      refine XS.istore X19.here hx rfl (hb hby d_m4_163) rfl (l' := #[.val (.ref a), .val (.int tn), .val (.ref d), .val (.int sn), .val (.int j), .val (.int u5), .val (.int r6), .val (.int u7), .val (.int (0 : Int32))]) rfl ?_
                      exact k
                    exact J9 _ _ _ X19 e19 N19 (Option.some.inj hk4)
                  · skip
                    replace hk4 := (if_neg hy20).symm.trans hk4
                    refine Go.by (T' := T19) (g' := (mkF m 165 #[.val (.ref a), .val (.int tn), .val (.ref d), .val (.int sn), .val (.int j), .val (.int u5), .val (.int r6), .val (.int u7), .val (.int (1 : Int32))] [])) (fun t k => ?_) ?_
                    · show Steps p.tables e below (T19.setTop (mkF m 155 #[.val (.ref a), .val (.int tn), .val (.ref d), .val (.int sn), .val (.int j), .val (.int u5), .val (.int r6), .val (.int u7), .unset] [(.int r18)])) _
                      refine XS.ifNo X19.here hx rfl (hb hby d_m4_155) rfl ((if0 _ _).trans (feq hy20).1) ?_
                      show Steps p.tables e below (T19.setTop (mkF m 158 #[.val (.ref a), .val (.int tn), .val (.ref d), .val (.int sn), .val (.int j), .val (.int u5), .val (.int r6), .val (.int u7), .unset] [])) _
                      refine XS.iconst X19.here hx rfl (hb hby d_m4_158) ?_
                      show Steps p.tables e below (T19.setTop (mkF m 159 #[.val (.ref a), .val (.int tn), .val (.ref d), .val (.int sn), .val (.int j), .val (.int u5), .val (.int r6), .val (.int u7), .unset] [(.int (1 : Int32))])) _
                      refine XS.goto X19.here hx rfl (pc0 := 159) (pc' := 163) rfl (hb hby d_m4_159) (by decide) (by decide) ?_
                      show Steps p.tables e below (T19.setTop (mkF m 163 #[.val (.ref a), .val (.int tn), .val (.ref d), .val (.int sn), .val (.int j), .val (.int u5), .val (.int r6), .val (.int u7), .unset] [(.int (1 : Int32))])) _
                      refine XS.istore X19.here hx rfl (hb hby d_m4_163) rfl (l' := #[.val (.ref a), .val (.int tn), .val (.ref d), .val (.int sn), .val (.int j), .val (.int u5), .val (.int r6), .val (.int u7), .val (.int (1 : Int32))]) rfl ?_
                      exact k
                    exact J9 _ _ _ X19 e19 N19 (Option.some.inj hk4)
                · skip
                  replace hk4 := (if_neg hy17).symm.trans hk4
                  refine Go.by (T' := T8) (g' := (mkF m 165 #[.val (.ref a), .val (.int tn), .val (.ref d), .val (.int sn), .val (.int j), .val (.int u5), .val (.int r6), .val (.int u7), .val (.int (0 : Int32))] [])) (fun t k => ?_) ?_
                  · show Steps p.tables e below (T8.setTop (mkF m 137 #[.val (.ref a), .val (.int tn), .val (.ref d), .val (.int sn), .val (.int j), .val (.int u5), .val (.int r6), .val (.int u7), .unset] [(.int y2), (.int x2)])) _
                    refine XS.icmpYes X8.here hx rfl (pc0 := 137) (pc' := 162) rfl (hb hby d_m4_137) rfl (feq hy17).2 (by decide) (by decide) ?_
                    show Steps p.tables e below (T8.setTop (mkF m 162 #[.val (.ref a), .val (.int tn), .val (.ref d), .val (.int sn), .val (.int j), .val (.int u5), .val (.int r6), .val (.int u7), .unset] [])) _
                    refine XS.iconst X8.here hx rfl (hb hby d_m4_162) ?_
                    show Steps p.tables e below (T8.setTop (mkF m 163 #[.val (.ref a), .val (.int tn), .val (.ref d), .val (.int sn), .val (.int j), .val (.int u5), .val (.int r6), .val (.int u7), .unset] [(.int (0 : Int32))])) _
                    refine XS.istore X8.here hx rfl (hb hby d_m4_163) rfl (l' := #[.val (.ref a), .val (.int tn), .val (.ref d), .val (.int sn), .val (.int j), .val (.int u5), .val (.int r6), .val (.int u7), .val (.int (0 : Int32))]) rfl ?_
                    exact k
                  exact J9 _ _ _ X8 e8 N8 (Option.some.inj hk4)
              · skip
                replace hk4 := (if_neg hy16).symm.trans hk4
                refine Go.by (T' := T8) (g' := (mkF m 165 #[.val (.ref a), .val (.int tn), .val (.ref d), .val (.int sn), .val (.int j), .val (.int u5), .val (.int r6), .val (.int u7), .val (.int (0 : Int32))] [])) (fun t k => ?_) ?_
                · show Steps p.tables e below (T8.setTop (mkF m 124 #[.val (.ref a), .val (.int tn), .val (.ref d), .val (.int sn), .val (.int j), .val (.int u5), .val (.int r6), .val (.int u7), .unset] [(.int y1), (.int x1)])) _
                  refine XS.icmpYes X8.here hx rfl (pc0 := 124) (pc' := 162) rfl (hb hby d_m4_124) rfl (feq hy16).2 (by decide) (by decide) ?_
                  show Steps p.tables e below (T8.setTop (mkF m 162 #[.val (.ref a), .val (.int tn), .val (.ref d), .val (.int sn), .val (.int j), .val (.int u5), .val (.int r6), .val (.int u7), .unset] [])) _
                  refine XS.iconst X8.here hx rfl (hb hby d_m4_162) ?_
                  show Steps p.tables e below (T8.setTop (mkF m 163 #[.val (.ref a), .val (.int tn), .val (.ref d), .val (.int sn), .val (.int j), .val (.int u5), .val (.int r6), .val (.int u7), .unset] [(.int (0 : Int32))])) _
                  refine XS.istore X8.here hx rfl (hb hby d_m4_163) rfl (l' := #[.val (.ref a), .val (.int tn), .val (.ref d), .val (.int sn), .val (.int j), .val (.int u5), .val (.int r6), .val (.int u7), .val (.int (0 : Int32))]) rfl ?_
                  exact k
                exact J9 _ _ _ X8 e8 N8 (Option.some.inj hk4)
            · skip
              replace hk4 := (if_neg hy15).symm.trans hk4
              refine Go.by (T' := T8) (g' := (mkF m 165 #[.val (.ref a), .val (.int tn), .val (.ref d), .val (.int sn), .val (.int j), .val (.int u5), .val (.int r6), .val (.int u7), .val (.int (0 : Int32))] [])) (fun t k => ?_) ?_
              · show Steps p.tables e below (T8.setTop (mkF m 111 #[.val (.ref a), .val (.int tn), .val (.ref d), .val (.int sn), .val (.int j), .val (.int u5), .val (.int r6), .val (.int u7), .unset] [(.int sn), (.int (j + (1 : Int32)))])) _
                refine XS.icmpYes X8.here hx rfl (pc0 := 111) (pc' := 162) rfl (hb hby d_m4_111) rfl (flt hy15).2.1 (by decide) (by decide) ?_
                show Steps p.tables e below (T8.setTop (mkF m 162 #[.val (.ref a), .val (.int tn), .val (.ref d), .val (.int sn), .val (.int j), .val (.int u5), .val (.int r6), .val (.int u7), .unset] [])) _
                refine XS.iconst X8.here hx rfl (hb hby d_m4_162) ?_
                show Steps p.tables e below (T8.setTop (mkF m 163 #[.val (.ref a), .val (.int tn), .val (.ref d), .val (.int sn), .val (.int j), .val (.int u5), .val (.int r6), .val (.int u7), .unset] [(.int (0 : Int32))])) _
                refine XS.istore X8.here hx rfl (hb hby d_m4_163) rfl (l' := #[.val (.ref a), .val (.int tn), .val (.ref d), .val (.int sn), .val (.int j), .val (.int u5), .val (.int r6), .val (.int u7), .val (.int (0 : Int32))]) rfl ?_
                exact k
              exact J9 _ _ _ X8 e8 N8 (Option.some.inj hk4)
          · skip
            replace hk4 := (if_neg hy14).symm.trans hk4
            refine Go.by (T' := T8) (g' := (mkF m 165 #[.val (.ref a), .val (.int tn), .val (.ref d), .val (.int sn), .val (.int j), .val (.int u5), .val (.int r6), .val (.int u7), .val (.int (0 : Int32))] [])) (fun t k => ?_) ?_
            · show Steps p.tables e below (T8.setTop (mkF m 103 #[.val (.ref a), .val (.int tn), .val (.ref d), .val (.int sn), .val (.int j), .val (.int u5), .val (.int r6), .val (.int u7), .unset] [(.int tn), (.int (j + (1 : Int32)))])) _
              refine XS.icmpYes X8.here hx rfl (pc0 := 103) (pc' := 162) rfl (hb hby d_m4_103) rfl (flt hy14).2.1 (by decide) (by decide) ?_
              show Steps p.tables e below (T8.setTop (mkF m 162 #[.val (.ref a), .val (.int tn), .val (.ref d), .val (.int sn), .val (.int j), .val (.int u5), .val (.int r6), .val (.int u7), .unset] [])) _
              refine XS.iconst X8.here hx rfl (hb hby d_m4_162) ?_
              show Steps p.tables e below (T8.setTop (mkF m 163 #[.val (.ref a), .val (.int tn), .val (.ref d), .val (.int sn), .val (.int j), .val (.int u5), .val (.int r6), .val (.int u7), .unset] [(.int (0 : Int32))])) _
              refine XS.istore X8.here hx rfl (hb hby d_m4_163) rfl (l' := #[.val (.ref a), .val (.int tn), .val (.ref d), .val (.int sn), .val (.int j), .val (.int u5), .val (.int r6), .val (.int u7), .val (.int (0 : Int32))]) rfl ?_
              exact k
            exact J9 _ _ _ X8 e8 N8 (Option.some.inj hk4)
        by_cases hy21 : j < sn
        · skip
          replace hk3 := (if_pos hy21).symm.trans hk3
          refine Go.by (T' := T7) (g' := (mkF m 85 #[.val (.ref a), .val (.int tn), .val (.ref d), .val (.int sn), .val (.int j), .val (.int u5), .val (.int r6), .unset, .unset] [(.int sn), (.int (j + (1 : Int32))), (.ref d), (.int tn), (.int j), (.ref a)])) (fun t k => ?_) ?_
          · show Steps p.tables e below (T7.setTop (mkF m 72 #[.val (.ref a), .val (.int tn), .val (.ref d), .val (.int sn), .val (.int j), .val (.int u5), .val (.int r6), .unset, .unset] [(.int sn), (.int j)])) _
            refine XS.icmpNo X7.here hx rfl (hb hby d_m4_72) rfl (tlt hy21).2.1 ?_
            show Steps p.tables e below (T7.setTop (mkF m 75 #[.val (.ref a), .val (.int tn), .val (.ref d), .val (.int sn), .val (.int j), .val (.int u5), .val (.int r6), .unset, .unset] [])) _
            refine XS.aloadN X7.here hx rfl (hb hby d_m4_75) rfl rfl ?_
            show Steps p.tables e below (T7.setTop (mkF m 76 #[.val (.ref a), .val (.int tn), .val (.ref d), .val (.int sn), .val (.int j), .val (.int u5), .val (.int r6), .unset, .unset] [(.ref a)])) _
            refine XS.iload X7.here hx rfl (hb hby d_m4_76) rfl ?_
            show Steps p.tables e below (T7.setTop (mkF m 78 #[.val (.ref a), .val (.int tn), .val (.ref d), .val (.int sn), .val (.int j), .val (.int u5), .val (.int r6), .unset, .unset] [(.int j), (.ref a)])) _
            refine XS.iloadN X7.here hx rfl (hb hby d_m4_78) rfl ?_
            show Steps p.tables e below (T7.setTop (mkF m 79 #[.val (.ref a), .val (.int tn), .val (.ref d), .val (.int sn), .val (.int j), .val (.int u5), .val (.int r6), .unset, .unset] [(.int tn), (.int j), (.ref a)])) _
            refine XS.aloadN X7.here hx rfl (hb hby d_m4_79) rfl rfl ?_
            show Steps p.tables e below (T7.setTop (mkF m 80 #[.val (.ref a), .val (.int tn), .val (.ref d), .val (.int sn), .val (.int j), .val (.int u5), .val (.int r6), .unset, .unset] [(.ref d), (.int tn), (.int j), (.ref a)])) _
            refine XS.iload X7.here hx rfl (hb hby d_m4_80) rfl ?_
            show Steps p.tables e below (T7.setTop (mkF m 82 #[.val (.ref a), .val (.int tn), .val (.ref d), .val (.int sn), .val (.int j), .val (.int u5), .val (.int r6), .unset, .unset] [(.int j), (.ref d), (.int tn), (.int j), (.ref a)])) _
            refine XS.iconst X7.here hx rfl (hb hby d_m4_82) ?_
            show Steps p.tables e below (T7.setTop (mkF m 83 #[.val (.ref a), .val (.int tn), .val (.ref d), .val (.int sn), .val (.int j), .val (.int u5), .val (.int r6), .unset, .unset] [(.int (1 : Int32)), (.int j), (.ref d), (.int tn), (.int j), (.ref a)])) _
            refine XS.iadd X7.here hx rfl (hb hby d_m4_83) rfl ?_
            show Steps p.tables e below (T7.setTop (mkF m 84 #[.val (.ref a), .val (.int tn), .val (.ref d), .val (.int sn), .val (.int j), .val (.int u5), .val (.int r6), .unset, .unset] [(.int (j + (1 : Int32))), (.ref d), (.int tn), (.int j), (.ref a)])) _
            refine XS.iloadN X7.here hx rfl (hb hby d_m4_84) rfl ?_
            exact k
          unfold nzM at hk3
          obtain ⟨r22, hr22, hk3⟩ := ob hk3
          refine Go.callS X7 hx hZ (W := 0) (argsL := [(.ref a), (.int j), (.int tn), (.ref d), (.int (j + (1 : Int32))), (.int sn)]) (rest := []) hown (wd hw 52 rfl) (wd hw 53 rfl) (wd hw 54 rfl) (wd hw 55 rfl) (by decide) (ct_pre l Z a0 hw  a d xt xs j tn (j + (1 : Int32)) sn r22 h0 n0 O I_a I_d hr22) e7 (by rw [hml]; rfl) (lenOf pd___III_III_Z_6087 rfl) rfl rfl (hb hby d_m4_85) (by decide) (by decide) (by decide) (by decide) ?_
          intro v23 T23 h23 L23 X23 e23 q23
          obtain ⟨rfl, N23, rfl, hb23⟩ := q23
          replace N23 := Fr.app N7 N23
          show Go p e below _ T23 (mkF m 88 #[.val (.ref a), .val (.int tn), .val (.ref d), .val (.int sn), .val (.int j), .val (.int u5), .val (.int r6), .unset, .unset] [(.int r22)])
          by_cases hy24 : r22 = (0 : Int32)
          · skip
            replace hk3 := (if_pos hy24).symm.trans hk3
            refine Go.by (T' := T23) (g' := (mkF m 98 #[.val (.ref a), .val (.int tn), .val (.ref d), .val (.int sn), .val (.int j), .val (.int u5), .val (.int r6), .val (.int (0 : Int32)), .unset] [])) (fun t k => ?_) ?_
            · show Steps p.tables e below (T23.setTop (mkF m 88 #[.val (.ref a), .val (.int tn), .val (.ref d), .val (.int sn), .val (.int j), .val (.int u5), .val (.int r6), .unset, .unset] [(.int r22)])) _
              refine XS.ifYes X23.here hx rfl (pc0 := 88) (pc' := 95) rfl (hb hby d_m4_88) rfl ((if0 _ _).trans (teq hy24).1) (by decide) (by decide) ?_
              show Steps p.tables e below (T23.setTop (mkF m 95 #[.val (.ref a), .val (.int tn), .val (.ref d), .val (.int sn), .val (.int j), .val (.int u5), .val (.int r6), .unset, .unset] [])) _
              refine XS.iconst X23.here hx rfl (hb hby d_m4_95) ?_
              show Steps p.tables e below (T23.setTop (mkF m 96 #[.val (.ref a), .val (.int tn), .val (.ref d), .val (.int sn), .val (.int j), .val (.int u5), .val (.int r6), .unset, .unset] [(.int (0 : Int32))])) _
              refine XS.istore X23.here hx rfl (hb hby d_m4_96) rfl (l' := #[.val (.ref a), .val (.int tn), .val (.ref d), .val (.int sn), .val (.int j), .val (.int u5), .val (.int r6), .val (.int (0 : Int32)), .unset]) rfl ?_
              exact k
            exact J8 _ _ _ X23 e23 N23 (Option.some.inj hk3)
          · skip
            replace hk3 := (if_neg hy24).symm.trans hk3
            refine Go.by (T' := T23) (g' := (mkF m 98 #[.val (.ref a), .val (.int tn), .val (.ref d), .val (.int sn), .val (.int j), .val (.int u5), .val (.int r6), .val (.int (1 : Int32)), .unset] [])) (fun t k => ?_) ?_
            · show Steps p.tables e below (T23.setTop (mkF m 88 #[.val (.ref a), .val (.int tn), .val (.ref d), .val (.int sn), .val (.int j), .val (.int u5), .val (.int r6), .unset, .unset] [(.int r22)])) _
              refine XS.ifNo X23.here hx rfl (hb hby d_m4_88) rfl ((if0 _ _).trans (feq hy24).1) ?_
              show Steps p.tables e below (T23.setTop (mkF m 91 #[.val (.ref a), .val (.int tn), .val (.ref d), .val (.int sn), .val (.int j), .val (.int u5), .val (.int r6), .unset, .unset] [])) _
              refine XS.iconst X23.here hx rfl (hb hby d_m4_91) ?_
              show Steps p.tables e below (T23.setTop (mkF m 92 #[.val (.ref a), .val (.int tn), .val (.ref d), .val (.int sn), .val (.int j), .val (.int u5), .val (.int r6), .unset, .unset] [(.int (1 : Int32))])) _
              refine XS.goto X23.here hx rfl (pc0 := 92) (pc' := 96) rfl (hb hby d_m4_92) (by decide) (by decide) ?_
              show Steps p.tables e below (T23.setTop (mkF m 96 #[.val (.ref a), .val (.int tn), .val (.ref d), .val (.int sn), .val (.int j), .val (.int u5), .val (.int r6), .unset, .unset] [(.int (1 : Int32))])) _
              refine XS.istore X23.here hx rfl (hb hby d_m4_96) rfl (l' := #[.val (.ref a), .val (.int tn), .val (.ref d), .val (.int sn), .val (.int j), .val (.int u5), .val (.int r6), .val (.int (1 : Int32)), .unset]) rfl ?_
              exact k
            exact J8 _ _ _ X23 e23 N23 (Option.some.inj hk3)
        · skip
          replace hk3 := (if_neg hy21).symm.trans hk3
          refine Go.by (T' := T7) (g' := (mkF m 98 #[.val (.ref a), .val (.int tn), .val (.ref d), .val (.int sn), .val (.int j), .val (.int u5), .val (.int r6), .val (.int (0 : Int32)), .unset] [])) (fun t k => ?_) ?_
          · show Steps p.tables e below (T7.setTop (mkF m 72 #[.val (.ref a), .val (.int tn), .val (.ref d), .val (.int sn), .val (.int j), .val (.int u5), .val (.int r6), .unset, .unset] [(.int sn), (.int j)])) _
            refine XS.icmpYes X7.here hx rfl (pc0 := 72) (pc' := 95) rfl (hb hby d_m4_72) rfl (flt hy21).2.1 (by decide) (by decide) ?_
            show Steps p.tables e below (T7.setTop (mkF m 95 #[.val (.ref a), .val (.int tn), .val (.ref d), .val (.int sn), .val (.int j), .val (.int u5), .val (.int r6), .unset, .unset] [])) _
            refine XS.iconst X7.here hx rfl (hb hby d_m4_95) ?_
            show Steps p.tables e below (T7.setTop (mkF m 96 #[.val (.ref a), .val (.int tn), .val (.ref d), .val (.int sn), .val (.int j), .val (.int u5), .val (.int r6), .unset, .unset] [(.int (0 : Int32))])) _
            refine XS.istore X7.here hx rfl (hb hby d_m4_96) rfl (l' := #[.val (.ref a), .val (.int tn), .val (.ref d), .val (.int sn), .val (.int j), .val (.int u5), .val (.int r6), .val (.int (0 : Int32)), .unset]) rfl ?_
            exact k
          exact J8 _ _ _ X7 e7 N7 (Option.some.inj hk3)
      by_cases hy25 : j < sn
      · skip
        replace hk1 := (if_pos hy25).symm.trans hk1
        refine Go.by (T' := T3) (g' := (mkF m 41 #[.val (.ref a), .val (.int tn), .val (.ref d), .val (.int sn), .val (.int j), .unset, .unset, .unset, .unset] [(.int sn), (.int (j + (1 : Int32))), (.ref d), (.int tn), (.int (j + (1 : Int32))), (.ref a)])) (fun t k => ?_) ?_
        · show Steps p.tables e below (T3.setTop (mkF m 26 #[.val (.ref a), .val (.int tn), .val (.ref d), .val (.int sn), .val (.int j), .unset, .unset, .unset, .unset] [(.int sn), (.int j)])) _
          refine XS.icmpNo X3.here hx rfl (hb hby d_m4_26) rfl (tlt hy25).2.1 ?_
          show Steps p.tables e below (T3.setTop (mkF m 29 #[.val (.ref a), .val (.int tn), .val (.ref d), .val (.int sn), .val (.int j), .unset, .unset, .unset, .unset] [])) _
          refine XS.aloadN X3.here hx rfl (hb hby d_m4_29) rfl rfl ?_
          show Steps p.tables e below (T3.setTop (mkF m 30 #[.val (.ref a), .val (.int tn), .val (.ref d), .val (.int sn), .val (.int j), .unset, .unset, .unset, .unset] [(.ref a)])) _
          refine XS.iload X3.here hx rfl (hb hby d_m4_30) rfl ?_
          show Steps p.tables e below (T3.setTop (mkF m 32 #[.val (.ref a), .val (.int tn), .val (.ref d), .val (.int sn), .val (.int j), .unset, .unset, .unset, .unset] [(.int j), (.ref a)])) _
          refine XS.iconst X3.here hx rfl (hb hby d_m4_32) ?_
          show Steps p.tables e below (T3.setTop (mkF m 33 #[.val (.ref a), .val (.int tn), .val (.ref d), .val (.int sn), .val (.int j), .unset, .unset, .unset, .unset] [(.int (1 : Int32)), (.int j), (.ref a)])) _
          refine XS.iadd X3.here hx rfl (hb hby d_m4_33) rfl ?_
          show Steps p.tables e below (T3.setTop (mkF m 34 #[.val (.ref a), .val (.int tn), .val (.ref d), .val (.int sn), .val (.int j), .unset, .unset, .unset, .unset] [(.int (j + (1 : Int32))), (.ref a)])) _
          refine XS.iloadN X3.here hx rfl (hb hby d_m4_34) rfl ?_
          show Steps p.tables e below (T3.setTop (mkF m 35 #[.val (.ref a), .val (.int tn), .val (.ref d), .val (.int sn), .val (.int j), .unset, .unset, .unset, .unset] [(.int tn), (.int (j + (1 : Int32))), (.ref a)])) _
          refine XS.aloadN X3.here hx rfl (hb hby d_m4_35) rfl rfl ?_
          show Steps p.tables e below (T3.setTop (mkF m 36 #[.val (.ref a), .val (.int tn), .val (.ref d), .val (.int sn), .val (.int j), .unset, .unset, .unset, .unset] [(.ref d), (.int tn), (.int (j + (1 : Int32))), (.ref a)])) _
          refine XS.iload X3.here hx rfl (hb hby d_m4_36) rfl ?_
          show Steps p.tables e below (T3.setTop (mkF m 38 #[.val (.ref a), .val (.int tn), .val (.ref d), .val (.int sn), .val (.int j), .unset, .unset, .unset, .unset] [(.int j), (.ref d), (.int tn), (.int (j + (1 : Int32))), (.ref a)])) _
          refine XS.iconst X3.here hx rfl (hb hby d_m4_38) ?_
          show Steps p.tables e below (T3.setTop (mkF m 39 #[.val (.ref a), .val (.int tn), .val (.ref d), .val (.int sn), .val (.int j), .unset, .unset, .unset, .unset] [(.int (1 : Int32)), (.int j), (.ref d), (.int tn), (.int (j + (1 : Int32))), (.ref a)])) _
          refine XS.iadd X3.here hx rfl (hb hby d_m4_39) rfl ?_
          show Steps p.tables e below (T3.setTop (mkF m 40 #[.val (.ref a), .val (.int tn), .val (.ref d), .val (.int sn), .val (.int j), .unset, .unset, .unset, .unset] [(.int (j + (1 : Int32))), (.ref d), (.int tn), (.int (j + (1 : Int32))), (.ref a)])) _
          refine XS.iloadN X3.here hx rfl (hb hby d_m4_40) rfl ?_
          exact k
        unfold nzM at hk1
        obtain ⟨r26, hr26, hk1⟩ := ob hk1
        refine Go.callS X3 hx hZ (W := 0) (argsL := [(.ref a), (.int (j + (1 : Int32))), (.int tn), (.ref d), (.int (j + (1 : Int32))), (.int sn)]) (rest := []) hown (wd hw 52 rfl) (wd hw 53 rfl) (wd hw 54 rfl) (wd hw 55 rfl) (by decide) (ct_pre l Z a0 hw  a d xt xs (j + (1 : Int32)) tn (j + (1 : Int32)) sn r26 h0 n0 O I_a I_d hr26) e3 (by rw [hml]; rfl) (lenOf pd___III_III_Z_6087 rfl) rfl rfl (hb hby d_m4_41) (by decide) (by decide) (by decide) (by decide) ?_
        intro v27 T27 h27 L27 X27 e27 q27
        obtain ⟨rfl, N27, rfl, hb27⟩ := q27
        replace N27 := Fr.app N3 N27
        show Go p e below _ T27 (mkF m 44 #[.val (.ref a), .val (.int tn), .val (.ref d), .val (.int sn), .val (.int j), .unset, .unset, .unset, .unset] [(.int r26)])
        by_cases hy28 : r26 = (0 : Int32)
        · skip
          replace hk1 := (if_pos hy28).symm.trans hk1
          refine Go.by (T' := T27) (g' := (mkF m 54 #[.val (.ref a), .val (.int tn), .val (.ref d), .val (.int sn), .val (.int j), .val (.int (0 : Int32)), .unset, .unset, .unset] [])) (fun t k => ?_) ?_
          · show Steps p.tables e below (T27.setTop (mkF m 44 #[.val (.ref a), .val (.int tn), .val (.ref d), .val (.int sn), .val (.int j), .unset, .unset, .unset, .unset] [(.int r26)])) _
            refine XS.ifYes X27.here hx rfl (pc0 := 44) (pc' := 51) rfl (hb hby d_m4_44) rfl ((if0 _ _).trans (teq hy28).1) (by decide) (by decide) ?_
            show Steps p.tables e below (T27.setTop (mkF m 51 #[.val (.ref a), .val (.int tn), .val (.ref d), .val (.int sn), .val (.int j), .unset, .unset, .unset, .unset] [])) _
            refine XS.iconst X27.here hx rfl (hb hby d_m4_51) ?_
            show Steps p.tables e below (T27.setTop (mkF m 52 #[.val (.ref a), .val (.int tn), .val (.ref d), .val (.int sn), .val (.int j), .unset, .unset, .unset, .unset] [(.int (0 : Int32))])) _
            refine XS.istore X27.here hx rfl (hb hby d_m4_52) rfl (l' := #[.val (.ref a), .val (.int tn), .val (.ref d), .val (.int sn), .val (.int j), .val (.int (0 : Int32)), .unset, .unset, .unset]) rfl ?_
            exact k
          exact J5 _ _ _ X27 e27 N27 (Option.some.inj hk1)
        · skip
          replace hk1 := (if_neg hy28).symm.trans hk1
          refine Go.by (T' := T27) (g' := (mkF m 54 #[.val (.ref a), .val (.int tn), .val (.ref d), .val (.int sn), .val (.int j), .val (.int (1 : Int32)), .unset, .unset, .unset] [])) (fun t k => ?_) ?_
          · show Steps p.tables e below (T27.setTop (mkF m 44 #[.val (.ref a), .val (.int tn), .val (.ref d), .val (.int sn), .val (.int j), .unset, .unset, .unset, .unset] [(.int r26)])) _
            refine XS.ifNo X27.here hx rfl (hb hby d_m4_44) rfl ((if0 _ _).trans (feq hy28).1) ?_
            show Steps p.tables e below (T27.setTop (mkF m 47 #[.val (.ref a), .val (.int tn), .val (.ref d), .val (.int sn), .val (.int j), .unset, .unset, .unset, .unset] [])) _
            refine XS.iconst X27.here hx rfl (hb hby d_m4_47) ?_
            show Steps p.tables e below (T27.setTop (mkF m 48 #[.val (.ref a), .val (.int tn), .val (.ref d), .val (.int sn), .val (.int j), .unset, .unset, .unset, .unset] [(.int (1 : Int32))])) _
            refine XS.goto X27.here hx rfl (pc0 := 48) (pc' := 52) rfl (hb hby d_m4_48) (by decide) (by decide) ?_
            show Steps p.tables e below (T27.setTop (mkF m 52 #[.val (.ref a), .val (.int tn), .val (.ref d), .val (.int sn), .val (.int j), .unset, .unset, .unset, .unset] [(.int (1 : Int32))])) _
            refine XS.istore X27.here hx rfl (hb hby d_m4_52) rfl (l' := #[.val (.ref a), .val (.int tn), .val (.ref d), .val (.int sn), .val (.int j), .val (.int (1 : Int32)), .unset, .unset, .unset]) rfl ?_
            exact k
          exact J5 _ _ _ X27 e27 N27 (Option.some.inj hk1)
      · skip
        replace hk1 := (if_neg hy25).symm.trans hk1
        refine Go.by (T' := T3) (g' := (mkF m 54 #[.val (.ref a), .val (.int tn), .val (.ref d), .val (.int sn), .val (.int j), .val (.int (0 : Int32)), .unset, .unset, .unset] [])) (fun t k => ?_) ?_
        · show Steps p.tables e below (T3.setTop (mkF m 26 #[.val (.ref a), .val (.int tn), .val (.ref d), .val (.int sn), .val (.int j), .unset, .unset, .unset, .unset] [(.int sn), (.int j)])) _
          refine XS.icmpYes X3.here hx rfl (pc0 := 26) (pc' := 51) rfl (hb hby d_m4_26) rfl (flt hy25).2.1 (by decide) (by decide) ?_
          show Steps p.tables e below (T3.setTop (mkF m 51 #[.val (.ref a), .val (.int tn), .val (.ref d), .val (.int sn), .val (.int j), .unset, .unset, .unset, .unset] [])) _
          refine XS.iconst X3.here hx rfl (hb hby d_m4_51) ?_
          show Steps p.tables e below (T3.setTop (mkF m 52 #[.val (.ref a), .val (.int tn), .val (.ref d), .val (.int sn), .val (.int j), .unset, .unset, .unset, .unset] [(.int (0 : Int32))])) _
          refine XS.istore X3.here hx rfl (hb hby d_m4_52) rfl (l' := #[.val (.ref a), .val (.int tn), .val (.ref d), .val (.int sn), .val (.int j), .val (.int (0 : Int32)), .unset, .unset, .unset]) rfl ?_
          exact k
        exact J5 _ _ _ X3 e3 N3 (Option.some.inj hk1)
  · skip
    replace H := (if_neg hy1).symm.trans H
    refine Go.by (T' := T0) (g' := (mkF m 7 #[.val (.ref a), .val (.int tn), .val (.ref d), .val (.int sn), .val (.int j), .unset, .unset, .unset, .unset] [(.int (0 : Int32))])) (fun t k => ?_) ?_
    · show Steps p.tables e below (T0.setTop (mkF m 3 #[.val (.ref a), .val (.int tn), .val (.ref d), .val (.int sn), .val (.int j), .unset, .unset, .unset, .unset] [(.int tn), (.int j)])) _
      refine XS.icmpNo X0.here hx rfl (hb hby d_m4_3) rfl (flt hy1).1 ?_
      show Steps p.tables e below (T0.setTop (mkF m 6 #[.val (.ref a), .val (.int tn), .val (.ref d), .val (.int sn), .val (.int j), .unset, .unset, .unset, .unset] [])) _
      refine XS.iconst X0.here hx rfl (hb hby d_m4_6) ?_
      exact k
    refine Go.retZ X0 hx hlk hret (Or.inl rfl) (hb hby d_m4_7) (by decide) (by decide) e0 ?_
    cases H
    exact ⟨rfl, N0, rfl, Or.inl rfl⟩
set_option maxRecDepth 65536 in
set_option maxHeartbeats 40000000 in
theorem ct_law (l : Launch) (Z : State) (a0 : Array Value) (hw : ∀ d ∈ tables_1, d.before a0 Z = true) (i0 : Int32) (i1 : Int32) (i2 : Int32) (i3 : Int32) (h0 : Heap) (n0 : Nat) (O : Old Z n0 h0) (hm : m1M ((i1.toUInt32 >>> ((6 : Int32) &&& 31).toUInt32).toInt32 &&& 3) (i3 &&& 1) (i0 + (i1 &&& 3)) (i0 + ((i1.toUInt32 >>> ((2 : Int32) &&& 31).toUInt32).toInt32 &&& 3)) (i0 + ((i1.toUInt32 >>> ((4 : Int32) &&& 31).toUInt32).toInt32 &&& 3)) (i0 + (i2 &&& 3)) (i0 + ((i2.toUInt32 >>> ((2 : Int32) &&& 31).toUInt32).toInt32 &&& 3)) (i0 + ((i2.toUInt32 >>> ((4 : Int32) &&& 31).toUInt32).toInt32 &&& 3)) (i0 + ((i2.toUInt32 >>> ((6 : Int32) &&& 31).toUInt32).toInt32 &&& 3)) ((i2.toUInt32 >>> ((8 : Int32) &&& 31).toUInt32).toInt32 &&& 7) (if ((i3.toUInt32 >>> ((1 : Int32) &&& 31).toUInt32).toInt32 &&& 1) = 0 then 0 else 1) = some 1) :
    Ct l x code maxLocals ret room_1 Z #[(.int i0), (.int i1), (.int i2), (.int i3)] h0 (fun v h L => v = some (.int 1) ∧ Fr n0 L) := by
  refine Ct.of (plainFor_of_name pn_EditDistanceIsOutOfReachPinLaw_141) ?_
  intro p e s m below meth c T0 X0 hx hby hml hown hnm hret hlk hZ e0
  have hown : s.vm.findClass "com/example/shingle/shingle/EditDistanceIsOutOfReachPinLaw" = some m.cls := hown
  have hml : c.maxLocals = 13 := hml
  have N0 := Fr.nil n0
  have H := hm
  unfold m1M at H
  refine Go.cast (g' := mkF m 0 #[.val (.int i0), .val (.int i1), .val (.int i2), .val (.int i3), .unset, .unset, .unset, .unset, .unset, .unset, .unset, .unset, .unset] []) (by first | (simp [entryFrame, mkF, argsToLocals, Value.category, maxLocals]; done) | rfl) ?_
  refine Go.by (T' := T0) (g' := (mkF m 3 #[.val (.int i0), .val (.int i1), .val (.int i2), .val (.int i3), .unset, .unset, .unset, .unset, .unset, .unset, .unset, .unset, .unset] [(.int (i3 &&& (1 : Int32)))])) (fun t k => ?_) ?_
  · show Steps p.tables e below (T0.setTop (mkF m 0 #[.val (.int i0), .val (.int i1), .val (.int i2), .val (.int i3), .unset, .unset, .unset, .unset, .unset, .unset, .unset, .unset, .unset] [])) _
    refine XS.iloadN X0.here hx rfl (hb hby at_0) rfl ?_
    show Steps p.tables e below (T0.setTop (mkF m 1 #[.val (.int i0), .val (.int i1), .val (.int i2), .val (.int i3), .unset, .unset, .unset, .unset, .unset, .unset, .unset, .unset, .unset] [(.int i3)])) _
    refine XS.iconst X0.here hx rfl (hb hby at_1) ?_
    show Steps p.tables e below (T0.setTop (mkF m 2 #[.val (.int i0), .val (.int i1), .val (.int i2), .val (.int i3), .unset, .unset, .unset, .unset, .unset, .unset, .unset, .unset, .unset] [(.int (1 : Int32)), (.int i3)])) _
    refine XS.iand X0.here hx rfl (hb hby at_2) rfl ?_
    exact k
  obtain ⟨lim, hn_lim⟩ : ∃ q : Int32, q = (i3 &&& (1 : Int32)) := ⟨_, rfl⟩
  rw [← hn_lim] at H ⊢
  show Go p e below _ T0 (mkF m 3 #[.val (.int i0), .val (.int i1), .val (.int i2), .val (.int i3), .unset, .unset, .unset, .unset, .unset, .unset, .unset, .unset, .unset] [(.int lim)])
  refine Go.by (T' := T0) (g' := (mkF m 10 #[.val (.int i0), .val (.int i1), .val (.int i2), .val (.int i3), .val (.int lim), .unset, .unset, .unset, .unset, .unset, .unset, .unset, .unset] [(.int (((i3.toUInt32 >>> ((1 : Int32) &&& 31).toUInt32).toInt32) &&& (1 : Int32)))])) (fun t k => ?_) ?_
  · show Steps p.tables e below (T0.setTop (mkF m 3 #[.val (.int i0), .val (.int i1), .val (.int i2), .val (.int i3), .unset, .unset, .unset, .unset, .unset, .unset, .unset, .unset, .unset] [(.int lim)])) _
    refine XS.istore X0.here hx rfl (hb hby at_3) rfl (l' := #[.val (.int i0), .val (.int i1), .val (.int i2), .val (.int i3), .val (.int lim), .unset, .unset, .unset, .unset, .unset, .unset, .unset, .unset]) rfl ?_
    show Steps p.tables e below (T0.setTop (mkF m 5 #[.val (.int i0), .val (.int i1), .val (.int i2), .val (.int i3), .val (.int lim), .unset, .unset, .unset, .unset, .unset, .unset, .unset, .unset] [])) _
    refine XS.iloadN X0.here hx rfl (hb hby at_5) rfl ?_
    show Steps p.tables e below (T0.setTop (mkF m 6 #[.val (.int i0), .val (.int i1), .val (.int i2), .val (.int i3), .val (.int lim), .unset, .unset, .unset, .unset, .unset, .unset, .unset, .unset] [(.int i3)])) _
    refine XS.iconst X0.here hx rfl (hb hby at_6) ?_
    show Steps p.tables e below (T0.setTop (mkF m 7 #[.val (.int i0), .val (.int i1), .val (.int i2), .val (.int i3), .val (.int lim), .unset, .unset, .unset, .unset, .unset, .unset, .unset, .unset] [(.int (1 : Int32)), (.int i3)])) _
    refine XS.iushr X0.here hx rfl (hb hby at_7) rfl ?_
    show Steps p.tables e below (T0.setTop (mkF m 8 #[.val (.int i0), .val (.int i1), .val (.int i2), .val (.int i3), .val (.int lim), .unset, .unset, .unset, .unset, .unset, .unset, .unset, .unset] [(.int ((i3.toUInt32 >>> ((1 : Int32) &&& 31).toUInt32).toInt32))])) _
    refine XS.iconst X0.here hx rfl (hb hby at_8) ?_
    show Steps p.tables e below (T0.setTop (mkF m 9 #[.val (.int i0), .val (.int i1), .val (.int i2), .val (.int i3), .val (.int lim), .unset, .unset, .unset, .unset, .unset, .unset, .unset, .unset] [(.int (1 : Int32)), (.int ((i3.toUInt32 >>> ((1 : Int32) &&& 31).toUInt32).toInt32))])) _
    refine XS.iand X0.here hx rfl (hb hby at_9) rfl ?_
    exact k
  have J1 : ∀ (tk : Int32), (tk = if ((i3.toUInt32 >>> ((1 : Int32) &&& 31).toUInt32).toInt32 &&& 1) = 0 then (0 : Int32) else 1) → Go p e below (EndF s room_1.cells room_1.slots (fun v h L => v = some (.int 1) ∧ Fr n0 L)) T0 (mkF m 20 #[.val (.int i0), .val (.int i1), .val (.int i2), .val (.int i3), .val (.int lim), .val (.int tk), .unset, .unset, .unset, .unset, .unset, .unset, .unset] []) := by
    intro tk htk
    rw [← htk] at H
    refine Go.by (T' := T0) (g' := (mkF m 26 #[.val (.int i0), .val (.int i1), .val (.int i2), .val (.int i3), .val (.int lim), .val (.int tk), .unset, .unset, .unset, .unset, .unset, .unset, .unset] [(.int (((i1.toUInt32 >>> ((6 : Int32) &&& 31).toUInt32).toInt32) &&& (3 : Int32)))])) (fun t k => ?_) ?_
    · show Steps p.tables e below (T0.setTop (mkF m 20 #[.val (.int i0), .val (.int i1), .val (.int i2), .val (.int i3), .val (.int lim), .val (.int tk), .unset, .unset, .unset, .unset, .unset, .unset, .unset] [])) _
      refine XS.iloadN X0.here hx rfl (hb hby at_20) rfl ?_
      show Steps p.tables e below (T0.setTop (mkF m 21 #[.val (.int i0), .val (.int i1), .val (.int i2), .val (.int i3), .val (.int lim), .val (.int tk), .unset, .unset, .unset, .unset, .unset, .unset, .unset] [(.int i1)])) _
      refine XS.bipush X0.here hx rfl (hb hby at_21) ?_
      show Steps p.tables e below (T0.setTop (mkF m 23 #[.val (.int i0), .val (.int i1), .val (.int i2), .val (.int i3), .val (.int lim), .val (.int tk), .unset, .unset, .unset, .unset, .unset, .unset, .unset] [(.int (6 : Int32)), (.int i1)])) _
      refine XS.iushr X0.here hx rfl (hb hby at_23) rfl ?_
      show Steps p.tables e below (T0.setTop (mkF m 24 #[.val (.int i0), .val (.int i1), .val (.int i2), .val (.int i3), .val (.int lim), .val (.int tk), .unset, .unset, .unset, .unset, .unset, .unset, .unset] [(.int ((i1.toUInt32 >>> ((6 : Int32) &&& 31).toUInt32).toInt32))])) _
      refine XS.iconst X0.here hx rfl (hb hby at_24) ?_
      show Steps p.tables e below (T0.setTop (mkF m 25 #[.val (.int i0), .val (.int i1), .val (.int i2), .val (.int i3), .val (.int lim), .val (.int tk), .unset, .unset, .unset, .unset, .unset, .unset, .unset] [(.int (3 : Int32)), (.int ((i1.toUInt32 >>> ((6 : Int32) &&& 31).toUInt32).toInt32))])) _
      refine XS.iand X0.here hx rfl (hb hby at_25) rfl ?_
      exact k
    obtain ⟨sn, hn_sn⟩ : ∃ q : Int32, q = (((i1.toUInt32 >>> ((6 : Int32) &&& 31).toUInt32).toInt32) &&& (3 : Int32)) := ⟨_, rfl⟩
    rw [← hn_sn] at H ⊢
    show Go p e below _ T0 (mkF m 26 #[.val (.int i0), .val (.int i1), .val (.int i2), .val (.int i3), .val (.int lim), .val (.int tk), .unset, .unset, .unset, .unset, .unset, .unset, .unset] [(.int sn)])
    refine Go.by (T' := T0) (g' := (mkF m 30 #[.val (.int i0), .val (.int i1), .val (.int i2), .val (.int i3), .val (.int lim), .val (.int tk), .val (.int sn), .unset, .unset, .unset, .unset, .unset, .unset] [(.int sn)])) (fun t k => ?_) ?_
    · show Steps p.tables e below (T0.setTop (mkF m 26 #[.val (.int i0), .val (.int i1), .val (.int i2), .val (.int i3), .val (.int lim), .val (.int tk), .unset, .unset, .unset, .unset, .unset, .unset, .unset] [(.int sn)])) _
      refine XS.istore X0.here hx rfl (hb hby at_26) rfl (l' := #[.val (.int i0), .val (.int i1), .val (.int i2), .val (.int i3), .val (.int lim), .val (.int tk), .val (.int sn), .unset, .unset, .unset, .unset, .unset, .unset]) rfl ?_
      show Steps p.tables e below (T0.setTop (mkF m 28 #[.val (.int i0), .val (.int i1), .val (.int i2), .val (.int i3), .val (.int lim), .val (.int tk), .val (.int sn), .unset, .unset, .unset, .unset, .unset, .unset] [])) _
      refine XS.iload X0.here hx rfl (hb hby at_28) rfl ?_
      exact k
    obtain ⟨s0, hv_s0, H⟩ := ob H
    refine Go.iaNew X0 hx hZ (wd hw 0 rfl) e0 (cap := 3) hv_s0 (hb hby at_30) (by decide) (by decide) (by decide) ?_
    intro T2 h2 aA X2 e2 E2 g2 I_aA
    have lb2 : (h0.size : Nat) ≤ aA := Nat.le_of_eq g2.symm
    have ord3 : (n0 : Nat) ≤ aA := by
      have u0 : (n0 : Nat) ≤ h0.size := OwnKit.Old.le O
      have u1 : (h0.size : Nat) ≤ aA := lb2
      omega
    replace O := O.ext E2
    show Go p e below _ T2 (mkF m 32 #[.val (.int i0), .val (.int i1), .val (.int i2), .val (.int i3), .val (.int lim), .val (.int tk), .val (.int sn), .unset, .unset, .unset, .unset, .unset, .unset] [(.ref aA)])
    refine Go.by (T' := T2) (g' := (mkF m 36 #[.val (.int i0), .val (.int i1), .val (.int i2), .val (.int i3), .val (.int lim), .val (.int tk), .val (.int sn), .val (.ref aA), .unset, .unset, .unset, .unset, .unset] [(.int sn)])) (fun t k => ?_) ?_
    · show Steps p.tables e below (T2.setTop (mkF m 32 #[.val (.int i0), .val (.int i1), .val (.int i2), .val (.int i3), .val (.int lim), .val (.int tk), .val (.int sn), .unset, .unset, .unset, .unset, .unset, .unset] [(.ref aA)])) _
      refine XS.astore X2.here hx rfl (hb hby at_32) rfl rfl (l' := #[.val (.int i0), .val (.int i1), .val (.int i2), .val (.int i3), .val (.int lim), .val (.int tk), .val (.int sn), .val (.ref aA), .unset, .unset, .unset, .unset, .unset]) rfl ?_
      show Steps p.tables e below (T2.setTop (mkF m 34 #[.val (.int i0), .val (.int i1), .val (.int i2), .val (.int i3), .val (.int lim), .val (.int tk), .val (.int sn), .val (.ref aA), .unset, .unset, .unset, .unset, .unset] [])) _
      refine XS.iload X2.here hx rfl (hb hby at_34) rfl ?_
      exact k
    obtain ⟨s1, hs1, H⟩ := ob H
    have J4 : ∀ (T4 : State) (h4 : Heap) (L4 : List Loc), (Stand p l e room_1 s m #[(.int i0), (.int i1), (.int i2), (.int i3)] below meth c T4 L4 1 3) → (T4.heap = h4) → (Old Z n0 h4) → (Fr n0 L4) → (IA Z h4 aA s1) → Go p e below (EndF s room_1.cells room_1.slots (fun v h L => v = some (.int 1) ∧ Fr n0 L)) T4 (mkF m 48 #[.val (.int i0), .val (.int i1), .val (.int i2), .val (.int i3), .val (.int lim), .val (.int tk), .val (.int sn), .val (.ref aA), .unset, .unset, .unset, .unset, .unset] []) := by
      intro T4 h4 L4 X4 e4 O N4 I_aA
      refine Go.by (T' := T4) (g' := (mkF m 51 #[.val (.int i0), .val (.int i1), .val (.int i2), .val (.int i3), .val (.int lim), .val (.int tk), .val (.int sn), .val (.ref aA), .unset, .unset, .unset, .unset, .unset] [(.int (1 : Int32)), (.int sn)])) (fun t k => ?_) ?_
      · show Steps p.tables e below (T4.setTop (mkF m 48 #[.val (.int i0), .val (.int i1), .val (.int i2), .val (.int i3), .val (.int lim), .val (.int tk), .val (.int sn), .val (.ref aA), .unset, .unset, .unset, .unset, .unset] [])) _
        refine XS.iload X4.here hx rfl (hb hby at_48) rfl ?_
        show Steps p.tables e below (T4.setTop (mkF m 50 #[.val (.int i0), .val (.int i1), .val (.int i2), .val (.int i3), .val (.int lim), .val (.int tk), .val (.int sn), .val (.ref aA), .unset, .unset, .unset, .unset, .unset] [(.int sn)])) _
        refine XS.iconst X4.here hx rfl (hb hby at_50) ?_
        exact k
      obtain ⟨s2, hs2, H⟩ := ob H
      have J5 : ∀ (T5 : State) (h5 : Heap) (L5 : List Loc), (Stand p l e room_1 s m #[(.int i0), (.int i1), (.int i2), (.int i3)] below meth c T5 L5 1 3) → (T5.heap = h5) → (Old Z n0 h5) → (Fr n0 L5) → (IA Z h5 aA s2) → Go p e below (EndF s room_1.cells room_1.slots (fun v h L => v = some (.int 1) ∧ Fr n0 L)) T5 (mkF m 65 #[.val (.int i0), .val (.int i1), .val (.int i2), .val (.int i3), .val (.int lim), .val (.int tk), .val (.int sn), .val (.ref aA), .unset, .unset, .unset, .unset, .unset] []) := by
        intro T5 h5 L5 X5 e5 O N5 I_aA
        refine Go.by (T' := T5) (g' := (mkF m 68 #[.val (.int i0), .val (.int i1), .val (.int i2), .val (.int i3), .val (.int lim), .val (.int tk), .val (.int sn), .val (.ref aA), .unset, .unset, .unset, .unset, .unset] [(.int (2 : Int32)), (.int sn)])) (fun t k => ?_) ?_
        · show Steps p.tables e below (T5.setTop (mkF m 65 #[.val (.int i0), .val (.int i1), .val (.int i2), .val (.int i3), .val (.int lim), .val (.int tk), .val (.int sn), .val (.ref aA), .unset, .unset, .unset, .unset, .unset] [])) _
          refine XS.iload X5.here hx rfl (hb hby at_65) rfl ?_
          show Steps p.tables e below (T5.setTop (mkF m 67 #[.val (.int i0), .val (.int i1), .val (.int i2), .val (.int i3), .val (.int lim), .val (.int tk), .val (.int sn), .val (.ref aA), .unset, .unset, .unset, .unset, .unset] [(.int sn)])) _
          refine XS.iconst X5.here hx rfl (hb hby at_67) ?_
          exact k
        obtain ⟨s3, hs3, H⟩ := ob H
        have J6 : ∀ (T6 : State) (h6 : Heap) (L6 : List Loc), (Stand p l e room_1 s m #[(.int i0), (.int i1), (.int i2), (.int i3)] below meth c T6 L6 1 3) → (T6.heap = h6) → (Old Z n0 h6) → (Fr n0 L6) → (IA Z h6 aA s3) → Go p e below (EndF s room_1.cells room_1.slots (fun v h L => v = some (.int 1) ∧ Fr n0 L)) T6 (mkF m 82 #[.val (.int i0), .val (.int i1), .val (.int i2), .val (.int i3), .val (.int lim), .val (.int tk), .val (.int sn), .val (.ref aA), .unset, .unset, .unset, .unset, .unset] []) := by
          intro T6 h6 L6 X6 e6 O N6 I_aA
          refine Go.by (T' := T6) (g' := (mkF m 83 #[.val (.int i0), .val (.int i1), .val (.int i2), .val (.int i3), .val (.int lim), .val (.int tk), .val (.int sn), .val (.ref aA), .unset, .unset, .unset, .unset, .unset] [(.int (4 : Int32))])) (fun t k => ?_) ?_
          · show Steps p.tables e below (T6.setTop (mkF m 82 #[.val (.int i0), .val (.int i1), .val (.int i2), .val (.int i3), .val (.int lim), .val (.int tk), .val (.int sn), .val (.ref aA), .unset, .unset, .unset, .unset, .unset] [])) _
            refine XS.iconst X6.here hx rfl (hb hby at_82) ?_
            exact k
          refine Go.iaNew X6 hx hZ (wd hw 0 rfl) e6 (cap := 4) (rfl : nwO _ _ = some [0, 0, 0, 0]) (hb hby at_83) (by decide) (by decide) (by decide) ?_
          intro T7 h7 aT X7 e7 E7 g7 I_aT
          have lb7 : (h6.size : Nat) ≤ aT := Nat.le_of_eq g7.symm
          have ord8 : (n0 : Nat) ≤ aT ∧ (aA : Nat) < aT := by
            have u0 : (n0 : Nat) ≤ h6.size := OwnKit.Old.le O
            have u1 : (h6.size : Nat) ≤ aT := lb7
            have z0 : (aA : Nat) < h6.size := I_aA.lt
            omega
          replace I_aA := I_aA.ext E7
          replace O := O.ext E7
          show Go p e below _ T7 (mkF m 85 #[.val (.int i0), .val (.int i1), .val (.int i2), .val (.int i3), .val (.int lim), .val (.int tk), .val (.int sn), .val (.ref aA), .unset, .unset, .unset, .unset, .unset] [(.ref aT)])
          refine Go.by (T' := T7) (g' := (mkF m 95 #[.val (.int i0), .val (.int i1), .val (.int i2), .val (.int i3), .val (.int lim), .val (.int tk), .val (.int sn), .val (.ref aA), .val (.ref aT), .unset, .unset, .unset, .unset] [(.int (i0 + (i2 &&& (3 : Int32)))), (.int (0 : Int32)), (.ref aT)])) (fun t k => ?_) ?_
          · show Steps p.tables e below (T7.setTop (mkF m 85 #[.val (.int i0), .val (.int i1), .val (.int i2), .val (.int i3), .val (.int lim), .val (.int tk), .val (.int sn), .val (.ref aA), .unset, .unset, .unset, .unset, .unset] [(.ref aT)])) _
            refine XS.astore X7.here hx rfl (hb hby at_85) rfl rfl (l' := #[.val (.int i0), .val (.int i1), .val (.int i2), .val (.int i3), .val (.int lim), .val (.int tk), .val (.int sn), .val (.ref aA), .val (.ref aT), .unset, .unset, .unset, .unset]) rfl ?_
            show Steps p.tables e below (T7.setTop (mkF m 87 #[.val (.int i0), .val (.int i1), .val (.int i2), .val (.int i3), .val (.int lim), .val (.int tk), .val (.int sn), .val (.ref aA), .val (.ref aT), .unset, .unset, .unset, .unset] [])) _
            refine XS.aload X7.here hx rfl (hb hby at_87) rfl rfl ?_
            show Steps p.tables e below (T7.setTop (mkF m 89 #[.val (.int i0), .val (.int i1), .val (.int i2), .val (.int i3), .val (.int lim), .val (.int tk), .val (.int sn), .val (.ref aA), .val (.ref aT), .unset, .unset, .unset, .unset] [(.ref aT)])) _
            refine XS.iconst X7.here hx rfl (hb hby at_89) ?_
            show Steps p.tables e below (T7.setTop (mkF m 90 #[.val (.int i0), .val (.int i1), .val (.int i2), .val (.int i3), .val (.int lim), .val (.int tk), .val (.int sn), .val (.ref aA), .val (.ref aT), .unset, .unset, .unset, .unset] [(.int (0 : Int32)), (.ref aT)])) _
            refine XS.iloadN X7.here hx rfl (hb hby at_90) rfl ?_
            show Steps p.tables e below (T7.setTop (mkF m 91 #[.val (.int i0), .val (.int i1), .val (.int i2), .val (.int i3), .val (.int lim), .val (.int tk), .val (.int sn), .val (.ref aA), .val (.ref aT), .unset, .unset, .unset, .unset] [(.int i0), (.int (0 : Int32)), (.ref aT)])) _
            refine XS.iloadN X7.here hx rfl (hb hby at_91) rfl ?_
            show Steps p.tables e below (T7.setTop (mkF m 92 #[.val (.int i0), .val (.int i1), .val (.int i2), .val (.int i3), .val (.int lim), .val (.int tk), .val (.int sn), .val (.ref aA), .val (.ref aT), .unset, .unset, .unset, .unset] [(.int i2), (.int i0), (.int (0 : Int32)), (.ref aT)])) _
            refine XS.iconst X7.here hx rfl (hb hby at_92) ?_
            show Steps p.tables e below (T7.setTop (mkF m 93 #[.val (.int i0), .val (.int i1), .val (.int i2), .val (.int i3), .val (.int lim), .val (.int tk), .val (.int sn), .val (.ref aA), .val (.ref aT), .unset, .unset, .unset, .unset] [(.int (3 : Int32)), (.int i2), (.int i0), (.int (0 : Int32)), (.ref aT)])) _
            refine XS.iand X7.here hx rfl (hb hby at_93) rfl ?_
            show Steps p.tables e below (T7.setTop (mkF m 94 #[.val (.int i0), .val (.int i1), .val (.int i2), .val (.int i3), .val (.int lim), .val (.int tk), .val (.int sn), .val (.ref aA), .val (.ref aT), .unset, .unset, .unset, .unset] [(.int (i2 &&& (3 : Int32))), (.int i0), (.int (0 : Int32)), (.ref aT)])) _
            refine XS.iadd X7.here hx rfl (hb hby at_94) rfl ?_
            exact k
          obtain ⟨t0, hn_t0⟩ : ∃ q : Int32, q = (i0 + (i2 &&& (3 : Int32))) := ⟨_, rfl⟩
          rw [← hn_t0] at H ⊢
          show Go p e below _ T7 (mkF m 95 #[.val (.int i0), .val (.int i1), .val (.int i2), .val (.int i3), .val (.int lim), .val (.int tk), .val (.int sn), .val (.ref aA), .val (.ref aT), .unset, .unset, .unset, .unset] [(.int t0), (.int (0 : Int32)), (.ref aT)])
          refine Go.iaS X7 hx hZ e7 I_aT (j := (0 : Int32)) (rfl : wrO _ _ _ = some [t0, 0, 0, 0]) (hb hby at_95) ?_
          intro T9 h9 X9 e9 W9 Vn9
          replace I_aA := I_aA.other W9 (show (aA : Nat) ≠ aT by omega)
          replace O := O.wr W9 (show (n0 : Nat) ≤ aT by omega)
          have N9 := Fr.snoc X9 N6 (show (n0 : Nat) ≤ aT by omega)
          replace I_aT := Vn9
          clear Vn9
          show Go p e below _ T9 (mkF m 96 #[.val (.int i0), .val (.int i1), .val (.int i2), .val (.int i3), .val (.int lim), .val (.int tk), .val (.int sn), .val (.ref aA), .val (.ref aT), .unset, .unset, .unset, .unset] [])
          refine Go.by (T' := T9) (g' := (mkF m 106 #[.val (.int i0), .val (.int i1), .val (.int i2), .val (.int i3), .val (.int lim), .val (.int tk), .val (.int sn), .val (.ref aA), .val (.ref aT), .unset, .unset, .unset, .unset] [(.int (i0 + (((i2.toUInt32 >>> ((2 : Int32) &&& 31).toUInt32).toInt32) &&& (3 : Int32)))), (.int (1 : Int32)), (.ref aT)])) (fun t k => ?_) ?_
          · show Steps p.tables e below (T9.setTop (mkF m 96 #[.val (.int i0), .val (.int i1), .val (.int i2), .val (.int i3), .val (.int lim), .val (.int tk), .val (.int sn), .val (.ref aA), .val (.ref aT), .unset, .unset, .unset, .unset] [])) _
            refine XS.aload X9.here hx rfl (hb hby at_96) rfl rfl ?_
            show Steps p.tables e below (T9.setTop (mkF m 98 #[.val (.int i0), .val (.int i1), .val (.int i2), .val (.int i3), .val (.int lim), .val (.int tk), .val (.int sn), .val (.ref aA), .val (.ref aT), .unset, .unset, .unset, .unset] [(.ref aT)])) _
            refine XS.iconst X9.here hx rfl (hb hby at_98) ?_
            show Steps p.tables e below (T9.setTop (mkF m 99 #[.val (.int i0), .val (.int i1), .val (.int i2), .val (.int i3), .val (.int lim), .val (.int tk), .val (.int sn), .val (.ref aA), .val (.ref aT), .unset, .unset, .unset, .unset] [(.int (1 : Int32)), (.ref aT)])) _
            refine XS.iloadN X9.here hx rfl (hb hby at_99) rfl ?_
            show Steps p.tables e below (T9.setTop (mkF m 100 #[.val (.int i0), .val (.int i1), .val (.int i2), .val (.int i3), .val (.int lim), .val (.int tk), .val (.int sn), .val (.ref aA), .val (.ref aT), .unset, .unset, .unset, .unset] [(.int i0), (.int (1 : Int32)), (.ref aT)])) _
            refine XS.iloadN X9.here hx rfl (hb hby at_100) rfl ?_
            show Steps p.tables e below (T9.setTop (mkF m 101 #[.val (.int i0), .val (.int i1), .val (.int i2), .val (.int i3), .val (.int lim), .val (.int tk), .val (.int sn), .val (.ref aA), .val (.ref aT), .unset, .unset, .unset, .unset] [(.int i2), (.int i0), (.int (1 : Int32)), (.ref aT)])) _
            refine XS.iconst X9.here hx rfl (hb hby at_101) ?_
            show Steps p.tables e below (T9.setTop (mkF m 102 #[.val (.int i0), .val (.int i1), .val (.int i2), .val (.int i3), .val (.int lim), .val (.int tk), .val (.int sn), .val (.ref aA), .val (.ref aT), .unset, .unset, .unset, .unset] [(.int (2 : Int32)), (.int i2), (.int i0), (.int (1 : Int32)), (.ref aT)])) _
            refine XS.iushr X9.here hx rfl (hb hby at_102) rfl ?_
            show Steps p.tables e below (T9.setTop (mkF m 103 #[.val (.int i0), .val (.int i1), .val (.int i2), .val (.int i3), .val (.int lim), .val (.int tk), .val (.int sn), .val (.ref aA), .val (.ref aT), .unset, .unset, .unset, .unset] [(.int ((i2.toUInt32 >>> ((2 : Int32) &&& 31).toUInt32).toInt32)), (.int i0), (.int (1 : Int32)), (.ref aT)])) _
            refine XS.iconst X9.here hx rfl (hb hby at_103) ?_
            show Steps p.tables e below (T9.setTop (mkF m 104 #[.val (.int i0), .val (.int i1), .val (.int i2), .val (.int i3), .val (.int lim), .val (.int tk), .val (.int sn), .val (.ref aA), .val (.ref aT), .unset, .unset, .unset, .unset] [(.int (3 : Int32)), (.int ((i2.toUInt32 >>> ((2 : Int32) &&& 31).toUInt32).toInt32)), (.int i0), (.int (1 : Int32)), (.ref aT)])) _
            refine XS.iand X9.here hx rfl (hb hby at_104) rfl ?_
            show Steps p.tables e below (T9.setTop (mkF m 105 #[.val (.int i0), .val (.int i1), .val (.int i2), .val (.int i3), .val (.int lim), .val (.int tk), .val (.int sn), .val (.ref aA), .val (.ref aT), .unset, .unset, .unset, .unset] [(.int (((i2.toUInt32 >>> ((2 : Int32) &&& 31).toUInt32).toInt32) &&& (3 : Int32))), (.int i0), (.int (1 : Int32)), (.ref aT)])) _
            refine XS.iadd X9.here hx rfl (hb hby at_105) rfl ?_
            exact k
          obtain ⟨t1, hn_t1⟩ : ∃ q : Int32, q = (i0 + (((i2.toUInt32 >>> ((2 : Int32) &&& 31).toUInt32).toInt32) &&& (3 : Int32))) := ⟨_, rfl⟩
          rw [← hn_t1] at H ⊢
          show Go p e below _ T9 (mkF m 106 #[.val (.int i0), .val (.int i1), .val (.int i2), .val (.int i3), .val (.int lim), .val (.int tk), .val (.int sn), .val (.ref aA), .val (.ref aT), .unset, .unset, .unset, .unset] [(.int t1), (.int (1 : Int32)), (.ref aT)])
          refine Go.iaS X9 hx hZ e9 I_aT (j := (1 : Int32)) (rfl : wrO _ _ _ = some [t0, t1, 0, 0]) (hb hby at_106) ?_
          intro T10 h10 X10 e10 W10 Vn10
          replace I_aA := I_aA.other W10 (show (aA : Nat) ≠ aT by omega)
          replace O := O.wr W10 (show (n0 : Nat) ≤ aT by omega)
          have N10 := Fr.snoc X10 N9 (show (n0 : Nat) ≤ aT by omega)
          replace I_aT := Vn10
          clear Vn10
          show Go p e below _ T10 (mkF m 107 #[.val (.int i0), .val (.int i1), .val (.int i2), .val (.int i3), .val (.int lim), .val (.int tk), .val (.int sn), .val (.ref aA), .val (.ref aT), .unset, .unset, .unset, .unset] [])
          refine Go.by (T' := T10) (g' := (mkF m 117 #[.val (.int i0), .val (.int i1), .val (.int i2), .val (.int i3), .val (.int lim), .val (.int tk), .val (.int sn), .val (.ref aA), .val (.ref aT), .unset, .unset, .unset, .unset] [(.int (i0 + (((i2.toUInt32 >>> ((4 : Int32) &&& 31).toUInt32).toInt32) &&& (3 : Int32)))), (.int (2 : Int32)), (.ref aT)])) (fun t k => ?_) ?_
          · show Steps p.tables e below (T10.setTop (mkF m 107 #[.val (.int i0), .val (.int i1), .val (.int i2), .val (.int i3), .val (.int lim), .val (.int tk), .val (.int sn), .val (.ref aA), .val (.ref aT), .unset, .unset, .unset, .unset] [])) _
            refine XS.aload X10.here hx rfl (hb hby at_107) rfl rfl ?_
            show Steps p.tables e below (T10.setTop (mkF m 109 #[.val (.int i0), .val (.int i1), .val (.int i2), .val (.int i3), .val (.int lim), .val (.int tk), .val (.int sn), .val (.ref aA), .val (.ref aT), .unset, .unset, .unset, .unset] [(.ref aT)])) _
            refine XS.iconst X10.here hx rfl (hb hby at_109) ?_
            show Steps p.tables e below (T10.setTop (mkF m 110 #[.val (.int i0), .val (.int i1), .val (.int i2), .val (.int i3), .val (.int lim), .val (.int tk), .val (.int sn), .val (.ref aA), .val (.ref aT), .unset, .unset, .unset, .unset] [(.int (2 : Int32)), (.ref aT)])) _
            refine XS.iloadN X10.here hx rfl (hb hby at_110) rfl ?_
            show Steps p.tables e below (T10.setTop (mkF m 111 #[.val (.int i0), .val (.int i1), .val (.int i2), .val (.int i3), .val (.int lim), .val (.int tk), .val (.int sn), .val (.ref aA), .val (.ref aT), .unset, .unset, .unset, .unset] [(.int i0), (.int (2 : Int32)), (.ref aT)])) _
            refine XS.iloadN X10.here hx rfl (hb hby at_111) rfl ?_
            show Steps p.tables e below (T10.setTop (mkF m 112 #[.val (.int i0), .val (.int i1), .val (.int i2), .val (.int i3), .val (.int lim), .val (.int tk), .val (.int sn), .val (.ref aA), .val (.ref aT), .unset, .unset, .unset, .unset] [(.int i2), (.int i0), (.int (2 : Int32)), (.ref aT)])) _
            refine XS.iconst X10.here hx rfl (hb hby at_112) ?_
            show Steps p.tables e below (T10.setTop (mkF m 113 #[.val (.int i0), .val (.int i1), .val (.int i2), .val (.int i3), .val (.int lim), .val (.int tk), .val (.int sn), .val (.ref aA), .val (.ref aT), .unset, .unset, .unset, .unset] [(.int (4 : Int32)), (.int i2), (.int i0), (.int (2 : Int32)), (.ref aT)])) _
            refine XS.iushr X10.here hx rfl (hb hby at_113) rfl ?_
            show Steps p.tables e below (T10.setTop (mkF m 114 #[.val (.int i0), .val (.int i1), .val (.int i2), .val (.int i3), .val (.int lim), .val (.int tk), .val (.int sn), .val (.ref aA), .val (.ref aT), .unset, .unset, .unset, .unset] [(.int ((i2.toUInt32 >>> ((4 : Int32) &&& 31).toUInt32).toInt32)), (.int i0), (.int (2 : Int32)), (.ref aT)])) _
            refine XS.iconst X10.here hx rfl (hb hby at_114) ?_
            show Steps p.tables e below (T10.setTop (mkF m 115 #[.val (.int i0), .val (.int i1), .val (.int i2), .val (.int i3), .val (.int lim), .val (.int tk), .val (.int sn), .val (.ref aA), .val (.ref aT), .unset, .unset, .unset, .unset] [(.int (3 : Int32)), (.int ((i2.toUInt32 >>> ((4 : Int32) &&& 31).toUInt32).toInt32)), (.int i0), (.int (2 : Int32)), (.ref aT)])) _
            refine XS.iand X10.here hx rfl (hb hby at_115) rfl ?_
            show Steps p.tables e below (T10.setTop (mkF m 116 #[.val (.int i0), .val (.int i1), .val (.int i2), .val (.int i3), .val (.int lim), .val (.int tk), .val (.int sn), .val (.ref aA), .val (.ref aT), .unset, .unset, .unset, .unset] [(.int (((i2.toUInt32 >>> ((4 : Int32) &&& 31).toUInt32).toInt32) &&& (3 : Int32))), (.int i0), (.int (2 : Int32)), (.ref aT)])) _
            refine XS.iadd X10.here hx rfl (hb hby at_116) rfl ?_
            exact k
          obtain ⟨t2, hn_t2⟩ : ∃ q : Int32, q = (i0 + (((i2.toUInt32 >>> ((4 : Int32) &&& 31).toUInt32).toInt32) &&& (3 : Int32))) := ⟨_, rfl⟩
          rw [← hn_t2] at H ⊢
          show Go p e below _ T10 (mkF m 117 #[.val (.int i0), .val (.int i1), .val (.int i2), .val (.int i3), .val (.int lim), .val (.int tk), .val (.int sn), .val (.ref aA), .val (.ref aT), .unset, .unset, .unset, .unset] [(.int t2), (.int (2 : Int32)), (.ref aT)])
          refine Go.iaS X10 hx hZ e10 I_aT (j := (2 : Int32)) (rfl : wrO _ _ _ = some [t0, t1, t2, 0]) (hb hby at_117) ?_
          intro T11 h11 X11 e11 W11 Vn11
          replace I_aA := I_aA.other W11 (show (aA : Nat) ≠ aT by omega)
          replace O := O.wr W11 (show (n0 : Nat) ≤ aT by omega)
          have N11 := Fr.snoc X11 N10 (show (n0 : Nat) ≤ aT by omega)
          replace I_aT := Vn11
          clear Vn11
          show Go p e below _ T11 (mkF m 118 #[.val (.int i0), .val (.int i1), .val (.int i2), .val (.int i3), .val (.int lim), .val (.int tk), .val (.int sn), .val (.ref aA), .val (.ref aT), .unset, .unset, .unset, .unset] [])
          refine Go.by (T' := T11) (g' := (mkF m 129 #[.val (.int i0), .val (.int i1), .val (.int i2), .val (.int i3), .val (.int lim), .val (.int tk), .val (.int sn), .val (.ref aA), .val (.ref aT), .unset, .unset, .unset, .unset] [(.int (i0 + (((i2.toUInt32 >>> ((6 : Int32) &&& 31).toUInt32).toInt32) &&& (3 : Int32)))), (.int (3 : Int32)), (.ref aT)])) (fun t k => ?_) ?_
          · show Steps p.tables e below (T11.setTop (mkF m 118 #[.val (.int i0), .val (.int i1), .val (.int i2), .val (.int i3), .val (.int lim), .val (.int tk), .val (.int sn), .val (.ref aA), .val (.ref aT), .unset, .unset, .unset, .unset] [])) _
            refine XS.aload X11.here hx rfl (hb hby at_118) rfl rfl ?_
            show Steps p.tables e below (T11.setTop (mkF m 120 #[.val (.int i0), .val (.int i1), .val (.int i2), .val (.int i3), .val (.int lim), .val (.int tk), .val (.int sn), .val (.ref aA), .val (.ref aT), .unset, .unset, .unset, .unset] [(.ref aT)])) _
            refine XS.iconst X11.here hx rfl (hb hby at_120) ?_
            show Steps p.tables e below (T11.setTop (mkF m 121 #[.val (.int i0), .val (.int i1), .val (.int i2), .val (.int i3), .val (.int lim), .val (.int tk), .val (.int sn), .val (.ref aA), .val (.ref aT), .unset, .unset, .unset, .unset] [(.int (3 : Int32)), (.ref aT)])) _
            refine XS.iloadN X11.here hx rfl (hb hby at_121) rfl ?_
            show Steps p.tables e below (T11.setTop (mkF m 122 #[.val (.int i0), .val (.int i1), .val (.int i2), .val (.int i3), .val (.int lim), .val (.int tk), .val (.int sn), .val (.ref aA), .val (.ref aT), .unset, .unset, .unset, .unset] [(.int i0), (.int (3 : Int32)), (.ref aT)])) _
            refine XS.iloadN X11.here hx rfl (hb hby at_122) rfl ?_
            show Steps p.tables e below (T11.setTop (mkF m 123 #[.val (.int i0), .val (.int i1), .val (.int i2), .val (.int i3), .val (.int lim), .val (.int tk), .val (.int sn), .val (.ref aA), .val (.ref aT), .unset, .unset, .unset, .unset] [(.int i2), (.int i0), (.int (3 : Int32)), (.ref aT)])) _
            refine XS.bipush X11.here hx rfl (hb hby at_123) ?_
            show Steps p.tables e below (T11.setTop (mkF m 125 #[.val (.int i0), .val (.int i1), .val (.int i2), .val (.int i3), .val (.int lim), .val (.int tk), .val (.int sn), .val (.ref aA), .val (.ref aT), .unset, .unset, .unset, .unset] [(.int (6 : Int32)), (.int i2), (.int i0), (.int (3 : Int32)), (.ref aT)])) _
            refine XS.iushr X11.here hx rfl (hb hby at_125) rfl ?_
            show Steps p.tables e below (T11.setTop (mkF m 126 #[.val (.int i0), .val (.int i1), .val (.int i2), .val (.int i3), .val (.int lim), .val (.int tk), .val (.int sn), .val (.ref aA), .val (.ref aT), .unset, .unset, .unset, .unset] [(.int ((i2.toUInt32 >>> ((6 : Int32) &&& 31).toUInt32).toInt32)), (.int i0), (.int (3 : Int32)), (.ref aT)])) _
            refine XS.iconst X11.here hx rfl (hb hby at_126) ?_
            show Steps p.tables e below (T11.setTop (mkF m 127 #[.val (.int i0), .val (.int i1), .val (.int i2), .val (.int i3), .val (.int lim), .val (.int tk), .val (.int sn), .val (.ref aA), .val (.ref aT), .unset, .unset, .unset, .unset] [(.int (3 : Int32)), (.int ((i2.toUInt32 >>> ((6 : Int32) &&& 31).toUInt32).toInt32)), (.int i0), (.int (3 : Int32)), (.ref aT)])) _
            refine XS.iand X11.here hx rfl (hb hby at_127) rfl ?_
            show Steps p.tables e below (T11.setTop (mkF m 128 #[.val (.int i0), .val (.int i1), .val (.int i2), .val (.int i3), .val (.int lim), .val (.int tk), .val (.int sn), .val (.ref aA), .val (.ref aT), .unset, .unset, .unset, .unset] [(.int (((i2.toUInt32 >>> ((6 : Int32) &&& 31).toUInt32).toInt32) &&& (3 : Int32))), (.int i0), (.int (3 : Int32)), (.ref aT)])) _
            refine XS.iadd X11.here hx rfl (hb hby at_128) rfl ?_
            exact k
          obtain ⟨t3, hn_t3⟩ : ∃ q : Int32, q = (i0 + (((i2.toUInt32 >>> ((6 : Int32) &&& 31).toUInt32).toInt32) &&& (3 : Int32))) := ⟨_, rfl⟩
          rw [← hn_t3] at H ⊢
          show Go p e below _ T11 (mkF m 129 #[.val (.int i0), .val (.int i1), .val (.int i2), .val (.int i3), .val (.int lim), .val (.int tk), .val (.int sn), .val (.ref aA), .val (.ref aT), .unset, .unset, .unset, .unset] [(.int t3), (.int (3 : Int32)), (.ref aT)])
          refine Go.iaS X11 hx hZ e11 I_aT (j := (3 : Int32)) (rfl : wrO _ _ _ = some [t0, t1, t2, t3]) (hb hby at_129) ?_
          intro T12 h12 X12 e12 W12 Vn12
          replace I_aA := I_aA.other W12 (show (aA : Nat) ≠ aT by omega)
          replace O := O.wr W12 (show (n0 : Nat) ≤ aT by omega)
          have N12 := Fr.snoc X12 N11 (show (n0 : Nat) ≤ aT by omega)
          replace I_aT := Vn12
          clear Vn12
          show Go p e below _ T12 (mkF m 130 #[.val (.int i0), .val (.int i1), .val (.int i2), .val (.int i3), .val (.int lim), .val (.int tk), .val (.int sn), .val (.ref aA), .val (.ref aT), .unset, .unset, .unset, .unset] [])
          refine Go.by (T' := T12) (g' := (mkF m 144 #[.val (.int i0), .val (.int i1), .val (.int i2), .val (.int i3), .val (.int lim), .val (.int tk), .val (.int sn), .val (.ref aA), .val (.ref aT), .unset, .unset, .unset, .unset] [(.int ((sn + lim) + (1 : Int32))), (.int (((i2.toUInt32 >>> ((8 : Int32) &&& 31).toUInt32).toInt32) &&& (7 : Int32)))])) (fun t k => ?_) ?_
          · show Steps p.tables e below (T12.setTop (mkF m 130 #[.val (.int i0), .val (.int i1), .val (.int i2), .val (.int i3), .val (.int lim), .val (.int tk), .val (.int sn), .val (.ref aA), .val (.ref aT), .unset, .unset, .unset, .unset] [])) _
            refine XS.iloadN X12.here hx rfl (hb hby at_130) rfl ?_
            show Steps p.tables e below (T12.setTop (mkF m 131 #[.val (.int i0), .val (.int i1), .val (.int i2), .val (.int i3), .val (.int lim), .val (.int tk), .val (.int sn), .val (.ref aA), .val (.ref aT), .unset, .unset, .unset, .unset] [(.int i2)])) _
            refine XS.bipush X12.here hx rfl (hb hby at_131) ?_
            show Steps p.tables e below (T12.setTop (mkF m 133 #[.val (.int i0), .val (.int i1), .val (.int i2), .val (.int i3), .val (.int lim), .val (.int tk), .val (.int sn), .val (.ref aA), .val (.ref aT), .unset, .unset, .unset, .unset] [(.int (8 : Int32)), (.int i2)])) _
            refine XS.iushr X12.here hx rfl (hb hby at_133) rfl ?_
            show Steps p.tables e below (T12.setTop (mkF m 134 #[.val (.int i0), .val (.int i1), .val (.int i2), .val (.int i3), .val (.int lim), .val (.int tk), .val (.int sn), .val (.ref aA), .val (.ref aT), .unset, .unset, .unset, .unset] [(.int ((i2.toUInt32 >>> ((8 : Int32) &&& 31).toUInt32).toInt32))])) _
            refine XS.bipush X12.here hx rfl (hb hby at_134) ?_
            show Steps p.tables e below (T12.setTop (mkF m 136 #[.val (.int i0), .val (.int i1), .val (.int i2), .val (.int i3), .val (.int lim), .val (.int tk), .val (.int sn), .val (.ref aA), .val (.ref aT), .unset, .unset, .unset, .unset] [(.int (7 : Int32)), (.int ((i2.toUInt32 >>> ((8 : Int32) &&& 31).toUInt32).toInt32))])) _
            refine XS.iand X12.here hx rfl (hb hby at_136) rfl ?_
            show Steps p.tables e below (T12.setTop (mkF m 137 #[.val (.int i0), .val (.int i1), .val (.int i2), .val (.int i3), .val (.int lim), .val (.int tk), .val (.int sn), .val (.ref aA), .val (.ref aT), .unset, .unset, .unset, .unset] [(.int (((i2.toUInt32 >>> ((8 : Int32) &&& 31).toUInt32).toInt32) &&& (7 : Int32)))])) _
            refine XS.iload X12.here hx rfl (hb hby at_137) rfl ?_
            show Steps p.tables e below (T12.setTop (mkF m 139 #[.val (.int i0), .val (.int i1), .val (.int i2), .val (.int i3), .val (.int lim), .val (.int tk), .val (.int sn), .val (.ref aA), .val (.ref aT), .unset, .unset, .unset, .unset] [(.int sn), (.int (((i2.toUInt32 >>> ((8 : Int32) &&& 31).toUInt32).toInt32) &&& (7 : Int32)))])) _
            refine XS.iload X12.here hx rfl (hb hby at_139) rfl ?_
            show Steps p.tables e below (T12.setTop (mkF m 141 #[.val (.int i0), .val (.int i1), .val (.int i2), .val (.int i3), .val (.int lim), .val (.int tk), .val (.int sn), .val (.ref aA), .val (.ref aT), .unset, .unset, .unset, .unset] [(.int lim), (.int sn), (.int (((i2.toUInt32 >>> ((8 : Int32) &&& 31).toUInt32).toInt32) &&& (7 : Int32)))])) _
            refine XS.iadd X12.here hx rfl (hb hby at_141) rfl ?_
            show Steps p.tables e below (T12.setTop (mkF m 142 #[.val (.int i0), .val (.int i1), .val (.int i2), .val (.int i3), .val (.int lim), .val (.int tk), .val (.int sn), .val (.ref aA), .val (.ref aT), .unset, .unset, .unset, .unset] [(.int (sn + lim)), (.int (((i2.toUInt32 >>> ((8 : Int32) &&& 31).toUInt32).toInt32) &&& (7 : Int32)))])) _
            refine XS.iconst X12.here hx rfl (hb hby at_142) ?_
            show Steps p.tables e below (T12.setTop (mkF m 143 #[.val (.int i0), .val (.int i1), .val (.int i2), .val (.int i3), .val (.int lim), .val (.int tk), .val (.int sn), .val (.ref aA), .val (.ref aT), .unset, .unset, .unset, .unset] [(.int (1 : Int32)), (.int (sn + lim)), (.int (((i2.toUInt32 >>> ((8 : Int32) &&& 31).toUInt32).toInt32) &&& (7 : Int32)))])) _
            refine XS.iadd X12.here hx rfl (hb hby at_143) rfl ?_
            exact k
          have hnz : ¬ (((sn + lim) + (1 : Int32)) = 0) := fun q => by rw [if_pos q] at H; cases H
          replace H := (if_neg hnz).symm.trans H
          show Go p e below _ T12 (mkF m 144 #[.val (.int i0), .val (.int i1), .val (.int i2), .val (.int i3), .val (.int lim), .val (.int tk), .val (.int sn), .val (.ref aA), .val (.ref aT), .unset, .unset, .unset, .unset] [(.int ((sn + lim) + (1 : Int32))), (.int (((i2.toUInt32 >>> ((8 : Int32) &&& 31).toUInt32).toInt32) &&& (7 : Int32)))])
          refine Go.by (T' := T12) (g' := (mkF m 145 #[.val (.int i0), .val (.int i1), .val (.int i2), .val (.int i3), .val (.int lim), .val (.int tk), .val (.int sn), .val (.ref aA), .val (.ref aT), .unset, .unset, .unset, .unset] [(.int ((((i2.toUInt32 >>> ((8 : Int32) &&& 31).toUInt32).toInt32) &&& (7 : Int32)) % ((sn + lim) + (1 : Int32))))])) (fun t k => ?_) ?_
          · show Steps p.tables e below (T12.setTop (mkF m 144 #[.val (.int i0), .val (.int i1), .val (.int i2), .val (.int i3), .val (.int lim), .val (.int tk), .val (.int sn), .val (.ref aA), .val (.ref aT), .unset, .unset, .unset, .unset] [(.int ((sn + lim) + (1 : Int32))), (.int (((i2.toUInt32 >>> ((8 : Int32) &&& 31).toUInt32).toInt32) &&& (7 : Int32)))])) _
            refine iremM X12 hx rfl (hb hby at_144) rfl hnz ?_
            exact k
          obtain ⟨nn, hn_nn⟩ : ∃ q : Int32, q = ((((i2.toUInt32 >>> ((8 : Int32) &&& 31).toUInt32).toInt32) &&& (7 : Int32)) % ((sn + lim) + (1 : Int32))) := ⟨_, rfl⟩
          rw [← hn_nn] at H ⊢
          show Go p e below _ T12 (mkF m 145 #[.val (.int i0), .val (.int i1), .val (.int i2), .val (.int i3), .val (.int lim), .val (.int tk), .val (.int sn), .val (.ref aA), .val (.ref aT), .unset, .unset, .unset, .unset] [(.int nn)])
          refine Go.by (T' := T12) (g' := (mkF m 147 #[.val (.int i0), .val (.int i1), .val (.int i2), .val (.int i3), .val (.int lim), .val (.int tk), .val (.int sn), .val (.ref aA), .val (.ref aT), .val (.int nn), .unset, .unset, .unset] [])) (fun t k => ?_) ?_
          · show Steps p.tables e below (T12.setTop (mkF m 145 #[.val (.int i0), .val (.int i1), .val (.int i2), .val (.int i3), .val (.int lim), .val (.int tk), .val (.int sn), .val (.ref aA), .val (.ref aT), .unset, .unset, .unset, .unset] [(.int nn)])) _
            refine XS.istore X12.here hx rfl (hb hby at_145) rfl (l' := #[.val (.int i0), .val (.int i1), .val (.int i2), .val (.int i3), .val (.int lim), .val (.int tk), .val (.int sn), .val (.ref aA), .val (.ref aT), .val (.int nn), .unset, .unset, .unset]) rfl ?_
            exact k
          refine Go.newON X12 hx hZ hown (wd hw 1 rfl) (wd hw 2 rfl) (wd hw 3 rfl) e12 (hb hby at_147) (by decide) (by decide) ?_
          intro T13 h13 b13 X13 e13 E13 g13 A13 D13
          have g13 : (b13 : Nat) = h12.size := g13
          have lb13 : (h12.size : Nat) ≤ b13 := Nat.le_of_eq g13.symm
          have ord14 : (n0 : Nat) ≤ b13 ∧ (aA : Nat) < b13 ∧ (aT : Nat) < b13 := by
            have u0 : (n0 : Nat) ≤ h12.size := OwnKit.Old.le O
            have u1 : (h12.size : Nat) ≤ b13 := lb13
            have z0 : (aA : Nat) < h12.size := I_aA.lt
            have z1 : (aT : Nat) < h12.size := I_aT.lt
            omega
          replace I_aA := I_aA.ext E13
          replace I_aT := I_aT.ext E13
          replace O := O.ext E13
          have E_b13 := A13
          have F_b13_source : Fld Z h13 b13 "com/example/shingle/shingle/EditDistance" "source" "[I" .null := D13 (Or.inr (wd hw 20 rfl)) (ty := (.array .int)) (by decide)
          have F_b13_limit : Fld Z h13 b13 "com/example/shingle/shingle/EditDistance" "limit" "I" (.int (0 : Int32)) := D13 (Or.inr (wd hw 22 rfl)) (ty := .int) (by decide)
          have F_b13_sourceLetters : Fld Z h13 b13 "com/example/shingle/shingle/EditDistance" "sourceLetters" "[I" .null := D13 (Or.inr (wd hw 24 rfl)) (ty := (.array .int)) (by decide)
          have F_b13_distinct : Fld Z h13 b13 "com/example/shingle/shingle/EditDistance" "distinct" "[I" .null := D13 (Or.inr (wd hw 32 rfl)) (ty := (.array .int)) (by decide)
          have F_b13_lastRowBefore : Fld Z h13 b13 "com/example/shingle/shingle/EditDistance" "lastRowBefore" "[[I" .null := D13 (Or.inr (wd hw 36 rfl)) (ty := (.array (.array .int))) (by decide)
          have F_b13_columns : Fld Z h13 b13 "com/example/shingle/shingle/EditDistance" "columns" "[[I" .null := D13 (Or.inr (wd hw 43 rfl)) (ty := (.array (.array .int))) (by decide)
          have F_b13_fewest : Fld Z h13 b13 "com/example/shingle/shingle/EditDistance" "fewest" "[I" .null := D13 (Or.inr (wd hw 45 rfl)) (ty := (.array .int)) (by decide)
          have F_b13_targetLetters : Fld Z h13 b13 "com/example/shingle/shingle/EditDistance" "targetLetters" "[I" .null := D13 (Or.inr (wd hw 47 rfl)) (ty := (.array .int)) (by decide)
          have F_b13_lastColumn : Fld Z h13 b13 "com/example/shingle/shingle/EditDistance" "lastColumn" "[I" .null := D13 (Or.inr (wd hw 49 rfl)) (ty := (.array .int)) (by decide)
          have F_b13_replacedColumn : Fld Z h13 b13 "com/example/shingle/shingle/EditDistance" "replacedColumn" "[I" .null := D13 (Or.inr (wd hw 51 rfl)) (ty := (.array .int)) (by decide)
          have F_b13_read : Fld Z h13 b13 "com/example/shingle/shingle/EditDistance" "read" "I" (.int (0 : Int32)) := D13 (Or.inl (wd hw 62 rfl)) (ty := .int) (by decide)
          show Go p e below _ T13 (mkF m 150 #[.val (.int i0), .val (.int i1), .val (.int i2), .val (.int i3), .val (.int lim), .val (.int tk), .val (.int sn), .val (.ref aA), .val (.ref aT), .val (.int nn), .unset, .unset, .unset] [(.ref b13)])
          refine Go.by (T' := T13) (g' := (mkF m 155 #[.val (.int i0), .val (.int i1), .val (.int i2), .val (.int i3), .val (.int lim), .val (.int tk), .val (.int sn), .val (.ref aA), .val (.ref aT), .val (.int nn), .unset, .unset, .unset] [(.int lim), (.ref aA), (.ref b13), (.ref b13)])) (fun t k => ?_) ?_
          · show Steps p.tables e below (T13.setTop (mkF m 150 #[.val (.int i0), .val (.int i1), .val (.int i2), .val (.int i3), .val (.int lim), .val (.int tk), .val (.int sn), .val (.ref aA), .val (.ref aT), .val (.int nn), .unset, .unset, .unset] [(.ref b13)])) _
            refine XS.dup X13.here hx rfl (hb hby at_150) rfl rfl ?_
            show Steps p.tables e below (T13.setTop (mkF m 151 #[.val (.int i0), .val (.int i1), .val (.int i2), .val (.int i3), .val (.int lim), .val (.int tk), .val (.int sn), .val (.ref aA), .val (.ref aT), .val (.int nn), .unset, .unset, .unset] [(.ref b13), (.ref b13)])) _
            refine XS.aload X13.here hx rfl (hb hby at_151) rfl rfl ?_
            show Steps p.tables e below (T13.setTop (mkF m 153 #[.val (.int i0), .val (.int i1), .val (.int i2), .val (.int i3), .val (.int lim), .val (.int tk), .val (.int sn), .val (.ref aA), .val (.ref aT), .val (.int nn), .unset, .unset, .unset] [(.ref aA), (.ref b13), (.ref b13)])) _
            refine XS.iload X13.here hx rfl (hb hby at_153) rfl ?_
            exact k
          obtain ⟨d0, hst0, H⟩ := ob H
          obtain ⟨⟨du, mu⟩, hP, H⟩ := ob H
          dsimp only at H
          unfold m1P at hP
          refine Go.callC X13 hx hZ (W := 1) (argsL := [(.ref aA), (.int lim)]) (rest := [(.ref b13)]) hown rfl (wd hw 4 rfl) (wd hw 5 rfl) (wd hw 3 rfl) (wd hw 6 rfl) (by decide) (ct_init l Z a0 hw  b13 aA s3 lim d0 h13 n0 O (by omega) (by omega) E_b13 F_b13_source F_b13_limit F_b13_sourceLetters F_b13_distinct F_b13_lastRowBefore F_b13_columns F_b13_fewest F_b13_targetLetters F_b13_lastColumn F_b13_replacedColumn F_b13_read I_aA hst0) e13 (by rw [hml]; rfl) (lenOf pd___II_V_6142 rfl) rfl rfl (hb hby at_155) (by decide) (by decide) (by decide) (by decide) ?_
          intro v15 T15 h15 L15 X15 e15 q15
          obtain ⟨rfl, N15, K15, w15, D_b13⟩ := q15
          replace N15 := Fr.app N12 N15
          replace I_aA := I_aA.keep K15 (ninS (show (aA : Nat) ≠ b13 by omega) nin0)
          replace I_aT := I_aT.keep K15 (ninS (show (aT : Nat) ≠ b13 by omega) nin0)
          replace E_b13 := E_b13.keep K15
          clear F_b13_source
          clear F_b13_limit
          clear F_b13_sourceLetters
          clear F_b13_distinct
          clear F_b13_lastRowBefore
          clear F_b13_columns
          clear F_b13_fewest
          clear F_b13_targetLetters
          clear F_b13_lastColumn
          clear F_b13_replacedColumn
          clear F_b13_read
          replace O := O.keep K15 (by intro (z : Nat) hz; have hz : (z : Nat) = b13 := List.mem_singleton.mp hz; show (n0 : Nat) ≤ z; omega)
          show Go p e below _ T15 (mkF m 158 #[.val (.int i0), .val (.int i1), .val (.int i2), .val (.int i3), .val (.int lim), .val (.int tk), .val (.int sn), .val (.ref aA), .val (.ref aT), .val (.int nn), .unset, .unset, .unset] [(.ref b13)])
          refine Go.by (T' := T15) (g' := (mkF m 162 #[.val (.int i0), .val (.int i1), .val (.int i2), .val (.int i3), .val (.int lim), .val (.int tk), .val (.int sn), .val (.ref aA), .val (.ref aT), .val (.int nn), .val (.ref b13), .unset, .unset] [(.int nn)])) (fun t k => ?_) ?_
          · show Steps p.tables e below (T15.setTop (mkF m 158 #[.val (.int i0), .val (.int i1), .val (.int i2), .val (.int i3), .val (.int lim), .val (.int tk), .val (.int sn), .val (.ref aA), .val (.ref aT), .val (.int nn), .unset, .unset, .unset] [(.ref b13)])) _
            refine XS.astore X15.here hx rfl (hb hby at_158) rfl rfl (l' := #[.val (.int i0), .val (.int i1), .val (.int i2), .val (.int i3), .val (.int lim), .val (.int tk), .val (.int sn), .val (.ref aA), .val (.ref aT), .val (.int nn), .val (.ref b13), .unset, .unset]) rfl ?_
            show Steps p.tables e below (T15.setTop (mkF m 160 #[.val (.int i0), .val (.int i1), .val (.int i2), .val (.int i3), .val (.int lim), .val (.int tk), .val (.int sn), .val (.ref aA), .val (.ref aT), .val (.int nn), .val (.ref b13), .unset, .unset] [])) _
            refine XS.iload X15.here hx rfl (hb hby at_160) rfl ?_
            exact k
          obtain ⟨d1, hd1, hP⟩ := ob hP
          have J16 : ∀ (T16 : State) (h16 : Heap) (L16 : List Loc), (Stand p l e room_1 s m #[(.int i0), (.int i1), (.int i2), (.int i3)] below meth c T16 L16 23 104) → (T16.heap = h16) → (Old Z n0 h16) → (Fr n0 L16) → (IA Z h16 aA s3) → (IA Z h16 aT [t0, t1, t2, t3]) → (Exa Z h16 b13 "com/example/shingle/shingle/EditDistance") → (ED Z h16 b13 w15 d1) → Go p e below (EndF s room_1.cells room_1.slots (fun v h L => v = some (.int 1) ∧ Fr n0 L)) T16 (mkF m 174 #[.val (.int i0), .val (.int i1), .val (.int i2), .val (.int i3), .val (.int lim), .val (.int tk), .val (.int sn), .val (.ref aA), .val (.ref aT), .val (.int nn), .val (.ref b13), .unset, .unset] []) := by
            intro T16 h16 L16 X16 e16 O N16 I_aA I_aT E_b13 D_b13
            refine Go.by (T' := T16) (g' := (mkF m 177 #[.val (.int i0), .val (.int i1), .val (.int i2), .val (.int i3), .val (.int lim), .val (.int tk), .val (.int sn), .val (.ref aA), .val (.ref aT), .val (.int nn), .val (.ref b13), .unset, .unset] [(.int (1 : Int32)), (.int nn)])) (fun t k => ?_) ?_
            · show Steps p.tables e below (T16.setTop (mkF m 174 #[.val (.int i0), .val (.int i1), .val (.int i2), .val (.int i3), .val (.int lim), .val (.int tk), .val (.int sn), .val (.ref aA), .val (.ref aT), .val (.int nn), .val (.ref b13), .unset, .unset] [])) _
              refine XS.iload X16.here hx rfl (hb hby at_174) rfl ?_
              show Steps p.tables e below (T16.setTop (mkF m 176 #[.val (.int i0), .val (.int i1), .val (.int i2), .val (.int i3), .val (.int lim), .val (.int tk), .val (.int sn), .val (.ref aA), .val (.ref aT), .val (.int nn), .val (.ref b13), .unset, .unset] [(.int nn)])) _
              refine XS.iconst X16.here hx rfl (hb hby at_176) ?_
              exact k
            obtain ⟨d2, hd2, hP⟩ := ob hP
            have J17 : ∀ (T17 : State) (h17 : Heap) (L17 : List Loc), (Stand p l e room_1 s m #[(.int i0), (.int i1), (.int i2), (.int i3)] below meth c T17 L17 23 104) → (T17.heap = h17) → (Old Z n0 h17) → (Fr n0 L17) → (IA Z h17 aA s3) → (IA Z h17 aT [t0, t1, t2, t3]) → (Exa Z h17 b13 "com/example/shingle/shingle/EditDistance") → (ED Z h17 b13 w15 d2) → Go p e below (EndF s room_1.cells room_1.slots (fun v h L => v = some (.int 1) ∧ Fr n0 L)) T17 (mkF m 189 #[.val (.int i0), .val (.int i1), .val (.int i2), .val (.int i3), .val (.int lim), .val (.int tk), .val (.int sn), .val (.ref aA), .val (.ref aT), .val (.int nn), .val (.ref b13), .unset, .unset] []) := by
              intro T17 h17 L17 X17 e17 O N17 I_aA I_aT E_b13 D_b13
              refine Go.by (T' := T17) (g' := (mkF m 192 #[.val (.int i0), .val (.int i1), .val (.int i2), .val (.int i3), .val (.int lim), .val (.int tk), .val (.int sn), .val (.ref aA), .val (.ref aT), .val (.int nn), .val (.ref b13), .unset, .unset] [(.int (2 : Int32)), (.int nn)])) (fun t k => ?_) ?_
              · show Steps p.tables e below (T17.setTop (mkF m 189 #[.val (.int i0), .val (.int i1), .val (.int i2), .val (.int i3), .val (.int lim), .val (.int tk), .val (.int sn), .val (.ref aA), .val (.ref aT), .val (.int nn), .val (.ref b13), .unset, .unset] [])) _
                refine XS.iload X17.here hx rfl (hb hby at_189) rfl ?_
                show Steps p.tables e below (T17.setTop (mkF m 191 #[.val (.int i0), .val (.int i1), .val (.int i2), .val (.int i3), .val (.int lim), .val (.int tk), .val (.int sn), .val (.ref aA), .val (.ref aT), .val (.int nn), .val (.ref b13), .unset, .unset] [(.int nn)])) _
                refine XS.iconst X17.here hx rfl (hb hby at_191) ?_
                exact k
              obtain ⟨d3, hd3, hP⟩ := ob hP
              have J18 : ∀ (T18 : State) (h18 : Heap) (L18 : List Loc), (Stand p l e room_1 s m #[(.int i0), (.int i1), (.int i2), (.int i3)] below meth c T18 L18 23 104) → (T18.heap = h18) → (Old Z n0 h18) → (Fr n0 L18) → (IA Z h18 aA s3) → (IA Z h18 aT [t0, t1, t2, t3]) → (Exa Z h18 b13 "com/example/shingle/shingle/EditDistance") → (ED Z h18 b13 w15 d3) → Go p e below (EndF s room_1.cells room_1.slots (fun v h L => v = some (.int 1) ∧ Fr n0 L)) T18 (mkF m 204 #[.val (.int i0), .val (.int i1), .val (.int i2), .val (.int i3), .val (.int lim), .val (.int tk), .val (.int sn), .val (.ref aA), .val (.ref aT), .val (.int nn), .val (.ref b13), .unset, .unset] []) := by
                intro T18 h18 L18 X18 e18 O N18 I_aA I_aT E_b13 D_b13
                refine Go.by (T' := T18) (g' := (mkF m 207 #[.val (.int i0), .val (.int i1), .val (.int i2), .val (.int i3), .val (.int lim), .val (.int tk), .val (.int sn), .val (.ref aA), .val (.ref aT), .val (.int nn), .val (.ref b13), .unset, .unset] [(.int (3 : Int32)), (.int nn)])) (fun t k => ?_) ?_
                · show Steps p.tables e below (T18.setTop (mkF m 204 #[.val (.int i0), .val (.int i1), .val (.int i2), .val (.int i3), .val (.int lim), .val (.int tk), .val (.int sn), .val (.ref aA), .val (.ref aT), .val (.int nn), .val (.ref b13), .unset, .unset] [])) _
                  refine XS.iload X18.here hx rfl (hb hby at_204) rfl ?_
                  show Steps p.tables e below (T18.setTop (mkF m 206 #[.val (.int i0), .val (.int i1), .val (.int i2), .val (.int i3), .val (.int lim), .val (.int tk), .val (.int sn), .val (.ref aA), .val (.ref aT), .val (.int nn), .val (.ref b13), .unset, .unset] [(.int nn)])) _
                  refine XS.iconst X18.here hx rfl (hb hby at_206) ?_
                  exact k
                obtain ⟨d4, hd4, hP⟩ := ob hP
                have J19 : ∀ (T19 : State) (h19 : Heap) (L19 : List Loc), (Stand p l e room_1 s m #[(.int i0), (.int i1), (.int i2), (.int i3)] below meth c T19 L19 23 104) → (T19.heap = h19) → (Old Z n0 h19) → (Fr n0 L19) → (IA Z h19 aA s3) → (IA Z h19 aT [t0, t1, t2, t3]) → (Exa Z h19 b13 "com/example/shingle/shingle/EditDistance") → (ED Z h19 b13 w15 d4) → Go p e below (EndF s room_1.cells room_1.slots (fun v h L => v = some (.int 1) ∧ Fr n0 L)) T19 (mkF m 219 #[.val (.int i0), .val (.int i1), .val (.int i2), .val (.int i3), .val (.int lim), .val (.int tk), .val (.int sn), .val (.ref aA), .val (.ref aT), .val (.int nn), .val (.ref b13), .unset, .unset] []) := by
                  intro T19 h19 L19 X19 e19 O N19 I_aA I_aT E_b13 D_b13
                  refine Go.by (T' := T19) (g' := (mkF m 225 #[.val (.int i0), .val (.int i1), .val (.int i2), .val (.int i3), .val (.int lim), .val (.int tk), .val (.int sn), .val (.ref aA), .val (.ref aT), .val (.int nn), .val (.ref b13), .val (.int nn), .unset] [(.int tk)])) (fun t k => ?_) ?_
                  · show Steps p.tables e below (T19.setTop (mkF m 219 #[.val (.int i0), .val (.int i1), .val (.int i2), .val (.int i3), .val (.int lim), .val (.int tk), .val (.int sn), .val (.ref aA), .val (.ref aT), .val (.int nn), .val (.ref b13), .unset, .unset] [])) _
                    refine XS.iload X19.here hx rfl (hb hby at_219) rfl ?_
                    show Steps p.tables e below (T19.setTop (mkF m 221 #[.val (.int i0), .val (.int i1), .val (.int i2), .val (.int i3), .val (.int lim), .val (.int tk), .val (.int sn), .val (.ref aA), .val (.ref aT), .val (.int nn), .val (.ref b13), .unset, .unset] [(.int nn)])) _
                    refine XS.istore X19.here hx rfl (hb hby at_221) rfl (l' := #[.val (.int i0), .val (.int i1), .val (.int i2), .val (.int i3), .val (.int lim), .val (.int tk), .val (.int sn), .val (.ref aA), .val (.ref aT), .val (.int nn), .val (.ref b13), .val (.int nn), .unset]) rfl ?_
                    show Steps p.tables e below (T19.setTop (mkF m 223 #[.val (.int i0), .val (.int i1), .val (.int i2), .val (.int i3), .val (.int lim), .val (.int tk), .val (.int sn), .val (.ref aA), .val (.ref aT), .val (.int nn), .val (.ref b13), .val (.int nn), .unset] [])) _
                    refine XS.iload X19.here hx rfl (hb hby at_223) rfl ?_
                    exact k
                  have J20 : ∀ (mm : Int32) (T20 : State) (h20 : Heap) (L20 : List Loc), (Stand p l e room_1 s m #[(.int i0), (.int i1), (.int i2), (.int i3)] below meth c T20 L20 23 104) → (T20.heap = h20) → (Old Z n0 h20) → (Fr n0 L20) → (IA Z h20 aA s3) → (IA Z h20 aT [t0, t1, t2, t3]) → (Exa Z h20 b13 "com/example/shingle/shingle/EditDistance") → (ED Z h20 b13 w15 du) → (mm = mu) → Go p e below (EndF s room_1.cells room_1.slots (fun v h L => v = some (.int 1) ∧ Fr n0 L)) T20 (mkF m 244 #[.val (.int i0), .val (.int i1), .val (.int i2), .val (.int i3), .val (.int lim), .val (.int tk), .val (.int sn), .val (.ref aA), .val (.ref aT), .val (.int nn), .val (.ref b13), .val (.int mm), .unset] []) := by
                    intro mm T20 h20 L20 X20 e20 O N20 I_aA I_aT E_b13 D_b13 hmm
                    rw [← hmm] at H
                    unfold m1T at H
                    refine Go.by (T' := T20) (g' := (mkF m 254 #[.val (.int i0), .val (.int i1), .val (.int i2), .val (.int i3), .val (.int lim), .val (.int tk), .val (.int sn), .val (.ref aA), .val (.ref aT), .val (.int nn), .val (.ref b13), .val (.int mm), .unset] [(.int sn), (.int (0 : Int32)), (.ref aA), (.int mm), (.int (0 : Int32)), (.ref aT)])) (fun t k => ?_) ?_
                    · show Steps p.tables e below (T20.setTop (mkF m 244 #[.val (.int i0), .val (.int i1), .val (.int i2), .val (.int i3), .val (.int lim), .val (.int tk), .val (.int sn), .val (.ref aA), .val (.ref aT), .val (.int nn), .val (.ref b13), .val (.int mm), .unset] [])) _
                      refine XS.aload X20.here hx rfl (hb hby at_244) rfl rfl ?_
                      show Steps p.tables e below (T20.setTop (mkF m 246 #[.val (.int i0), .val (.int i1), .val (.int i2), .val (.int i3), .val (.int lim), .val (.int tk), .val (.int sn), .val (.ref aA), .val (.ref aT), .val (.int nn), .val (.ref b13), .val (.int mm), .unset] [(.ref aT)])) _
                      refine XS.iconst X20.here hx rfl (hb hby at_246) ?_
                      show Steps p.tables e below (T20.setTop (mkF m 247 #[.val (.int i0), .val (.int i1), .val (.int i2), .val (.int i3), .val (.int lim), .val (.int tk), .val (.int sn), .val (.ref aA), .val (.ref aT), .val (.int nn), .val (.ref b13), .val (.int mm), .unset] [(.int (0 : Int32)), (.ref aT)])) _
                      refine XS.iload X20.here hx rfl (hb hby at_247) rfl ?_
                      show Steps p.tables e below (T20.setTop (mkF m 249 #[.val (.int i0), .val (.int i1), .val (.int i2), .val (.int i3), .val (.int lim), .val (.int tk), .val (.int sn), .val (.ref aA), .val (.ref aT), .val (.int nn), .val (.ref b13), .val (.int mm), .unset] [(.int mm), (.int (0 : Int32)), (.ref aT)])) _
                      refine XS.aload X20.here hx rfl (hb hby at_249) rfl rfl ?_
                      show Steps p.tables e below (T20.setTop (mkF m 251 #[.val (.int i0), .val (.int i1), .val (.int i2), .val (.int i3), .val (.int lim), .val (.int tk), .val (.int sn), .val (.ref aA), .val (.ref aT), .val (.int nn), .val (.ref b13), .val (.int mm), .unset] [(.ref aA), (.int mm), (.int (0 : Int32)), (.ref aT)])) _
                      refine XS.iconst X20.here hx rfl (hb hby at_251) ?_
                      show Steps p.tables e below (T20.setTop (mkF m 252 #[.val (.int i0), .val (.int i1), .val (.int i2), .val (.int i3), .val (.int lim), .val (.int tk), .val (.int sn), .val (.ref aA), .val (.ref aT), .val (.int nn), .val (.ref b13), .val (.int mm), .unset] [(.int (0 : Int32)), (.ref aA), (.int mm), (.int (0 : Int32)), (.ref aT)])) _
                      refine XS.iload X20.here hx rfl (hb hby at_252) rfl ?_
                      exact k
                    obtain ⟨r21, hr21, H⟩ := ob H
                    refine Go.callS X20 hx hZ (W := 0) (argsL := [(.ref aT), (.int (0 : Int32)), (.int mm), (.ref aA), (.int (0 : Int32)), (.int sn)]) (rest := []) hown (wd hw 52 rfl) (wd hw 53 rfl) (wd hw 54 rfl) (wd hw 55 rfl) (by decide) (ct_pre l Z a0 hw  aT aA [t0, t1, t2, t3] s3 (0 : Int32) mm (0 : Int32) sn r21 h20 n0 O I_aT I_aA hr21) e20 (by rw [hml]; rfl) (lenOf pd___III_III_Z_6087 rfl) rfl rfl (hb hby at_254) (by decide) (by decide) (by decide) (by decide) ?_
                    intro v22 T22 h22 L22 X22 e22 q22
                    obtain ⟨rfl, N22, rfl, hb22⟩ := q22
                    replace N22 := Fr.app N20 N22
                    show Go p e below _ T22 (mkF m 257 #[.val (.int i0), .val (.int i1), .val (.int i2), .val (.int i3), .val (.int lim), .val (.int tk), .val (.int sn), .val (.ref aA), .val (.ref aT), .val (.int nn), .val (.ref b13), .val (.int mm), .unset] [(.int r21)])
                    refine Go.by (T' := T22) (g' := (mkF m 262 #[.val (.int i0), .val (.int i1), .val (.int i2), .val (.int i3), .val (.int lim), .val (.int tk), .val (.int sn), .val (.ref aA), .val (.ref aT), .val (.int nn), .val (.ref b13), .val (.int mm), .val (.int r21)] [(.int (1 : Int32)), (.int lim)])) (fun t k => ?_) ?_
                    · show Steps p.tables e below (T22.setTop (mkF m 257 #[.val (.int i0), .val (.int i1), .val (.int i2), .val (.int i3), .val (.int lim), .val (.int tk), .val (.int sn), .val (.ref aA), .val (.ref aT), .val (.int nn), .val (.ref b13), .val (.int mm), .unset] [(.int r21)])) _
                      refine XS.istore X22.here hx rfl (hb hby at_257) rfl (l' := #[.val (.int i0), .val (.int i1), .val (.int i2), .val (.int i3), .val (.int lim), .val (.int tk), .val (.int sn), .val (.ref aA), .val (.ref aT), .val (.int nn), .val (.ref b13), .val (.int mm), .val (.int r21)]) rfl ?_
                      show Steps p.tables e below (T22.setTop (mkF m 259 #[.val (.int i0), .val (.int i1), .val (.int i2), .val (.int i3), .val (.int lim), .val (.int tk), .val (.int sn), .val (.ref aA), .val (.ref aT), .val (.int nn), .val (.ref b13), .val (.int mm), .val (.int r21)] [])) _
                      refine XS.iload X22.here hx rfl (hb hby at_259) rfl ?_
                      show Steps p.tables e below (T22.setTop (mkF m 261 #[.val (.int i0), .val (.int i1), .val (.int i2), .val (.int i3), .val (.int lim), .val (.int tk), .val (.int sn), .val (.ref aA), .val (.ref aT), .val (.int nn), .val (.ref b13), .val (.int mm), .val (.int r21)] [(.int lim)])) _
                      refine XS.iconst X22.here hx rfl (hb hby at_261) ?_
                      exact k
                    obtain ⟨kr, hkr, H⟩ := ob H
                    unfold reM at hkr
                    have J23 : ∀ (rr : Int32) (T23 : State) (h23 : Heap) (L23 : List Loc), (Stand p l e room_1 s m #[(.int i0), (.int i1), (.int i2), (.int i3)] below meth c T23 L23 23 104) → (T23.heap = h23) → (Old Z n0 h23) → (Fr n0 L23) → (IA Z h23 aA s3) → (IA Z h23 aT [t0, t1, t2, t3]) → (Exa Z h23 b13 "com/example/shingle/shingle/EditDistance") → (ED Z h23 b13 w15 du) → (rr = kr) → Go p e below (EndF s room_1.cells room_1.slots (fun v h L => v = some (.int 1) ∧ Fr n0 L)) T23 (mkF m 337 #[.val (.int i0), .val (.int i1), .val (.int i2), .val (.int i3), .val (.int lim), .val (.int tk), .val (.int sn), .val (.ref aA), .val (.ref aT), .val (.int nn), .val (.ref b13), .val (.int mm), .val (.int rr)] []) := by
                      intro rr T23 h23 L23 X23 e23 O N23 I_aA I_aT E_b13 D_b13 hrr
                      rw [← hrr] at H
                      refine Go.by (T' := T23) (g' := (mkF m 339 #[.val (.int i0), .val (.int i1), .val (.int i2), .val (.int i3), .val (.int lim), .val (.int tk), .val (.int sn), .val (.ref aA), .val (.ref aT), .val (.int nn), .val (.ref b13), .val (.int mm), .val (.int rr)] [(.ref b13)])) (fun t k => ?_) ?_
                      · show Steps p.tables e below (T23.setTop (mkF m 337 #[.val (.int i0), .val (.int i1), .val (.int i2), .val (.int i3), .val (.int lim), .val (.int tk), .val (.int sn), .val (.ref aA), .val (.ref aT), .val (.int nn), .val (.ref b13), .val (.int mm), .val (.int rr)] [])) _
                        refine XS.aload X23.here hx rfl (hb hby at_337) rfl rfl ?_
                        exact k
                      obtain ⟨r24, hr24, H⟩ := ob H
                      refine Go.callV X23 hx hZ (W := 0) (argsL := []) (rest := []) hown (wd hw 56 rfl) (wd hw 57 rfl) (notFace_of_selects (args := #[]) (mvT hZ (wd hw 59 rfl))) (wd hw 59 rfl) (wd hw 58 rfl) (wd hw 3 rfl) (wd hw 60 rfl) (by decide) E_b13 (ct_out l Z a0 hw  b13 w15 du r24 h23 n0 O D_b13 hr24) e23 (by rw [hml]; rfl) (lenOf pd___Z_8338 rfl) rfl rfl (hb hby at_339) (by decide) (by decide) (by decide) (by decide) ?_
                      intro v25 T25 h25 L25 X25 e25 q25
                      obtain ⟨rfl, N25, rfl⟩ := q25
                      replace N25 := Fr.app N23 N25
                      show Go p e below _ T25 (mkF m 342 #[.val (.int i0), .val (.int i1), .val (.int i2), .val (.int i3), .val (.int lim), .val (.int tk), .val (.int sn), .val (.ref aA), .val (.ref aT), .val (.int nn), .val (.ref b13), .val (.int mm), .val (.int rr)] [(.int r24)])
                      refine Go.by (T' := T25) (g' := (mkF m 344 #[.val (.int i0), .val (.int i1), .val (.int i2), .val (.int i3), .val (.int lim), .val (.int tk), .val (.int sn), .val (.ref aA), .val (.ref aT), .val (.int nn), .val (.ref b13), .val (.int mm), .val (.int rr)] [(.int rr), (.int r24)])) (fun t k => ?_) ?_
                      · show Steps p.tables e below (T25.setTop (mkF m 342 #[.val (.int i0), .val (.int i1), .val (.int i2), .val (.int i3), .val (.int lim), .val (.int tk), .val (.int sn), .val (.ref aA), .val (.ref aT), .val (.int nn), .val (.ref b13), .val (.int mm), .val (.int rr)] [(.int r24)])) _
                        refine XS.iload X25.here hx rfl (hb hby at_342) rfl ?_
                        exact k
                      by_cases hy26 : rr = (0 : Int32)
                      · skip
                        replace H := (if_pos hy26).symm.trans H
                        refine Go.by (T' := T25) (g' := (mkF m 352 #[.val (.int i0), .val (.int i1), .val (.int i2), .val (.int i3), .val (.int lim), .val (.int tk), .val (.int sn), .val (.ref aA), .val (.ref aT), .val (.int nn), .val (.ref b13), .val (.int mm), .val (.int rr)] [(.int (1 : Int32)), (.int r24)])) (fun t k => ?_) ?_
                        · show Steps p.tables e below (T25.setTop (mkF m 344 #[.val (.int i0), .val (.int i1), .val (.int i2), .val (.int i3), .val (.int lim), .val (.int tk), .val (.int sn), .val (.ref aA), .val (.ref aT), .val (.int nn), .val (.ref b13), .val (.int mm), .val (.int rr)] [(.int rr), (.int r24)])) _
                          refine XS.ifNo X25.here hx rfl (hb hby at_344) rfl ((if0 _ _).trans (teq hy26).2) ?_
                          show Steps p.tables e below (T25.setTop (mkF m 347 #[.val (.int i0), .val (.int i1), .val (.int i2), .val (.int i3), .val (.int lim), .val (.int tk), .val (.int sn), .val (.ref aA), .val (.ref aT), .val (.int nn), .val (.ref b13), .val (.int mm), .val (.int rr)] [(.int r24)])) _
                          refine XS.iconst X25.here hx rfl (hb hby at_347) ?_
                          show Steps p.tables e below (T25.setTop (mkF m 348 #[.val (.int i0), .val (.int i1), .val (.int i2), .val (.int i3), .val (.int lim), .val (.int tk), .val (.int sn), .val (.ref aA), .val (.ref aT), .val (.int nn), .val (.ref b13), .val (.int mm), .val (.int rr)] [(.int (1 : Int32)), (.int r24)])) _
                          refine XS.goto X25.here hx rfl (pc0 := 348) (pc' := 352) rfl (hb hby at_348) (by decide) (by decide) ?_
                          exact k
                        have hre27 : r24 = (1 : Int32) := Decidable.byContradiction fun q => by rw [if_neg q] at H; cases H
                        replace H := (if_pos hre27).symm.trans H
                        refine Go.by (T' := T25) (g' := (mkF m 360 #[.val (.int i0), .val (.int i1), .val (.int i2), .val (.int i3), .val (.int lim), .val (.int tk), .val (.int sn), .val (.ref aA), .val (.ref aT), .val (.int nn), .val (.ref b13), .val (.int mm), .val (.int rr)] [(.int (1 : Int32))])) (fun t k => ?_) ?_
                        · show Steps p.tables e below (T25.setTop (mkF m 352 #[.val (.int i0), .val (.int i1), .val (.int i2), .val (.int i3), .val (.int lim), .val (.int tk), .val (.int sn), .val (.ref aA), .val (.ref aT), .val (.int nn), .val (.ref b13), .val (.int mm), .val (.int rr)] [(.int (1 : Int32)), (.int r24)])) _
                          refine XS.icmpNo X25.here hx rfl (hb hby at_352) rfl (teq hre27).2 ?_
                          show Steps p.tables e below (T25.setTop (mkF m 355 #[.val (.int i0), .val (.int i1), .val (.int i2), .val (.int i3), .val (.int lim), .val (.int tk), .val (.int sn), .val (.ref aA), .val (.ref aT), .val (.int nn), .val (.ref b13), .val (.int mm), .val (.int rr)] [])) _
                          refine XS.iconst X25.here hx rfl (hb hby at_355) ?_
                          show Steps p.tables e below (T25.setTop (mkF m 356 #[.val (.int i0), .val (.int i1), .val (.int i2), .val (.int i3), .val (.int lim), .val (.int tk), .val (.int sn), .val (.ref aA), .val (.ref aT), .val (.int nn), .val (.ref b13), .val (.int mm), .val (.int rr)] [(.int (1 : Int32))])) _
                          refine XS.goto X25.here hx rfl (pc0 := 356) (pc' := 360) rfl (hb hby at_356) (by decide) (by decide) ?_
                          exact k
                        refine Go.retZ X25 hx hlk hret (Or.inr rfl) (hb hby at_360) (by decide) (by decide) e25 ?_
                        exact ⟨rfl, N25⟩
                      · skip
                        replace H := (if_neg hy26).symm.trans H
                        refine Go.by (T' := T25) (g' := (mkF m 352 #[.val (.int i0), .val (.int i1), .val (.int i2), .val (.int i3), .val (.int lim), .val (.int tk), .val (.int sn), .val (.ref aA), .val (.ref aT), .val (.int nn), .val (.ref b13), .val (.int mm), .val (.int rr)] [(.int (0 : Int32)), (.int r24)])) (fun t k => ?_) ?_
                        · show Steps p.tables e below (T25.setTop (mkF m 344 #[.val (.int i0), .val (.int i1), .val (.int i2), .val (.int i3), .val (.int lim), .val (.int tk), .val (.int sn), .val (.ref aA), .val (.ref aT), .val (.int nn), .val (.ref b13), .val (.int mm), .val (.int rr)] [(.int rr), (.int r24)])) _
                          refine XS.ifYes X25.here hx rfl (pc0 := 344) (pc' := 351) rfl (hb hby at_344) rfl ((if0 _ _).trans (feq hy26).2) (by decide) (by decide) ?_
                          show Steps p.tables e below (T25.setTop (mkF m 351 #[.val (.int i0), .val (.int i1), .val (.int i2), .val (.int i3), .val (.int lim), .val (.int tk), .val (.int sn), .val (.ref aA), .val (.ref aT), .val (.int nn), .val (.ref b13), .val (.int mm), .val (.int rr)] [(.int r24)])) _
                          refine XS.iconst X25.here hx rfl (hb hby at_351) ?_
                          exact k
                        have hre28 : r24 = (0 : Int32) := Decidable.byContradiction fun q => by rw [if_neg q] at H; cases H
                        replace H := (if_pos hre28).symm.trans H
                        refine Go.by (T' := T25) (g' := (mkF m 360 #[.val (.int i0), .val (.int i1), .val (.int i2), .val (.int i3), .val (.int lim), .val (.int tk), .val (.int sn), .val (.ref aA), .val (.ref aT), .val (.int nn), .val (.ref b13), .val (.int mm), .val (.int rr)] [(.int (1 : Int32))])) (fun t k => ?_) ?_
                        · show Steps p.tables e below (T25.setTop (mkF m 352 #[.val (.int i0), .val (.int i1), .val (.int i2), .val (.int i3), .val (.int lim), .val (.int tk), .val (.int sn), .val (.ref aA), .val (.ref aT), .val (.int nn), .val (.ref b13), .val (.int mm), .val (.int rr)] [(.int (0 : Int32)), (.int r24)])) _
                          refine XS.icmpNo X25.here hx rfl (hb hby at_352) rfl (teq hre28).2 ?_
                          show Steps p.tables e below (T25.setTop (mkF m 355 #[.val (.int i0), .val (.int i1), .val (.int i2), .val (.int i3), .val (.int lim), .val (.int tk), .val (.int sn), .val (.ref aA), .val (.ref aT), .val (.int nn), .val (.ref b13), .val (.int mm), .val (.int rr)] [])) _
                          refine XS.iconst X25.here hx rfl (hb hby at_355) ?_
                          show Steps p.tables e below (T25.setTop (mkF m 356 #[.val (.int i0), .val (.int i1), .val (.int i2), .val (.int i3), .val (.int lim), .val (.int tk), .val (.int sn), .val (.ref aA), .val (.ref aT), .val (.int nn), .val (.ref b13), .val (.int mm), .val (.int rr)] [(.int (1 : Int32))])) _
                          refine XS.goto X25.here hx rfl (pc0 := 356) (pc' := 360) rfl (hb hby at_356) (by decide) (by decide) ?_
                          exact k
                        refine Go.retZ X25 hx hlk hret (Or.inr rfl) (hb hby at_360) (by decide) (by decide) e25 ?_
                        exact ⟨rfl, N25⟩
                    by_cases hy29 : lim = (1 : Int32)
                    · skip
                      replace hkr := (if_pos hy29).symm.trans hkr
                      refine Go.by (T' := T22) (g' := (mkF m 267 #[.val (.int i0), .val (.int i1), .val (.int i2), .val (.int i3), .val (.int lim), .val (.int tk), .val (.int sn), .val (.ref aA), .val (.ref aT), .val (.int nn), .val (.ref b13), .val (.int mm), .val (.int r21)] [(.int r21)])) (fun t k => ?_) ?_
                      · show Steps p.tables e below (T22.setTop (mkF m 262 #[.val (.int i0), .val (.int i1), .val (.int i2), .val (.int i3), .val (.int lim), .val (.int tk), .val (.int sn), .val (.ref aA), .val (.ref aT), .val (.int nn), .val (.ref b13), .val (.int mm), .val (.int r21)] [(.int (1 : Int32)), (.int lim)])) _
                        refine XS.icmpNo X22.here hx rfl (hb hby at_262) rfl (teq hy29).2 ?_
                        show Steps p.tables e below (T22.setTop (mkF m 265 #[.val (.int i0), .val (.int i1), .val (.int i2), .val (.int i3), .val (.int lim), .val (.int tk), .val (.int sn), .val (.ref aA), .val (.ref aT), .val (.int nn), .val (.ref b13), .val (.int mm), .val (.int r21)] [])) _
                        refine XS.iload X22.here hx rfl (hb hby at_265) rfl ?_
                        exact k
                      by_cases hy30 : r21 = (0 : Int32)
                      · skip
                        replace hkr := (if_pos hy30).symm.trans hkr
                        refine Go.by (T' := T22) (g' := (mkF m 279 #[.val (.int i0), .val (.int i1), .val (.int i2), .val (.int i3), .val (.int lim), .val (.int tk), .val (.int sn), .val (.ref aA), .val (.ref aT), .val (.int nn), .val (.ref b13), .val (.int mm), .val (.int r21)] [(.int (0 : Int32)), (.int sn), (.ref aA), (.int mm), (.ref aT)])) (fun t k => ?_) ?_
                        · show Steps p.tables e below (T22.setTop (mkF m 267 #[.val (.int i0), .val (.int i1), .val (.int i2), .val (.int i3), .val (.int lim), .val (.int tk), .val (.int sn), .val (.ref aA), .val (.ref aT), .val (.int nn), .val (.ref b13), .val (.int mm), .val (.int r21)] [(.int r21)])) _
                          refine XS.ifNo X22.here hx rfl (hb hby at_267) rfl ((if0 _ _).trans (teq hy30).2) ?_
                          show Steps p.tables e below (T22.setTop (mkF m 270 #[.val (.int i0), .val (.int i1), .val (.int i2), .val (.int i3), .val (.int lim), .val (.int tk), .val (.int sn), .val (.ref aA), .val (.ref aT), .val (.int nn), .val (.ref b13), .val (.int mm), .val (.int r21)] [])) _
                          refine XS.aload X22.here hx rfl (hb hby at_270) rfl rfl ?_
                          show Steps p.tables e below (T22.setTop (mkF m 272 #[.val (.int i0), .val (.int i1), .val (.int i2), .val (.int i3), .val (.int lim), .val (.int tk), .val (.int sn), .val (.ref aA), .val (.ref aT), .val (.int nn), .val (.ref b13), .val (.int mm), .val (.int r21)] [(.ref aT)])) _
                          refine XS.iload X22.here hx rfl (hb hby at_272) rfl ?_
                          show Steps p.tables e below (T22.setTop (mkF m 274 #[.val (.int i0), .val (.int i1), .val (.int i2), .val (.int i3), .val (.int lim), .val (.int tk), .val (.int sn), .val (.ref aA), .val (.ref aT), .val (.int nn), .val (.ref b13), .val (.int mm), .val (.int r21)] [(.int mm), (.ref aT)])) _
                          refine XS.aload X22.here hx rfl (hb hby at_274) rfl rfl ?_
                          show Steps p.tables e below (T22.setTop (mkF m 276 #[.val (.int i0), .val (.int i1), .val (.int i2), .val (.int i3), .val (.int lim), .val (.int tk), .val (.int sn), .val (.ref aA), .val (.ref aT), .val (.int nn), .val (.ref b13), .val (.int mm), .val (.int r21)] [(.ref aA), (.int mm), (.ref aT)])) _
                          refine XS.iload X22.here hx rfl (hb hby at_276) rfl ?_
                          show Steps p.tables e below (T22.setTop (mkF m 278 #[.val (.int i0), .val (.int i1), .val (.int i2), .val (.int i3), .val (.int lim), .val (.int tk), .val (.int sn), .val (.ref aA), .val (.ref aT), .val (.int nn), .val (.ref b13), .val (.int mm), .val (.int r21)] [(.int sn), (.ref aA), (.int mm), (.ref aT)])) _
                          refine XS.iconst X22.here hx rfl (hb hby at_278) ?_
                          exact k
                        obtain ⟨r31, hr31, hkr⟩ := ob hkr
                        refine Go.callS X22 hx hZ (W := 0) (argsL := [(.ref aT), (.int mm), (.ref aA), (.int sn), (.int (0 : Int32))]) (rest := []) hown (wd hw 88 rfl) (wd hw 89 rfl) (wd hw 54 rfl) (wd hw 90 rfl) (by decide) (ct_one l Z a0 hw  aT aA [t0, t1, t2, t3] s3 mm sn (0 : Int32) r31 h20 n0 O I_aT I_aA hr31) e22 (by rw [hml]; rfl) (lenOf pd___II_III_Z_708 rfl) rfl rfl (hb hby at_279) (by decide) (by decide) (by decide) (by decide) ?_
                        intro v32 T32 h32 L32 X32 e32 q32
                        obtain ⟨rfl, N32, rfl, hb32⟩ := q32
                        replace N32 := Fr.app N22 N32
                        show Go p e below _ T32 (mkF m 282 #[.val (.int i0), .val (.int i1), .val (.int i2), .val (.int i3), .val (.int lim), .val (.int tk), .val (.int sn), .val (.ref aA), .val (.ref aT), .val (.int nn), .val (.ref b13), .val (.int mm), .val (.int r21)] [(.int r31)])
                        by_cases hy33 : r31 = (0 : Int32)
                        · skip
                          replace hkr := (if_pos hy33).symm.trans hkr
                          refine Go.by (T' := T32) (g' := (mkF m 294 #[.val (.int i0), .val (.int i1), .val (.int i2), .val (.int i3), .val (.int lim), .val (.int tk), .val (.int sn), .val (.ref aA), .val (.ref aT), .val (.int nn), .val (.ref b13), .val (.int mm), .val (.int r21)] [(.int (1 : Int32)), (.int sn), (.ref aA), (.int mm), (.ref aT)])) (fun t k => ?_) ?_
                          · show Steps p.tables e below (T32.setTop (mkF m 282 #[.val (.int i0), .val (.int i1), .val (.int i2), .val (.int i3), .val (.int lim), .val (.int tk), .val (.int sn), .val (.ref aA), .val (.ref aT), .val (.int nn), .val (.ref b13), .val (.int mm), .val (.int r21)] [(.int r31)])) _
                            refine XS.ifNo X32.here hx rfl (hb hby at_282) rfl ((if0 _ _).trans (teq hy33).2) ?_
                            show Steps p.tables e below (T32.setTop (mkF m 285 #[.val (.int i0), .val (.int i1), .val (.int i2), .val (.int i3), .val (.int lim), .val (.int tk), .val (.int sn), .val (.ref aA), .val (.ref aT), .val (.int nn), .val (.ref b13), .val (.int mm), .val (.int r21)] [])) _
                            refine XS.aload X32.here hx rfl (hb hby at_285) rfl rfl ?_
                            show Steps p.tables e below (T32.setTop (mkF m 287 #[.val (.int i0), .val (.int i1), .val (.int i2), .val (.int i3), .val (.int lim), .val (.int tk), .val (.int sn), .val (.ref aA), .val (.ref aT), .val (.int nn), .val (.ref b13), .val (.int mm), .val (.int r21)] [(.ref aT)])) _
                            refine XS.iload X32.here hx rfl (hb hby at_287) rfl ?_
                            show Steps p.tables e below (T32.setTop (mkF m 289 #[.val (.int i0), .val (.int i1), .val (.int i2), .val (.int i3), .val (.int lim), .val (.int tk), .val (.int sn), .val (.ref aA), .val (.ref aT), .val (.int nn), .val (.ref b13), .val (.int mm), .val (.int r21)] [(.int mm), (.ref aT)])) _
                            refine XS.aload X32.here hx rfl (hb hby at_289) rfl rfl ?_
                            show Steps p.tables e below (T32.setTop (mkF m 291 #[.val (.int i0), .val (.int i1), .val (.int i2), .val (.int i3), .val (.int lim), .val (.int tk), .val (.int sn), .val (.ref aA), .val (.ref aT), .val (.int nn), .val (.ref b13), .val (.int mm), .val (.int r21)] [(.ref aA), (.int mm), (.ref aT)])) _
                            refine XS.iload X32.here hx rfl (hb hby at_291) rfl ?_
                            show Steps p.tables e below (T32.setTop (mkF m 293 #[.val (.int i0), .val (.int i1), .val (.int i2), .val (.int i3), .val (.int lim), .val (.int tk), .val (.int sn), .val (.ref aA), .val (.ref aT), .val (.int nn), .val (.ref b13), .val (.int mm), .val (.int r21)] [(.int sn), (.ref aA), (.int mm), (.ref aT)])) _
                            refine XS.iconst X32.here hx rfl (hb hby at_293) ?_
                            exact k
                          obtain ⟨r34, hr34, hkr⟩ := ob hkr
                          refine Go.callS X32 hx hZ (W := 0) (argsL := [(.ref aT), (.int mm), (.ref aA), (.int sn), (.int (1 : Int32))]) (rest := []) hown (wd hw 88 rfl) (wd hw 89 rfl) (wd hw 54 rfl) (wd hw 90 rfl) (by decide) (ct_one l Z a0 hw  aT aA [t0, t1, t2, t3] s3 mm sn (1 : Int32) r34 h20 n0 O I_aT I_aA hr34) e32 (by rw [hml]; rfl) (lenOf pd___II_III_Z_708 rfl) rfl rfl (hb hby at_294) (by decide) (by decide) (by decide) (by decide) ?_
                          intro v35 T35 h35 L35 X35 e35 q35
                          obtain ⟨rfl, N35, rfl, hb35⟩ := q35
                          replace N35 := Fr.app N32 N35
                          show Go p e below _ T35 (mkF m 297 #[.val (.int i0), .val (.int i1), .val (.int i2), .val (.int i3), .val (.int lim), .val (.int tk), .val (.int sn), .val (.ref aA), .val (.ref aT), .val (.int nn), .val (.ref b13), .val (.int mm), .val (.int r21)] [(.int r34)])
                          by_cases hy36 : r34 = (0 : Int32)
                          · skip
                            replace hkr := (if_pos hy36).symm.trans hkr
                            refine Go.by (T' := T35) (g' := (mkF m 309 #[.val (.int i0), .val (.int i1), .val (.int i2), .val (.int i3), .val (.int lim), .val (.int tk), .val (.int sn), .val (.ref aA), .val (.ref aT), .val (.int nn), .val (.ref b13), .val (.int mm), .val (.int r21)] [(.int (2 : Int32)), (.int sn), (.ref aA), (.int mm), (.ref aT)])) (fun t k => ?_) ?_
                            · show Steps p.tables e below (T35.setTop (mkF m 297 #[.val (.int i0), .val (.int i1), .val (.int i2), .val (.int i3), .val (.int lim), .val (.int tk), .val (.int sn), .val (.ref aA), .val (.ref aT), .val (.int nn), .val (.ref b13), .val (.int mm), .val (.int r21)] [(.int r34)])) _
                              refine XS.ifNo X35.here hx rfl (hb hby at_297) rfl ((if0 _ _).trans (teq hy36).2) ?_
                              show Steps p.tables e below (T35.setTop (mkF m 300 #[.val (.int i0), .val (.int i1), .val (.int i2), .val (.int i3), .val (.int lim), .val (.int tk), .val (.int sn), .val (.ref aA), .val (.ref aT), .val (.int nn), .val (.ref b13), .val (.int mm), .val (.int r21)] [])) _
                              refine XS.aload X35.here hx rfl (hb hby at_300) rfl rfl ?_
                              show Steps p.tables e below (T35.setTop (mkF m 302 #[.val (.int i0), .val (.int i1), .val (.int i2), .val (.int i3), .val (.int lim), .val (.int tk), .val (.int sn), .val (.ref aA), .val (.ref aT), .val (.int nn), .val (.ref b13), .val (.int mm), .val (.int r21)] [(.ref aT)])) _
                              refine XS.iload X35.here hx rfl (hb hby at_302) rfl ?_
                              show Steps p.tables e below (T35.setTop (mkF m 304 #[.val (.int i0), .val (.int i1), .val (.int i2), .val (.int i3), .val (.int lim), .val (.int tk), .val (.int sn), .val (.ref aA), .val (.ref aT), .val (.int nn), .val (.ref b13), .val (.int mm), .val (.int r21)] [(.int mm), (.ref aT)])) _
                              refine XS.aload X35.here hx rfl (hb hby at_304) rfl rfl ?_
                              show Steps p.tables e below (T35.setTop (mkF m 306 #[.val (.int i0), .val (.int i1), .val (.int i2), .val (.int i3), .val (.int lim), .val (.int tk), .val (.int sn), .val (.ref aA), .val (.ref aT), .val (.int nn), .val (.ref b13), .val (.int mm), .val (.int r21)] [(.ref aA), (.int mm), (.ref aT)])) _
                              refine XS.iload X35.here hx rfl (hb hby at_306) rfl ?_
                              show Steps p.tables e below (T35.setTop (mkF m 308 #[.val (.int i0), .val (.int i1), .val (.int i2), .val (.int i3), .val (.int lim), .val (.int tk), .val (.int sn), .val (.ref aA), .val (.ref aT), .val (.int nn), .val (.ref b13), .val (.int mm), .val (.int r21)] [(.int sn), (.ref aA), (.int mm), (.ref aT)])) _
                              refine XS.iconst X35.here hx rfl (hb hby at_308) ?_
                              exact k
                            obtain ⟨r37, hr37, hkr⟩ := ob hkr
                            refine Go.callS X35 hx hZ (W := 0) (argsL := [(.ref aT), (.int mm), (.ref aA), (.int sn), (.int (2 : Int32))]) (rest := []) hown (wd hw 88 rfl) (wd hw 89 rfl) (wd hw 54 rfl) (wd hw 90 rfl) (by decide) (ct_one l Z a0 hw  aT aA [t0, t1, t2, t3] s3 mm sn (2 : Int32) r37 h20 n0 O I_aT I_aA hr37) e35 (by rw [hml]; rfl) (lenOf pd___II_III_Z_708 rfl) rfl rfl (hb hby at_309) (by decide) (by decide) (by decide) (by decide) ?_
                            intro v38 T38 h38 L38 X38 e38 q38
                            obtain ⟨rfl, N38, rfl, hb38⟩ := q38
                            replace N38 := Fr.app N35 N38
                            show Go p e below _ T38 (mkF m 312 #[.val (.int i0), .val (.int i1), .val (.int i2), .val (.int i3), .val (.int lim), .val (.int tk), .val (.int sn), .val (.ref aA), .val (.ref aT), .val (.int nn), .val (.ref b13), .val (.int mm), .val (.int r21)] [(.int r37)])
                            by_cases hy39 : r37 = (0 : Int32)
                            · skip
                              replace hkr := (if_pos hy39).symm.trans hkr
                              refine Go.by (T' := T38) (g' := (mkF m 324 #[.val (.int i0), .val (.int i1), .val (.int i2), .val (.int i3), .val (.int lim), .val (.int tk), .val (.int sn), .val (.ref aA), .val (.ref aT), .val (.int nn), .val (.ref b13), .val (.int mm), .val (.int r21)] [(.int (3 : Int32)), (.int sn), (.ref aA), (.int mm), (.ref aT)])) (fun t k => ?_) ?_
                              · show Steps p.tables e below (T38.setTop (mkF m 312 #[.val (.int i0), .val (.int i1), .val (.int i2), .val (.int i3), .val (.int lim), .val (.int tk), .val (.int sn), .val (.ref aA), .val (.ref aT), .val (.int nn), .val (.ref b13), .val (.int mm), .val (.int r21)] [(.int r37)])) _
                                refine XS.ifNo X38.here hx rfl (hb hby at_312) rfl ((if0 _ _).trans (teq hy39).2) ?_
                                show Steps p.tables e below (T38.setTop (mkF m 315 #[.val (.int i0), .val (.int i1), .val (.int i2), .val (.int i3), .val (.int lim), .val (.int tk), .val (.int sn), .val (.ref aA), .val (.ref aT), .val (.int nn), .val (.ref b13), .val (.int mm), .val (.int r21)] [])) _
                                refine XS.aload X38.here hx rfl (hb hby at_315) rfl rfl ?_
                                show Steps p.tables e below (T38.setTop (mkF m 317 #[.val (.int i0), .val (.int i1), .val (.int i2), .val (.int i3), .val (.int lim), .val (.int tk), .val (.int sn), .val (.ref aA), .val (.ref aT), .val (.int nn), .val (.ref b13), .val (.int mm), .val (.int r21)] [(.ref aT)])) _
                                refine XS.iload X38.here hx rfl (hb hby at_317) rfl ?_
                                show Steps p.tables e below (T38.setTop (mkF m 319 #[.val (.int i0), .val (.int i1), .val (.int i2), .val (.int i3), .val (.int lim), .val (.int tk), .val (.int sn), .val (.ref aA), .val (.ref aT), .val (.int nn), .val (.ref b13), .val (.int mm), .val (.int r21)] [(.int mm), (.ref aT)])) _
                                refine XS.aload X38.here hx rfl (hb hby at_319) rfl rfl ?_
                                show Steps p.tables e below (T38.setTop (mkF m 321 #[.val (.int i0), .val (.int i1), .val (.int i2), .val (.int i3), .val (.int lim), .val (.int tk), .val (.int sn), .val (.ref aA), .val (.ref aT), .val (.int nn), .val (.ref b13), .val (.int mm), .val (.int r21)] [(.ref aA), (.int mm), (.ref aT)])) _
                                refine XS.iload X38.here hx rfl (hb hby at_321) rfl ?_
                                show Steps p.tables e below (T38.setTop (mkF m 323 #[.val (.int i0), .val (.int i1), .val (.int i2), .val (.int i3), .val (.int lim), .val (.int tk), .val (.int sn), .val (.ref aA), .val (.ref aT), .val (.int nn), .val (.ref b13), .val (.int mm), .val (.int r21)] [(.int sn), (.ref aA), (.int mm), (.ref aT)])) _
                                refine XS.iconst X38.here hx rfl (hb hby at_323) ?_
                                exact k
                              obtain ⟨r40, hr40, hkr⟩ := ob hkr
                              refine Go.callS X38 hx hZ (W := 0) (argsL := [(.ref aT), (.int mm), (.ref aA), (.int sn), (.int (3 : Int32))]) (rest := []) hown (wd hw 88 rfl) (wd hw 89 rfl) (wd hw 54 rfl) (wd hw 90 rfl) (by decide) (ct_one l Z a0 hw  aT aA [t0, t1, t2, t3] s3 mm sn (3 : Int32) r40 h20 n0 O I_aT I_aA hr40) e38 (by rw [hml]; rfl) (lenOf pd___II_III_Z_708 rfl) rfl rfl (hb hby at_324) (by decide) (by decide) (by decide) (by decide) ?_
                              intro v41 T41 h41 L41 X41 e41 q41
                              obtain ⟨rfl, N41, rfl, hb41⟩ := q41
                              replace N41 := Fr.app N38 N41
                              show Go p e below _ T41 (mkF m 327 #[.val (.int i0), .val (.int i1), .val (.int i2), .val (.int i3), .val (.int lim), .val (.int tk), .val (.int sn), .val (.ref aA), .val (.ref aT), .val (.int nn), .val (.ref b13), .val (.int mm), .val (.int r21)] [(.int r40)])
                              by_cases hy42 : r40 = (0 : Int32)
                              · skip
                                replace hkr := (if_pos hy42).symm.trans hkr
                                refine Go.by (T' := T41) (g' := (mkF m 337 #[.val (.int i0), .val (.int i1), .val (.int i2), .val (.int i3), .val (.int lim), .val (.int tk), .val (.int sn), .val (.ref aA), .val (.ref aT), .val (.int nn), .val (.ref b13), .val (.int mm), .val (.int (0 : Int32))] [])) (fun t k => ?_) ?_
                                · show Steps p.tables e below (T41.setTop (mkF m 327 #[.val (.int i0), .val (.int i1), .val (.int i2), .val (.int i3), .val (.int lim), .val (.int tk), .val (.int sn), .val (.ref aA), .val (.ref aT), .val (.int nn), .val (.ref b13), .val (.int mm), .val (.int r21)] [(.int r40)])) _
                                  refine XS.ifYes X41.here hx rfl (pc0 := 327) (pc' := 334) rfl (hb hby at_327) rfl ((if0 _ _).trans (teq hy42).1) (by decide) (by decide) ?_
                                  show Steps p.tables e below (T41.setTop (mkF m 334 #[.val (.int i0), .val (.int i1), .val (.int i2), .val (.int i3), .val (.int lim), .val (.int tk), .val (.int sn), .val (.ref aA), .val (.ref aT), .val (.int nn), .val (.ref b13), .val (.int mm), .val (.int r21)] [])) _
                                  refine XS.iconst X41.here hx rfl (hb hby at_334) ?_
                                  show Steps p.tables e below (T41.setTop (mkF m 335 #[.val (.int i0), .val (.int i1), .val (.int i2), .val (.int i3), .val (.int lim), .val (.int tk), .val (.int sn), .val (.ref aA), .val (.ref aT), .val (.int nn), .val (.ref b13), .val (.int mm), .val (.int r21)] [(.int (0 : Int32))])) _
                                  refine XS.istore X41.here hx rfl (hb hby at_335) rfl (l' := #[.val (.int i0), .val (.int i1), .val (.int i2), .val (.int i3), .val (.int lim), .val (.int tk), .val (.int sn), .val (.ref aA), .val (.ref aT), .val (.int nn), .val (.ref b13), .val (.int mm), .val (.int (0 : Int32))]) rfl ?_
                                  exact k
                                exact J23 _ _ _ _ X41 e41 O N41 I_aA I_aT E_b13 D_b13 (Option.some.inj hkr)
                              · skip
                                replace hkr := (if_neg hy42).symm.trans hkr
                                refine Go.by (T' := T41) (g' := (mkF m 337 #[.val (.int i0), .val (.int i1), .val (.int i2), .val (.int i3), .val (.int lim), .val (.int tk), .val (.int sn), .val (.ref aA), .val (.ref aT), .val (.int nn), .val (.ref b13), .val (.int mm), .val (.int (1 : Int32))] [])) (fun t k => ?_) ?_
                                · show Steps p.tables e below (T41.setTop (mkF m 327 #[.val (.int i0), .val (.int i1), .val (.int i2), .val (.int i3), .val (.int lim), .val (.int tk), .val (.int sn), .val (.ref aA), .val (.ref aT), .val (.int nn), .val (.ref b13), .val (.int mm), .val (.int r21)] [(.int r40)])) _
                                  refine XS.ifNo X41.here hx rfl (hb hby at_327) rfl ((if0 _ _).trans (feq hy42).1) ?_
                                  show Steps p.tables e below (T41.setTop (mkF m 330 #[.val (.int i0), .val (.int i1), .val (.int i2), .val (.int i3), .val (.int lim), .val (.int tk), .val (.int sn), .val (.ref aA), .val (.ref aT), .val (.int nn), .val (.ref b13), .val (.int mm), .val (.int r21)] [])) _
                                  refine XS.iconst X41.here hx rfl (hb hby at_330) ?_
                                  show Steps p.tables e below (T41.setTop (mkF m 331 #[.val (.int i0), .val (.int i1), .val (.int i2), .val (.int i3), .val (.int lim), .val (.int tk), .val (.int sn), .val (.ref aA), .val (.ref aT), .val (.int nn), .val (.ref b13), .val (.int mm), .val (.int r21)] [(.int (1 : Int32))])) _
                                  refine XS.goto X41.here hx rfl (pc0 := 331) (pc' := 335) rfl (hb hby at_331) (by decide) (by decide) ?_
                                  show Steps p.tables e below (T41.setTop (mkF m 335 #[.val (.int i0), .val (.int i1), .val (.int i2), .val (.int i3), .val (.int lim), .val (.int tk), .val (.int sn), .val (.ref aA), .val (.ref aT), .val (.int nn), .val (.ref b13), .val (.int mm), .val (.int r21)] [(.int (1 : Int32))])) _
                                  refine XS.istore X41.here hx rfl (hb hby at_335) rfl (l' := #[.val (.int i0), .val (.int i1), .val (.int i2), .val (.int i3), .val (.int lim), .val (.int tk), .val (.int sn), .val (.ref aA), .val (.ref aT), .val (.int nn), .val (.ref b13), .val (.int mm), .val (.int (1 : Int32))]) rfl ?_
                                  exact k
                                exact J23 _ _ _ _ X41 e41 O N41 I_aA I_aT E_b13 D_b13 (Option.some.inj hkr)
                            · skip
                              replace hkr := (if_neg hy39).symm.trans hkr
                              refine Go.by (T' := T38) (g' := (mkF m 337 #[.val (.int i0), .val (.int i1), .val (.int i2), .val (.int i3), .val (.int lim), .val (.int tk), .val (.int sn), .val (.ref aA), .val (.ref aT), .val (.int nn), .val (.ref b13), .val (.int mm), .val (.int (1 : Int32))] [])) (fun t k => ?_) ?_
                              · show Steps p.tables e below (T38.setTop (mkF m 312 #[.val (.int i0), .val (.int i1), .val (.int i2), .val (.int i3), .val (.int lim), .val (.int tk), .val (.int sn), .val (.ref aA), .val (.ref aT), .val (.int nn), .val (.ref b13), .val (.int mm), .val (.int r21)] [(.int r37)])) _
                                refine XS.ifYes X38.here hx rfl (pc0 := 312) (pc' := 330) rfl (hb hby at_312) rfl ((if0 _ _).trans (feq hy39).2) (by decide) (by decide) ?_
                                show Steps p.tables e below (T38.setTop (mkF m 330 #[.val (.int i0), .val (.int i1), .val (.int i2), .val (.int i3), .val (.int lim), .val (.int tk), .val (.int sn), .val (.ref aA), .val (.ref aT), .val (.int nn), .val (.ref b13), .val (.int mm), .val (.int r21)] [])) _
                                refine XS.iconst X38.here hx rfl (hb hby at_330) ?_
                                show Steps p.tables e below (T38.setTop (mkF m 331 #[.val (.int i0), .val (.int i1), .val (.int i2), .val (.int i3), .val (.int lim), .val (.int tk), .val (.int sn), .val (.ref aA), .val (.ref aT), .val (.int nn), .val (.ref b13), .val (.int mm), .val (.int r21)] [(.int (1 : Int32))])) _
                                refine XS.goto X38.here hx rfl (pc0 := 331) (pc' := 335) rfl (hb hby at_331) (by decide) (by decide) ?_
                                show Steps p.tables e below (T38.setTop (mkF m 335 #[.val (.int i0), .val (.int i1), .val (.int i2), .val (.int i3), .val (.int lim), .val (.int tk), .val (.int sn), .val (.ref aA), .val (.ref aT), .val (.int nn), .val (.ref b13), .val (.int mm), .val (.int r21)] [(.int (1 : Int32))])) _
                                refine XS.istore X38.here hx rfl (hb hby at_335) rfl (l' := #[.val (.int i0), .val (.int i1), .val (.int i2), .val (.int i3), .val (.int lim), .val (.int tk), .val (.int sn), .val (.ref aA), .val (.ref aT), .val (.int nn), .val (.ref b13), .val (.int mm), .val (.int (1 : Int32))]) rfl ?_
                                exact k
                              exact J23 _ _ _ _ X38 e38 O N38 I_aA I_aT E_b13 D_b13 (Option.some.inj hkr)
                          · skip
                            replace hkr := (if_neg hy36).symm.trans hkr
                            refine Go.by (T' := T35) (g' := (mkF m 337 #[.val (.int i0), .val (.int i1), .val (.int i2), .val (.int i3), .val (.int lim), .val (.int tk), .val (.int sn), .val (.ref aA), .val (.ref aT), .val (.int nn), .val (.ref b13), .val (.int mm), .val (.int (1 : Int32))] [])) (fun t k => ?_) ?_
                            · show Steps p.tables e below (T35.setTop (mkF m 297 #[.val (.int i0), .val (.int i1), .val (.int i2), .val (.int i3), .val (.int lim), .val (.int tk), .val (.int sn), .val (.ref aA), .val (.ref aT), .val (.int nn), .val (.ref b13), .val (.int mm), .val (.int r21)] [(.int r34)])) _
                              refine XS.ifYes X35.here hx rfl (pc0 := 297) (pc' := 330) rfl (hb hby at_297) rfl ((if0 _ _).trans (feq hy36).2) (by decide) (by decide) ?_
                              show Steps p.tables e below (T35.setTop (mkF m 330 #[.val (.int i0), .val (.int i1), .val (.int i2), .val (.int i3), .val (.int lim), .val (.int tk), .val (.int sn), .val (.ref aA), .val (.ref aT), .val (.int nn), .val (.ref b13), .val (.int mm), .val (.int r21)] [])) _
                              refine XS.iconst X35.here hx rfl (hb hby at_330) ?_
                              show Steps p.tables e below (T35.setTop (mkF m 331 #[.val (.int i0), .val (.int i1), .val (.int i2), .val (.int i3), .val (.int lim), .val (.int tk), .val (.int sn), .val (.ref aA), .val (.ref aT), .val (.int nn), .val (.ref b13), .val (.int mm), .val (.int r21)] [(.int (1 : Int32))])) _
                              refine XS.goto X35.here hx rfl (pc0 := 331) (pc' := 335) rfl (hb hby at_331) (by decide) (by decide) ?_
                              show Steps p.tables e below (T35.setTop (mkF m 335 #[.val (.int i0), .val (.int i1), .val (.int i2), .val (.int i3), .val (.int lim), .val (.int tk), .val (.int sn), .val (.ref aA), .val (.ref aT), .val (.int nn), .val (.ref b13), .val (.int mm), .val (.int r21)] [(.int (1 : Int32))])) _
                              refine XS.istore X35.here hx rfl (hb hby at_335) rfl (l' := #[.val (.int i0), .val (.int i1), .val (.int i2), .val (.int i3), .val (.int lim), .val (.int tk), .val (.int sn), .val (.ref aA), .val (.ref aT), .val (.int nn), .val (.ref b13), .val (.int mm), .val (.int (1 : Int32))]) rfl ?_
                              exact k
                            exact J23 _ _ _ _ X35 e35 O N35 I_aA I_aT E_b13 D_b13 (Option.some.inj hkr)
                        · skip
                          replace hkr := (if_neg hy33).symm.trans hkr
                          refine Go.by (T' := T32) (g' := (mkF m 337 #[.val (.int i0), .val (.int i1), .val (.int i2), .val (.int i3), .val (.int lim), .val (.int tk), .val (.int sn), .val (.ref aA), .val (.ref aT), .val (.int nn), .val (.ref b13), .val (.int mm), .val (.int (1 : Int32))] [])) (fun t k => ?_) ?_
                          · show Steps p.tables e below (T32.setTop (mkF m 282 #[.val (.int i0), .val (.int i1), .val (.int i2), .val (.int i3), .val (.int lim), .val (.int tk), .val (.int sn), .val (.ref aA), .val (.ref aT), .val (.int nn), .val (.ref b13), .val (.int mm), .val (.int r21)] [(.int r31)])) _
                            refine XS.ifYes X32.here hx rfl (pc0 := 282) (pc' := 330) rfl (hb hby at_282) rfl ((if0 _ _).trans (feq hy33).2) (by decide) (by decide) ?_
                            show Steps p.tables e below (T32.setTop (mkF m 330 #[.val (.int i0), .val (.int i1), .val (.int i2), .val (.int i3), .val (.int lim), .val (.int tk), .val (.int sn), .val (.ref aA), .val (.ref aT), .val (.int nn), .val (.ref b13), .val (.int mm), .val (.int r21)] [])) _
                            refine XS.iconst X32.here hx rfl (hb hby at_330) ?_
                            show Steps p.tables e below (T32.setTop (mkF m 331 #[.val (.int i0), .val (.int i1), .val (.int i2), .val (.int i3), .val (.int lim), .val (.int tk), .val (.int sn), .val (.ref aA), .val (.ref aT), .val (.int nn), .val (.ref b13), .val (.int mm), .val (.int r21)] [(.int (1 : Int32))])) _
                            refine XS.goto X32.here hx rfl (pc0 := 331) (pc' := 335) rfl (hb hby at_331) (by decide) (by decide) ?_
                            show Steps p.tables e below (T32.setTop (mkF m 335 #[.val (.int i0), .val (.int i1), .val (.int i2), .val (.int i3), .val (.int lim), .val (.int tk), .val (.int sn), .val (.ref aA), .val (.ref aT), .val (.int nn), .val (.ref b13), .val (.int mm), .val (.int r21)] [(.int (1 : Int32))])) _
                            refine XS.istore X32.here hx rfl (hb hby at_335) rfl (l' := #[.val (.int i0), .val (.int i1), .val (.int i2), .val (.int i3), .val (.int lim), .val (.int tk), .val (.int sn), .val (.ref aA), .val (.ref aT), .val (.int nn), .val (.ref b13), .val (.int mm), .val (.int (1 : Int32))]) rfl ?_
                            exact k
                          exact J23 _ _ _ _ X32 e32 O N32 I_aA I_aT E_b13 D_b13 (Option.some.inj hkr)
                      · skip
                        replace hkr := (if_neg hy30).symm.trans hkr
                        refine Go.by (T' := T22) (g' := (mkF m 337 #[.val (.int i0), .val (.int i1), .val (.int i2), .val (.int i3), .val (.int lim), .val (.int tk), .val (.int sn), .val (.ref aA), .val (.ref aT), .val (.int nn), .val (.ref b13), .val (.int mm), .val (.int (1 : Int32))] [])) (fun t k => ?_) ?_
                        · show Steps p.tables e below (T22.setTop (mkF m 267 #[.val (.int i0), .val (.int i1), .val (.int i2), .val (.int i3), .val (.int lim), .val (.int tk), .val (.int sn), .val (.ref aA), .val (.ref aT), .val (.int nn), .val (.ref b13), .val (.int mm), .val (.int r21)] [(.int r21)])) _
                          refine XS.ifYes X22.here hx rfl (pc0 := 267) (pc' := 330) rfl (hb hby at_267) rfl ((if0 _ _).trans (feq hy30).2) (by decide) (by decide) ?_
                          show Steps p.tables e below (T22.setTop (mkF m 330 #[.val (.int i0), .val (.int i1), .val (.int i2), .val (.int i3), .val (.int lim), .val (.int tk), .val (.int sn), .val (.ref aA), .val (.ref aT), .val (.int nn), .val (.ref b13), .val (.int mm), .val (.int r21)] [])) _
                          refine XS.iconst X22.here hx rfl (hb hby at_330) ?_
                          show Steps p.tables e below (T22.setTop (mkF m 331 #[.val (.int i0), .val (.int i1), .val (.int i2), .val (.int i3), .val (.int lim), .val (.int tk), .val (.int sn), .val (.ref aA), .val (.ref aT), .val (.int nn), .val (.ref b13), .val (.int mm), .val (.int r21)] [(.int (1 : Int32))])) _
                          refine XS.goto X22.here hx rfl (pc0 := 331) (pc' := 335) rfl (hb hby at_331) (by decide) (by decide) ?_
                          show Steps p.tables e below (T22.setTop (mkF m 335 #[.val (.int i0), .val (.int i1), .val (.int i2), .val (.int i3), .val (.int lim), .val (.int tk), .val (.int sn), .val (.ref aA), .val (.ref aT), .val (.int nn), .val (.ref b13), .val (.int mm), .val (.int r21)] [(.int (1 : Int32))])) _
                          refine XS.istore X22.here hx rfl (hb hby at_335) rfl (l' := #[.val (.int i0), .val (.int i1), .val (.int i2), .val (.int i3), .val (.int lim), .val (.int tk), .val (.int sn), .val (.ref aA), .val (.ref aT), .val (.int nn), .val (.ref b13), .val (.int mm), .val (.int (1 : Int32))]) rfl ?_
                          exact k
                        exact J23 _ _ _ _ X22 e22 O N22 I_aA I_aT E_b13 D_b13 (Option.some.inj hkr)
                    · skip
                      replace hkr := (if_neg hy29).symm.trans hkr
                      refine Go.by (T' := T22) (g' := (mkF m 337 #[.val (.int i0), .val (.int i1), .val (.int i2), .val (.int i3), .val (.int lim), .val (.int tk), .val (.int sn), .val (.ref aA), .val (.ref aT), .val (.int nn), .val (.ref b13), .val (.int mm), .val (.int r21)] [])) (fun t k => ?_) ?_
                      · show Steps p.tables e below (T22.setTop (mkF m 262 #[.val (.int i0), .val (.int i1), .val (.int i2), .val (.int i3), .val (.int lim), .val (.int tk), .val (.int sn), .val (.ref aA), .val (.ref aT), .val (.int nn), .val (.ref b13), .val (.int mm), .val (.int r21)] [(.int (1 : Int32)), (.int lim)])) _
                        refine XS.icmpYes X22.here hx rfl (pc0 := 262) (pc' := 337) rfl (hb hby at_262) rfl (feq hy29).2 (by decide) (by decide) ?_
                        exact k
                      exact J23 _ _ _ _ X22 e22 O N22 I_aA I_aT E_b13 D_b13 (Option.some.inj hkr)
                  by_cases hy43 : tk = (0 : Int32)
                  · skip
                    replace hP := (if_pos hy43).symm.trans hP
                    obtain ⟨qd, qm⟩ := Prod.mk.inj (Option.some.inj hP)
                    refine Go.by (T' := T19) (g' := (mkF m 244 #[.val (.int i0), .val (.int i1), .val (.int i2), .val (.int i3), .val (.int lim), .val (.int tk), .val (.int sn), .val (.ref aA), .val (.ref aT), .val (.int nn), .val (.ref b13), .val (.int nn), .unset] [])) (fun t k => ?_) ?_
                    · show Steps p.tables e below (T19.setTop (mkF m 225 #[.val (.int i0), .val (.int i1), .val (.int i2), .val (.int i3), .val (.int lim), .val (.int tk), .val (.int sn), .val (.ref aA), .val (.ref aT), .val (.int nn), .val (.ref b13), .val (.int nn), .unset] [(.int tk)])) _
                      refine XS.ifYes X19.here hx rfl (pc0 := 225) (pc' := 244) rfl (hb hby at_225) rfl ((if0 _ _).trans (teq hy43).1) (by decide) (by decide) ?_
                      exact k
                    rw [qd] at D_b13
                    exact J20 _ _ _ _ X19 e19 O N19 I_aA I_aT E_b13 D_b13 qm
                  · skip
                    replace hP := (if_neg hy43).symm.trans hP
                    refine Go.by (T' := T19) (g' := (mkF m 230 #[.val (.int i0), .val (.int i1), .val (.int i2), .val (.int i3), .val (.int lim), .val (.int tk), .val (.int sn), .val (.ref aA), .val (.ref aT), .val (.int nn), .val (.ref b13), .val (.int nn), .unset] [(.int nn)])) (fun t k => ?_) ?_
                    · show Steps p.tables e below (T19.setTop (mkF m 225 #[.val (.int i0), .val (.int i1), .val (.int i2), .val (.int i3), .val (.int lim), .val (.int tk), .val (.int sn), .val (.ref aA), .val (.ref aT), .val (.int nn), .val (.ref b13), .val (.int nn), .unset] [(.int tk)])) _
                      refine XS.ifNo X19.here hx rfl (hb hby at_225) rfl ((if0 _ _).trans (feq hy43).1) ?_
                      show Steps p.tables e below (T19.setTop (mkF m 228 #[.val (.int i0), .val (.int i1), .val (.int i2), .val (.int i3), .val (.int lim), .val (.int tk), .val (.int sn), .val (.ref aA), .val (.ref aT), .val (.int nn), .val (.ref b13), .val (.int nn), .unset] [])) _
                      refine XS.iload X19.here hx rfl (hb hby at_228) rfl ?_
                      exact k
                    by_cases hy44 : (0 : Int32) < nn
                    · skip
                      replace hP := (if_pos hy44).symm.trans hP
                      refine Go.by (T' := T19) (g' := (mkF m 235 #[.val (.int i0), .val (.int i1), .val (.int i2), .val (.int i3), .val (.int lim), .val (.int tk), .val (.int sn), .val (.ref aA), .val (.ref aT), .val (.int nn), .val (.ref b13), .val (.int nn), .unset] [(.ref b13)])) (fun t k => ?_) ?_
                      · show Steps p.tables e below (T19.setTop (mkF m 230 #[.val (.int i0), .val (.int i1), .val (.int i2), .val (.int i3), .val (.int lim), .val (.int tk), .val (.int sn), .val (.ref aA), .val (.ref aT), .val (.int nn), .val (.ref b13), .val (.int nn), .unset] [(.int nn)])) _
                        refine XS.ifNo X19.here hx rfl (hb hby at_230) rfl ((if0 _ _).trans (tlt hy44).2.2.2) ?_
                        show Steps p.tables e below (T19.setTop (mkF m 233 #[.val (.int i0), .val (.int i1), .val (.int i2), .val (.int i3), .val (.int lim), .val (.int tk), .val (.int sn), .val (.ref aA), .val (.ref aT), .val (.int nn), .val (.ref b13), .val (.int nn), .unset] [])) _
                        refine XS.aload X19.here hx rfl (hb hby at_233) rfl rfl ?_
                        exact k
                      obtain ⟨d5, hd5, hP⟩ := ob hP
                      obtain ⟨qd, qm⟩ := Prod.mk.inj (Option.some.inj hP)
                      refine Go.callV X19 hx hZ (W := 0) (argsL := []) (rest := []) hown (wd hw 78 rfl) (wd hw 79 rfl) (notFace_of_selects (args := #[]) (mvT hZ (wd hw 81 rfl))) (wd hw 81 rfl) (wd hw 80 rfl) (wd hw 3 rfl) (wd hw 82 rfl) (by decide) E_b13 (ct_pop l Z a0 hw  b13 w15 d4 d5 h19 n0 O (by omega) D_b13 hd5) e19 (by rw [hml]; rfl) (lenOf pd___V_8334 rfl) rfl rfl (hb hby at_235) (by decide) (by decide) (by decide) (by decide) ?_
                      intro v45 T45 h45 L45 X45 e45 q45
                      obtain ⟨rfl, N45, K45, D5_b13⟩ := q45
                      replace N45 := Fr.app N19 N45
                      replace I_aA := I_aA.keep K45 (nin_rng (by omega))
                      replace I_aT := I_aT.keep K45 (nin_rng (by omega))
                      replace E_b13 := E_b13.keep K45
                      clear D_b13
                      replace O := O.keep K45 (by intro (z : Nat) hz; have hz := List.mem_range'_1.mp hz; show (n0 : Nat) ≤ z; omega)
                      show Go p e below _ T45 (mkF m 238 #[.val (.int i0), .val (.int i1), .val (.int i2), .val (.int i3), .val (.int lim), .val (.int tk), .val (.int sn), .val (.ref aA), .val (.ref aT), .val (.int nn), .val (.ref b13), .val (.int nn), .unset] [])
                      refine Go.by (T' := T45) (g' := (mkF m 244 #[.val (.int i0), .val (.int i1), .val (.int i2), .val (.int i3), .val (.int lim), .val (.int tk), .val (.int sn), .val (.ref aA), .val (.ref aT), .val (.int nn), .val (.ref b13), .val (.int (nn - (1 : Int32))), .unset] [])) (fun t k => ?_) ?_
                      · show Steps p.tables e below (T45.setTop (mkF m 238 #[.val (.int i0), .val (.int i1), .val (.int i2), .val (.int i3), .val (.int lim), .val (.int tk), .val (.int sn), .val (.ref aA), .val (.ref aT), .val (.int nn), .val (.ref b13), .val (.int nn), .unset] [])) _
                        refine XS.iload X45.here hx rfl (hb hby at_238) rfl ?_
                        show Steps p.tables e below (T45.setTop (mkF m 240 #[.val (.int i0), .val (.int i1), .val (.int i2), .val (.int i3), .val (.int lim), .val (.int tk), .val (.int sn), .val (.ref aA), .val (.ref aT), .val (.int nn), .val (.ref b13), .val (.int nn), .unset] [(.int nn)])) _
                        refine XS.iconst X45.here hx rfl (hb hby at_240) ?_
                        show Steps p.tables e below (T45.setTop (mkF m 241 #[.val (.int i0), .val (.int i1), .val (.int i2), .val (.int i3), .val (.int lim), .val (.int tk), .val (.int sn), .val (.ref aA), .val (.ref aT), .val (.int nn), .val (.ref b13), .val (.int nn), .unset] [(.int (1 : Int32)), (.int nn)])) _
                        refine XS.isub X45.here hx rfl (hb hby at_241) rfl ?_
                        show Steps p.tables e below (T45.setTop (mkF m 242 #[.val (.int i0), .val (.int i1), .val (.int i2), .val (.int i3), .val (.int lim), .val (.int tk), .val (.int sn), .val (.ref aA), .val (.ref aT), .val (.int nn), .val (.ref b13), .val (.int nn), .unset] [(.int (nn - (1 : Int32)))])) _
                        refine XS.istore X45.here hx rfl (hb hby at_242) rfl (l' := #[.val (.int i0), .val (.int i1), .val (.int i2), .val (.int i3), .val (.int lim), .val (.int tk), .val (.int sn), .val (.ref aA), .val (.ref aT), .val (.int nn), .val (.ref b13), .val (.int (nn - (1 : Int32))), .unset]) rfl ?_
                        exact k
                      rw [qd] at D5_b13
                      exact J20 _ _ _ _ X45 e45 O N45 I_aA I_aT E_b13 D5_b13 qm
                    · skip
                      replace hP := (if_neg hy44).symm.trans hP
                      obtain ⟨qd, qm⟩ := Prod.mk.inj (Option.some.inj hP)
                      refine Go.by (T' := T19) (g' := (mkF m 244 #[.val (.int i0), .val (.int i1), .val (.int i2), .val (.int i3), .val (.int lim), .val (.int tk), .val (.int sn), .val (.ref aA), .val (.ref aT), .val (.int nn), .val (.ref b13), .val (.int nn), .unset] [])) (fun t k => ?_) ?_
                      · show Steps p.tables e below (T19.setTop (mkF m 230 #[.val (.int i0), .val (.int i1), .val (.int i2), .val (.int i3), .val (.int lim), .val (.int tk), .val (.int sn), .val (.ref aA), .val (.ref aT), .val (.int nn), .val (.ref b13), .val (.int nn), .unset] [(.int nn)])) _
                        refine XS.ifYes X19.here hx rfl (pc0 := 230) (pc' := 244) rfl (hb hby at_230) rfl ((if0 _ _).trans (flt hy44).2.2.2) (by decide) (by decide) ?_
                        exact k
                      rw [qd] at D_b13
                      exact J20 _ _ _ _ X19 e19 O N19 I_aA I_aT E_b13 D_b13 qm
                by_cases hy46 : (3 : Int32) < nn
                · skip
                  replace hd4 := (if_pos hy46).symm.trans hd4
                  refine Go.by (T' := T18) (g' := (mkF m 215 #[.val (.int i0), .val (.int i1), .val (.int i2), .val (.int i3), .val (.int lim), .val (.int tk), .val (.int sn), .val (.ref aA), .val (.ref aT), .val (.int nn), .val (.ref b13), .unset, .unset] [(.int (3 : Int32)), (.ref aT), (.ref b13)])) (fun t k => ?_) ?_
                  · show Steps p.tables e below (T18.setTop (mkF m 207 #[.val (.int i0), .val (.int i1), .val (.int i2), .val (.int i3), .val (.int lim), .val (.int tk), .val (.int sn), .val (.ref aA), .val (.ref aT), .val (.int nn), .val (.ref b13), .unset, .unset] [(.int (3 : Int32)), (.int nn)])) _
                    refine XS.icmpNo X18.here hx rfl (hb hby at_207) rfl (tlt hy46).2.2.2 ?_
                    show Steps p.tables e below (T18.setTop (mkF m 210 #[.val (.int i0), .val (.int i1), .val (.int i2), .val (.int i3), .val (.int lim), .val (.int tk), .val (.int sn), .val (.ref aA), .val (.ref aT), .val (.int nn), .val (.ref b13), .unset, .unset] [])) _
                    refine XS.aload X18.here hx rfl (hb hby at_210) rfl rfl ?_
                    show Steps p.tables e below (T18.setTop (mkF m 212 #[.val (.int i0), .val (.int i1), .val (.int i2), .val (.int i3), .val (.int lim), .val (.int tk), .val (.int sn), .val (.ref aA), .val (.ref aT), .val (.int nn), .val (.ref b13), .unset, .unset] [(.ref b13)])) _
                    refine XS.aload X18.here hx rfl (hb hby at_212) rfl rfl ?_
                    show Steps p.tables e below (T18.setTop (mkF m 214 #[.val (.int i0), .val (.int i1), .val (.int i2), .val (.int i3), .val (.int lim), .val (.int tk), .val (.int sn), .val (.ref aA), .val (.ref aT), .val (.int nn), .val (.ref b13), .unset, .unset] [(.ref aT), (.ref b13)])) _
                    refine XS.iconst X18.here hx rfl (hb hby at_214) ?_
                    exact k
                  refine Go.iaL X18 hx hZ e18 I_aT (j := (3 : Int32)) (rfl : rdO _ _ = some t3) (hb hby at_215) ?_
                  show Go p e below _ T18 (mkF m 216 #[.val (.int i0), .val (.int i1), .val (.int i2), .val (.int i3), .val (.int lim), .val (.int tk), .val (.int sn), .val (.ref aA), .val (.ref aT), .val (.int nn), .val (.ref b13), .unset, .unset] [(.int t3), (.ref b13)])
                  refine Go.callV X18 hx hZ (W := 0) (argsL := [(.int t3)]) (rest := []) hown (wd hw 66 rfl) (wd hw 67 rfl) (notFace_of_selects (args := #[]) (mvT hZ (wd hw 69 rfl))) (wd hw 69 rfl) (wd hw 68 rfl) (wd hw 3 rfl) (wd hw 70 rfl) (by decide) E_b13 (ct_push l Z a0 hw  b13 w15 d3 t3 d4 h18 n0 O (by omega) D_b13 hd4) e18 (by rw [hml]; rfl) (lenOf pd__I_V_7776 rfl) rfl rfl (hb hby at_216) (by decide) (by decide) (by decide) (by decide) ?_
                  intro v47 T47 h47 L47 X47 e47 q47
                  obtain ⟨rfl, N47, K47, D4_b13⟩ := q47
                  replace N47 := Fr.app N18 N47
                  replace I_aA := I_aA.keep K47 (nin_rng (by omega))
                  replace I_aT := I_aT.keep K47 (nin_rng (by omega))
                  replace E_b13 := E_b13.keep K47
                  clear D_b13
                  replace O := O.keep K47 (by intro (z : Nat) hz; have hz := List.mem_range'_1.mp hz; show (n0 : Nat) ≤ z; omega)
                  show Go p e below _ T47 (mkF m 219 #[.val (.int i0), .val (.int i1), .val (.int i2), .val (.int i3), .val (.int lim), .val (.int tk), .val (.int sn), .val (.ref aA), .val (.ref aT), .val (.int nn), .val (.ref b13), .unset, .unset] [])
                  exact J19 _ _ _ X47 e47 O N47 I_aA I_aT E_b13 D4_b13
                · skip
                  have qd := Option.some.inj ((if_neg hy46).symm.trans hd4)
                  refine Go.by (T' := T18) (g' := (mkF m 219 #[.val (.int i0), .val (.int i1), .val (.int i2), .val (.int i3), .val (.int lim), .val (.int tk), .val (.int sn), .val (.ref aA), .val (.ref aT), .val (.int nn), .val (.ref b13), .unset, .unset] [])) (fun t k => ?_) ?_
                  · show Steps p.tables e below (T18.setTop (mkF m 207 #[.val (.int i0), .val (.int i1), .val (.int i2), .val (.int i3), .val (.int lim), .val (.int tk), .val (.int sn), .val (.ref aA), .val (.ref aT), .val (.int nn), .val (.ref b13), .unset, .unset] [(.int (3 : Int32)), (.int nn)])) _
                    refine XS.icmpYes X18.here hx rfl (pc0 := 207) (pc' := 219) rfl (hb hby at_207) rfl (flt hy46).2.2.2 (by decide) (by decide) ?_
                    exact k
                  rw [qd] at D_b13
                  exact J19 _ _ _ X18 e18 O N18 I_aA I_aT E_b13 D_b13
              by_cases hy48 : (2 : Int32) < nn
              · skip
                replace hd3 := (if_pos hy48).symm.trans hd3
                refine Go.by (T' := T17) (g' := (mkF m 200 #[.val (.int i0), .val (.int i1), .val (.int i2), .val (.int i3), .val (.int lim), .val (.int tk), .val (.int sn), .val (.ref aA), .val (.ref aT), .val (.int nn), .val (.ref b13), .unset, .unset] [(.int (2 : Int32)), (.ref aT), (.ref b13)])) (fun t k => ?_) ?_
                · show Steps p.tables e below (T17.setTop (mkF m 192 #[.val (.int i0), .val (.int i1), .val (.int i2), .val (.int i3), .val (.int lim), .val (.int tk), .val (.int sn), .val (.ref aA), .val (.ref aT), .val (.int nn), .val (.ref b13), .unset, .unset] [(.int (2 : Int32)), (.int nn)])) _
                  refine XS.icmpNo X17.here hx rfl (hb hby at_192) rfl (tlt hy48).2.2.2 ?_
                  show Steps p.tables e below (T17.setTop (mkF m 195 #[.val (.int i0), .val (.int i1), .val (.int i2), .val (.int i3), .val (.int lim), .val (.int tk), .val (.int sn), .val (.ref aA), .val (.ref aT), .val (.int nn), .val (.ref b13), .unset, .unset] [])) _
                  refine XS.aload X17.here hx rfl (hb hby at_195) rfl rfl ?_
                  show Steps p.tables e below (T17.setTop (mkF m 197 #[.val (.int i0), .val (.int i1), .val (.int i2), .val (.int i3), .val (.int lim), .val (.int tk), .val (.int sn), .val (.ref aA), .val (.ref aT), .val (.int nn), .val (.ref b13), .unset, .unset] [(.ref b13)])) _
                  refine XS.aload X17.here hx rfl (hb hby at_197) rfl rfl ?_
                  show Steps p.tables e below (T17.setTop (mkF m 199 #[.val (.int i0), .val (.int i1), .val (.int i2), .val (.int i3), .val (.int lim), .val (.int tk), .val (.int sn), .val (.ref aA), .val (.ref aT), .val (.int nn), .val (.ref b13), .unset, .unset] [(.ref aT), (.ref b13)])) _
                  refine XS.iconst X17.here hx rfl (hb hby at_199) ?_
                  exact k
                refine Go.iaL X17 hx hZ e17 I_aT (j := (2 : Int32)) (rfl : rdO _ _ = some t2) (hb hby at_200) ?_
                show Go p e below _ T17 (mkF m 201 #[.val (.int i0), .val (.int i1), .val (.int i2), .val (.int i3), .val (.int lim), .val (.int tk), .val (.int sn), .val (.ref aA), .val (.ref aT), .val (.int nn), .val (.ref b13), .unset, .unset] [(.int t2), (.ref b13)])
                refine Go.callV X17 hx hZ (W := 0) (argsL := [(.int t2)]) (rest := []) hown (wd hw 66 rfl) (wd hw 67 rfl) (notFace_of_selects (args := #[]) (mvT hZ (wd hw 69 rfl))) (wd hw 69 rfl) (wd hw 68 rfl) (wd hw 3 rfl) (wd hw 70 rfl) (by decide) E_b13 (ct_push l Z a0 hw  b13 w15 d2 t2 d3 h17 n0 O (by omega) D_b13 hd3) e17 (by rw [hml]; rfl) (lenOf pd__I_V_7776 rfl) rfl rfl (hb hby at_201) (by decide) (by decide) (by decide) (by decide) ?_
                intro v49 T49 h49 L49 X49 e49 q49
                obtain ⟨rfl, N49, K49, D3_b13⟩ := q49
                replace N49 := Fr.app N17 N49
                replace I_aA := I_aA.keep K49 (nin_rng (by omega))
                replace I_aT := I_aT.keep K49 (nin_rng (by omega))
                replace E_b13 := E_b13.keep K49
                clear D_b13
                replace O := O.keep K49 (by intro (z : Nat) hz; have hz := List.mem_range'_1.mp hz; show (n0 : Nat) ≤ z; omega)
                show Go p e below _ T49 (mkF m 204 #[.val (.int i0), .val (.int i1), .val (.int i2), .val (.int i3), .val (.int lim), .val (.int tk), .val (.int sn), .val (.ref aA), .val (.ref aT), .val (.int nn), .val (.ref b13), .unset, .unset] [])
                exact J18 _ _ _ X49 e49 O N49 I_aA I_aT E_b13 D3_b13
              · skip
                have qd := Option.some.inj ((if_neg hy48).symm.trans hd3)
                refine Go.by (T' := T17) (g' := (mkF m 204 #[.val (.int i0), .val (.int i1), .val (.int i2), .val (.int i3), .val (.int lim), .val (.int tk), .val (.int sn), .val (.ref aA), .val (.ref aT), .val (.int nn), .val (.ref b13), .unset, .unset] [])) (fun t k => ?_) ?_
                · show Steps p.tables e below (T17.setTop (mkF m 192 #[.val (.int i0), .val (.int i1), .val (.int i2), .val (.int i3), .val (.int lim), .val (.int tk), .val (.int sn), .val (.ref aA), .val (.ref aT), .val (.int nn), .val (.ref b13), .unset, .unset] [(.int (2 : Int32)), (.int nn)])) _
                  refine XS.icmpYes X17.here hx rfl (pc0 := 192) (pc' := 204) rfl (hb hby at_192) rfl (flt hy48).2.2.2 (by decide) (by decide) ?_
                  exact k
                rw [qd] at D_b13
                exact J18 _ _ _ X17 e17 O N17 I_aA I_aT E_b13 D_b13
            by_cases hy50 : (1 : Int32) < nn
            · skip
              replace hd2 := (if_pos hy50).symm.trans hd2
              refine Go.by (T' := T16) (g' := (mkF m 185 #[.val (.int i0), .val (.int i1), .val (.int i2), .val (.int i3), .val (.int lim), .val (.int tk), .val (.int sn), .val (.ref aA), .val (.ref aT), .val (.int nn), .val (.ref b13), .unset, .unset] [(.int (1 : Int32)), (.ref aT), (.ref b13)])) (fun t k => ?_) ?_
              · show Steps p.tables e below (T16.setTop (mkF m 177 #[.val (.int i0), .val (.int i1), .val (.int i2), .val (.int i3), .val (.int lim), .val (.int tk), .val (.int sn), .val (.ref aA), .val (.ref aT), .val (.int nn), .val (.ref b13), .unset, .unset] [(.int (1 : Int32)), (.int nn)])) _
                refine XS.icmpNo X16.here hx rfl (hb hby at_177) rfl (tlt hy50).2.2.2 ?_
                show Steps p.tables e below (T16.setTop (mkF m 180 #[.val (.int i0), .val (.int i1), .val (.int i2), .val (.int i3), .val (.int lim), .val (.int tk), .val (.int sn), .val (.ref aA), .val (.ref aT), .val (.int nn), .val (.ref b13), .unset, .unset] [])) _
                refine XS.aload X16.here hx rfl (hb hby at_180) rfl rfl ?_
                show Steps p.tables e below (T16.setTop (mkF m 182 #[.val (.int i0), .val (.int i1), .val (.int i2), .val (.int i3), .val (.int lim), .val (.int tk), .val (.int sn), .val (.ref aA), .val (.ref aT), .val (.int nn), .val (.ref b13), .unset, .unset] [(.ref b13)])) _
                refine XS.aload X16.here hx rfl (hb hby at_182) rfl rfl ?_
                show Steps p.tables e below (T16.setTop (mkF m 184 #[.val (.int i0), .val (.int i1), .val (.int i2), .val (.int i3), .val (.int lim), .val (.int tk), .val (.int sn), .val (.ref aA), .val (.ref aT), .val (.int nn), .val (.ref b13), .unset, .unset] [(.ref aT), (.ref b13)])) _
                refine XS.iconst X16.here hx rfl (hb hby at_184) ?_
                exact k
              refine Go.iaL X16 hx hZ e16 I_aT (j := (1 : Int32)) (rfl : rdO _ _ = some t1) (hb hby at_185) ?_
              show Go p e below _ T16 (mkF m 186 #[.val (.int i0), .val (.int i1), .val (.int i2), .val (.int i3), .val (.int lim), .val (.int tk), .val (.int sn), .val (.ref aA), .val (.ref aT), .val (.int nn), .val (.ref b13), .unset, .unset] [(.int t1), (.ref b13)])
              refine Go.callV X16 hx hZ (W := 0) (argsL := [(.int t1)]) (rest := []) hown (wd hw 66 rfl) (wd hw 67 rfl) (notFace_of_selects (args := #[]) (mvT hZ (wd hw 69 rfl))) (wd hw 69 rfl) (wd hw 68 rfl) (wd hw 3 rfl) (wd hw 70 rfl) (by decide) E_b13 (ct_push l Z a0 hw  b13 w15 d1 t1 d2 h16 n0 O (by omega) D_b13 hd2) e16 (by rw [hml]; rfl) (lenOf pd__I_V_7776 rfl) rfl rfl (hb hby at_186) (by decide) (by decide) (by decide) (by decide) ?_
              intro v51 T51 h51 L51 X51 e51 q51
              obtain ⟨rfl, N51, K51, D2_b13⟩ := q51
              replace N51 := Fr.app N16 N51
              replace I_aA := I_aA.keep K51 (nin_rng (by omega))
              replace I_aT := I_aT.keep K51 (nin_rng (by omega))
              replace E_b13 := E_b13.keep K51
              clear D_b13
              replace O := O.keep K51 (by intro (z : Nat) hz; have hz := List.mem_range'_1.mp hz; show (n0 : Nat) ≤ z; omega)
              show Go p e below _ T51 (mkF m 189 #[.val (.int i0), .val (.int i1), .val (.int i2), .val (.int i3), .val (.int lim), .val (.int tk), .val (.int sn), .val (.ref aA), .val (.ref aT), .val (.int nn), .val (.ref b13), .unset, .unset] [])
              exact J17 _ _ _ X51 e51 O N51 I_aA I_aT E_b13 D2_b13
            · skip
              have qd := Option.some.inj ((if_neg hy50).symm.trans hd2)
              refine Go.by (T' := T16) (g' := (mkF m 189 #[.val (.int i0), .val (.int i1), .val (.int i2), .val (.int i3), .val (.int lim), .val (.int tk), .val (.int sn), .val (.ref aA), .val (.ref aT), .val (.int nn), .val (.ref b13), .unset, .unset] [])) (fun t k => ?_) ?_
              · show Steps p.tables e below (T16.setTop (mkF m 177 #[.val (.int i0), .val (.int i1), .val (.int i2), .val (.int i3), .val (.int lim), .val (.int tk), .val (.int sn), .val (.ref aA), .val (.ref aT), .val (.int nn), .val (.ref b13), .unset, .unset] [(.int (1 : Int32)), (.int nn)])) _
                refine XS.icmpYes X16.here hx rfl (pc0 := 177) (pc' := 189) rfl (hb hby at_177) rfl (flt hy50).2.2.2 (by decide) (by decide) ?_
                exact k
              rw [qd] at D_b13
              exact J17 _ _ _ X16 e16 O N16 I_aA I_aT E_b13 D_b13
          by_cases hy52 : (0 : Int32) < nn
          · skip
            replace hd1 := (if_pos hy52).symm.trans hd1
            refine Go.by (T' := T15) (g' := (mkF m 170 #[.val (.int i0), .val (.int i1), .val (.int i2), .val (.int i3), .val (.int lim), .val (.int tk), .val (.int sn), .val (.ref aA), .val (.ref aT), .val (.int nn), .val (.ref b13), .unset, .unset] [(.int (0 : Int32)), (.ref aT), (.ref b13)])) (fun t k => ?_) ?_
            · show Steps p.tables e below (T15.setTop (mkF m 162 #[.val (.int i0), .val (.int i1), .val (.int i2), .val (.int i3), .val (.int lim), .val (.int tk), .val (.int sn), .val (.ref aA), .val (.ref aT), .val (.int nn), .val (.ref b13), .unset, .unset] [(.int nn)])) _
              refine XS.ifNo X15.here hx rfl (hb hby at_162) rfl ((if0 _ _).trans (tlt hy52).2.2.2) ?_
              show Steps p.tables e below (T15.setTop (mkF m 165 #[.val (.int i0), .val (.int i1), .val (.int i2), .val (.int i3), .val (.int lim), .val (.int tk), .val (.int sn), .val (.ref aA), .val (.ref aT), .val (.int nn), .val (.ref b13), .unset, .unset] [])) _
              refine XS.aload X15.here hx rfl (hb hby at_165) rfl rfl ?_
              show Steps p.tables e below (T15.setTop (mkF m 167 #[.val (.int i0), .val (.int i1), .val (.int i2), .val (.int i3), .val (.int lim), .val (.int tk), .val (.int sn), .val (.ref aA), .val (.ref aT), .val (.int nn), .val (.ref b13), .unset, .unset] [(.ref b13)])) _
              refine XS.aload X15.here hx rfl (hb hby at_167) rfl rfl ?_
              show Steps p.tables e below (T15.setTop (mkF m 169 #[.val (.int i0), .val (.int i1), .val (.int i2), .val (.int i3), .val (.int lim), .val (.int tk), .val (.int sn), .val (.ref aA), .val (.ref aT), .val (.int nn), .val (.ref b13), .unset, .unset] [(.ref aT), (.ref b13)])) _
              refine XS.iconst X15.here hx rfl (hb hby at_169) ?_
              exact k
            refine Go.iaL X15 hx hZ e15 I_aT (j := (0 : Int32)) (rfl : rdO _ _ = some t0) (hb hby at_170) ?_
            show Go p e below _ T15 (mkF m 171 #[.val (.int i0), .val (.int i1), .val (.int i2), .val (.int i3), .val (.int lim), .val (.int tk), .val (.int sn), .val (.ref aA), .val (.ref aT), .val (.int nn), .val (.ref b13), .unset, .unset] [(.int t0), (.ref b13)])
            refine Go.callV X15 hx hZ (W := 0) (argsL := [(.int t0)]) (rest := []) hown (wd hw 66 rfl) (wd hw 67 rfl) (notFace_of_selects (args := #[]) (mvT hZ (wd hw 69 rfl))) (wd hw 69 rfl) (wd hw 68 rfl) (wd hw 3 rfl) (wd hw 70 rfl) (by decide) E_b13 (ct_push l Z a0 hw  b13 w15 d0 t0 d1 h15 n0 O (by omega) D_b13 hd1) e15 (by rw [hml]; rfl) (lenOf pd__I_V_7776 rfl) rfl rfl (hb hby at_171) (by decide) (by decide) (by decide) (by decide) ?_
            intro v53 T53 h53 L53 X53 e53 q53
            obtain ⟨rfl, N53, K53, D1_b13⟩ := q53
            replace N53 := Fr.app N15 N53
            replace I_aA := I_aA.keep K53 (nin_rng (by omega))
            replace I_aT := I_aT.keep K53 (nin_rng (by omega))
            replace E_b13 := E_b13.keep K53
            clear D_b13
            replace O := O.keep K53 (by intro (z : Nat) hz; have hz := List.mem_range'_1.mp hz; show (n0 : Nat) ≤ z; omega)
            show Go p e below _ T53 (mkF m 174 #[.val (.int i0), .val (.int i1), .val (.int i2), .val (.int i3), .val (.int lim), .val (.int tk), .val (.int sn), .val (.ref aA), .val (.ref aT), .val (.int nn), .val (.ref b13), .unset, .unset] [])
            exact J16 _ _ _ X53 e53 O N53 I_aA I_aT E_b13 D1_b13
          · skip
            have qd := Option.some.inj ((if_neg hy52).symm.trans hd1)
            refine Go.by (T' := T15) (g' := (mkF m 174 #[.val (.int i0), .val (.int i1), .val (.int i2), .val (.int i3), .val (.int lim), .val (.int tk), .val (.int sn), .val (.ref aA), .val (.ref aT), .val (.int nn), .val (.ref b13), .unset, .unset] [])) (fun t k => ?_) ?_
            · show Steps p.tables e below (T15.setTop (mkF m 162 #[.val (.int i0), .val (.int i1), .val (.int i2), .val (.int i3), .val (.int lim), .val (.int tk), .val (.int sn), .val (.ref aA), .val (.ref aT), .val (.int nn), .val (.ref b13), .unset, .unset] [(.int nn)])) _
              refine XS.ifYes X15.here hx rfl (pc0 := 162) (pc' := 174) rfl (hb hby at_162) rfl ((if0 _ _).trans (flt hy52).2.2.2) (by decide) (by decide) ?_
              exact k
            rw [qd] at D_b13
            exact J16 _ _ _ X15 e15 O N15 I_aA I_aT E_b13 D_b13
        by_cases hy54 : (2 : Int32) < sn
        · skip
          replace hs3 := (if_pos hy54).symm.trans hs3
          refine Go.by (T' := T5) (g' := (mkF m 81 #[.val (.int i0), .val (.int i1), .val (.int i2), .val (.int i3), .val (.int lim), .val (.int tk), .val (.int sn), .val (.ref aA), .unset, .unset, .unset, .unset, .unset] [(.int (i0 + (((i1.toUInt32 >>> ((4 : Int32) &&& 31).toUInt32).toInt32) &&& (3 : Int32)))), (.int (2 : Int32)), (.ref aA)])) (fun t k => ?_) ?_
          · show Steps p.tables e below (T5.setTop (mkF m 68 #[.val (.int i0), .val (.int i1), .val (.int i2), .val (.int i3), .val (.int lim), .val (.int tk), .val (.int sn), .val (.ref aA), .unset, .unset, .unset, .unset, .unset] [(.int (2 : Int32)), (.int sn)])) _
            refine XS.icmpNo X5.here hx rfl (hb hby at_68) rfl (tlt hy54).2.2.2 ?_
            show Steps p.tables e below (T5.setTop (mkF m 71 #[.val (.int i0), .val (.int i1), .val (.int i2), .val (.int i3), .val (.int lim), .val (.int tk), .val (.int sn), .val (.ref aA), .unset, .unset, .unset, .unset, .unset] [])) _
            refine XS.aload X5.here hx rfl (hb hby at_71) rfl rfl ?_
            show Steps p.tables e below (T5.setTop (mkF m 73 #[.val (.int i0), .val (.int i1), .val (.int i2), .val (.int i3), .val (.int lim), .val (.int tk), .val (.int sn), .val (.ref aA), .unset, .unset, .unset, .unset, .unset] [(.ref aA)])) _
            refine XS.iconst X5.here hx rfl (hb hby at_73) ?_
            show Steps p.tables e below (T5.setTop (mkF m 74 #[.val (.int i0), .val (.int i1), .val (.int i2), .val (.int i3), .val (.int lim), .val (.int tk), .val (.int sn), .val (.ref aA), .unset, .unset, .unset, .unset, .unset] [(.int (2 : Int32)), (.ref aA)])) _
            refine XS.iloadN X5.here hx rfl (hb hby at_74) rfl ?_
            show Steps p.tables e below (T5.setTop (mkF m 75 #[.val (.int i0), .val (.int i1), .val (.int i2), .val (.int i3), .val (.int lim), .val (.int tk), .val (.int sn), .val (.ref aA), .unset, .unset, .unset, .unset, .unset] [(.int i0), (.int (2 : Int32)), (.ref aA)])) _
            refine XS.iloadN X5.here hx rfl (hb hby at_75) rfl ?_
            show Steps p.tables e below (T5.setTop (mkF m 76 #[.val (.int i0), .val (.int i1), .val (.int i2), .val (.int i3), .val (.int lim), .val (.int tk), .val (.int sn), .val (.ref aA), .unset, .unset, .unset, .unset, .unset] [(.int i1), (.int i0), (.int (2 : Int32)), (.ref aA)])) _
            refine XS.iconst X5.here hx rfl (hb hby at_76) ?_
            show Steps p.tables e below (T5.setTop (mkF m 77 #[.val (.int i0), .val (.int i1), .val (.int i2), .val (.int i3), .val (.int lim), .val (.int tk), .val (.int sn), .val (.ref aA), .unset, .unset, .unset, .unset, .unset] [(.int (4 : Int32)), (.int i1), (.int i0), (.int (2 : Int32)), (.ref aA)])) _
            refine XS.iushr X5.here hx rfl (hb hby at_77) rfl ?_
            show Steps p.tables e below (T5.setTop (mkF m 78 #[.val (.int i0), .val (.int i1), .val (.int i2), .val (.int i3), .val (.int lim), .val (.int tk), .val (.int sn), .val (.ref aA), .unset, .unset, .unset, .unset, .unset] [(.int ((i1.toUInt32 >>> ((4 : Int32) &&& 31).toUInt32).toInt32)), (.int i0), (.int (2 : Int32)), (.ref aA)])) _
            refine XS.iconst X5.here hx rfl (hb hby at_78) ?_
            show Steps p.tables e below (T5.setTop (mkF m 79 #[.val (.int i0), .val (.int i1), .val (.int i2), .val (.int i3), .val (.int lim), .val (.int tk), .val (.int sn), .val (.ref aA), .unset, .unset, .unset, .unset, .unset] [(.int (3 : Int32)), (.int ((i1.toUInt32 >>> ((4 : Int32) &&& 31).toUInt32).toInt32)), (.int i0), (.int (2 : Int32)), (.ref aA)])) _
            refine XS.iand X5.here hx rfl (hb hby at_79) rfl ?_
            show Steps p.tables e below (T5.setTop (mkF m 80 #[.val (.int i0), .val (.int i1), .val (.int i2), .val (.int i3), .val (.int lim), .val (.int tk), .val (.int sn), .val (.ref aA), .unset, .unset, .unset, .unset, .unset] [(.int (((i1.toUInt32 >>> ((4 : Int32) &&& 31).toUInt32).toInt32) &&& (3 : Int32))), (.int i0), (.int (2 : Int32)), (.ref aA)])) _
            refine XS.iadd X5.here hx rfl (hb hby at_80) rfl ?_
            exact k
          refine Go.iaS X5 hx hZ e5 I_aA (j := (2 : Int32)) hs3 (hb hby at_81) ?_
          intro T55 h55 X55 e55 W55 Vn55
          replace O := O.wr W55 (show (n0 : Nat) ≤ aA by omega)
          have N55 := Fr.snoc X55 N5 (show (n0 : Nat) ≤ aA by omega)
          replace I_aA := Vn55
          clear Vn55
          show Go p e below _ T55 (mkF m 82 #[.val (.int i0), .val (.int i1), .val (.int i2), .val (.int i3), .val (.int lim), .val (.int tk), .val (.int sn), .val (.ref aA), .unset, .unset, .unset, .unset, .unset] [])
          exact J6 _ _ _ X55 e55 O N55 I_aA
        · skip
          have qs := Option.some.inj ((if_neg hy54).symm.trans hs3)
          refine Go.by (T' := T5) (g' := (mkF m 82 #[.val (.int i0), .val (.int i1), .val (.int i2), .val (.int i3), .val (.int lim), .val (.int tk), .val (.int sn), .val (.ref aA), .unset, .unset, .unset, .unset, .unset] [])) (fun t k => ?_) ?_
          · show Steps p.tables e below (T5.setTop (mkF m 68 #[.val (.int i0), .val (.int i1), .val (.int i2), .val (.int i3), .val (.int lim), .val (.int tk), .val (.int sn), .val (.ref aA), .unset, .unset, .unset, .unset, .unset] [(.int (2 : Int32)), (.int sn)])) _
            refine XS.icmpYes X5.here hx rfl (pc0 := 68) (pc' := 82) rfl (hb hby at_68) rfl (flt hy54).2.2.2 (by decide) (by decide) ?_
            exact k
          rw [qs] at I_aA
          exact J6 _ _ _ X5 e5 O N5 I_aA
      by_cases hy56 : (1 : Int32) < sn
      · skip
        replace hs2 := (if_pos hy56).symm.trans hs2
        refine Go.by (T' := T4) (g' := (mkF m 64 #[.val (.int i0), .val (.int i1), .val (.int i2), .val (.int i3), .val (.int lim), .val (.int tk), .val (.int sn), .val (.ref aA), .unset, .unset, .unset, .unset, .unset] [(.int (i0 + (((i1.toUInt32 >>> ((2 : Int32) &&& 31).toUInt32).toInt32) &&& (3 : Int32)))), (.int (1 : Int32)), (.ref aA)])) (fun t k => ?_) ?_
        · show Steps p.tables e below (T4.setTop (mkF m 51 #[.val (.int i0), .val (.int i1), .val (.int i2), .val (.int i3), .val (.int lim), .val (.int tk), .val (.int sn), .val (.ref aA), .unset, .unset, .unset, .unset, .unset] [(.int (1 : Int32)), (.int sn)])) _
          refine XS.icmpNo X4.here hx rfl (hb hby at_51) rfl (tlt hy56).2.2.2 ?_
          show Steps p.tables e below (T4.setTop (mkF m 54 #[.val (.int i0), .val (.int i1), .val (.int i2), .val (.int i3), .val (.int lim), .val (.int tk), .val (.int sn), .val (.ref aA), .unset, .unset, .unset, .unset, .unset] [])) _
          refine XS.aload X4.here hx rfl (hb hby at_54) rfl rfl ?_
          show Steps p.tables e below (T4.setTop (mkF m 56 #[.val (.int i0), .val (.int i1), .val (.int i2), .val (.int i3), .val (.int lim), .val (.int tk), .val (.int sn), .val (.ref aA), .unset, .unset, .unset, .unset, .unset] [(.ref aA)])) _
          refine XS.iconst X4.here hx rfl (hb hby at_56) ?_
          show Steps p.tables e below (T4.setTop (mkF m 57 #[.val (.int i0), .val (.int i1), .val (.int i2), .val (.int i3), .val (.int lim), .val (.int tk), .val (.int sn), .val (.ref aA), .unset, .unset, .unset, .unset, .unset] [(.int (1 : Int32)), (.ref aA)])) _
          refine XS.iloadN X4.here hx rfl (hb hby at_57) rfl ?_
          show Steps p.tables e below (T4.setTop (mkF m 58 #[.val (.int i0), .val (.int i1), .val (.int i2), .val (.int i3), .val (.int lim), .val (.int tk), .val (.int sn), .val (.ref aA), .unset, .unset, .unset, .unset, .unset] [(.int i0), (.int (1 : Int32)), (.ref aA)])) _
          refine XS.iloadN X4.here hx rfl (hb hby at_58) rfl ?_
          show Steps p.tables e below (T4.setTop (mkF m 59 #[.val (.int i0), .val (.int i1), .val (.int i2), .val (.int i3), .val (.int lim), .val (.int tk), .val (.int sn), .val (.ref aA), .unset, .unset, .unset, .unset, .unset] [(.int i1), (.int i0), (.int (1 : Int32)), (.ref aA)])) _
          refine XS.iconst X4.here hx rfl (hb hby at_59) ?_
          show Steps p.tables e below (T4.setTop (mkF m 60 #[.val (.int i0), .val (.int i1), .val (.int i2), .val (.int i3), .val (.int lim), .val (.int tk), .val (.int sn), .val (.ref aA), .unset, .unset, .unset, .unset, .unset] [(.int (2 : Int32)), (.int i1), (.int i0), (.int (1 : Int32)), (.ref aA)])) _
          refine XS.iushr X4.here hx rfl (hb hby at_60) rfl ?_
          show Steps p.tables e below (T4.setTop (mkF m 61 #[.val (.int i0), .val (.int i1), .val (.int i2), .val (.int i3), .val (.int lim), .val (.int tk), .val (.int sn), .val (.ref aA), .unset, .unset, .unset, .unset, .unset] [(.int ((i1.toUInt32 >>> ((2 : Int32) &&& 31).toUInt32).toInt32)), (.int i0), (.int (1 : Int32)), (.ref aA)])) _
          refine XS.iconst X4.here hx rfl (hb hby at_61) ?_
          show Steps p.tables e below (T4.setTop (mkF m 62 #[.val (.int i0), .val (.int i1), .val (.int i2), .val (.int i3), .val (.int lim), .val (.int tk), .val (.int sn), .val (.ref aA), .unset, .unset, .unset, .unset, .unset] [(.int (3 : Int32)), (.int ((i1.toUInt32 >>> ((2 : Int32) &&& 31).toUInt32).toInt32)), (.int i0), (.int (1 : Int32)), (.ref aA)])) _
          refine XS.iand X4.here hx rfl (hb hby at_62) rfl ?_
          show Steps p.tables e below (T4.setTop (mkF m 63 #[.val (.int i0), .val (.int i1), .val (.int i2), .val (.int i3), .val (.int lim), .val (.int tk), .val (.int sn), .val (.ref aA), .unset, .unset, .unset, .unset, .unset] [(.int (((i1.toUInt32 >>> ((2 : Int32) &&& 31).toUInt32).toInt32) &&& (3 : Int32))), (.int i0), (.int (1 : Int32)), (.ref aA)])) _
          refine XS.iadd X4.here hx rfl (hb hby at_63) rfl ?_
          exact k
        refine Go.iaS X4 hx hZ e4 I_aA (j := (1 : Int32)) hs2 (hb hby at_64) ?_
        intro T57 h57 X57 e57 W57 Vn57
        replace O := O.wr W57 (show (n0 : Nat) ≤ aA by omega)
        have N57 := Fr.snoc X57 N4 (show (n0 : Nat) ≤ aA by omega)
        replace I_aA := Vn57
        clear Vn57
        show Go p e below _ T57 (mkF m 65 #[.val (.int i0), .val (.int i1), .val (.int i2), .val (.int i3), .val (.int lim), .val (.int tk), .val (.int sn), .val (.ref aA), .unset, .unset, .unset, .unset, .unset] [])
        exact J5 _ _ _ X57 e57 O N57 I_aA
      · skip
        have qs := Option.some.inj ((if_neg hy56).symm.trans hs2)
        refine Go.by (T' := T4) (g' := (mkF m 65 #[.val (.int i0), .val (.int i1), .val (.int i2), .val (.int i3), .val (.int lim), .val (.int tk), .val (.int sn), .val (.ref aA), .unset, .unset, .unset, .unset, .unset] [])) (fun t k => ?_) ?_
        · show Steps p.tables e below (T4.setTop (mkF m 51 #[.val (.int i0), .val (.int i1), .val (.int i2), .val (.int i3), .val (.int lim), .val (.int tk), .val (.int sn), .val (.ref aA), .unset, .unset, .unset, .unset, .unset] [(.int (1 : Int32)), (.int sn)])) _
          refine XS.icmpYes X4.here hx rfl (pc0 := 51) (pc' := 65) rfl (hb hby at_51) rfl (flt hy56).2.2.2 (by decide) (by decide) ?_
          exact k
        rw [qs] at I_aA
        exact J5 _ _ _ X4 e4 O N4 I_aA
    by_cases hy58 : (0 : Int32) < sn
    · skip
      replace hs1 := (if_pos hy58).symm.trans hs1
      refine Go.by (T' := T2) (g' := (mkF m 47 #[.val (.int i0), .val (.int i1), .val (.int i2), .val (.int i3), .val (.int lim), .val (.int tk), .val (.int sn), .val (.ref aA), .unset, .unset, .unset, .unset, .unset] [(.int (i0 + (i1 &&& (3 : Int32)))), (.int (0 : Int32)), (.ref aA)])) (fun t k => ?_) ?_
      · show Steps p.tables e below (T2.setTop (mkF m 36 #[.val (.int i0), .val (.int i1), .val (.int i2), .val (.int i3), .val (.int lim), .val (.int tk), .val (.int sn), .val (.ref aA), .unset, .unset, .unset, .unset, .unset] [(.int sn)])) _
        refine XS.ifNo X2.here hx rfl (hb hby at_36) rfl ((if0 _ _).trans (tlt hy58).2.2.2) ?_
        show Steps p.tables e below (T2.setTop (mkF m 39 #[.val (.int i0), .val (.int i1), .val (.int i2), .val (.int i3), .val (.int lim), .val (.int tk), .val (.int sn), .val (.ref aA), .unset, .unset, .unset, .unset, .unset] [])) _
        refine XS.aload X2.here hx rfl (hb hby at_39) rfl rfl ?_
        show Steps p.tables e below (T2.setTop (mkF m 41 #[.val (.int i0), .val (.int i1), .val (.int i2), .val (.int i3), .val (.int lim), .val (.int tk), .val (.int sn), .val (.ref aA), .unset, .unset, .unset, .unset, .unset] [(.ref aA)])) _
        refine XS.iconst X2.here hx rfl (hb hby at_41) ?_
        show Steps p.tables e below (T2.setTop (mkF m 42 #[.val (.int i0), .val (.int i1), .val (.int i2), .val (.int i3), .val (.int lim), .val (.int tk), .val (.int sn), .val (.ref aA), .unset, .unset, .unset, .unset, .unset] [(.int (0 : Int32)), (.ref aA)])) _
        refine XS.iloadN X2.here hx rfl (hb hby at_42) rfl ?_
        show Steps p.tables e below (T2.setTop (mkF m 43 #[.val (.int i0), .val (.int i1), .val (.int i2), .val (.int i3), .val (.int lim), .val (.int tk), .val (.int sn), .val (.ref aA), .unset, .unset, .unset, .unset, .unset] [(.int i0), (.int (0 : Int32)), (.ref aA)])) _
        refine XS.iloadN X2.here hx rfl (hb hby at_43) rfl ?_
        show Steps p.tables e below (T2.setTop (mkF m 44 #[.val (.int i0), .val (.int i1), .val (.int i2), .val (.int i3), .val (.int lim), .val (.int tk), .val (.int sn), .val (.ref aA), .unset, .unset, .unset, .unset, .unset] [(.int i1), (.int i0), (.int (0 : Int32)), (.ref aA)])) _
        refine XS.iconst X2.here hx rfl (hb hby at_44) ?_
        show Steps p.tables e below (T2.setTop (mkF m 45 #[.val (.int i0), .val (.int i1), .val (.int i2), .val (.int i3), .val (.int lim), .val (.int tk), .val (.int sn), .val (.ref aA), .unset, .unset, .unset, .unset, .unset] [(.int (3 : Int32)), (.int i1), (.int i0), (.int (0 : Int32)), (.ref aA)])) _
        refine XS.iand X2.here hx rfl (hb hby at_45) rfl ?_
        show Steps p.tables e below (T2.setTop (mkF m 46 #[.val (.int i0), .val (.int i1), .val (.int i2), .val (.int i3), .val (.int lim), .val (.int tk), .val (.int sn), .val (.ref aA), .unset, .unset, .unset, .unset, .unset] [(.int (i1 &&& (3 : Int32))), (.int i0), (.int (0 : Int32)), (.ref aA)])) _
        refine XS.iadd X2.here hx rfl (hb hby at_46) rfl ?_
        exact k
      refine Go.iaS X2 hx hZ e2 I_aA (j := (0 : Int32)) hs1 (hb hby at_47) ?_
      intro T59 h59 X59 e59 W59 Vn59
      replace O := O.wr W59 (show (n0 : Nat) ≤ aA by omega)
      have N59 := Fr.snoc X59 N0 (show (n0 : Nat) ≤ aA by omega)
      replace I_aA := Vn59
      clear Vn59
      show Go p e below _ T59 (mkF m 48 #[.val (.int i0), .val (.int i1), .val (.int i2), .val (.int i3), .val (.int lim), .val (.int tk), .val (.int sn), .val (.ref aA), .unset, .unset, .unset, .unset, .unset] [])
      exact J4 _ _ _ X59 e59 O N59 I_aA
    · skip
      have qs := Option.some.inj ((if_neg hy58).symm.trans hs1)
      refine Go.by (T' := T2) (g' := (mkF m 48 #[.val (.int i0), .val (.int i1), .val (.int i2), .val (.int i3), .val (.int lim), .val (.int tk), .val (.int sn), .val (.ref aA), .unset, .unset, .unset, .unset, .unset] [])) (fun t k => ?_) ?_
      · show Steps p.tables e below (T2.setTop (mkF m 36 #[.val (.int i0), .val (.int i1), .val (.int i2), .val (.int i3), .val (.int lim), .val (.int tk), .val (.int sn), .val (.ref aA), .unset, .unset, .unset, .unset, .unset] [(.int sn)])) _
        refine XS.ifYes X2.here hx rfl (pc0 := 36) (pc' := 48) rfl (hb hby at_36) rfl ((if0 _ _).trans (flt hy58).2.2.2) (by decide) (by decide) ?_
        exact k
      rw [qs] at I_aA
      exact J4 _ _ _ X2 e2 O N0 I_aA
  by_cases hy60 : (((i3.toUInt32 >>> ((1 : Int32) &&& 31).toUInt32).toInt32) &&& (1 : Int32)) = (0 : Int32)
  · skip
    refine Go.by (T' := T0) (g' := (mkF m 20 #[.val (.int i0), .val (.int i1), .val (.int i2), .val (.int i3), .val (.int lim), .val (.int (0 : Int32)), .unset, .unset, .unset, .unset, .unset, .unset, .unset] [])) (fun t k => ?_) ?_
    · show Steps p.tables e below (T0.setTop (mkF m 10 #[.val (.int i0), .val (.int i1), .val (.int i2), .val (.int i3), .val (.int lim), .unset, .unset, .unset, .unset, .unset, .unset, .unset, .unset] [(.int (((i3.toUInt32 >>> ((1 : Int32) &&& 31).toUInt32).toInt32) &&& (1 : Int32)))])) _
      refine XS.ifYes X0.here hx rfl (pc0 := 10) (pc' := 17) rfl (hb hby at_10) rfl ((if0 _ _).trans (teq hy60).1) (by decide) (by decide) ?_
      show Steps p.tables e below (T0.setTop (mkF m 17 #[.val (.int i0), .val (.int i1), .val (.int i2), .val (.int i3), .val (.int lim), .unset, .unset, .unset, .unset, .unset, .unset, .unset, .unset] [])) _
      refine XS.iconst X0.here hx rfl (hb hby at_17) ?_
      show Steps p.tables e below (T0.setTop (mkF m 18 #[.val (.int i0), .val (.int i1), .val (.int i2), .val (.int i3), .val (.int lim), .unset, .unset, .unset, .unset, .unset, .unset, .unset, .unset] [(.int (0 : Int32))])) _
      refine XS.istore X0.here hx rfl (hb hby at_18) rfl (l' := #[.val (.int i0), .val (.int i1), .val (.int i2), .val (.int i3), .val (.int lim), .val (.int (0 : Int32)), .unset, .unset, .unset, .unset, .unset, .unset, .unset]) rfl ?_
      exact k
    exact J1 _ (if_pos hy60).symm
  · skip
    refine Go.by (T' := T0) (g' := (mkF m 20 #[.val (.int i0), .val (.int i1), .val (.int i2), .val (.int i3), .val (.int lim), .val (.int (1 : Int32)), .unset, .unset, .unset, .unset, .unset, .unset, .unset] [])) (fun t k => ?_) ?_
    · show Steps p.tables e below (T0.setTop (mkF m 10 #[.val (.int i0), .val (.int i1), .val (.int i2), .val (.int i3), .val (.int lim), .unset, .unset, .unset, .unset, .unset, .unset, .unset, .unset] [(.int (((i3.toUInt32 >>> ((1 : Int32) &&& 31).toUInt32).toInt32) &&& (1 : Int32)))])) _
      refine XS.ifNo X0.here hx rfl (hb hby at_10) rfl ((if0 _ _).trans (feq hy60).1) ?_
      show Steps p.tables e below (T0.setTop (mkF m 13 #[.val (.int i0), .val (.int i1), .val (.int i2), .val (.int i3), .val (.int lim), .unset, .unset, .unset, .unset, .unset, .unset, .unset, .unset] [])) _
      refine XS.iconst X0.here hx rfl (hb hby at_13) ?_
      show Steps p.tables e below (T0.setTop (mkF m 14 #[.val (.int i0), .val (.int i1), .val (.int i2), .val (.int i3), .val (.int lim), .unset, .unset, .unset, .unset, .unset, .unset, .unset, .unset] [(.int (1 : Int32))])) _
      refine XS.goto X0.here hx rfl (pc0 := 14) (pc' := 18) rfl (hb hby at_14) (by decide) (by decide) ?_
      show Steps p.tables e below (T0.setTop (mkF m 18 #[.val (.int i0), .val (.int i1), .val (.int i2), .val (.int i3), .val (.int lim), .unset, .unset, .unset, .unset, .unset, .unset, .unset, .unset] [(.int (1 : Int32))])) _
      refine XS.istore X0.here hx rfl (hb hby at_18) rfl (l' := #[.val (.int i0), .val (.int i1), .val (.int i2), .val (.int i3), .val (.int lim), .val (.int (1 : Int32)), .unset, .unset, .unset, .unset, .unset, .unset, .unset]) rfl ?_
      exact k
    exact J1 _ (if_neg hy60).symm
set_option maxRecDepth 65536 in
set_option maxHeartbeats 40000000 in
theorem comes_1 {Post : Tables → Env → Array Value → State → Outcome → State → Prop} (hpost : ∀ tb e args s v u, (limb_1_1.after args s (.returned v) u = true ∧ limb_1_2.after args s (.returned v) u = true ∧ True) → FrameEnd s (.returned v) u (Jvm.fieldLocs frame_1_writes args s ++ Jvm.arrayLocs frame_1_arrays args s ++ Jvm.staticLocs frame_1_statics s) 56 256 → Post tb e args s (.returned v) u) :
    ArmFor flags0 classFile x code maxLocals ret World_1 tables_1 room_1 Calls_1 rest_1 Pre_1 Post := by
  intro l hfl _ _ p e ha hc hk s m args below hf hA hF happ hP
  obtain ⟨hcalls, hrest, hpre⟩ := hP
  obtain ⟨-, -, -, hnamed, -, -, -, hat⟩ := (Spec.applies_iff hf).mp happ
  obtain ⟨hg, hn⟩ := and_e (Cond.before_iff.mp (show (Jvm.Cond.and given_1 narrow_1).before args s = true from hpre))
  obtain ⟨hcnt, hg⟩ := and_e hg
  obtain ⟨ha0, hg⟩ := and_e hg
  obtain ⟨ha1, hg⟩ := and_e hg
  obtain ⟨ha2, hg⟩ := and_e hg
  have ha3 := hg
  obtain ⟨u0, u1, u2, u3, rfl⟩ : ∃ u0 u1 u2 u3 : Value, args = #[u0, u1, u2, u3] := by
    have hs : args.size = 4 := by simpa [Cond.value] using hcnt
    obtain ⟨L⟩ := args
    match L, hs with
    | [u0, u1, u2, u3], _ => exact ⟨u0, u1, u2, u3, rfl⟩
  have hw := fun d (hd : d ∈ tables_1) => atoms_spec (ws := Jvm.Cond.code x code maxLocals ret :: tables_1) hat d (List.mem_cons_of_mem _ hd)
  have hfit : Fit s := fun {y c} hc i hi => by
    obtain ⟨ha, rfl⟩ := Array.getElem?_eq_some_iff.mp hc
    have q := List.all_eq_true.mp ((Array.all_eq_true_iff_forall_mem.mp hF) _ (Array.getElem_mem ha)) i (List.mem_range.mpr hi)
    simpa [Array.getElem?_eq_getElem hi] using q
  obtain ⟨i0, ei0⟩ := is_v ha0
  obtain rfl : u0 = (.int i0) := Option.some.inj ei0
  obtain ⟨i1, ei1⟩ := is_v ha1
  obtain rfl : u1 = (.int i1) := Option.some.inj ei1
  obtain ⟨i2, ei2⟩ := is_v ha2
  obtain rfl : u2 = (.int i2) := Option.some.inj ei2
  obtain ⟨i3, ei3⟩ := is_v ha3
  obtain rfl : u3 = (.int i3) := Option.some.inj ei3
  obtain ⟨n, o, h1, h2, h3, _, L, rfl, ⟨rfl, N⟩, hq⟩ := ct_law l s _ hw i0 i1 i2 i3 s.heap s.heap.size (Old.start s) (m1_law (and3 _) (and1 _) (and7 _) (g_mem (by decide) (by decide))) tables_1 p e ha hc hk s m _ below hf ((Spec.applies_iff_loose hf).mp happ).1 ⟨rfl, State.Warmed39.refl s, rfl⟩ trivial
  refine ⟨n, _, h1, h2, h3, hpost _ _ _ _ _ _ ⟨Cond.after_iff.mpr rfl, Cond.after_iff.mpr (eq_i res_at (Term.int_eval (1)) rfl), trivial⟩ ⟨hq.1, hq.2.1, (hq.2.2.sift fun y hy => Or.inr (N y hy)).mono (by decide) (by decide)⟩⟩
theorem main_1_1 : Claimed_1_1 := comes_1 fun _ _ _ _ _ _ h hF => ⟨h.1, hF⟩
theorem main_1_2 : Claimed_1_2 := comes_1 fun _ _ _ _ _ _ h hF => ⟨h.2.1, hF⟩
end Jvm.Pilot.@@N@@
namespace Jvm.Pilot.@@N@@
open Jvm Jvm.ClassFile Sem Op Lib Jvm.Free Jvm.Stand Jvm.Pilot.@@N@@.Jvm.D
/-! MADE BY PROGRAM (witnessworld.py) out of the Statement's table words and the real class files: 12 classes; the members and pool entries that the words name. The judged class is class 1, her method 1. -/
namespace start1
open Jvm.ClassFile
def u (s : String) : CpInfo := .utf8 (stringToUtf16 s)
/-- a pool by its gaps: so many unusable entries, then the entry; so many at the end -/
def gap : Nat → List CpInfo → List CpInfo
  | 0, r => r
  | n + 1, r => .unusable :: gap n r
def poolList (es : List (Nat × CpInfo)) (last : Nat) : List CpInfo := es.foldr (fun e r => gap e.1 (e.2 :: r)) (gap last [])
def pool (es : List (Nat × CpInfo)) (last : Nat) : Array CpInfo := ⟨poolList es last⟩
def fileOf (pool : Array CpInfo) (this : Nat) (attrs : Array Attribute := #[]) (ms : Array MethodInfo := #[]) (fl : Nat := 33) (sup : Nat := 0) (ifs : Array Nat := #[]) (fds : Array FieldInfo := #[]) : ClassFile where
  minorVersion := 0
  majorVersion := 65
  constantPool := pool
  accessFlags := fl
  thisClass := this
  superClass := sup
  interfaces := ifs
  fields := fds
  methods := ms
  attributes := attrs
def plain (name : String) (sup : Option ClassId) : Class where
  name := name
  kind := .ordinary
  loader := none
  accessFlags := 33
  super := sup
  interfaces := #[]
  cf := none
  fields := #[]
  methods := #[]
  instanceTypes := #[]
  staticTypes := #[]
  resolved := #[]
  callSites := []
  init := .initialized
  statics := none
  mirror := none

def pool0 : Array CpInfo := pool [(5, u "<init>"), (0, u "()V"), (1, .class_ 10), (1, u "java/lang/Object"), (85, u "clone"), (0, u "()Ljava/lang/Object;")] 26

def k0c0 : Code := { maxStack := 0, maxLocals := 1, code := object_method_1_code, exceptionTable := #[], attributes := #[] }
def k0m0 : Method := { name := "<init>", desc := "()V", sig := { parameters := [], returnType := none }, accessFlags := 1, code := some k0c0 }
def k0m1 : Method := { name := "clone", desc := "()Ljava/lang/Object;", sig := { parameters := [], returnType := some (.object "java/lang/Object") }, accessFlags := 260, code := none }
/-- java/lang/Object -/
def k0 : Class := { plain "java/lang/Object" none with
  accessFlags := 33
  interfaces := #[]
  cf := some (fileOf pool0 8 #[] #[{ accessFlags := 1, nameIndex := 5, descriptorIndex := 6, attributes := #[] }, { accessFlags := 260, nameIndex := 96, descriptorIndex := 97, attributes := #[] }] 33 0 #[] #[])
  fields := #[]
  methods := #[k0m0, k0m1]
  instanceTypes := #[]
  staticTypes := #[]
  resolved := Array.replicate 124 none
  statics := none }

def pool1 : Array CpInfo := pool [(2, .class_ 4), (1, u "java/lang/Object"), (0, u "<init>"), (0, u "()V"), (0, .class_ 8), (0, u "com/example/shingle/shingle/EditDistance"), (0, .methodref 7 10), (0, .nameAndType 5 11), (0, u "([II)V"), (0, .methodref 7 13), (0, .nameAndType 14 15), (0, u "push"), (0, u "(I)V"), (0, .methodref 7 17), (0, .nameAndType 18 6), (0, u "pop"), (0, .methodref 20 21), (0, .class_ 22), (0, .nameAndType 23 24), (0, u "com/example/shingle/shingle/EditDistanceIsOutOfReachPinLaw"), (0, u "pre"), (0, u "([III[III)Z"), (0, .methodref 20 26), (0, .nameAndType 27 28), (0, u "oneEdit"), (0, u "([II[III)Z"), (0, .methodref 7 30), (0, .nameAndType 31 32), (0, u "isOutOfReach"), (0, u "()Z"), (2, u "law"), (0, u "(IIII)Z")] 5

def k1m0 : Method := { name := "<init>", desc := "()V", sig := { parameters := [], returnType := none }, accessFlags := 1, code := none }
def k1c1 : Code := { maxStack := 6, maxLocals := 13, code := code, exceptionTable := #[], attributes := #[] }
def k1m1 : Method := { name := "law", desc := "(IIII)Z", sig := { parameters := [.int, .int, .int, .int], returnType := some .boolean }, accessFlags := 9, code := some k1c1 }
def k1c2 : Code := { maxStack := 4, maxLocals := 8, code := method_3_code, exceptionTable := #[], attributes := #[] }
def k1m2 : Method := { name := "pre", desc := "([III[III)Z", sig := { parameters := [(.array .int), .int, .int, (.array .int), .int, .int], returnType := some .boolean }, accessFlags := 10, code := some k1c2 }
def k1c3 : Code := { maxStack := 6, maxLocals := 9, code := method_4_code, exceptionTable := #[], attributes := #[] }
def k1m3 : Method := { name := "oneEdit", desc := "([II[III)Z", sig := { parameters := [(.array .int), .int, (.array .int), .int, .int], returnType := some .boolean }, accessFlags := 10, code := some k1c3 }
/-- com/example/shingle/shingle/EditDistanceIsOutOfReachPinLaw -/
def k1 : Class := { plain "com/example/shingle/shingle/EditDistanceIsOutOfReachPinLaw" (some 0) with
  accessFlags := 49
  interfaces := #[]
  cf := some (fileOf pool1 20 #[] #[{ accessFlags := 1, nameIndex := 5, descriptorIndex := 6, attributes := #[] }, { accessFlags := 9, nameIndex := 35, descriptorIndex := 36, attributes := #[] }, { accessFlags := 10, nameIndex := 23, descriptorIndex := 24, attributes := #[] }, { accessFlags := 10, nameIndex := 27, descriptorIndex := 28, attributes := #[] }] 49 2 #[] #[])
  fields := #[]
  methods := #[k1m0, k1m1, k1m2, k1m3]
  instanceTypes := #[]
  staticTypes := #[]
  resolved := Array.replicate 42 none
  statics := none }

def pool2 : Array CpInfo := pool [(1, .methodref 2 3), (0, .class_ 4), (0, .nameAndType 5 6), (0, u "java/lang/Object"), (0, u "<init>"), (0, u "()V"), (9, .methodref 17 18), (0, .class_ 19), (0, .nameAndType 20 21), (0, u "[I"), (0, u "clone"), (0, u "()Ljava/lang/Object;"), (0, .fieldref 23 24), (0, .class_ 25), (0, .nameAndType 26 19), (0, u "com/example/shingle/shingle/EditDistance"), (0, u "source"), (0, .fieldref 23 28), (0, .nameAndType 29 30), (0, u "limit"), (0, u "I"), (0, .methodref 23 32), (0, .nameAndType 33 34), (0, u "placeAmong"), (0, u "([III)I"), (0, .fieldref 23 36), (0, .nameAndType 37 19), (0, u "sourceLetters"), (0, .methodref 39 40), (0, .class_ 41), (0, .nameAndType 42 43), (0, u "java/util/Arrays"), (0, u "copyOf"), (0, u "([II)[I"), (0, .fieldref 23 45), (0, .nameAndType 46 19), (0, u "distinct"), (0, .class_ 48), (0, u "[[I"), (0, .fieldref 23 50), (0, .nameAndType 51 48), (0, u "lastRowBefore"), (0, .methodref 23 53), (0, .nameAndType 54 55), (0, u "longest"), (0, u "()I"), (0, .fieldref 23 57), (0, .nameAndType 58 48), (0, u "columns"), (0, .fieldref 23 60), (0, .nameAndType 61 19), (0, u "fewest"), (0, .fieldref 23 63), (0, .nameAndType 64 19), (0, u "targetLetters"), (0, .fieldref 23 66), (0, .nameAndType 67 19), (0, u "lastColumn"), (0, .fieldref 23 69), (0, .nameAndType 70 19), (0, u "replacedColumn"), (0, .fieldref 23 72), (0, .nameAndType 73 30), (0, u "read"), (4, .methodref 79 80), (0, .class_ 81), (0, .nameAndType 82 83), (0, u "java/lang/Math"), (0, u "max"), (0, u "(II)I"), (0, .methodref 79 85), (0, .nameAndType 86 83), (0, u "min"), (0, .methodref 79 88), (0, .nameAndType 89 90), (0, u "abs"), (0, u "(I)I"), (2, u "([II)V"), (3, u "push"), (0, u "(I)V"), (0, u "pop"), (1, u "isOutOfReach"), (0, u "()Z")] 19

def k2c0 : Code := { maxStack := 5, maxLocals := 8, code := prog_8_method_1_code, exceptionTable := #[], attributes := #[] }
def k2m0 : Method := { name := "<init>", desc := "([II)V", sig := { parameters := [(.array .int), .int], returnType := none }, accessFlags := 0, code := some k2c0 }
def k2c1 : Code := { maxStack := 2, maxLocals := 1, code := prog_8_method_3_code, exceptionTable := #[], attributes := #[] }
def k2m1 : Method := { name := "longest", desc := "()I", sig := { parameters := [], returnType := some .int }, accessFlags := 0, code := some k2c1 }
def k2c2 : Code := { maxStack := 5, maxLocals := 16, code := prog_8_method_5_code, exceptionTable := #[], attributes := #[] }
def k2m2 : Method := { name := "push", desc := "(I)V", sig := { parameters := [.int], returnType := none }, accessFlags := 0, code := some k2c2 }
def k2c3 : Code := { maxStack := 4, maxLocals := 2, code := prog_8_method_6_code, exceptionTable := #[], attributes := #[] }
def k2m3 : Method := { name := "pop", desc := "()V", sig := { parameters := [], returnType := none }, accessFlags := 0, code := some k2c3 }
def k2c4 : Code := { maxStack := 2, maxLocals := 1, code := prog_8_method_8_code, exceptionTable := #[], attributes := #[] }
def k2m4 : Method := { name := "isOutOfReach", desc := "()Z", sig := { parameters := [], returnType := some .boolean }, accessFlags := 0, code := some k2c4 }
def k2c5 : Code := { maxStack := 2, maxLocals := 5, code := prog_8_method_9_code, exceptionTable := #[], attributes := #[] }
def k2m5 : Method := { name := "placeAmong", desc := "([III)I", sig := { parameters := [(.array .int), .int, .int], returnType := some .int }, accessFlags := 10, code := some k2c5 }
/-- com/example/shingle/shingle/EditDistance -/
def k2 : Class := { plain "com/example/shingle/shingle/EditDistance" (some 0) with
  accessFlags := 48
  interfaces := #[]
  cf := some (fileOf pool2 23 #[] #[{ accessFlags := 0, nameIndex := 5, descriptorIndex := 93, attributes := #[] }, { accessFlags := 0, nameIndex := 54, descriptorIndex := 55, attributes := #[] }, { accessFlags := 0, nameIndex := 97, descriptorIndex := 98, attributes := #[] }, { accessFlags := 0, nameIndex := 99, descriptorIndex := 6, attributes := #[] }, { accessFlags := 0, nameIndex := 101, descriptorIndex := 102, attributes := #[] }, { accessFlags := 10, nameIndex := 33, descriptorIndex := 34, attributes := #[] }] 48 2 #[] #[{ accessFlags := 18, nameIndex := 26, descriptorIndex := 19, attributes := #[] }, { accessFlags := 18, nameIndex := 29, descriptorIndex := 30, attributes := #[] }, { accessFlags := 18, nameIndex := 37, descriptorIndex := 19, attributes := #[] }, { accessFlags := 18, nameIndex := 46, descriptorIndex := 19, attributes := #[] }, { accessFlags := 18, nameIndex := 51, descriptorIndex := 48, attributes := #[] }, { accessFlags := 18, nameIndex := 58, descriptorIndex := 48, attributes := #[] }, { accessFlags := 18, nameIndex := 61, descriptorIndex := 19, attributes := #[] }, { accessFlags := 18, nameIndex := 64, descriptorIndex := 19, attributes := #[] }, { accessFlags := 18, nameIndex := 67, descriptorIndex := 19, attributes := #[] }, { accessFlags := 18, nameIndex := 70, descriptorIndex := 19, attributes := #[] }, { accessFlags := 2, nameIndex := 73, descriptorIndex := 30, attributes := #[] }])
  fields := #[{ name := "source", type := (.array .int), accessFlags := 18, slot := 0, constantValue := 0 }, { name := "limit", type := .int, accessFlags := 18, slot := 1, constantValue := 0 }, { name := "sourceLetters", type := (.array .int), accessFlags := 18, slot := 2, constantValue := 0 }, { name := "distinct", type := (.array .int), accessFlags := 18, slot := 3, constantValue := 0 }, { name := "lastRowBefore", type := (.array (.array .int)), accessFlags := 18, slot := 4, constantValue := 0 }, { name := "columns", type := (.array (.array .int)), accessFlags := 18, slot := 5, constantValue := 0 }, { name := "fewest", type := (.array .int), accessFlags := 18, slot := 6, constantValue := 0 }, { name := "targetLetters", type := (.array .int), accessFlags := 18, slot := 7, constantValue := 0 }, { name := "lastColumn", type := (.array .int), accessFlags := 18, slot := 8, constantValue := 0 }, { name := "replacedColumn", type := (.array .int), accessFlags := 18, slot := 9, constantValue := 0 }, { name := "read", type := .int, accessFlags := 2, slot := 10, constantValue := 0 }]
  methods := #[k2m0, k2m1, k2m2, k2m3, k2m4, k2m5]
  instanceTypes := #[(.array .int), .int, (.array .int), (.array .int), (.array (.array .int)), (.array (.array .int)), (.array .int), (.array .int), (.array .int), (.array .int), .int]
  staticTypes := #[]
  resolved := Array.replicate 122 none
  statics := none }

def pool3 : Array CpInfo := pool [(1, .class_ 2), (0, u "java/lang/Cloneable"), (0, .class_ 4), (0, u "java/lang/Object")] 2

/-- java/lang/Cloneable -/
def k3 : Class := { plain "java/lang/Cloneable" (some 0) with
  accessFlags := 1537
  interfaces := #[]
  cf := some (fileOf pool3 1 #[] #[] 1537 3 #[] #[])
  fields := #[]
  methods := #[]
  instanceTypes := #[]
  staticTypes := #[]
  resolved := Array.replicate 7 none
  statics := none }

def pool4 : Array CpInfo := pool [(2, .class_ 4), (1, u "java/lang/Object"), (0, u "<init>"), (0, u "()V"), (7, .class_ 16), (1, u "java/util/Arrays"), (57, .class_ 76), (1, u "java/util/Arrays$NaturalOrder"), (32, u "()Ljava/lang/Object;"), (3, .class_ 115), (1, u "java/util/Arrays$LegacyMergeSort"), (1, u "Z"), (10, .nameAndType 129 109), (0, u "clone"), (20, .methodref 151 152), (0, .class_ 153), (0, .nameAndType 154 155), (0, u "java/lang/System"), (0, u "arraycopy"), (0, u "(Ljava/lang/Object;ILjava/lang/Object;II)V"), (146, u "copyOf"), (1, .methodref 305 306), (0, .class_ 307), (0, .nameAndType 308 309), (0, u "java/lang/Math"), (0, u "min"), (0, u "(II)I"), (6, .methodref 317 128), (0, .class_ 318), (0, u "[I"), (56, .class_ 376), (0, u "java/util/Arrays$ArrayList"), (68, u "$assertionsDisabled"), (269, u "MIN_ARRAY_SORT_GRAN"), (0, u "I"), (2, u "INSERTIONSORT_THRESHOLD"), (151, u "([II)[I"), (103, .class_ 976), (0, u "java/util/Arrays$ArrayItr")] 52

def k4m0 : Method := { name := "<init>", desc := "()V", sig := { parameters := [], returnType := none }, accessFlags := 2, code := none }
def k4c1 : Code := { maxStack := 6, maxLocals := 3, code := jdk_65_method_123_code, exceptionTable := #[], attributes := #[] }
def k4m1 : Method := { name := "copyOf", desc := "([II)[I", sig := { parameters := [(.array .int), .int], returnType := some (.array .int) }, accessFlags := 9, code := some k4c1 }
/-- java/util/Arrays -/
def k4 : Class := { plain "java/util/Arrays" (some 0) with
  accessFlags := 49
  interfaces := #[]
  cf := some (fileOf pool4 14 #[.nestMembers #[975, 375, 113, 74]] #[{ accessFlags := 2, nameIndex := 5, descriptorIndex := 6, attributes := #[] }, { accessFlags := 9, nameIndex := 302, descriptorIndex := 871, attributes := #[] }] 49 2 #[] #[{ accessFlags := 26, nameIndex := 715, descriptorIndex := 716, attributes := #[] }, { accessFlags := 26, nameIndex := 719, descriptorIndex := 716, attributes := #[] }, { accessFlags := 4120, nameIndex := 445, descriptorIndex := 117, attributes := #[] }])
  fields := #[{ name := "MIN_ARRAY_SORT_GRAN", type := .int, accessFlags := 26, slot := 0, constantValue := 0 }, { name := "INSERTIONSORT_THRESHOLD", type := .int, accessFlags := 26, slot := 1, constantValue := 0 }, { name := "$assertionsDisabled", type := .boolean, accessFlags := 4120, slot := 2, constantValue := 0 }]
  methods := #[k4m0, k4m1]
  instanceTypes := #[]
  staticTypes := #[.int, .int, .boolean]
  resolved := Array.replicate 1029 none
  statics := none }

def pool5 : Array CpInfo := pool [(1, .class_ 2), (0, u "java/lang/Math"), (1, .class_ 6), (1, u "java/lang/Object"), (0, u "<init>"), (0, u "()V"), (89, .class_ 100), (1, u "java/lang/Math$RandomNumberGeneratorHolder"), (23, u "abs"), (34, u "(I)I"), (12, u "negativeZeroFloatBits"), (0, u "J"), (2, u "negativeZeroDoubleBits"), (21, u "max"), (2, u "min"), (43, u "$assertionsDisabled"), (0, u "Z"), (88, u "(II)I"), (2, u "twoToTheDoubleScaleDown"), (0, u "D"), (4, u "twoToTheDoubleScaleUp"), (9, u "E"), (3, u "PI"), (2, u "TAU"), (2, u "DEGREES_TO_RADIANS"), (0, u "RADIANS_TO_DEGREES")] 94

def k5m0 : Method := { name := "<init>", desc := "()V", sig := { parameters := [], returnType := none }, accessFlags := 2, code := none }
def k5c1 : Code := { maxStack := 1, maxLocals := 1, code := jdk_29_method_59_code, exceptionTable := #[], attributes := #[] }
def k5m1 : Method := { name := "abs", desc := "(I)I", sig := { parameters := [.int], returnType := some .int }, accessFlags := 9, code := some k5c1 }
def k5c2 : Code := { maxStack := 2, maxLocals := 2, code := jdk_29_method_65_code, exceptionTable := #[], attributes := #[] }
def k5m2 : Method := { name := "max", desc := "(II)I", sig := { parameters := [.int, .int], returnType := some .int }, accessFlags := 9, code := some k5c2 }
def k5c3 : Code := { maxStack := 2, maxLocals := 2, code := jdk_29_method_69_code, exceptionTable := #[], attributes := #[] }
def k5m3 : Method := { name := "min", desc := "(II)I", sig := { parameters := [.int, .int], returnType := some .int }, accessFlags := 9, code := some k5c3 }
/-- java/lang/Math -/
def k5 : Class := { plain "java/lang/Math" (some 0) with
  accessFlags := 49
  interfaces := #[]
  cf := some (fileOf pool5 1 #[.nestMembers #[98]] #[{ accessFlags := 2, nameIndex := 7, descriptorIndex := 8, attributes := #[] }, { accessFlags := 9, nameIndex := 124, descriptorIndex := 159, attributes := #[] }, { accessFlags := 9, nameIndex := 198, descriptorIndex := 335, attributes := #[] }, { accessFlags := 9, nameIndex := 201, descriptorIndex := 335, attributes := #[] }] 49 4 #[] #[{ accessFlags := 25, nameIndex := 354, descriptorIndex := 339, attributes := #[] }, { accessFlags := 25, nameIndex := 358, descriptorIndex := 339, attributes := #[] }, { accessFlags := 25, nameIndex := 361, descriptorIndex := 339, attributes := #[] }, { accessFlags := 26, nameIndex := 364, descriptorIndex := 339, attributes := #[] }, { accessFlags := 26, nameIndex := 365, descriptorIndex := 339, attributes := #[] }, { accessFlags := 26, nameIndex := 172, descriptorIndex := 173, attributes := #[] }, { accessFlags := 26, nameIndex := 176, descriptorIndex := 173, attributes := #[] }, { accessFlags := 8, nameIndex := 344, descriptorIndex := 339, attributes := #[] }, { accessFlags := 8, nameIndex := 338, descriptorIndex := 339, attributes := #[] }, { accessFlags := 4120, nameIndex := 245, descriptorIndex := 246, attributes := #[] }])
  fields := #[{ name := "E", type := .double, accessFlags := 25, slot := 0, constantValue := 0 }, { name := "PI", type := .double, accessFlags := 25, slot := 1, constantValue := 0 }, { name := "TAU", type := .double, accessFlags := 25, slot := 2, constantValue := 0 }, { name := "DEGREES_TO_RADIANS", type := .double, accessFlags := 26, slot := 3, constantValue := 0 }, { name := "RADIANS_TO_DEGREES", type := .double, accessFlags := 26, slot := 4, constantValue := 0 }, { name := "negativeZeroFloatBits", type := .long, accessFlags := 26, slot := 5, constantValue := 0 }, { name := "negativeZeroDoubleBits", type := .long, accessFlags := 26, slot := 6, constantValue := 0 }, { name := "twoToTheDoubleScaleUp", type := .double, accessFlags := 8, slot := 7, constantValue := 0 }, { name := "twoToTheDoubleScaleDown", type := .double, accessFlags := 8, slot := 8, constantValue := 0 }, { name := "$assertionsDisabled", type := .boolean, accessFlags := 4120, slot := 9, constantValue := 0 }]
  methods := #[k5m0, k5m1, k5m2, k5m3]
  instanceTypes := #[]
  staticTypes := #[.double, .double, .double, .double, .double, .long, .long, .double, .double, .boolean]
  resolved := Array.replicate 460 none
  statics := none }

def pool6 : Array CpInfo := pool [(2, .class_ 4), (1, u "java/lang/Object"), (0, u "<init>"), (0, u "()V"), (1, .class_ 10), (1, u "java/lang/System"), (0, u "allowSecurityManager"), (0, u "I"), (16, u "cons"), (0, u "Ljava/io/Console;"), (77, .class_ 110), (1, u "java/lang/System$CallersHolder"), (43, u "initialErrStream"), (0, u "Ljava/io/PrintStream;"), (19, u "security"), (0, u "Ljava/lang/SecurityManager;"), (31, .class_ 209), (0, u "java/lang/System$1"), (7, u "props"), (0, u "Ljava/util/Properties;"), (2, u "lineSeparator"), (0, u "Ljava/lang/String;"), (96, .class_ 321), (1, u "java/lang/System$LoggerFinder"), (5, .class_ 328), (0, u "java/lang/System$Logger"), (67, u "err"), (2, u "out"), (91, u "notSupportedJnuEncoding"), (15, u "in"), (17, u "initialIn"), (0, u "Ljava/io/InputStream;"), (35, u "bootLayer"), (0, u "Ljava/lang/ModuleLayer;"), (99, .class_ 664), (0, u "java/lang/System$2"), (9, u "NEVER"), (2, u "MAYBE"), (49, u "arraycopy"), (0, u "(Ljava/lang/Object;ILjava/lang/Object;II)V"), (72, .class_ 802), (0, u "java/lang/System$Logger$Level")] 31

def k6m0 : Method := { name := "<init>", desc := "()V", sig := { parameters := [], returnType := none }, accessFlags := 2, code := none }
def k6m1 : Method := { name := "arraycopy", desc := "(Ljava/lang/Object;ILjava/lang/Object;II)V", sig := { parameters := [(.object "java/lang/Object"), .int, (.object "java/lang/Object"), .int, .int], returnType := none }, accessFlags := 265, code := none }
/-- java/lang/System -/
def k6 : Class := { plain "java/lang/System" (some 0) with
  accessFlags := 49
  interfaces := #[]
  cf := some (fileOf pool6 8 #[.nestMembers #[319, 327, 801, 108, 663, 208]] #[{ accessFlags := 2, nameIndex := 5, descriptorIndex := 6, attributes := #[] }, { accessFlags := 265, nameIndex := 727, descriptorIndex := 728, attributes := #[] }] 49 2 #[] #[{ accessFlags := 25, nameIndex := 507, descriptorIndex := 526, attributes := #[] }, { accessFlags := 25, nameIndex := 399, descriptorIndex := 155, attributes := #[] }, { accessFlags := 25, nameIndex := 396, descriptorIndex := 155, attributes := #[] }, { accessFlags := 10, nameIndex := 525, descriptorIndex := 526, attributes := #[] }, { accessFlags := 26, nameIndex := 674, descriptorIndex := 12, attributes := #[] }, { accessFlags := 26, nameIndex := 677, descriptorIndex := 12, attributes := #[] }, { accessFlags := 10, nameIndex := 11, descriptorIndex := 12, attributes := #[] }, { accessFlags := 74, nameIndex := 175, descriptorIndex := 176, attributes := #[] }, { accessFlags := 10, nameIndex := 491, descriptorIndex := 222, attributes := #[] }, { accessFlags := 74, nameIndex := 29, descriptorIndex := 30, attributes := #[] }, { accessFlags := 74, nameIndex := 154, descriptorIndex := 155, attributes := #[] }, { accessFlags := 10, nameIndex := 217, descriptorIndex := 218, attributes := #[] }, { accessFlags := 10, nameIndex := 221, descriptorIndex := 222, attributes := #[] }, { accessFlags := 8, nameIndex := 562, descriptorIndex := 563, attributes := #[] }])
  fields := #[{ name := "in", type := (.object "java/io/InputStream"), accessFlags := 25, slot := 0, constantValue := 0 }, { name := "out", type := (.object "java/io/PrintStream"), accessFlags := 25, slot := 1, constantValue := 0 }, { name := "err", type := (.object "java/io/PrintStream"), accessFlags := 25, slot := 2, constantValue := 0 }, { name := "initialIn", type := (.object "java/io/InputStream"), accessFlags := 10, slot := 3, constantValue := 0 }, { name := "NEVER", type := .int, accessFlags := 26, slot := 4, constantValue := 0 }, { name := "MAYBE", type := .int, accessFlags := 26, slot := 5, constantValue := 0 }, { name := "allowSecurityManager", type := .int, accessFlags := 10, slot := 6, constantValue := 0 }, { name := "security", type := (.object "java/lang/SecurityManager"), accessFlags := 74, slot := 7, constantValue := 0 }, { name := "notSupportedJnuEncoding", type := (.object "java/lang/String"), accessFlags := 10, slot := 8, constantValue := 0 }, { name := "cons", type := (.object "java/io/Console"), accessFlags := 74, slot := 9, constantValue := 0 }, { name := "initialErrStream", type := (.object "java/io/PrintStream"), accessFlags := 74, slot := 10, constantValue := 0 }, { name := "props", type := (.object "java/util/Properties"), accessFlags := 10, slot := 11, constantValue := 0 }, { name := "lineSeparator", type := (.object "java/lang/String"), accessFlags := 10, slot := 12, constantValue := 0 }, { name := "bootLayer", type := (.object "java/lang/ModuleLayer"), accessFlags := 8, slot := 13, constantValue := 0 }]
  methods := #[k6m0, k6m1]
  instanceTypes := #[]
  staticTypes := #[(.object "java/io/InputStream"), (.object "java/io/PrintStream"), (.object "java/io/PrintStream"), (.object "java/io/InputStream"), .int, .int, .int, (.object "java/lang/SecurityManager"), (.object "java/lang/String"), (.object "java/io/Console"), (.object "java/io/PrintStream"), (.object "java/util/Properties"), (.object "java/lang/String"), (.object "java/lang/ModuleLayer")]
  resolved := Array.replicate 834 none
  statics := none }

def pool7 : Array CpInfo := pool [(1, u "java/io/Serializable"), (0, .class_ 1), (0, u "java/lang/Object"), (0, .class_ 3)] 3

/-- java/io/Serializable -/
def k7 : Class := { plain "java/io/Serializable" (some 0) with
  accessFlags := 1537
  interfaces := #[]
  cf := some (fileOf pool7 2 #[] #[] 1537 4 #[] #[])
  fields := #[]
  methods := #[]
  instanceTypes := #[]
  staticTypes := #[]
  resolved := Array.replicate 8 none
  statics := none }

/-- the primitive byte -/
def k8 : Class := { plain "byte" none with kind := .primitive 'B', accessFlags := 0x411 }
/-- [B -/
def k9 : Class := { plain "[B" (some 0) with kind := .array 8 .byte, interfaces := #[3, 7], accessFlags := 1041 }

/-- the primitive int -/
def k10 : Class := { plain "int" none with kind := .primitive 'I', accessFlags := 0x411 }
/-- [I -/
def k11 : Class := { plain "[I" (some 0) with kind := .array 10 .int, interfaces := #[3, 7], accessFlags := 1041 }
def k12 : Class := { plain "[[I" (some 0) with kind := .array 11 (.array .int), interfaces := #[3, 7], accessFlags := 1041 }

def heap : Heap := #[]
def classes : Array Class := #[k0, k1, k2, k3, k4, k5, k6, k7, k8, k9, k10, k11, k12]
def interned : List (Array UInt16 × Addr) := []
def slotsUsed : Nat := 0
def theMethod : MethodId := ⟨1, 1⟩
def args0 : Array Value := #[.int 65, .int 219, .int 731, .int 3]
def aboutOver (below : List Frame) : State where
  vm := { classes := classes, interned := interned.toArray }
  heap := heap
  slotsUsed := slotsUsed
  threads := #[{ frames := .invoking theMethod args0 :: below }]
def below0 : List Frame := [.native { method := ⟨0, 0⟩, args := #[] }]
def about1 : State := aboutOver below0
def p0 : Program := .bare "" "" ""
def e0 : Env := launch0.env 0 0 0
theorem w_frames : about1.frames = Frame.invoking theMethod args0 :: below0 := rfl
set_option maxRecDepth 65536 in
theorem w_args : argsFit about1.vm theMethod args0 = true := by decide +kernel
set_option maxRecDepth 65536 in
theorem w_heap : heapFits about1 = true := by decide +kernel
set_option maxRecDepth 65536 in
theorem w_runnable : about1.curStatus? = some .runnable := by decide +kernel
set_option maxRecDepth 65536 in
theorem w_alone : about1.alone = true := by decide +kernel
set_option maxRecDepth 65536 in
theorem w_named : about1.methodNamed? x = some theMethod := by decide +kernel
set_option maxRecDepth 65536 in
theorem w_hears : about1.hears theMethod below0 = true := by decide +kernel
set_option maxRecDepth 65536 in
theorem w_ripe : about1.ripe theMethod args0 below0 = true := by decide +kernel
theorem w_running : about1.status = .running := rfl
set_option maxRecDepth 65536 in
theorem w_room : about1.hasRoom e0.platform room_1 = true :=
  launch0.hasRoom_least _ room_1 (by decide +kernel) (by decide +kernel) (by decide +kernel) (by decide +kernel) (by decide +kernel) (by decide +kernel)
theorem allAtoms_all (ts : List Jvm.Cond) (a : Array Jvm.Value) (st : Jvm.State) : (allAtoms ts).before a st = ts.all (fun c => c.before a st) := by
  induction ts with
  | nil => rfl
  | cons c t ih =>
    show (Jvm.Cond.and c (allAtoms t)).before a st = _
    rw [Jvm.Cond.before_and, ih, List.all_cons]
def words1 : List Jvm.Cond := Jvm.Cond.code x code maxLocals ret :: tables_1
/-- a 'code' word, met by the world's own term for the bytes: nothing is compared byte by byte -/
theorem code_word {y : MethodName} {bytes : ByteArray} {mx : Nat} {rt : Option FieldType} {a : Array Value} {s : State} {m : MethodId} {meth : Method} {c : Code} (h1 : s.methodNamed? y = some m) (h2 : s.vm.method? m = some meth) (h3 : meth.code = some c) (h4 : c.code = bytes)
    (h5 : (c.maxLocals == mx && c.exceptionTable.isEmpty && decide (c.maxStack ≤ mostOperands) && decide (meth.sig.returnType = rt) && !meth.locks && decide (parseMethodDescriptor y.desc = some meth.sig)) = true) : (Jvm.Cond.code y bytes mx rt).before a s = true := by
  simp only [Bool.and_eq_true, beq_iff_eq, Bool.not_eq_true', decide_eq_true_eq] at h5
  obtain ⟨⟨⟨⟨⟨g1, g2⟩, g3⟩, g4⟩, g5⟩, g6⟩ := h5
  simp [Cond.before, Cond.holds, Cond.value, h1, h2, h3, h4, g1, g2, g3, g4, g5, g6]
def isCode : Jvm.Cond → Bool
  | .code _ _ _ _ => true
  | _ => false
theorem all_split {L : List Jvm.Cond} {P : Jvm.Cond → Bool} (h1 : L.all (fun c => isCode c || P c) = true) (h2 : ∀ c ∈ L.filter isCode, P c = true) : L.all P = true := by
  refine List.all_eq_true.mpr fun c hc => ?_
  have h := List.all_eq_true.mp h1 c hc
  rcases Bool.eq_false_or_eq_true (isCode c) with hi | hi
  · exact h2 c (List.mem_filter.mpr ⟨hc, hi⟩)
  · simpa [hi] using h
set_option maxRecDepth 65536 in
theorem w_c0 : (Jvm.Cond.code x code maxLocals ret).before args0 about1 = true := code_word (m := ⟨1, 1⟩) (meth := k1m1) (c := k1c1) (by decide +kernel) rfl rfl rfl (by decide +kernel)
set_option maxRecDepth 65536 in
theorem w_c1 : (Jvm.Cond.code ({ cls := "com/example/shingle/shingle/EditDistance", name := "<init>", desc := "([II)V" } : Jvm.MethodName) prog_8_method_1_code (8 : Nat) (Option.none : Option Jvm.ClassFile.FieldType)).before args0 about1 = true := code_word (m := ⟨2, 0⟩) (meth := k2m0) (c := k2c0) (by decide +kernel) rfl rfl rfl (by decide +kernel)
set_option maxRecDepth 65536 in
theorem w_c2 : (Jvm.Cond.code ({ cls := "java/lang/Object", name := "<init>", desc := "()V" } : Jvm.MethodName) object_method_1_code (1 : Nat) (Option.none : Option Jvm.ClassFile.FieldType)).before args0 about1 = true := code_word (m := ⟨0, 0⟩) (meth := k0m0) (c := k0c0) (by decide +kernel) rfl rfl rfl (by decide +kernel)
set_option maxRecDepth 65536 in
theorem w_c3 : (Jvm.Cond.code ({ cls := "java/util/Arrays", name := "copyOf", desc := "([II)[I" } : Jvm.MethodName) jdk_65_method_123_code (3 : Nat) (Option.some (Jvm.ClassFile.FieldType.array Jvm.ClassFile.FieldType.int))).before args0 about1 = true := code_word (m := ⟨4, 1⟩) (meth := k4m1) (c := k4c1) (by decide +kernel) rfl rfl rfl (by decide +kernel)
set_option maxRecDepth 65536 in
theorem w_c4 : (Jvm.Cond.code ({ cls := "com/example/shingle/shingle/EditDistance", name := "longest", desc := "()I" } : Jvm.MethodName) prog_8_method_3_code (1 : Nat) (Option.some Jvm.ClassFile.FieldType.int)).before args0 about1 = true := code_word (m := ⟨2, 1⟩) (meth := k2m1) (c := k2c1) (by decide +kernel) rfl rfl rfl (by decide +kernel)
set_option maxRecDepth 65536 in
theorem w_c5 : (Jvm.Cond.code ({ cls := "com/example/shingle/shingle/EditDistanceIsOutOfReachPinLaw", name := "pre", desc := "([III[III)Z" } : Jvm.MethodName) method_3_code (8 : Nat) (Option.some Jvm.ClassFile.FieldType.boolean)).before args0 about1 = true := code_word (m := ⟨1, 2⟩) (meth := k1m2) (c := k1c2) (by decide +kernel) rfl rfl rfl (by decide +kernel)
set_option maxRecDepth 65536 in
theorem w_c6 : (Jvm.Cond.code ({ cls := "com/example/shingle/shingle/EditDistance", name := "isOutOfReach", desc := "()Z" } : Jvm.MethodName) prog_8_method_8_code (1 : Nat) (Option.some Jvm.ClassFile.FieldType.boolean)).before args0 about1 = true := code_word (m := ⟨2, 4⟩) (meth := k2m4) (c := k2c4) (by decide +kernel) rfl rfl rfl (by decide +kernel)
set_option maxRecDepth 65536 in
theorem w_c7 : (Jvm.Cond.code ({ cls := "com/example/shingle/shingle/EditDistance", name := "placeAmong", desc := "([III)I" } : Jvm.MethodName) prog_8_method_9_code (5 : Nat) (Option.some Jvm.ClassFile.FieldType.int)).before args0 about1 = true := code_word (m := ⟨2, 5⟩) (meth := k2m5) (c := k2c5) (by decide +kernel) rfl rfl rfl (by decide +kernel)
set_option maxRecDepth 65536 in
theorem w_c8 : (Jvm.Cond.code ({ cls := "com/example/shingle/shingle/EditDistance", name := "push", desc := "(I)V" } : Jvm.MethodName) prog_8_method_5_code (16 : Nat) (Option.none : Option Jvm.ClassFile.FieldType)).before args0 about1 = true := code_word (m := ⟨2, 2⟩) (meth := k2m2) (c := k2c2) (by decide +kernel) rfl rfl rfl (by decide +kernel)
set_option maxRecDepth 65536 in
theorem w_c9 : (Jvm.Cond.code ({ cls := "java/lang/Math", name := "max", desc := "(II)I" } : Jvm.MethodName) jdk_29_method_65_code (2 : Nat) (Option.some Jvm.ClassFile.FieldType.int)).before args0 about1 = true := code_word (m := ⟨5, 2⟩) (meth := k5m2) (c := k5c2) (by decide +kernel) rfl rfl rfl (by decide +kernel)
set_option maxRecDepth 65536 in
theorem w_c10 : (Jvm.Cond.code ({ cls := "java/lang/Math", name := "min", desc := "(II)I" } : Jvm.MethodName) jdk_29_method_69_code (2 : Nat) (Option.some Jvm.ClassFile.FieldType.int)).before args0 about1 = true := code_word (m := ⟨5, 3⟩) (meth := k5m3) (c := k5c3) (by decide +kernel) rfl rfl rfl (by decide +kernel)
set_option maxRecDepth 65536 in
theorem w_c11 : (Jvm.Cond.code ({ cls := "com/example/shingle/shingle/EditDistance", name := "pop", desc := "()V" } : Jvm.MethodName) prog_8_method_6_code (2 : Nat) (Option.none : Option Jvm.ClassFile.FieldType)).before args0 about1 = true := code_word (m := ⟨2, 3⟩) (meth := k2m3) (c := k2c3) (by decide +kernel) rfl rfl rfl (by decide +kernel)
set_option maxRecDepth 65536 in
theorem w_c12 : (Jvm.Cond.code ({ cls := "com/example/shingle/shingle/EditDistanceIsOutOfReachPinLaw", name := "oneEdit", desc := "([II[III)Z" } : Jvm.MethodName) method_4_code (9 : Nat) (Option.some Jvm.ClassFile.FieldType.boolean)).before args0 about1 = true := code_word (m := ⟨1, 3⟩) (meth := k1m3) (c := k1c3) (by decide +kernel) rfl rfl rfl (by decide +kernel)
set_option maxRecDepth 65536 in
theorem w_c13 : (Jvm.Cond.code ({ cls := "java/lang/Math", name := "abs", desc := "(I)I" } : Jvm.MethodName) jdk_29_method_59_code (1 : Nat) (Option.some Jvm.ClassFile.FieldType.int)).before args0 about1 = true := code_word (m := ⟨5, 1⟩) (meth := k5m1) (c := k5c1) (by decide +kernel) rfl rfl rfl (by decide +kernel)
def codes1 : List Jvm.Cond := [Jvm.Cond.code x code maxLocals ret, Jvm.Cond.code ({ cls := "com/example/shingle/shingle/EditDistance", name := "<init>", desc := "([II)V" } : Jvm.MethodName) prog_8_method_1_code (8 : Nat) (Option.none : Option Jvm.ClassFile.FieldType), Jvm.Cond.code ({ cls := "java/lang/Object", name := "<init>", desc := "()V" } : Jvm.MethodName) object_method_1_code (1 : Nat) (Option.none : Option Jvm.ClassFile.FieldType), Jvm.Cond.code ({ cls := "java/util/Arrays", name := "copyOf", desc := "([II)[I" } : Jvm.MethodName) jdk_65_method_123_code (3 : Nat) (Option.some (Jvm.ClassFile.FieldType.array Jvm.ClassFile.FieldType.int)), Jvm.Cond.code ({ cls := "com/example/shingle/shingle/EditDistance", name := "longest", desc := "()I" } : Jvm.MethodName) prog_8_method_3_code (1 : Nat) (Option.some Jvm.ClassFile.FieldType.int), Jvm.Cond.code ({ cls := "com/example/shingle/shingle/EditDistanceIsOutOfReachPinLaw", name := "pre", desc := "([III[III)Z" } : Jvm.MethodName) method_3_code (8 : Nat) (Option.some Jvm.ClassFile.FieldType.boolean), Jvm.Cond.code ({ cls := "com/example/shingle/shingle/EditDistance", name := "isOutOfReach", desc := "()Z" } : Jvm.MethodName) prog_8_method_8_code (1 : Nat) (Option.some Jvm.ClassFile.FieldType.boolean), Jvm.Cond.code ({ cls := "com/example/shingle/shingle/EditDistance", name := "placeAmong", desc := "([III)I" } : Jvm.MethodName) prog_8_method_9_code (5 : Nat) (Option.some Jvm.ClassFile.FieldType.int), Jvm.Cond.code ({ cls := "com/example/shingle/shingle/EditDistance", name := "push", desc := "(I)V" } : Jvm.MethodName) prog_8_method_5_code (16 : Nat) (Option.none : Option Jvm.ClassFile.FieldType), Jvm.Cond.code ({ cls := "java/lang/Math", name := "max", desc := "(II)I" } : Jvm.MethodName) jdk_29_method_65_code (2 : Nat) (Option.some Jvm.ClassFile.FieldType.int), Jvm.Cond.code ({ cls := "java/lang/Math", name := "min", desc := "(II)I" } : Jvm.MethodName) jdk_29_method_69_code (2 : Nat) (Option.some Jvm.ClassFile.FieldType.int), Jvm.Cond.code ({ cls := "com/example/shingle/shingle/EditDistance", name := "pop", desc := "()V" } : Jvm.MethodName) prog_8_method_6_code (2 : Nat) (Option.none : Option Jvm.ClassFile.FieldType), Jvm.Cond.code ({ cls := "com/example/shingle/shingle/EditDistanceIsOutOfReachPinLaw", name := "oneEdit", desc := "([II[III)Z" } : Jvm.MethodName) method_4_code (9 : Nat) (Option.some Jvm.ClassFile.FieldType.boolean), Jvm.Cond.code ({ cls := "java/lang/Math", name := "abs", desc := "(I)I" } : Jvm.MethodName) jdk_29_method_59_code (1 : Nat) (Option.some Jvm.ClassFile.FieldType.int)]
set_option maxRecDepth 65536 in
theorem codes_eq : words1.filter isCode = codes1 := rfl
theorem w_codes : ∀ c ∈ words1.filter isCode, c.before args0 about1 = true := by
  rw [codes_eq]
  intro c hc
  simp only [codes1, List.mem_cons, List.not_mem_nil, or_false] at hc
  rcases hc with rfl | rfl | rfl | rfl | rfl | rfl | rfl | rfl | rfl | rfl | rfl | rfl | rfl | rfl
  · exact w_c0
  · exact w_c1
  · exact w_c2
  · exact w_c3
  · exact w_c4
  · exact w_c5
  · exact w_c6
  · exact w_c7
  · exact w_c8
  · exact w_c9
  · exact w_c10
  · exact w_c11
  · exact w_c12
  · exact w_c13
set_option maxRecDepth 65536 in
theorem w_t1 : (words1.take 24).all (fun c => isCode c || c.before args0 about1) = true := by decide +kernel
set_option maxRecDepth 65536 in
theorem w_t2 : ((words1.drop 24).take 24).all (fun c => isCode c || c.before args0 about1) = true := by decide +kernel
set_option maxRecDepth 65536 in
theorem w_t3 : (((words1.drop 24).drop 24).take 24).all (fun c => isCode c || c.before args0 about1) = true := by decide +kernel
set_option maxRecDepth 65536 in
theorem w_t4 : (((words1.drop 24).drop 24).drop 24).all (fun c => isCode c || c.before args0 about1) = true := by decide +kernel
theorem w_tables : (allAtoms (Jvm.Cond.code x code maxLocals ret :: tables_1)).before args0 about1 = true := by
  rw [allAtoms_all]
  show words1.all (fun c => c.before args0 about1) = true
  refine all_split ?_ w_codes
  rw [← List.take_append_drop 24 words1, List.all_append, w_t1, ← List.take_append_drop 24 (words1.drop 24), List.all_append, w_t2, ← List.take_append_drop 24 ((words1.drop 24).drop 24), List.all_append, w_t3, w_t4]
  rfl
set_option maxRecDepth 65536 in
theorem w_case : (Jvm.Cond.and given_1 narrow_1).before args0 about1 = true := by decide +kernel
theorem w_applies : (headSpec (Jvm.Cond.code x code maxLocals ret :: tables_1) room_1).applies x e0.platform about1 = true :=
  (Spec.applies_iff w_frames).mpr ⟨w_running, w_runnable, w_alone, w_named, w_hears, w_ripe, w_room, w_tables⟩
theorem atStart : AtStart classFile x code maxLocals ret World_1 tables_1 room_1 Calls_1 rest_1 Pre_1 launch0 p0 e0 about1 theMethod args0 below0 :=
  ⟨lists_1, trivial, launch0.admits_env _ _ _, launch0.least_env, fairChoices_fair.cas, fairChoices_fair.clock, w_frames, w_args, w_heap, w_applies, trivial, trivial, w_case⟩
end start1
theorem witness_1 : WitnessClaimed_1 := ⟨start1.p0, start1.e0, start1.about1, start1.theMethod, start1.args0, start1.below0, start1.atStart⟩
end Jvm.Pilot.@@N@@
