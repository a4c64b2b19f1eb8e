import JvmDerived
import JvmDerived.Pilot.@@N@@Statement
import JvmDerived.Pilot.@@N@@Code
set_option linter.unusedVariables false
set_option linter.unusedSimpArgs false
namespace Jvm.Pilot.@@N@@
open Jvm Jvm.ClassFile Sem Op Lib Jvm.Free Jvm.Stand Jvm.LawKit Jvm.RoadKit Bundle Jvm.Pilot.@@N@@.Jvm.D

section Own
variable {p : Program} {l : Launch} {e : Env} {R : Room} {s : State} {m : MethodId} {args : Array Value} {below : List Frame} {meth : Method} {c : Code} {T : State} {locs : List Loc} {cells slots : Nat} {Z : State} {a0 : Array Value} {h h' h0 : Heap} {K : Outcome → State → Prop} {pc pc' : Nat} {Ls : Array Slot} {st : List Value} {own : String} {ws ws' : List Addr} {L L' : List Loc}
/-- what is left to show at a point of a walk -/
def OGo (p : Program) (e : Env) (below : List Frame) (K : Outcome → State → Prop) (T : State) (g : JFrame) : Prop :=
  ∃ s₂ o, Steps p.tables e below (T.setTop g) s₂ ∧ s₂.status = .running ∧ Ended s₂ below o ∧ K o s₂
theorem OGo.via {T' : State} {g g' : JFrame} (k : OGo p e below K T' g') (q : ∀ t, Steps p.tables e below (T'.setTop g') t → Steps p.tables e below (T.setTop g) t) : OGo p e below K T g := by
  obtain ⟨s₂, o, h1, h2⟩ := k; exact ⟨s₂, o, q _ h1, h2⟩
theorem OGo.tr {T' : State} {g g' : JFrame} (k : OGo p e below K T' g') (q : Steps p.tables e below (T.setTop g) (T'.setTop g')) : OGo p e below K T g := k.via fun _ r => q.trans r
/-- the cells of h0 stand in h but for those at ws; cells of statics stand; what was written is at ws or new -/
def OPr (h0 : Heap) (ws : List Addr) (h : Heap) (L : List Loc) : Prop := Keep h0 h ws ∧ (∀ (x : Addr) (c : Cell), h0[x]? = some c → c.vm.isStatics = true → h[x]? = some c) ∧ ∀ y ∈ L, y.base ∈ ws ∨ h0.size ≤ y.base
theorem OPr.refl (h : Heap) (ws : List Addr) : OPr h ws h [] := ⟨Keep.refl h ws, fun _ _ q _ => q, fun _ q => nomatch q⟩
theorem OPr.size (P : OPr h0 ws h L) : h0.size ≤ h.size := P.1.1
theorem OPr.ge (P : OPr h0 ws h L) {a : Addr} (q : a = h.size) : h0.size ≤ a := q ▸ P.1.1
theorem OPr.ext (P : OPr h0 ws h L) (E : Ext h h') : OPr h0 ws h' L := ⟨P.1.ext E, fun x c q r => E.2 _ _ (P.2.1 x c q r), P.2.2⟩
theorem OPr.wr {a : Addr} {sl : Nat} {v : Value} (P : OPr h0 ws h L) (W : Wr h h' a sl v) (q : a ∈ ws ∨ h0.size ≤ a) : OPr h0 ws h' (L ++ [⟨a, sl⟩]) := by
  refine ⟨P.1.wr W q, fun x c r1 r2 => ?_, fun y hy => ?_⟩
  · obtain ⟨c', e1, -, -, -, e5, -, e7⟩ := wr_at W (P.2.1 x c r1 r2)
    have ne : x ≠ a := fun u => by rw [(e7 u).2.2] at r2; cases r2
    rw [← e5 ne]; exact e1
  · rcases List.mem_append.mp hy with u | u
    · exact P.2.2 y u
    · cases List.mem_singleton.mp u; exact q
theorem OPr.call (P : OPr h0 ws h L) (P' : OPr h ws' h' L') (q : ∀ x ∈ ws', x ∈ ws ∨ h0.size ≤ x) : OPr h0 ws h' (L ++ L') := by
  refine ⟨P.1.trans P'.1 q, fun x c r1 r2 => P'.2.1 x c (P.2.1 x c r1 r2) r2, fun y hy => ?_⟩
  rcases List.mem_append.mp hy with u | u
  · exact P.2.2 y u
  · rcases P'.2.2 y u with v | v
    · exact q _ v
    · exact Or.inr (Nat.le_trans P.1.1 v)
theorem OPr.fr (P : OPr h0 [] h L) : Fr h0.size L := fun y hy => (P.2.2 y hy).elim (fun q => nomatch q) id
theorem fldP {a : Addr} {C n d : String} {v : Value} (F : Fld Z h0 a C n d v) (P : OPr h0 ws h L) (q : a ∉ ws) : Fld Z h a C n d v := F.keep P.1 q
theorem exaP {a : Addr} {C : String} (F : Exa Z h0 a C) (P : OPr h0 ws h L) : Exa Z h a C := F.keep P.1
theorem staP {C n d : String} {v : Value} (F : Sta Z h0 C n d v) (P : OPr h0 ws h L) : Sta Z h C n d v := by
  obtain ⟨cf, i, k, f, sa, cell, h1, h2, h3, h4, h5, h6, h7⟩ := F
  exact ⟨cf, i, k, f, sa, cell, h1, h2, h3, h4, P.2.1 _ _ h5 h6, h6, h7⟩
/-- an array, told whole -/
def OAry (Z : State) (h : Heap) (a : Addr) (k : ClassId) (ty : FieldType) (vs : List Value) : Prop := ∃ c : Cell, Arr Z h a c ty ∧ c.cls = k ∧ c.slots.toList = vs ∧ vs.length < 2 ^ 31 ∧ ∀ v ∈ vs, fits ty v = true
theorem aryP {a : Addr} {k : ClassId} {ty : FieldType} {vs : List Value} (F : OAry Z h0 a k ty vs) (P : OPr h0 ws h L) (q : a ∉ ws) : OAry Z h a k ty vs := by
  obtain ⟨c, A, r⟩ := F; exact ⟨c, ⟨P.1.2.1 a c A.1 q, A.2⟩, r⟩
theorem aryE {a : Addr} {k : ClassId} {ty : FieldType} {vs : List Value} (F : OAry Z h a k ty vs) (E : Ext h h') : OAry Z h' a k ty vs := by
  obtain ⟨c, A, r⟩ := F; exact ⟨c, A.ext E, r⟩
theorem aryO {a b : Addr} {k : ClassId} {ty : FieldType} {vs : List Value} {sl : Nat} {v : Value} (F : OAry Z h b k ty vs) (W : Wr h h' a sl v) (q : b ≠ a) : OAry Z h' b k ty vs := by
  obtain ⟨c, A, r⟩ := F; exact ⟨c, A.other W q, r⟩
theorem aryLt {a : Addr} {k : ClassId} {ty : FieldType} {vs : List Value} (F : OAry Z h a k ty vs) : a < h.size := by obtain ⟨c, A, -⟩ := F; exact A.lt
theorem arySet {a : Addr} {k : ClassId} {ty : FieldType} {vs vs' : List Value} {j : Nat} {v : Value} (F : OAry Z h a k ty vs) (W : Wr h h' a j v) (hf : fits ty v = true) (e : vs.set j v = vs') : OAry Z h' a k ty vs' := by
  obtain ⟨c, A, r1, rfl, r3, r4⟩ := F
  subst e
  refine ⟨_, A.same W, r1, ?_, by simpa using r3, fun u hu => ?_⟩
  · show (c.slots.setIfInBounds j v).toList = _
    simp
  · rcases List.mem_or_eq_of_mem_set hu with z | rfl
    · exact r4 u z
    · exact hf
theorem aryIn {c : Cell} {vs : List Value} {j : Int32} {v : Value} (q : c.slots.toList = vs) (hj : ¬ j < 0) (hv : vs[j.toNatClampNeg]? = some v) : ¬ (j < 0 ∨ c.slots.size ≤ j.toNatClampNeg) ∧ c.slots[j.toNatClampNeg]? = some v := by
  subst q
  have hv' : c.slots[j.toNatClampNeg]? = some v := by simpa using hv
  exact ⟨fun u => u.elim hj fun u => by have := (Array.getElem?_eq_some_iff.mp hv').1; omega, hv'⟩
theorem aryFit {a : Addr} {k : ClassId} {ty : FieldType} {vs : List Value} {c : Cell} (A : Arr Z h a c ty) (q : c.slots.toList = vs) (r : ∀ v ∈ vs, fits ty v = true) : FitC Z c := fun i v hv => by
  subst q
  obtain ⟨hs, k, hk, comp, hkind⟩ := A.2.1
  have e : Z.slotType? c.cls .none i = some ty := by simp [State.slotType?, hk, hkind]
  have m : v ∈ c.slots.toList := by obtain ⟨hi, rfl⟩ := Array.getElem?_eq_some_iff.mp hv; simp
  simp [State.fitsSlot, e, r v m]
/-- what a method that returned has left -/
def OFin (s : State) (rm : Room) (Q : Option Value → Heap → List Loc → Prop) (o : Outcome) (U' : State) : Prop := ∃ v L, o = .returned v ∧ Q v U'.heap L ∧ FrameEnd s o U' L rm.cells rm.slots
/-- a method's contract, at given arguments and a given heap -/
def OMet (l : Launch) (y : MethodName) (bytes : ByteArray) (maxL : Nat) (ret : Option FieldType) (rm : Room) (as : Array Value) (Z : State) (h0 : Heap) (Q : Option Value → Heap → List Loc → Prop) : Prop :=
  ∀ ws : List Jvm.Cond, MetFree l y (head1 (Jvm.Cond.code y bytes maxL ret :: ws) rm) (fun a U => a = as ∧ Z.Warmed39 U.vm ∧ U.heap = h0) (fun _ _ _ _ _ => True) (fun _ U o U' => OFin U rm Q o U')
theorem OMet.body {y : MethodName} {bytes : ByteArray} {maxL : Nat} {ret : Option FieldType} {rm : Room} {as : Array Value} {Q : Option Value → Heap → List Loc → Prop} {Ls : Array Slot} (hpl : plainFor y = true) (hef : ∀ m, entryFrame m as maxL = mkF m 0 Ls [])
    (H : ∀ (p : Program) (e : Env) (s : State) (m : MethodId) (below : List Frame) (meth : Method) (c : Code) (T : State) (K : Outcome → State → Prop), K = OFin s rm Q → Stand p l e rm s m as below meth c T [] 0 0 → p.tables.exec = Jvm.exec → c.code = bytes → c.maxLocals = maxL → s.vm.findClass y.cls = some m.cls → meth.name = y.name → meth.sig.returnType = ret → meth.locks = false → Z.Warmed39 s.vm → T.heap = h0 → OGo p e below K T (mkF m 0 Ls [])) :
    OMet l y bytes maxL ret rm as Z h0 Q := fun ws => by
  refine MetFree.of_bodySF hpl hisR ?_
  intro p e s m args below meth c s₁ Bd hml0 hP hK
  obtain ⟨rfl, hZ, hh⟩ := hP
  have e0 : s₁.heap = h0 := by rw [← hh, Bd.state]; rfl
  have k := H p e s m below meth c s₁ _ rfl (Stand.of_body Bd) Bd.exec Bd.bytes hml0 (findClass_of_methodNamed Bd.named) (name_of_methodNamed Bd.named Bd.method).1 Bd.returns Bd.notSynchronized hZ e0
  rw [← hef m] at k
  exact k
theorem g_ret {rm : Room} {Q : Option Value → Heap → List Loc → Prop} {t : FieldType} {w : Value} {i : Instr} (X : Stand p l e rm s m args below meth c T locs cells slots) (hx : p.tables.exec = Jvm.exec) (hret : meth.sig.returnType = some t) (hlk : meth.locks = false) (hn : narrow t w = w)
    (hi : (i = .ireturn ∧ (t = .int ∨ t = .boolean ∨ t = .byte ∨ t = .char ∨ t = .short) ∧ ∃ z, w = .int z) ∨ (i = .lreturn ∧ t = .long ∧ ∃ z, w = .long z) ∨ (i = .dreturn ∧ t = .double ∧ ∃ z, w = .double z) ∨ (i = .freturn ∧ t = .float ∧ ∃ z, w = .float z) ∨ (i = .areturn ∧ t.isReference = true ∧ w.isRef = true))
    (hd : decode c.code pc = .ok (i, 1)) (hc : cells ≤ rm.cells) (hs : slots ≤ rm.slots) (eT : T.heap = h) (hK : K = OFin s rm Q) (hQ : Q (some w) h locs) : OGo p e below K T (mkF m pc Ls (w :: st)) := by
  subst hK
  obtain ⟨fs, hr, hrun, hended, hW, hsame⟩ := X.leave (v := some w) (fun h => by rw [hret] at h; cases h) hlk
  exact ⟨_, _, retOut X hx hret hn hi hd hr, hrun, hended, _, _, rfl, by show Q _ T.heap _; rw [eT]; exact hQ, ⟨_, rfl⟩, hW, hsame.mono hc hs⟩
theorem g_ret0 {rm : Room} {Q : Option Value → Heap → List Loc → Prop} (X : Stand p l e rm s m args below meth c T locs cells slots) (hx : p.tables.exec = Jvm.exec) (hret : meth.sig.returnType = none) (hlk : meth.locks = false)
    (hd : decode c.code pc = .ok (.return_, 1)) (hc : cells ≤ rm.cells) (hs : slots ≤ rm.slots) (eT : T.heap = h) (hK : K = OFin s rm Q) (hQ : Q none h locs) : OGo p e below K T (mkF m pc Ls []) := by
  subst hK
  obtain ⟨fs, hr, hrun, hended, hW, hsame⟩ := X.leave (v := none) (fun _ => rfl) hlk
  exact ⟨_, _, X.returnOut hx hret hd hr, hrun, hended, _, _, rfl, by show Q _ T.heap _; rw [eT]; exact hQ, ⟨_, rfl⟩, hW, hsame.mono hc hs⟩
theorem g_getf (X : Stand p l e R s m args below meth c T locs cells slots) (hx : p.tables.exec = Jvm.exec) (hZ : Z.Warmed39 s.vm) (hown : s.vm.findClass own = some m.cls) {R0 O n d host : String} {index : Nat} (w : (Jvm.Cond.fieldLink own index R0 n d).before a0 Z = true ∨ (Jvm.Cond.fieldLinkNest own index R0 n d host).before a0 Z = true) (via : Via Z R0 O n d)
    (eT : T.heap = h) {a : Addr} {v : Value} (F : Fld Z h a O n d v) (hd : decode c.code pc = .ok (.getfield index, 3)) (hp : pc + 3 = pc')
    (k : ∀ T', Stand p l e R s m args below meth c T' locs cells slots → T'.heap = h → OGo p e below K T' (mkF m pc' Ls (v :: st))) : OGo p e below K T (mkF m pc Ls (.ref a :: st)) := by
  subst hp
  obtain ⟨T', X', e', q⟩ := getF X hx hZ hown w via eT F (g := mkF m pc Ls (.ref a :: st)) rfl rfl hd
  exact (k T' X' e').via q
theorem g_gets (X : Stand p l e R s m args below meth c T locs cells slots) (hx : p.tables.exec = Jvm.exec) (hZ : Z.Warmed39 s.vm) (hown : s.vm.findClass own = some m.cls) {R0 O n d host : String} {index : Nat} (w : (Jvm.Cond.fieldLink own index R0 n d).before a0 Z = true ∨ (Jvm.Cond.fieldLinkNest own index R0 n d host).before a0 Z = true) (via : Via Z R0 O n d)
    (eT : T.heap = h) {v : Value} (F : Sta Z h O n d v) (hd : decode c.code pc = .ok (.getstatic index, 3)) (hp : pc + 3 = pc')
    (k : ∀ T', Stand p l e R s m args below meth c T' locs cells slots → T'.heap = h → OGo p e below K T' (mkF m pc' Ls (v :: st))) : OGo p e below K T (mkF m pc Ls st) := by
  subst hp
  obtain ⟨T', X', e', q⟩ := getS2 X hx hZ hown w via eT F (g := mkF m pc Ls st) rfl hd
  exact (k T' X' e').via q
theorem g_putf (X : Stand p l e R s m args below meth c T locs cells slots) (hx : p.tables.exec = Jvm.exec) (hZ : Z.Warmed39 s.vm) (hown : s.vm.findClass own = some m.cls) {R0 O n d host C : String} {index kk : Nat} {ty : FieldType} (w : (Jvm.Cond.fieldLink own index R0 n d).before a0 Z = true ∨ (Jvm.Cond.fieldLinkNest own index R0 n d host).before a0 Z = true) (via : Via Z R0 O n d)
    (eT : T.heap = h) {a : Addr} {v old : Value} (F : Fld Z h a O n d old) (E : Exa Z h a C) (L : (Jvm.Cond.lays C O n d).before a0 Z = true ∨ ((Jvm.Cond.laysFinal C O n d).before a0 Z = true ∧ own = O ∧ meth.name = "<init>")) (wi : (Jvm.Cond.instantiable C kk).before a0 Z = true)
    (hty : parseFieldDescriptor d = some ty) (hn : narrow ty v = v) (hf : fits ty v = true) (P : OPr h0 ws h locs) (q : a ∈ ws ∨ h0.size ≤ a) (hd : decode c.code pc = .ok (.putfield index, 3)) (hp : pc + 3 = pc')
    (k : ∀ T' h', Stand p l e R s m args below meth c T' (locs ++ [⟨a, RoadKit.slotOf Z O n d⟩]) cells slots → T'.heap = h' → Wr h h' a (RoadKit.slotOf Z O n d) v → OPr h0 ws h' (locs ++ [⟨a, RoadKit.slotOf Z O n d⟩]) → Fld Z h' a O n d v → OGo p e below K T' (mkF m pc' Ls st)) : OGo p e below K T (mkF m pc Ls (v :: .ref a :: st)) := by
  subst hp
  obtain ⟨T', h', X', e', W', r⟩ := putF X hx hZ hown w via eT F E L wi hty hn hf (g := mkF m pc Ls (v :: .ref a :: st)) rfl rfl hd
  exact (k T' h' X' e' W' (P.wr W' q) (F.same W')).via r
theorem g_new (X : Stand p l e R s m args below meth c T locs cells slots) (hx : p.tables.exec = Jvm.exec) (hZ : Z.Warmed39 s.vm) (hown : s.vm.findClass own = some m.cls) {C : String} {index n : Nat} (w : (Jvm.Cond.classLink own index C).before a0 Z = true) (wi : (Jvm.Cond.instantiable C n).before a0 Z = true) (wz : (Jvm.Cond.initialized C).before a0 Z = true) (eT : T.heap = h)
    (P : OPr h0 ws h locs) (hd : decode c.code pc = .ok (.new index, 3)) (hp : pc + 3 = pc') (hc : cells + 1 ≤ R.cells) (hl : slots + n ≤ R.slots)
    (k : ∀ T' h' a, a = h.size → h0.size ≤ a → Stand p l e R s m args below meth c T' locs (cells + 1) (slots + n) → T'.heap = h' → Ext h h' → OPr h0 ws h' locs → Exa Z h' a C → (∀ {O nm d : String} {ty : FieldType}, Laid Z a0 C O nm d → parseFieldDescriptor d = some ty → Fld Z h' a O nm d (defaultValue ty)) → OGo p e below K T' (mkF m pc' Ls (.ref a :: st))) : OGo p e below K T (mkF m pc Ls st) := by
  subst hp
  obtain ⟨T', h', X', e', E', A', D', -, r⟩ := newO X hx hZ hown w wi wz eT (g := mkF m pc Ls st) rfl hd hc hl
  exact (k T' h' h.size rfl P.1.1 X' e' E' (P.ext E') A' D').via r
theorem g_inito (X : Stand p l e R s m args below meth c T locs cells slots) (hx : p.tables.exec = Jvm.exec) (hZ : Z.Warmed39 s.vm) (hown : s.vm.findClass own = some m.cls) {idx : Nat} (w1 : (Jvm.Cond.methodLink own idx Lib.objectInit).before a0 Z = true) (w2 : (Jvm.Cond.instanceMethod Lib.objectInit).before a0 Z = true)
    (w3 : (Jvm.Cond.code Lib.objectInit ⟨#[0xb1]⟩ 1 none).before a0 Z = true) (eT : T.heap = h) (hsize : Ls.size = c.maxLocals) {a : Addr} (hd : decode c.code pc = .ok (.invokespecial idx, 3)) (hp : pc + 3 = pc')
    (hf : 1 ≤ R.frames) {W : Nat} (hW : (st.map fun v => v.category).sum ≤ W) (hl : W + 12 ≤ R.locals)
    (k : ∀ T', Stand p l e R s m args below meth c T' locs cells slots → T'.heap = h → OGo p e below K T' (mkF m pc' Ls st)) : OGo p e below K T (mkF m pc Ls (.ref a :: st)) := by
  subst hp
  obtain ⟨T', X', e', q⟩ := initO X hx hZ hown w1 w2 w3 eT (g := mkF m pc Ls (.ref a :: st)) rfl hsize rfl hd hf (W := W) (by show 2 * 0 + _ ≤ _; omega) hl
  exact (k T' X' e').via q
theorem OMet.back {y : MethodName} {bytes : ByteArray} {maxL : Nat} {ret : Option FieldType} {rm : Room} {as : Array Value} {Q : Option Value → Heap → List Loc → Prop} {len W : Nat} (hM : OMet l y bytes maxL ret rm as Z h Q) (hZ : Z.Warmed39 s.vm) (wc : (Jvm.Cond.code y bytes maxL ret).before a0 Z = true) (wz : (Jvm.Cond.initialized y.cls).before a0 Z = true) (hf : rm.frames + 1 ≤ R.frames) (hl : W + (maxL + 11) + rm.locals ≤ R.locals) :
    Back l R p e below s args y len W (fun A a => a = as ∧ A.U.heap = h ∧ A.cells + rm.cells ≤ R.cells ∧ A.slots + rm.slots ≤ R.slots)
      (fun A _ v B => ∃ L, Q v B.U.heap L ∧ B.locs = A.locs ++ L ∧ B.cells = A.cells + rm.cells ∧ B.slots = A.slots + rm.slots) := backOf (hM []) hZ wc wz hf hl
theorem g_special (X : Stand p l e R s m args below meth c T locs cells slots) (hx : p.tables.exec = Jvm.exec) (hZ : Z.Warmed39 s.vm) (hown : s.vm.findClass own = some m.cls) (eT : T.heap = h) {y : MethodName} {bytes : ByteArray} {maxL index : Nat} {rm : Room} {as : Array Value} {Q : Option Value → Heap → List Loc → Prop} (hM : OMet l y bytes maxL none rm as Z h Q) (hy1 : y.name = "<init>")
    (w1 : (Jvm.Cond.methodLink own index y).before a0 Z = true) (w2 : (Jvm.Cond.instanceMethod y).before a0 Z = true) (w3 : (Jvm.Cond.code y bytes maxL none).before a0 Z = true) (wz : (Jvm.Cond.initialized y.cls).before a0 Z = true) (hy : y.cls ≠ "java/lang/invoke/MethodHandle" ∧ y.cls ≠ "java/lang/invoke/VarHandle")
    {a : Addr} {argsL rest : List Value} (has : (.ref a :: argsL).toArray = as) (hst : st = argsL.reverse ++ .ref a :: rest) {W : Nat} {ps : List FieldType} (hde : parseMethodDescriptor y.desc = some ⟨ps, none⟩) (hlen : argsL.length = ps.length) (hW : (rest.map fun v => v.category).sum ≤ W) (hf : rm.frames + 1 ≤ R.frames) (hl : W + (maxL + 11) + rm.locals ≤ R.locals) (hc : cells + rm.cells ≤ R.cells) (hs : slots + rm.slots ≤ R.slots)
    (hsize : Ls.size = c.maxLocals) (hd : decode c.code pc = .ok (.invokespecial index, 3)) (hp : pc + 3 = pc')
    (k : ∀ v T' h' L, Stand p l e R s m args below meth c T' (locs ++ L) (cells + rm.cells) (slots + rm.slots) → T'.heap = h' → Q v h' L → OGo p e below K T' (mkF m pc' Ls (v.toList ++ rest))) : OGo p e below K T (mkF m pc Ls st) := by
  subst hp has
  obtain ⟨v, vm₁, ⟨T', L', c', n'⟩, -, X', ⟨Lc, hQ, l1, y1, z1⟩, r⟩ := X.specialBack hx (y := y) hy1 hown (mvT hZ w1) (mvT hZ w2) (mvT hZ w3) hy (hM.back (W := W) hZ w3 wz hf hl) (g := mkF m pc Ls st) rfl hsize (Steps.refl _) (a := a) (argsL := argsL) (rest := rest) (lenOf hde hlen) hst (by show 2 * 0 + _ ≤ _; omega) hd (fun _ _ => ⟨rfl, eT, hc, hs⟩)
  dsimp only [Pt.U, Pt.locs, Pt.cells, Pt.slots] at X' l1 y1 z1 r hQ
  subst l1 y1 z1
  exact (k v T' _ Lc X' rfl hQ).tr r
theorem g_virtual (X : Stand p l e R s m args below meth c T locs cells slots) (hx : p.tables.exec = Jvm.exec) (hZ : Z.Warmed39 s.vm) (hown : s.vm.findClass own = some m.cls) (eT : T.heap = h) {y z : MethodName} {bytes : ByteArray} {maxL index : Nat} {ret : Option FieldType} {rm : Room} {as : Array Value} {Q : Option Value → Heap → List Loc → Prop} (hM : OMet l z bytes maxL ret rm as Z h Q) {C : String}
    (w1 : (Jvm.Cond.methodLink own index y).before a0 Z = true) (w2 : (Jvm.Cond.declares y).before a0 Z = true) (nf : NotFace s y) (w3 : (Jvm.Cond.selects C y z).before a0 Z = true) (w4 : (Jvm.Cond.instanceMethod z).before a0 Z = true) (w5 : (Jvm.Cond.code z bytes maxL ret).before a0 Z = true) (wz : (Jvm.Cond.initialized z.cls).before a0 Z = true) (hy : y.cls ≠ "java/lang/invoke/MethodHandle" ∧ y.cls ≠ "java/lang/invoke/VarHandle")
    {a : Addr} (E : Exa Z h a C) {argsL rest : List Value} (has : (.ref a :: argsL).toArray = as) (hst : st = argsL.reverse ++ .ref a :: rest) {W : Nat} {ps : List FieldType} {rt : Option FieldType} (hde : parseMethodDescriptor y.desc = some ⟨ps, rt⟩) (hlen : argsL.length = ps.length) (hW : (rest.map fun v => v.category).sum ≤ W) (hf : rm.frames + 1 ≤ R.frames) (hl : W + (maxL + 11) + rm.locals ≤ R.locals) (hc : cells + rm.cells ≤ R.cells) (hs : slots + rm.slots ≤ R.slots)
    (hsize : Ls.size = c.maxLocals) (hd : decode c.code pc = .ok (.invokevirtual index, 3)) (hp : pc + 3 = pc')
    (k : ∀ v T' h' L, Stand p l e R s m args below meth c T' (locs ++ L) (cells + rm.cells) (slots + rm.slots) → T'.heap = h' → Q v h' L → OGo p e below K T' (mkF m pc' Ls (v.toList ++ rest))) : OGo p e below K T (mkF m pc Ls st) := by
  subst hp has
  obtain ⟨cB, kB, q1, q2, q3⟩ := isOf (T := T) hZ eT E
  obtain ⟨v, vm₁, ⟨T', L', c', n'⟩, -, X', ⟨Lc, hQ, l1, y1, z1⟩, r⟩ := X.virtualBack hx (y := y) (z := z) hown (mvT hZ w1) (mvT hZ w2) nf (mvT hZ w3) (mvT hZ w4) hy (hM.back (W := W) hZ w5 wz hf hl) q1 q3 (g := mkF m pc Ls st) rfl hsize (Steps.refl _) (argsL := argsL) (rest := rest) (lenOf hde hlen) hst (by show 2 * 0 + _ ≤ _; omega) hd (fun _ _ => ⟨rfl, eT, hc, hs⟩)
  dsimp only [Pt.U, Pt.locs, Pt.cells, Pt.slots] at X' l1 y1 z1 r hQ
  subst l1 y1 z1
  exact (k v T' _ Lc X' rfl hQ).tr r
theorem g_virtualUp (X : Stand p l e R s m args below meth c T locs cells slots) (hx : p.tables.exec = Jvm.exec) (hZ : Z.Warmed39 s.vm) (hown : s.vm.findClass own = some m.cls) (eT : T.heap = h) {y z : MethodName} {bytes : ByteArray} {maxL index : Nat} {ret : Option FieldType} {rm : Room} {as : Array Value} {Q : Option Value → Heap → List Loc → Prop} (hM : OMet l z bytes maxL ret rm as Z h Q) {C owner : String}
    (w1 : (Jvm.Cond.methodLink own index y).before a0 Z = true) (w0 : (Jvm.Cond.sameMethod y.cls owner y.name y.desc).before a0 Z = true) (w2 : (Jvm.Cond.declares ⟨owner, y.name, y.desc⟩).before a0 Z = true) (nf : NotFace s ⟨owner, y.name, y.desc⟩) (w3 : (Jvm.Cond.selects C y z).before a0 Z = true) (w4 : (Jvm.Cond.instanceMethod z).before a0 Z = true) (w5 : (Jvm.Cond.code z bytes maxL ret).before a0 Z = true) (wz : (Jvm.Cond.initialized z.cls).before a0 Z = true) (hy : owner ≠ "java/lang/invoke/MethodHandle" ∧ owner ≠ "java/lang/invoke/VarHandle")
    {a : Addr} (E : Exa Z h a C) {argsL rest : List Value} (has : (.ref a :: argsL).toArray = as) (hst : st = argsL.reverse ++ .ref a :: rest) {W : Nat} {ps : List FieldType} {rt : Option FieldType} (hde : parseMethodDescriptor y.desc = some ⟨ps, rt⟩) (hlen : argsL.length = ps.length) (hW : (rest.map fun v => v.category).sum ≤ W) (hf : rm.frames + 1 ≤ R.frames) (hl : W + (maxL + 11) + rm.locals ≤ R.locals) (hc : cells + rm.cells ≤ R.cells) (hs : slots + rm.slots ≤ R.slots)
    (hsize : Ls.size = c.maxLocals) (hd : decode c.code pc = .ok (.invokevirtual index, 3)) (hp : pc + 3 = pc')
    (k : ∀ v T' h' L, Stand p l e R s m args below meth c T' (locs ++ L) (cells + rm.cells) (slots + rm.slots) → T'.heap = h' → Q v h' L → OGo p e below K T' (mkF m pc' Ls (v.toList ++ rest))) : OGo p e below K T (mkF m pc Ls st) := by
  subst hp has
  obtain ⟨cB, kB, q1, q2, q3⟩ := isOf (T := T) hZ eT E
  obtain ⟨v, vm₁, ⟨T', L', c', n'⟩, -, X', ⟨Lc, hQ, l1, y1, z1⟩, r⟩ := X.virtualBackUp hx (x := y) (y := z) (owner := owner) hown (mvT hZ w1) (mvT hZ w0) (mvT hZ w2) hy (mvT hZ w3) (mvT hZ w4) (hM.back (W := W) hZ w5 wz hf hl) q1 q3 (g := mkF m pc Ls st) rfl hsize (Steps.refl _) (argsL := argsL) (rest := rest) (lenOf hde hlen) hst (by show 2 * 0 + _ ≤ _; omega) hd (fun _ _ => ⟨rfl, eT, hc, hs⟩)
  dsimp only [Pt.U, Pt.locs, Pt.cells, Pt.slots] at X' l1 y1 z1 r hQ
  subst l1 y1 z1
  exact (k v T' _ Lc X' rfl hQ).tr r
theorem g_static (X : Stand p l e R s m args below meth c T locs cells slots) (hx : p.tables.exec = Jvm.exec) (hZ : Z.Warmed39 s.vm) (hown : s.vm.findClass own = some m.cls) (eT : T.heap = h) {y : MethodName} {bytes : ByteArray} {maxL index : Nat} {ret : Option FieldType} {rm : Room} {as : Array Value} {Q : Option Value → Heap → List Loc → Prop} (hM : OMet l y bytes maxL ret rm as Z h Q)
    (w1 : (Jvm.Cond.methodLink own index y).before a0 Z = true) (w2 : (Jvm.Cond.static y).before a0 Z = true) (w3 : (Jvm.Cond.code y bytes maxL ret).before a0 Z = true) (wz : (Jvm.Cond.initialized y.cls).before a0 Z = true) (hy : y.cls ≠ "java/lang/invoke/MethodHandle" ∧ y.cls ≠ "java/lang/invoke/VarHandle")
    {argsL rest : List Value} (has : argsL.toArray = as) (hst : st = argsL.reverse ++ rest) {W : Nat} {ps : List FieldType} {rt : Option FieldType} (hde : parseMethodDescriptor y.desc = some ⟨ps, rt⟩) (hlen : argsL.length = ps.length) (hW : (rest.map fun v => v.category).sum ≤ W) (hf : rm.frames + 1 ≤ R.frames) (hl : W + (maxL + 11) + rm.locals ≤ R.locals) (hc : cells + rm.cells ≤ R.cells) (hs : slots + rm.slots ≤ R.slots)
    (hsize : Ls.size = c.maxLocals) (hd : decode c.code pc = .ok (.invokestatic index, 3)) (hp : pc + 3 = pc')
    (k : ∀ v T' h' L, Stand p l e R s m args below meth c T' (locs ++ L) (cells + rm.cells) (slots + rm.slots) → T'.heap = h' → Q v h' L → OGo p e below K T' (mkF m pc' Ls (v.toList ++ rest))) : OGo p e below K T (mkF m pc Ls st) := by
  subst hp has
  obtain ⟨v, vm₁, ⟨T', L', c', n'⟩, -, X', ⟨Lc, hQ, l1, y1, z1⟩, r⟩ := Jvm.LawKit.callS X hx (y := y) hown (mvT hZ w1) (mvT hZ w2) (mvT hZ wz) (mvT hZ w3) hy (hM.back (W := W) hZ w3 wz hf hl) (g := mkF m pc Ls st) rfl hsize (argsL := argsL) (rest := rest) (lenOf hde hlen) hst (by show 2 * 0 + _ ≤ _; omega) hd (fun _ _ => ⟨rfl, eT, hc, hs⟩)
  dsimp only [Pt.U, Pt.locs, Pt.cells, Pt.slots] at X' l1 y1 z1 r hQ
  subst l1 y1 z1
  exact (k v T' _ Lc X' rfl hQ).via r
theorem g_face (X : Stand p l e R s m args below meth c T locs cells slots) (hx : p.tables.exec = Jvm.exec) (hZ : Z.Warmed39 s.vm) (hown : s.vm.findClass own = some m.cls) (eT : T.heap = h) {y z : MethodName} {bytes : ByteArray} {maxL index count : Nat} {ret : Option FieldType} {rm : Room} {as : Array Value} {Q : Option Value → Heap → List Loc → Prop} (hM : OMet l z bytes maxL ret rm as Z h Q) {C : String}
    (w1 : (Jvm.Cond.methodLink own index y).before a0 Z = true) (w2 : (Jvm.Cond.declares y).before a0 Z = true) (w6 : (Jvm.Cond.interfaceMethod y.cls y.cls y.name y.desc).before a0 Z = true) (w3 : (Jvm.Cond.selects C y z).before a0 Z = true) (w4 : (Jvm.Cond.instanceMethod z).before a0 Z = true) (w7 : (Jvm.Cond.publicMethod z).before a0 Z = true) (w8 : (Jvm.Cond.unhidden C y.name y.desc).before a0 Z = true) (w9 : (Jvm.Cond.castable C y.cls).before a0 Z = true) (w5 : (Jvm.Cond.code z bytes maxL ret).before a0 Z = true) (wz : (Jvm.Cond.initialized z.cls).before a0 Z = true) (hy : y.cls ≠ "java/lang/invoke/MethodHandle" ∧ y.cls ≠ "java/lang/invoke/VarHandle")
    {a : Addr} (E : Exa Z h a C) {argsL rest : List Value} (has : (.ref a :: argsL).toArray = as) (hst : st = argsL.reverse ++ .ref a :: rest) {W : Nat} {ps : List FieldType} {rt : Option FieldType} (hde : parseMethodDescriptor y.desc = some ⟨ps, rt⟩) (hlen : argsL.length = ps.length) (hW : (rest.map fun v => v.category).sum ≤ W) (hf : rm.frames + 1 ≤ R.frames) (hl : W + (maxL + 11) + rm.locals ≤ R.locals) (hc : cells + rm.cells ≤ R.cells) (hs : slots + rm.slots ≤ R.slots)
    (hsize : Ls.size = c.maxLocals) (hd : decode c.code pc = .ok (.invokeinterface index count, 5)) (hp : pc + 5 = pc')
    (k : ∀ v T' h' L, Stand p l e R s m args below meth c T' (locs ++ L) (cells + rm.cells) (slots + rm.slots) → T'.heap = h' → Q v h' L → OGo p e below K T' (mkF m pc' Ls (v.toList ++ rest))) : OGo p e below K T (mkF m pc Ls st) := by
  subst hp has
  obtain ⟨cB, kB, q1, q2, q3⟩ := isOf (T := T) hZ eT E
  obtain ⟨v, vm₁, ⟨T', L', c', n'⟩, -, X', ⟨Lc, hQ, l1, y1, z1⟩, r⟩ := X.interfaceBack hx (xi := y) (y := z) hown (mvT hZ w1) (mvT hZ w2) (mvT hZ w6 (by simp [Jvm.Cond.onTables, Jvm.Cond.keepsFace, Jvm.Cond.keeps, Jvm.Cond.steady, Jvm.Cond.faceAtom, hy.1, hy.2])) (mvT hZ w3) (mvT hZ w4) (mvT hZ w7) (mvT hZ w8) (mvT hZ w9) hy (hM.back (W := W) hZ w5 wz hf hl) q1 q2 q3 (g := mkF m pc Ls st) rfl hsize (Steps.refl _) (argsL := argsL) (rest := rest) (lenOf hde hlen) hst (by show 2 * 0 + _ ≤ _; omega) hd (fun _ _ => ⟨rfl, eT, hc, hs⟩)
  dsimp only [Pt.U, Pt.locs, Pt.cells, Pt.slots] at X' l1 y1 z1 r hQ
  subst l1 y1 z1
  exact (k v T' _ Lc X' rfl hQ).tr r
theorem g_aloadN (X : Stand p l e R s m args below meth c T locs cells slots) (hx : p.tables.exec = Jvm.exec) {k : Fin 4} {v : Value} (hd : decode c.code pc = .ok (.aload_n k, 1)) (hp : pc + 1 = pc') (hl : Ls[k.val]? = some (.val v)) (hv : v.isRef = true)
    (k : OGo p e below K T (mkF m pc' Ls (v :: st))) : OGo p e below K T (mkF m pc Ls (st)) := by
  subst hp; exact k.via fun _ q => XS.aloadN X.here hx rfl hd hl hv q
theorem g_aload (X : Stand p l e R s m args below meth c T locs cells slots) (hx : p.tables.exec = Jvm.exec) {k : Nat} {v : Value} (hd : decode c.code pc = .ok (.aload k, 2)) (hp : pc + 2 = pc') (hl : Ls[k]? = some (.val v)) (hv : v.isRef = true)
    (k : OGo p e below K T (mkF m pc' Ls (v :: st))) : OGo p e below K T (mkF m pc Ls (st)) := by
  subst hp; exact k.via fun _ q => XS.aload X.here hx rfl hd hl hv q
theorem g_iloadN (X : Stand p l e R s m args below meth c T locs cells slots) (hx : p.tables.exec = Jvm.exec) {k : Fin 4} {v : Int32} (hd : decode c.code pc = .ok (.iload_n k, 1)) (hp : pc + 1 = pc') (hl : Ls[k.val]? = some (.val (.int v)))
    (k : OGo p e below K T (mkF m pc' Ls (.int v :: st))) : OGo p e below K T (mkF m pc Ls (st)) := by
  subst hp; exact k.via fun _ q => XS.iloadN X.here hx rfl hd hl q
theorem g_iload (X : Stand p l e R s m args below meth c T locs cells slots) (hx : p.tables.exec = Jvm.exec) {k : Nat} {v : Int32} (hd : decode c.code pc = .ok (.iload k, 2)) (hp : pc + 2 = pc') (hl : Ls[k]? = some (.val (.int v)))
    (k : OGo p e below K T (mkF m pc' Ls (.int v :: st))) : OGo p e below K T (mkF m pc Ls (st)) := by
  subst hp; exact k.via fun _ q => XS.iload X.here hx rfl hd hl q
theorem g_lloadN (X : Stand p l e R s m args below meth c T locs cells slots) (hx : p.tables.exec = Jvm.exec) {k : Fin 4} {v : Int64} (hd : decode c.code pc = .ok (.lload_n k, 1)) (hp : pc + 1 = pc') (hl : Ls[k.val]? = some (.val (.long v)))
    (k : OGo p e below K T (mkF m pc' Ls (.long v :: st))) : OGo p e below K T (mkF m pc Ls (st)) := by
  subst hp; exact k.via fun _ q => XT.lloadN X.here hx rfl hd hl q
theorem g_lload (X : Stand p l e R s m args below meth c T locs cells slots) (hx : p.tables.exec = Jvm.exec) {k : Nat} {v : Int64} (hd : decode c.code pc = .ok (.lload k, 2)) (hp : pc + 2 = pc') (hl : Ls[k]? = some (.val (.long v)))
    (k : OGo p e below K T (mkF m pc' Ls (.long v :: st))) : OGo p e below K T (mkF m pc Ls (st)) := by
  subst hp; exact k.via fun _ q => XT.lload X.here hx rfl hd hl q
theorem g_istoreN (X : Stand p l e R s m args below meth c T locs cells slots) (hx : p.tables.exec = Jvm.exec) {k : Fin 4} {x : Int32} {Ls' : Array Slot} (hd : decode c.code pc = .ok (.istore_n k, 1)) (hp : pc + 1 = pc') (hl : storeLocals Ls k.val (.int x) = some Ls')
    (k : OGo p e below K T (mkF m pc' Ls' (st))) : OGo p e below K T (mkF m pc Ls (.int x :: st)) := by
  subst hp; exact k.via fun _ q => XS.istoreN X.here hx rfl hd rfl hl q
theorem g_istore (X : Stand p l e R s m args below meth c T locs cells slots) (hx : p.tables.exec = Jvm.exec) {k : Nat} {x : Int32} {Ls' : Array Slot} (hd : decode c.code pc = .ok (.istore k, 2)) (hp : pc + 2 = pc') (hl : storeLocals Ls k (.int x) = some Ls')
    (k : OGo p e below K T (mkF m pc' Ls' (st))) : OGo p e below K T (mkF m pc Ls (.int x :: st)) := by
  subst hp; exact k.via fun _ q => XS.istore X.here hx rfl hd rfl hl q
theorem g_lstoreN (X : Stand p l e R s m args below meth c T locs cells slots) (hx : p.tables.exec = Jvm.exec) {k : Fin 4} {x : Int64} {Ls' : Array Slot} (hd : decode c.code pc = .ok (.lstore_n k, 1)) (hp : pc + 1 = pc') (hl : storeLocals Ls k.val (.long x) = some Ls')
    (k : OGo p e below K T (mkF m pc' Ls' (st))) : OGo p e below K T (mkF m pc Ls (.long x :: st)) := by
  subst hp; exact k.via fun _ q => XT.lstoreN X.here hx rfl hd rfl hl q
theorem g_lstore (X : Stand p l e R s m args below meth c T locs cells slots) (hx : p.tables.exec = Jvm.exec) {k : Nat} {x : Int64} {Ls' : Array Slot} (hd : decode c.code pc = .ok (.lstore k, 2)) (hp : pc + 2 = pc') (hl : storeLocals Ls k (.long x) = some Ls')
    (k : OGo p e below K T (mkF m pc' Ls' (st))) : OGo p e below K T (mkF m pc Ls (.long x :: st)) := by
  subst hp; exact k.via fun _ q => XT.lstore X.here hx rfl hd rfl hl q
theorem g_astoreN (X : Stand p l e R s m args below meth c T locs cells slots) (hx : p.tables.exec = Jvm.exec) {k : Fin 4} {x : Value} {Ls' : Array Slot} (hd : decode c.code pc = .ok (.astore_n k, 1)) (hp : pc + 1 = pc') (hv : x.isRef = true) (hl : storeLocals Ls k.val x = some Ls')
    (k : OGo p e below K T (mkF m pc' Ls' (st))) : OGo p e below K T (mkF m pc Ls (x :: st)) := by
  subst hp; exact k.via fun _ q => XS.astoreN X.here hx rfl hd rfl hv hl q
theorem g_astore (X : Stand p l e R s m args below meth c T locs cells slots) (hx : p.tables.exec = Jvm.exec) {k : Nat} {x : Value} {Ls' : Array Slot} (hd : decode c.code pc = .ok (.astore k, 2)) (hp : pc + 2 = pc') (hv : x.isRef = true) (hl : storeLocals Ls k x = some Ls')
    (k : OGo p e below K T (mkF m pc' Ls' (st))) : OGo p e below K T (mkF m pc Ls (x :: st)) := by
  subst hp; exact k.via fun _ q => XS.astore X.here hx rfl hd rfl hv hl q
theorem g_iconst (X : Stand p l e R s m args below meth c T locs cells slots) (hx : p.tables.exec = Jvm.exec) {i : Int} (v : Int32) (hd : decode c.code pc = .ok (.iconst i, 1)) (hp : pc + 1 = pc') (hv : Int32.ofInt i = v)
    (k : OGo p e below K T (mkF m pc' Ls (.int v :: st))) : OGo p e below K T (mkF m pc Ls st) := by
  subst hp; exact k.via fun _ q => XT.iconstV X.here hx rfl v hd hv q
theorem g_bipush (X : Stand p l e R s m args below meth c T locs cells slots) (hx : p.tables.exec = Jvm.exec) {i : Int} (v : Int32) (hd : decode c.code pc = .ok (.bipush i, 2)) (hp : pc + 2 = pc') (hv : (Int8.ofInt i).toInt32 = v)
    (k : OGo p e below K T (mkF m pc' Ls (.int v :: st))) : OGo p e below K T (mkF m pc Ls st) := by
  subst hp; exact k.via fun _ q => XT.bipushV X.here hx rfl v hd hv q
theorem g_sipush (X : Stand p l e R s m args below meth c T locs cells slots) (hx : p.tables.exec = Jvm.exec) {i : Int} (v : Int32) (hd : decode c.code pc = .ok (.sipush i, 3)) (hp : pc + 3 = pc') (hv : (Int16.ofInt i).toInt32 = v)
    (k : OGo p e below K T (mkF m pc' Ls (.int v :: st))) : OGo p e below K T (mkF m pc Ls st) := by
  subst hp; exact k.via fun _ q => XT.sipushV X.here hx rfl v hd hv q
theorem g_lconst (X : Stand p l e R s m args below meth c T locs cells slots) (hx : p.tables.exec = Jvm.exec) {i : Fin 2} (v : Int64) (hd : decode c.code pc = .ok (.lconst i, 1)) (hp : pc + 1 = pc') (hv : Int64.ofNat i = v)
    (k : OGo p e below K T (mkF m pc' Ls (.long v :: st))) : OGo p e below K T (mkF m pc Ls st) := by
  subst hp; exact k.via fun _ q => XT.lconstV X.here hx rfl v hd hv q
theorem g_anull (X : Stand p l e R s m args below meth c T locs cells slots) (hx : p.tables.exec = Jvm.exec)  (hd : decode c.code pc = .ok (.aconst_null, 1)) (hp : pc + 1 = pc')
    (k : OGo p e below K T (mkF m pc' Ls (.null :: st))) : OGo p e below K T (mkF m pc Ls (st)) := by
  subst hp; exact k.via fun _ q => XS.aconstNull X.here hx rfl hd  q
theorem g_ldcI (X : Stand p l e R s m args below meth c T locs cells slots) (hx : p.tables.exec = Jvm.exec) (hZ : Z.Warmed39 s.vm) (hown : s.vm.findClass own = some m.cls) {index : Nat} {v : Int32} (w : (Jvm.Cond.constant own index v).before a0 Z = true) (hd : decode c.code pc = .ok (.ldc index, 2)) (hp : pc + 2 = pc')
    (k : OGo p e below K T (mkF m pc' Ls (.int v :: st))) : OGo p e below K T (mkF m pc Ls st) := by
  subst hp; exact k.via fun _ q => X.ldcI hx hown (mvT hZ w) rfl hd q
theorem g_ldc2J (X : Stand p l e R s m args below meth c T locs cells slots) (hx : p.tables.exec = Jvm.exec) (hZ : Z.Warmed39 s.vm) (hown : s.vm.findClass own = some m.cls) {index : Nat} {v : Int64} (w : (Jvm.Cond.constantLong own index v).before a0 Z = true) (hd : decode c.code pc = .ok (.ldc2_w index, 3)) (hp : pc + 3 = pc')
    (k : OGo p e below K T (mkF m pc' Ls (.long v :: st))) : OGo p e below K T (mkF m pc Ls st) := by
  subst hp; exact k.via fun _ q => X.ldc2J hx hown (mvT hZ w) rfl hd q
theorem g_iadd (X : Stand p l e R s m args below meth c T locs cells slots) (hx : p.tables.exec = Jvm.exec) {x y z : Int32} (hd : decode c.code pc = .ok (.iadd, 1)) (hp : pc + 1 = pc') (hz : x + y = z)
    (k : OGo p e below K T (mkF m pc' Ls (.int z :: st))) : OGo p e below K T (mkF m pc Ls (.int y :: .int x :: st)) := by
  subst hp hz; exact k.via fun _ q => XS.iadd X.here hx rfl hd rfl q
theorem g_isub (X : Stand p l e R s m args below meth c T locs cells slots) (hx : p.tables.exec = Jvm.exec) {x y z : Int32} (hd : decode c.code pc = .ok (.isub, 1)) (hp : pc + 1 = pc') (hz : x - y = z)
    (k : OGo p e below K T (mkF m pc' Ls (.int z :: st))) : OGo p e below K T (mkF m pc Ls (.int y :: .int x :: st)) := by
  subst hp hz; exact k.via fun _ q => XS.isub X.here hx rfl hd rfl q
theorem g_iand (X : Stand p l e R s m args below meth c T locs cells slots) (hx : p.tables.exec = Jvm.exec) {x y z : Int32} (hd : decode c.code pc = .ok (.iand, 1)) (hp : pc + 1 = pc') (hz : x &&& y = z)
    (k : OGo p e below K T (mkF m pc' Ls (.int z :: st))) : OGo p e below K T (mkF m pc Ls (.int y :: .int x :: st)) := by
  subst hp hz; exact k.via fun _ q => XS.iand X.here hx rfl hd rfl q
theorem g_imul (X : Stand p l e R s m args below meth c T locs cells slots) (hx : p.tables.exec = Jvm.exec) {x y z : Int32} (hd : decode c.code pc = .ok (.imul, 1)) (hp : pc + 1 = pc') (hz : x * y = z)
    (k : OGo p e below K T (mkF m pc' Ls (.int z :: st))) : OGo p e below K T (mkF m pc Ls (.int y :: .int x :: st)) := by
  subst hp hz; exact k.via fun _ q => XS.imul X.here hx rfl hd rfl q
theorem g_ixor (X : Stand p l e R s m args below meth c T locs cells slots) (hx : p.tables.exec = Jvm.exec) {x y z : Int32} (hd : decode c.code pc = .ok (.ixor, 1)) (hp : pc + 1 = pc') (hz : x ^^^ y = z)
    (k : OGo p e below K T (mkF m pc' Ls (.int z :: st))) : OGo p e below K T (mkF m pc Ls (.int y :: .int x :: st)) := by
  subst hp hz; exact k.via fun _ q => XT.ixor X.here hx rfl hd rfl q
theorem g_ior (X : Stand p l e R s m args below meth c T locs cells slots) (hx : p.tables.exec = Jvm.exec) {x y z : Int32} (hd : decode c.code pc = .ok (.ior, 1)) (hp : pc + 1 = pc') (hz : x ||| y = z)
    (k : OGo p e below K T (mkF m pc' Ls (.int z :: st))) : OGo p e below K T (mkF m pc Ls (.int y :: .int x :: st)) := by
  subst hp hz; exact k.via fun _ q => XT.ior X.here hx rfl hd rfl q
theorem g_ishl (X : Stand p l e R s m args below meth c T locs cells slots) (hx : p.tables.exec = Jvm.exec) {x y z : Int32} (hd : decode c.code pc = .ok (.ishl, 1)) (hp : pc + 1 = pc') (hz : x <<< (y &&& 31) = z)
    (k : OGo p e below K T (mkF m pc' Ls (.int z :: st))) : OGo p e below K T (mkF m pc Ls (.int y :: .int x :: st)) := by
  subst hp hz; exact k.via fun _ q => XT.ishl X.here hx rfl hd rfl q
theorem g_ishr (X : Stand p l e R s m args below meth c T locs cells slots) (hx : p.tables.exec = Jvm.exec) {x y z : Int32} (hd : decode c.code pc = .ok (.ishr, 1)) (hp : pc + 1 = pc') (hz : x >>> (y &&& 31) = z)
    (k : OGo p e below K T (mkF m pc' Ls (.int z :: st))) : OGo p e below K T (mkF m pc Ls (.int y :: .int x :: st)) := by
  subst hp hz; exact k.via fun _ q => XT.ishr X.here hx rfl hd rfl q
theorem g_iushr (X : Stand p l e R s m args below meth c T locs cells slots) (hx : p.tables.exec = Jvm.exec) {x y z : Int32} (hd : decode c.code pc = .ok (.iushr, 1)) (hp : pc + 1 = pc') (hz : XT.ushr x y = z)
    (k : OGo p e below K T (mkF m pc' Ls (.int z :: st))) : OGo p e below K T (mkF m pc Ls (.int y :: .int x :: st)) := by
  subst hp hz; exact k.via fun _ q => XT.iushr X.here hx rfl hd rfl q
theorem g_ladd (X : Stand p l e R s m args below meth c T locs cells slots) (hx : p.tables.exec = Jvm.exec) {x y z : Int64} (hd : decode c.code pc = .ok (.ladd, 1)) (hp : pc + 1 = pc') (hz : x + y = z)
    (k : OGo p e below K T (mkF m pc' Ls (.long z :: st))) : OGo p e below K T (mkF m pc Ls (.long y :: .long x :: st)) := by
  subst hp hz; exact k.via fun _ q => XT.ladd X.here hx rfl hd rfl q
theorem g_lsub (X : Stand p l e R s m args below meth c T locs cells slots) (hx : p.tables.exec = Jvm.exec) {x y z : Int64} (hd : decode c.code pc = .ok (.lsub, 1)) (hp : pc + 1 = pc') (hz : x - y = z)
    (k : OGo p e below K T (mkF m pc' Ls (.long z :: st))) : OGo p e below K T (mkF m pc Ls (.long y :: .long x :: st)) := by
  subst hp hz; exact k.via fun _ q => XT.lsub X.here hx rfl hd rfl q
theorem g_lmul (X : Stand p l e R s m args below meth c T locs cells slots) (hx : p.tables.exec = Jvm.exec) {x y z : Int64} (hd : decode c.code pc = .ok (.lmul, 1)) (hp : pc + 1 = pc') (hz : x * y = z)
    (k : OGo p e below K T (mkF m pc' Ls (.long z :: st))) : OGo p e below K T (mkF m pc Ls (.long y :: .long x :: st)) := by
  subst hp hz; exact k.via fun _ q => XT.lmul X.here hx rfl hd rfl q
theorem g_land (X : Stand p l e R s m args below meth c T locs cells slots) (hx : p.tables.exec = Jvm.exec) {x y z : Int64} (hd : decode c.code pc = .ok (.land, 1)) (hp : pc + 1 = pc') (hz : x &&& y = z)
    (k : OGo p e below K T (mkF m pc' Ls (.long z :: st))) : OGo p e below K T (mkF m pc Ls (.long y :: .long x :: st)) := by
  subst hp hz; exact k.via fun _ q => XT.land X.here hx rfl hd rfl q
theorem g_lor (X : Stand p l e R s m args below meth c T locs cells slots) (hx : p.tables.exec = Jvm.exec) {x y z : Int64} (hd : decode c.code pc = .ok (.lor, 1)) (hp : pc + 1 = pc') (hz : x ||| y = z)
    (k : OGo p e below K T (mkF m pc' Ls (.long z :: st))) : OGo p e below K T (mkF m pc Ls (.long y :: .long x :: st)) := by
  subst hp hz; exact k.via fun _ q => XT.lor X.here hx rfl hd rfl q
theorem g_lxor (X : Stand p l e R s m args below meth c T locs cells slots) (hx : p.tables.exec = Jvm.exec) {x y z : Int64} (hd : decode c.code pc = .ok (.lxor, 1)) (hp : pc + 1 = pc') (hz : x ^^^ y = z)
    (k : OGo p e below K T (mkF m pc' Ls (.long z :: st))) : OGo p e below K T (mkF m pc Ls (.long y :: .long x :: st)) := by
  subst hp hz; exact k.via fun _ q => XT.lxor X.here hx rfl hd rfl q
theorem g_lshl (X : Stand p l e R s m args below meth c T locs cells slots) (hx : p.tables.exec = Jvm.exec) {x : Int64} {y : Int32} (hd : decode c.code pc = .ok (.lshl, 1)) (hp : pc + 1 = pc')
    (k : OGo p e below K T (mkF m pc' Ls (.long (x <<< (y.toInt64 &&& 63)) :: st))) : OGo p e below K T (mkF m pc Ls (.int y :: .long x :: st)) := by
  subst hp; exact k.via fun _ q => XT.lshl X.here hx rfl hd rfl q
theorem g_lshr (X : Stand p l e R s m args below meth c T locs cells slots) (hx : p.tables.exec = Jvm.exec) {x : Int64} {y : Int32} (hd : decode c.code pc = .ok (.lshr, 1)) (hp : pc + 1 = pc')
    (k : OGo p e below K T (mkF m pc' Ls (.long (x >>> (y.toInt64 &&& 63)) :: st))) : OGo p e below K T (mkF m pc Ls (.int y :: .long x :: st)) := by
  subst hp; exact k.via fun _ q => XT.lshr X.here hx rfl hd rfl q
theorem g_lushr (X : Stand p l e R s m args below meth c T locs cells slots) (hx : p.tables.exec = Jvm.exec) {x : Int64} {y : Int32} (hd : decode c.code pc = .ok (.lushr, 1)) (hp : pc + 1 = pc')
    (k : OGo p e below K T (mkF m pc' Ls (.long (XT.ushrL x y) :: st))) : OGo p e below K T (mkF m pc Ls (.int y :: .long x :: st)) := by
  subst hp; exact k.via fun _ q => XT.lushr X.here hx rfl hd rfl q
theorem g_idiv (X : Stand p l e R s m args below meth c T locs cells slots) (hx : p.tables.exec = Jvm.exec) {x y : Int32} (hd : decode c.code pc = .ok (.idiv, 1)) (hp : pc + 1 = pc') (hy : y ≠ 0)
    (k : OGo p e below K T (mkF m pc' Ls (.int (x / y) :: st))) : OGo p e below K T (mkF m pc Ls (.int y :: .int x :: st)) := by
  subst hp; exact k.via fun _ q => XS.idiv X.here hx rfl hd rfl hy q
theorem g_irem (X : Stand p l e R s m args below meth c T locs cells slots) (hx : p.tables.exec = Jvm.exec) {x y : Int32} (hd : decode c.code pc = .ok (.irem, 1)) (hp : pc + 1 = pc') (hy : y ≠ 0)
    (k : OGo p e below K T (mkF m pc' Ls (.int (x % y) :: st))) : OGo p e below K T (mkF m pc Ls (.int y :: .int x :: st)) := by
  subst hp; exact k.via fun _ q => iremM X hx rfl hd rfl hy q
theorem g_ldiv (X : Stand p l e R s m args below meth c T locs cells slots) (hx : p.tables.exec = Jvm.exec) {x y : Int64} (hd : decode c.code pc = .ok (.ldiv, 1)) (hp : pc + 1 = pc') (hy : y ≠ 0)
    (k : OGo p e below K T (mkF m pc' Ls (.long (x / y) :: st))) : OGo p e below K T (mkF m pc Ls (.long y :: .long x :: st)) := by
  subst hp; exact k.via fun _ q => XT.ldiv X.here hx rfl hd rfl hy q
theorem g_lrem (X : Stand p l e R s m args below meth c T locs cells slots) (hx : p.tables.exec = Jvm.exec) {x y : Int64} (hd : decode c.code pc = .ok (.lrem, 1)) (hp : pc + 1 = pc') (hy : y ≠ 0)
    (k : OGo p e below K T (mkF m pc' Ls (.long (x % y) :: st))) : OGo p e below K T (mkF m pc Ls (.long y :: .long x :: st)) := by
  subst hp; exact k.via fun _ q => XT.lrem X.here hx rfl hd rfl hy (by rw [lrem_mod]; exact q)
theorem g_ineg (X : Stand p l e R s m args below meth c T locs cells slots) (hx : p.tables.exec = Jvm.exec) {x : Int32} (hd : decode c.code pc = .ok (.ineg, 1)) (hp : pc + 1 = pc')
    (k : OGo p e below K T (mkF m pc' Ls (.int (-x) :: st))) : OGo p e below K T (mkF m pc Ls (.int x :: st)) := by
  subst hp; exact k.via fun _ q => XS.ineg X.here hx rfl hd rfl q
theorem g_lneg (X : Stand p l e R s m args below meth c T locs cells slots) (hx : p.tables.exec = Jvm.exec) {x : Int64} (hd : decode c.code pc = .ok (.lneg, 1)) (hp : pc + 1 = pc')
    (k : OGo p e below K T (mkF m pc' Ls (.long (-x) :: st))) : OGo p e below K T (mkF m pc Ls (.long x :: st)) := by
  subst hp; exact k.via fun _ q => XT.lneg X.here hx rfl hd rfl q
theorem g_i2l (X : Stand p l e R s m args below meth c T locs cells slots) (hx : p.tables.exec = Jvm.exec) {x : Int32} (hd : decode c.code pc = .ok (.i2l, 1)) (hp : pc + 1 = pc')
    (k : OGo p e below K T (mkF m pc' Ls (.long x.toInt64 :: st))) : OGo p e below K T (mkF m pc Ls (.int x :: st)) := by
  subst hp; exact k.via fun _ q => XT.i2l X.here hx rfl hd rfl q
theorem g_l2i (X : Stand p l e R s m args below meth c T locs cells slots) (hx : p.tables.exec = Jvm.exec) {x : Int64} (hd : decode c.code pc = .ok (.l2i, 1)) (hp : pc + 1 = pc')
    (k : OGo p e below K T (mkF m pc' Ls (.int x.toInt32 :: st))) : OGo p e below K T (mkF m pc Ls (.long x :: st)) := by
  subst hp; exact k.via fun _ q => XT.l2i X.here hx rfl hd rfl q
theorem g_i2b (X : Stand p l e R s m args below meth c T locs cells slots) (hx : p.tables.exec = Jvm.exec) {x : Int32} (hd : decode c.code pc = .ok (.i2b, 1)) (hp : pc + 1 = pc')
    (k : OGo p e below K T (mkF m pc' Ls (.int x.toInt8.toInt32 :: st))) : OGo p e below K T (mkF m pc Ls (.int x :: st)) := by
  subst hp; exact k.via fun _ q => XT.i2b X.here hx rfl hd rfl q
theorem g_i2c (X : Stand p l e R s m args below meth c T locs cells slots) (hx : p.tables.exec = Jvm.exec) {x : Int32} (hd : decode c.code pc = .ok (.i2c, 1)) (hp : pc + 1 = pc')
    (k : OGo p e below K T (mkF m pc' Ls (.int x.toUInt32.toUInt16.toUInt32.toInt32 :: st))) : OGo p e below K T (mkF m pc Ls (.int x :: st)) := by
  subst hp; exact k.via fun _ q => XT.i2c X.here hx rfl hd rfl q
theorem g_i2s (X : Stand p l e R s m args below meth c T locs cells slots) (hx : p.tables.exec = Jvm.exec) {x : Int32} (hd : decode c.code pc = .ok (.i2s, 1)) (hp : pc + 1 = pc')
    (k : OGo p e below K T (mkF m pc' Ls (.int x.toInt16.toInt32 :: st))) : OGo p e below K T (mkF m pc Ls (.int x :: st)) := by
  subst hp; exact k.via fun _ q => XT.i2s X.here hx rfl hd rfl q
theorem g_lcmp (X : Stand p l e R s m args below meth c T locs cells slots) (hx : p.tables.exec = Jvm.exec) {x y : Int64} (hd : decode c.code pc = .ok (.lcmp, 1)) (hp : pc + 1 = pc')
    (k : OGo p e below K T (mkF m pc' Ls (.int (XT.cmpL x y) :: st))) : OGo p e below K T (mkF m pc Ls (.long y :: .long x :: st)) := by
  subst hp; exact k.via fun _ q => XT.lcmp X.here hx rfl hd rfl q
theorem g_dup (X : Stand p l e R s m args below meth c T locs cells slots) (hx : p.tables.exec = Jvm.exec) {x : Value} (hd : decode c.code pc = .ok (.dup, 1)) (hp : pc + 1 = pc') (hc : x.category = 1)
    (k : OGo p e below K T (mkF m pc' Ls (x :: x :: st))) : OGo p e below K T (mkF m pc Ls (x :: st)) := by
  subst hp; exact k.via fun _ q => XS.dup X.here hx rfl hd rfl hc q
theorem g_pop (X : Stand p l e R s m args below meth c T locs cells slots) (hx : p.tables.exec = Jvm.exec) {x : Value} (hd : decode c.code pc = .ok (.pop, 1)) (hp : pc + 1 = pc') (hc : x.category = 1)
    (k : OGo p e below K T (mkF m pc' Ls (st))) : OGo p e below K T (mkF m pc Ls (x :: st)) := by
  subst hp; exact k.via fun _ q => XT.pop X.here hx rfl hd rfl hc q
theorem g_dupx1 (X : Stand p l e R s m args below meth c T locs cells slots) (hx : p.tables.exec = Jvm.exec) {x y : Value} (hd : decode c.code pc = .ok (.dup_x1, 1)) (hp : pc + 1 = pc') (hc : x.category = 1) (hc' : y.category = 1)
    (k : OGo p e below K T (mkF m pc' Ls (x :: y :: x :: st))) : OGo p e below K T (mkF m pc Ls (x :: y :: st)) := by
  subst hp; exact k.via fun _ q => XT.dupX1 X.here hx rfl hd rfl hc hc' q
theorem g_dup2 (X : Stand p l e R s m args below meth c T locs cells slots) (hx : p.tables.exec = Jvm.exec) {x y : Value} (hd : decode c.code pc = .ok (.dup2, 1)) (hp : pc + 1 = pc') (hc : x.category = 1) (hc' : y.category = 1)
    (k : OGo p e below K T (mkF m pc' Ls (x :: y :: x :: y :: st))) : OGo p e below K T (mkF m pc Ls (x :: y :: st)) := by
  subst hp; exact k.via fun _ q => XT.dup2 X.here hx rfl hd rfl hc hc' q
theorem g_dup2L (X : Stand p l e R s m args below meth c T locs cells slots) (hx : p.tables.exec = Jvm.exec) {x : Int64} (hd : decode c.code pc = .ok (.dup2, 1)) (hp : pc + 1 = pc')
    (k : OGo p e below K T (mkF m pc' Ls (.long x :: .long x :: st))) : OGo p e below K T (mkF m pc Ls (.long x :: st)) := by
  subst hp; exact k.via fun _ q => XT.dup2L X.here hx rfl hd rfl q
theorem g_iinc (X : Stand p l e R s m args below meth c T locs cells slots) (hx : p.tables.exec = Jvm.exec) {k : Nat} {cst : Int} {x z : Int32} {Ls' : Array Slot} (v : Int32) (hd : decode c.code pc = .ok (.iinc k cst, 3)) (hp : pc + 3 = pc') (hv : Int32.ofInt cst = v) (hl : Ls[k]? = some (.val (.int x))) (hs : x + v = z) (hl' : storeLocals Ls k (.int z) = some Ls')
    (k : OGo p e below K T (mkF m pc' Ls' st)) : OGo p e below K T (mkF m pc Ls st) := by
  subst hp hs; exact k.via fun _ q => XT.iincV X.here hx rfl v hd hv hl hl' q
theorem g_ifY (X : Stand p l e R s m args below meth c T locs cells slots) (hx : p.tables.exec = Jvm.exec) {cd : ClassFile.Cond} {x : Int32} {o : Int} (hd : decode c.code pc = .ok (.ifCond cd o, 3)) (hc : ifCond.holds cd x = true) (ho : 0 ≤ (pc : Int) + o) (hp : ((pc : Int) + o).toNat = pc')
    (k : OGo p e below K T (mkF m pc' Ls st)) : OGo p e below K T (mkF m pc Ls (.int x :: st)) := k.via fun _ q => XS.ifYes X.here hx rfl rfl hd rfl hc ho hp q
theorem g_ifN (X : Stand p l e R s m args below meth c T locs cells slots) (hx : p.tables.exec = Jvm.exec) {cd : ClassFile.Cond} {x : Int32} {o : Int} (hd : decode c.code pc = .ok (.ifCond cd o, 3)) (hc : ifCond.holds cd x = false) (hp : pc + 3 = pc')
    (k : OGo p e below K T (mkF m pc' Ls st)) : OGo p e below K T (mkF m pc Ls (.int x :: st)) := by
  subst hp; exact k.via fun _ q => XS.ifNo X.here hx rfl hd rfl hc q
theorem g_icmpY (X : Stand p l e R s m args below meth c T locs cells slots) (hx : p.tables.exec = Jvm.exec) {cd : ClassFile.Cond} {x y : Int32} {o : Int} (hd : decode c.code pc = .ok (.if_icmp cd o, 3)) (hc : if_icmp.holds cd x y = true) (ho : 0 ≤ (pc : Int) + o) (hp : ((pc : Int) + o).toNat = pc')
    (k : OGo p e below K T (mkF m pc' Ls st)) : OGo p e below K T (mkF m pc Ls (.int y :: .int x :: st)) := k.via fun _ q => XS.icmpYes X.here hx rfl rfl hd rfl hc ho hp q
theorem g_icmpN (X : Stand p l e R s m args below meth c T locs cells slots) (hx : p.tables.exec = Jvm.exec) {cd : ClassFile.Cond} {x y : Int32} {o : Int} (hd : decode c.code pc = .ok (.if_icmp cd o, 3)) (hc : if_icmp.holds cd x y = false) (hp : pc + 3 = pc')
    (k : OGo p e below K T (mkF m pc' Ls st)) : OGo p e below K T (mkF m pc Ls (.int y :: .int x :: st)) := by
  subst hp; exact k.via fun _ q => XS.icmpNo X.here hx rfl hd rfl hc q
theorem g_acmpY (X : Stand p l e R s m args below meth c T locs cells slots) (hx : p.tables.exec = Jvm.exec) {cd : ClassFile.ACond} {x y : Value} {o : Int} (hd : decode c.code pc = .ok (.if_acmp cd o, 3)) (hx1 : x.isRef = true) (hy1 : y.isRef = true) (hc : XT.acmp cd x y = true) (ho : 0 ≤ (pc : Int) + o) (hp : ((pc : Int) + o).toNat = pc')
    (k : OGo p e below K T (mkF m pc' Ls st)) : OGo p e below K T (mkF m pc Ls (y :: x :: st)) := k.via fun _ q => XT.acmpYes X.here hx rfl rfl hd rfl hx1 hy1 hc ho hp q
theorem g_acmpN (X : Stand p l e R s m args below meth c T locs cells slots) (hx : p.tables.exec = Jvm.exec) {cd : ClassFile.ACond} {x y : Value} {o : Int} (hd : decode c.code pc = .ok (.if_acmp cd o, 3)) (hx1 : x.isRef = true) (hy1 : y.isRef = true) (hc : XT.acmp cd x y = false) (hp : pc + 3 = pc')
    (k : OGo p e below K T (mkF m pc' Ls st)) : OGo p e below K T (mkF m pc Ls (y :: x :: st)) := by
  subst hp; exact k.via fun _ q => XT.acmpNo X.here hx rfl hd rfl hx1 hy1 hc q
theorem g_nullY (X : Stand p l e R s m args below meth c T locs cells slots) (hx : p.tables.exec = Jvm.exec) {o : Int} (hd : decode c.code pc = .ok (.ifnull o, 3)) (ho : 0 ≤ (pc : Int) + o) (hp : ((pc : Int) + o).toNat = pc')
    (k : OGo p e below K T (mkF m pc' Ls st)) : OGo p e below K T (mkF m pc Ls (.null :: st)) := k.via fun _ q => XS.ifnullYes X.here hx rfl rfl hd rfl ho hp q
theorem g_nullN (X : Stand p l e R s m args below meth c T locs cells slots) (hx : p.tables.exec = Jvm.exec) {o : Int} {a : Addr} (hd : decode c.code pc = .ok (.ifnull o, 3)) (hp : pc + 3 = pc')
    (k : OGo p e below K T (mkF m pc' Ls st)) : OGo p e below K T (mkF m pc Ls (.ref a :: st)) := by
  subst hp; exact k.via fun _ q => XS.ifnullNo X.here hx rfl hd rfl q
theorem g_nonnullY (X : Stand p l e R s m args below meth c T locs cells slots) (hx : p.tables.exec = Jvm.exec) {o : Int} {a : Addr} (hd : decode c.code pc = .ok (.ifnonnull o, 3)) (ho : 0 ≤ (pc : Int) + o) (hp : ((pc : Int) + o).toNat = pc')
    (k : OGo p e below K T (mkF m pc' Ls st)) : OGo p e below K T (mkF m pc Ls (.ref a :: st)) := k.via fun _ q => XT.ifnonnullYes X.here hx rfl rfl hd rfl ho hp q
theorem g_nonnullN (X : Stand p l e R s m args below meth c T locs cells slots) (hx : p.tables.exec = Jvm.exec) {o : Int} (hd : decode c.code pc = .ok (.ifnonnull o, 3)) (hp : pc + 3 = pc')
    (k : OGo p e below K T (mkF m pc' Ls st)) : OGo p e below K T (mkF m pc Ls (.null :: st)) := by
  subst hp; exact k.via fun _ q => XT.ifnonnullNo X.here hx rfl hd rfl q
theorem g_goto (X : Stand p l e R s m args below meth c T locs cells slots) (hx : p.tables.exec = Jvm.exec) {o : Int} (hd : decode c.code pc = .ok (.goto o, 3)) (ho : 0 ≤ (pc : Int) + o) (hp : ((pc : Int) + o).toNat = pc')
    (k : OGo p e below K T (mkF m pc' Ls st)) : OGo p e below K T (mkF m pc Ls st) := k.via fun _ q => XS.goto X.here hx rfl rfl hd ho hp q
theorem g_len (X : Stand p l e R s m args below meth c T locs cells slots) (hx : p.tables.exec = Jvm.exec) (hZ : Z.Warmed39 s.vm) (eT : T.heap = h) {a : Addr} {kk : ClassId} {ty : FieldType} {vs : List Value} (F : OAry Z h a kk ty vs) {z : Int32} (hz : vs.length.toInt32 = z) (hd : decode c.code pc = .ok (.arraylength, 1)) (hp : pc + 1 = pc')
    (k : OGo p e below K T (mkF m pc' Ls (.int z :: st))) : OGo p e below K T (mkF m pc Ls (.ref a :: st)) := by
  subst hp hz
  obtain ⟨cl, A, r1, rfl, -⟩ := F
  refine k.via fun t q => X.arraylength hx (cell := cl) (a := a) (by rw [eT]; exact A.1) (State.isArrayOf_alike hZ.alike A.2.1) (g := mkF m pc Ls (.ref a :: st)) rfl (rest := st) rfl hd t ?_
  simpa using q
theorem g_iaload (X : Stand p l e R s m args below meth c T locs cells slots) (hx : p.tables.exec = Jvm.exec) (hZ : Z.Warmed39 s.vm) (eT : T.heap = h) {a : Addr} {kk : ClassId} {vs : List Value} (F : OAry Z h a kk .int vs) {j : Int32} {v : Value} (hj : ¬ j < 0) (hv : vs[j.toNatClampNeg]? = some v) (hd : decode c.code pc = .ok (.iaload, 1)) (hp : pc + 1 = pc')
    (k : OGo p e below K T (mkF m pc' Ls (v :: st))) : OGo p e below K T (mkF m pc Ls (.int j :: .ref a :: st)) := by
  subst hp
  obtain ⟨cl, A, r1, r2, -⟩ := F
  exact k.via fun t q => X.iaload hx (cell := cl) (a := a) (j := j) (v := v) (by rw [eT]; exact A.1) (State.isArrayOf_alike hZ.alike A.2.1) A.2.2 (aryIn r2 hj hv).1 (aryIn r2 hj hv).2 (g := mkF m pc Ls (.int j :: .ref a :: st)) rfl (rest := st) rfl hd t q
theorem g_laload (X : Stand p l e R s m args below meth c T locs cells slots) (hx : p.tables.exec = Jvm.exec) (hZ : Z.Warmed39 s.vm) (eT : T.heap = h) {a : Addr} {kk : ClassId} {vs : List Value} (F : OAry Z h a kk .long vs) {j : Int32} {v : Value} (hj : ¬ j < 0) (hv : vs[j.toNatClampNeg]? = some v) (hd : decode c.code pc = .ok (.laload, 1)) (hp : pc + 1 = pc')
    (k : OGo p e below K T (mkF m pc' Ls (v :: st))) : OGo p e below K T (mkF m pc Ls (.int j :: .ref a :: st)) := by
  subst hp
  obtain ⟨cl, A, r1, r2, -⟩ := F
  exact k.via fun t q => X.laload hx (cell := cl) (a := a) (j := j) (v := v) (by rw [eT]; exact A.1) (State.isArrayOf_alike hZ.alike A.2.1) A.2.2 (aryIn r2 hj hv).1 (aryIn r2 hj hv).2 (g := mkF m pc Ls (.int j :: .ref a :: st)) rfl (rest := st) rfl hd t q
theorem g_caload (X : Stand p l e R s m args below meth c T locs cells slots) (hx : p.tables.exec = Jvm.exec) (hZ : Z.Warmed39 s.vm) (eT : T.heap = h) {a : Addr} {kk : ClassId} {vs : List Value} (F : OAry Z h a kk .char vs) {j : Int32} {v : Value} (hj : ¬ j < 0) (hv : vs[j.toNatClampNeg]? = some v) (hd : decode c.code pc = .ok (.caload, 1)) (hp : pc + 1 = pc')
    (k : OGo p e below K T (mkF m pc' Ls (v :: st))) : OGo p e below K T (mkF m pc Ls (.int j :: .ref a :: st)) := by
  subst hp
  obtain ⟨cl, A, r1, r2, -⟩ := F
  exact k.via fun t q => X.caload hx (cell := cl) (a := a) (j := j) (v := v) (by rw [eT]; exact A.1) (State.isArrayOf_alike hZ.alike A.2.1) A.2.2 (aryIn r2 hj hv).1 (aryIn r2 hj hv).2 (g := mkF m pc Ls (.int j :: .ref a :: st)) rfl (rest := st) rfl hd t q
theorem g_baload (X : Stand p l e R s m args below meth c T locs cells slots) (hx : p.tables.exec = Jvm.exec) (hZ : Z.Warmed39 s.vm) (eT : T.heap = h) {a : Addr} {kk : ClassId} {vs : List Value} (F : OAry Z h a kk .byte vs) {j : Int32} {v : Value} (hj : ¬ j < 0) (hv : vs[j.toNatClampNeg]? = some v) (hd : decode c.code pc = .ok (.baload, 1)) (hp : pc + 1 = pc')
    (k : OGo p e below K T (mkF m pc' Ls (v :: st))) : OGo p e below K T (mkF m pc Ls (.int j :: .ref a :: st)) := by
  subst hp
  obtain ⟨cl, A, r1, r2, -⟩ := F
  exact k.via fun t q => X.baloadBytes hx (cell := cl) (a := a) (j := j) (v := v) (by rw [eT]; exact A.1) (State.isArrayOf_alike hZ.alike A.2.1) A.2.2 (aryIn r2 hj hv).1 (aryIn r2 hj hv).2 (g := mkF m pc Ls (.int j :: .ref a :: st)) rfl (rest := st) rfl hd t q
theorem g_zaload (X : Stand p l e R s m args below meth c T locs cells slots) (hx : p.tables.exec = Jvm.exec) (hZ : Z.Warmed39 s.vm) (eT : T.heap = h) {a : Addr} {kk : ClassId} {vs : List Value} (F : OAry Z h a kk .boolean vs) {j : Int32} {v : Value} (hj : ¬ j < 0) (hv : vs[j.toNatClampNeg]? = some v) (hd : decode c.code pc = .ok (.baload, 1)) (hp : pc + 1 = pc')
    (k : OGo p e below K T (mkF m pc' Ls (v :: st))) : OGo p e below K T (mkF m pc Ls (.int j :: .ref a :: st)) := by
  subst hp
  obtain ⟨cl, A, r1, r2, -⟩ := F
  exact k.via fun t q => X.baloadBooleans hx (cell := cl) (a := a) (j := j) (v := v) (by rw [eT]; exact A.1) (State.isArrayOf_alike hZ.alike A.2.1) A.2.2 (aryIn r2 hj hv).1 (aryIn r2 hj hv).2 (g := mkF m pc Ls (.int j :: .ref a :: st)) rfl (rest := st) rfl hd t q
theorem g_saload (X : Stand p l e R s m args below meth c T locs cells slots) (hx : p.tables.exec = Jvm.exec) (hZ : Z.Warmed39 s.vm) (eT : T.heap = h) {a : Addr} {kk : ClassId} {vs : List Value} (F : OAry Z h a kk .short vs) {j : Int32} {v : Value} (hj : ¬ j < 0) (hv : vs[j.toNatClampNeg]? = some v) (hd : decode c.code pc = .ok (.saload, 1)) (hp : pc + 1 = pc')
    (k : OGo p e below K T (mkF m pc' Ls (v :: st))) : OGo p e below K T (mkF m pc Ls (.int j :: .ref a :: st)) := by
  subst hp
  obtain ⟨cl, A, r1, r2, -⟩ := F
  exact k.via fun t q => X.saload hx (cell := cl) (a := a) (j := j) (v := v) (by rw [eT]; exact A.1) (State.isArrayOf_alike hZ.alike A.2.1) A.2.2 (aryIn r2 hj hv).1 (aryIn r2 hj hv).2 (g := mkF m pc Ls (.int j :: .ref a :: st)) rfl (rest := st) rfl hd t q
theorem g_aaload (X : Stand p l e R s m args below meth c T locs cells slots) (hx : p.tables.exec = Jvm.exec) (hZ : Z.Warmed39 s.vm) (eT : T.heap = h) {a : Addr} {kk : ClassId} {ty : FieldType} {vs : List Value} (F : OAry Z h a kk ty vs) (hty : ty.isReference = true) {j : Int32} {v : Value} (hj : ¬ j < 0) (hv : vs[j.toNatClampNeg]? = some v) (hd : decode c.code pc = .ok (.aaload, 1)) (hp : pc + 1 = pc')
    (k : OGo p e below K T (mkF m pc' Ls (v :: st))) : OGo p e below K T (mkF m pc Ls (.int j :: .ref a :: st)) := by
  subst hp
  obtain ⟨cl, A, r1, r2, -⟩ := F
  exact k.via fun t q => X.aaload hx (cell := cl) (a := a) (j := j) (v := v) (by rw [eT]; exact A.1) (State.isArrayOf_alike hZ.alike A.2.1) hty A.2.2 (aryIn r2 hj hv).1 (aryIn r2 hj hv).2 (g := mkF m pc Ls (.int j :: .ref a :: st)) rfl (rest := st) rfl hd t q
theorem g_iastore (X : Stand p l e R s m args below meth c T locs cells slots) (hx : p.tables.exec = Jvm.exec) (hZ : Z.Warmed39 s.vm) (eT : T.heap = h) {a : Addr} {kk : ClassId} {vs vs' : List Value} (F : OAry Z h a kk .int vs) {j : Int32} {u : Value} {x : Int32} (hj : ¬ j < 0) (hv : vs[j.toNatClampNeg]? = some u) (hvs : vs.set j.toNatClampNeg (.int x) = vs') (P : OPr h0 ws h locs) (q : a ∈ ws ∨ h0.size ≤ a) (hd : decode c.code pc = .ok (.iastore, 1)) (hp : pc + 1 = pc')
    (k : ∀ T' h', Stand p l e R s m args below meth c T' (locs ++ [⟨a, j.toNatClampNeg⟩]) cells slots → T'.heap = h' → Wr h h' a j.toNatClampNeg (.int x) → OPr h0 ws h' (locs ++ [⟨a, j.toNatClampNeg⟩]) → OAry Z h' a kk .int vs' → OGo p e below K T' (mkF m pc' Ls st)) : OGo p e below K T (mkF m pc Ls (.int x :: .int j :: .ref a :: st)) := by
  subst hp
  obtain ⟨cl, A, r1, r2, r3⟩ := F
  obtain ⟨T', h', X', e', W', r⟩ := stI X hx hZ eT A (aryIn r2 hj hv).1 (g := mkF m pc Ls (.int x :: .int j :: .ref a :: st)) rfl rfl hd
  exact (k T' h' X' e' W' (P.wr W' q) (arySet ⟨cl, A, r1, r2, r3⟩ W' rfl hvs)).via r
theorem g_lastore (X : Stand p l e R s m args below meth c T locs cells slots) (hx : p.tables.exec = Jvm.exec) (hZ : Z.Warmed39 s.vm) (eT : T.heap = h) {a : Addr} {kk : ClassId} {vs vs' : List Value} (F : OAry Z h a kk .long vs) {j : Int32} {u : Value} {x : Int64} (hj : ¬ j < 0) (hv : vs[j.toNatClampNeg]? = some u) (hvs : vs.set j.toNatClampNeg (.long x) = vs') (P : OPr h0 ws h locs) (q : a ∈ ws ∨ h0.size ≤ a) (hd : decode c.code pc = .ok (.lastore, 1)) (hp : pc + 1 = pc')
    (k : ∀ T' h', Stand p l e R s m args below meth c T' (locs ++ [⟨a, j.toNatClampNeg⟩]) cells slots → T'.heap = h' → Wr h h' a j.toNatClampNeg (.long x) → OPr h0 ws h' (locs ++ [⟨a, j.toNatClampNeg⟩]) → OAry Z h' a kk .long vs' → OGo p e below K T' (mkF m pc' Ls st)) : OGo p e below K T (mkF m pc Ls (.long x :: .int j :: .ref a :: st)) := by
  subst hp
  obtain ⟨cl, A, r1, r2, r3⟩ := F
  obtain ⟨T', h', X', e', W', r⟩ := stJ X hx hZ eT A (aryIn r2 hj hv).1 (g := mkF m pc Ls (.long x :: .int j :: .ref a :: st)) rfl rfl hd
  exact (k T' h' X' e' W' (P.wr W' q) (arySet ⟨cl, A, r1, r2, r3⟩ W' rfl hvs)).via r
theorem g_aastore (X : Stand p l e R s m args below meth c T locs cells slots) (hx : p.tables.exec = Jvm.exec) (hZ : Z.Warmed39 s.vm) (eT : T.heap = h) {a : Addr} {kk : ClassId} {ty : FieldType} {vs vs' : List Value} (F : OAry Z h a kk ty vs) (hty : ty.isReference = true) {j : Int32} {u x : Value} (hj : ¬ j < 0) (hv : vs[j.toNatClampNeg]? = some u) (hvs : vs.set j.toNatClampNeg x = vs') (hf : fits ty x = true) (S : Sto Z h a x) (P : OPr h0 ws h locs) (q : a ∈ ws ∨ h0.size ≤ a) (hd : decode c.code pc = .ok (.aastore, 1)) (hp : pc + 1 = pc')
    (k : ∀ T' h', Stand p l e R s m args below meth c T' (locs ++ [⟨a, j.toNatClampNeg⟩]) cells slots → T'.heap = h' → Wr h h' a j.toNatClampNeg x → OPr h0 ws h' (locs ++ [⟨a, j.toNatClampNeg⟩]) → OAry Z h' a kk ty vs' → OGo p e below K T' (mkF m pc' Ls st)) : OGo p e below K T (mkF m pc Ls (x :: .int j :: .ref a :: st)) := by
  subst hp
  obtain ⟨cl, A, r1, r2, r3⟩ := F
  obtain ⟨T', h', X', e', W', r⟩ := stR X hx hZ eT A (aryIn r2 hj hv).1 hty S (g := mkF m pc Ls (x :: .int j :: .ref a :: st)) rfl rfl hd
  exact (k T' h' X' e' W' (P.wr W' q) (arySet ⟨cl, A, r1, r2, r3⟩ W' hf hvs)).via r
theorem fit0 (ty : FieldType) : fits ty (defaultValue ty) = true := by cases ty <;> rfl
theorem stoOf {a y : Addr} {kk : ClassId} {ty : FieldType} {vs : List Value} {C : String} (F : OAry Z h a kk ty vs) (O : Ovr Z kk C) (I : Ins Z h y C true) : Sto Z h a (.ref y) := by
  obtain ⟨cl, A, r1, -⟩ := F; exact Sto.ofV A r1 O I
theorem g_newarray (X : Stand p l e R s m args below meth c T locs cells slots) (hx : p.tables.exec = Jvm.exec) (hZ : Z.Warmed39 s.vm) {aty : ArrayType} {ad : String} (had : "[" ++ (newarray.typeOf aty).toString = ad) (w : (Jvm.Cond.arrayClass (newarray.typeOf aty)).before a0 Z = true) (eT : T.heap = h) {n : Int32} {vs : List Value} (hn : ¬ n < 0) (hvs : List.replicate n.toNatClampNeg (defaultValue (newarray.typeOf aty)) = vs) {cap : Nat} (hcap : n.toNatClampNeg ≤ cap) (hb : cap * 8 ≤ 536870912) (P : OPr h0 ws h locs)  (hd : decode c.code pc = .ok (.newarray aty, 2)) (hp : pc + 2 = pc') (hc : cells + 1 ≤ R.cells) (hl : slots + cap ≤ R.slots)
    (k : ∀ T' h' a kk, a = h.size → h0.size ≤ a → Stand p l e R s m args below meth c T' locs (cells + 1) (slots + cap) → T'.heap = h' → Ext h h' → OPr h0 ws h' locs → OAry Z h' a kk (newarray.typeOf aty) vs → Exa Z h' a ad → OGo p e below K T' (mkF m pc' Ls (.ref a :: st))) : OGo p e below K T (mkF m pc Ls (.int n :: st)) := by
  subst hp hvs had
  have hcb : componentBytes (newarray.typeOf aty) ≤ 8 := by cases aty <;> decide
  obtain ⟨cA, kA, comp, h1, h2, h3, X', r⟩ := X.newarrayPrim hx (mvA hZ w) (g := mkF m pc Ls (.int n :: st)) rfl hd rfl hn (Nat.le_trans (Nat.mul_le_mul hcap hcb) hb) hc (by omega)
  subst eT
  rw [hZ.alike.findClass] at h1
  obtain ⟨kZ, z1, -⟩ := Vm.findClass_spec h1
  obtain ⟨k', z2, z3⟩ := hZ.alike.2.2 _ _ z1
  cases h2.symm.trans z2
  have kk : kZ.kind = .array comp (newarray.typeOf aty) := by rw [← h3, z3]
  have hN : (T.heap.push (newA cA (newarray.typeOf aty) n))[T.heap.size]? = some (newA cA (newarray.typeOf aty) n) := by simp
  have A' : Arr Z (T.heap.push (newA cA (newarray.typeOf aty) n)) T.heap.size (newA cA (newarray.typeOf aty) n) (newarray.typeOf aty) := ⟨hN, ⟨by simp [newA], kZ, z1, comp, kk⟩, by simp [newA]⟩
  have E' : Ext T.heap (T.heap.push (newA cA (newarray.typeOf aty) n)) := ext_of fun a q => Array.getElem?_push_lt q |>.trans (Array.getElem?_eq_getElem q).symm
  refine (k _ _ T.heap.size cA rfl P.1.1 (X'.more (Nat.le_refl _) (by omega)) rfl E' (P.ext E') ⟨_, A', rfl, by simp [newA], by have := (back32 hn).2; simpa using this, fun v hv => ?_⟩ (exa_arr A' h1 rfl)).via r
  rw [(List.mem_replicate.mp hv).2]; exact fit0 _
theorem g_anewarray (X : Stand p l e R s m args below meth c T locs cells slots) (hx : p.tables.exec = Jvm.exec) (hZ : Z.Warmed39 s.vm) (hown : s.vm.findClass own = some m.cls) {C : String} {index : Nat} (w1 : (Jvm.Cond.classLink own index C).before a0 Z = true) (w2 : (Jvm.Cond.arrayOver (.object C)).before a0 Z = true) {ad : String} (had : "[" ++ (FieldType.object C).toString = ad) (eT : T.heap = h) {n : Int32} {vs : List Value} (hn : ¬ n < 0) (hvs : List.replicate n.toNatClampNeg Value.null = vs) {cap : Nat} (hcap : n.toNatClampNeg ≤ cap) (hb : cap * 8 ≤ 536870912) (P : OPr h0 ws h locs) (hd : decode c.code pc = .ok (.anewarray index, 3)) (hp : pc + 3 = pc') (hc : cells + 1 ≤ R.cells) (hl : slots + cap ≤ R.slots)
    (k : ∀ T' h' a kk, a = h.size → h0.size ≤ a → Stand p l e R s m args below meth c T' locs (cells + 1) (slots + cap) → T'.heap = h' → Ext h h' → OPr h0 ws h' locs → OAry Z h' a kk (.object C) vs → Ovr Z kk C → Exa Z h' a ad → OGo p e below K T' (mkF m pc' Ls (.ref a :: st))) : OGo p e below K T (mkF m pc Ls (.int n :: st)) := by
  subst hp hvs
  obtain ⟨T', h', cA, X', e', E', A', B', O', r⟩ := newRE X hx hZ hown w1 w2 eT (g := mkF m pc Ls (.int n :: st)) rfl hd rfl hn hcap hb hc hl had
  refine (k T' h' h.size cA rfl P.1.1 X' e' E' (P.ext E') ⟨_, A', rfl, by simp [newA, defaultValue], by have := (back32 hn).2; simpa using this, fun v hv => ?_⟩ O' B').via r
  rw [(List.mem_replicate.mp hv).2]; rfl
theorem g_anewarrayA (X : Stand p l e R s m args below meth c T locs cells slots) (hx : p.tables.exec = Jvm.exec) (hZ : Z.Warmed39 s.vm) (hown : s.vm.findClass own = some m.cls) {C : String} {ty : FieldType} {index : Nat} (hC : (FieldType.array ty).toString = C) (w1 : (Jvm.Cond.classLink own index C).before a0 Z = true) (w2 : (Jvm.Cond.arrayOver (.array ty)).before a0 Z = true) {ad : String} (had : "[" ++ C = ad) (eT : T.heap = h) {n : Int32} {vs : List Value} (hn : ¬ n < 0) (hvs : List.replicate n.toNatClampNeg Value.null = vs) {cap : Nat} (hcap : n.toNatClampNeg ≤ cap) (hb : cap * 8 ≤ 536870912) (P : OPr h0 ws h locs) (hd : decode c.code pc = .ok (.anewarray index, 3)) (hp : pc + 3 = pc') (hc : cells + 1 ≤ R.cells) (hl : slots + cap ≤ R.slots)
    (k : ∀ T' h' a kk, a = h.size → h0.size ≤ a → Stand p l e R s m args below meth c T' locs (cells + 1) (slots + cap) → T'.heap = h' → Ext h h' → OPr h0 ws h' locs → OAry Z h' a kk (.array ty) vs → OvrA Z kk ty C → OGo p e below K T' (mkF m pc' Ls (.ref a :: st))) : OGo p e below K T (mkF m pc Ls (.int n :: st)) := by
  subst hp hvs
  obtain ⟨T', h', cA, X', e', E', A', -, O', r⟩ := newRA X hx hZ hown hC w1 w2 eT (g := mkF m pc Ls (.int n :: st)) rfl hd rfl hn hcap hb hc hl had
  refine (k T' h' h.size cA rfl P.1.1 X' e' E' (P.ext E') ⟨_, A', rfl, by simp [newA, defaultValue], by have := (back32 hn).2; simpa using this, fun v hv => ?_⟩ O').via r
  rw [(List.mem_replicate.mp hv).2]; rfl
theorem stoOfA {a y : Addr} {kk : ClassId} {t0 ty : FieldType} {vs : List Value} {C : String} (F : OAry Z h a kk t0 vs) (O : OvrA Z kk ty C) (I : Ins Z h y C true) : Sto Z h a (.ref y) := by
  obtain ⟨cl, A, r1, -⟩ := F; exact Sto.ofVA A r1 O I
theorem g_castN (X : Stand p l e R s m args below meth c T locs cells slots) (hx : p.tables.exec = Jvm.exec) {index : Nat} (hd : decode c.code pc = .ok (.checkcast index, 3)) (hp : pc + 3 = pc')
    (k : OGo p e below K T (mkF m pc' Ls (.null :: st))) : OGo p e below K T (mkF m pc Ls (.null :: st)) := by
  subst hp; exact k.via fun t q => X.checkcastNull hx (g := mkF m pc Ls (.null :: st)) rfl rfl hd t q
theorem g_instN0 (X : Stand p l e R s m args below meth c T locs cells slots) (hx : p.tables.exec = Jvm.exec) {index : Nat} (hd : decode c.code pc = .ok (.instanceof index, 3)) (hp : pc + 3 = pc')
    (k : OGo p e below K T (mkF m pc' Ls (.int 0 :: st))) : OGo p e below K T (mkF m pc Ls (.null :: st)) := by
  subst hp; exact k.via fun t q => X.instanceofNull hx (g := mkF m pc Ls (.null :: st)) rfl rfl hd t q
theorem g_cast (X : Stand p l e R s m args below meth c T locs cells slots) (hx : p.tables.exec = Jvm.exec) (hZ : Z.Warmed39 s.vm) (hown : s.vm.findClass own = some m.cls) {Kc : String} {index : Nat} (w : (Jvm.Cond.classLink own index Kc).before a0 Z = true) (eT : T.heap = h) {a : Addr} (F : Ins Z h a Kc true) (hd : decode c.code pc = .ok (.checkcast index, 3)) (hp : pc + 3 = pc')
    (k : ∀ T', Stand p l e R s m args below meth c T' locs cells slots → T'.heap = h → OGo p e below K T' (mkF m pc' Ls (.ref a :: st))) : OGo p e below K T (mkF m pc Ls (.ref a :: st)) := by
  subst hp
  obtain ⟨T', X', e', q⟩ := castY X hx hZ hown w eT F (g := mkF m pc Ls (.ref a :: st)) rfl rfl hd
  exact (k T' X' e').via q
theorem g_instY (X : Stand p l e R s m args below meth c T locs cells slots) (hx : p.tables.exec = Jvm.exec) (hZ : Z.Warmed39 s.vm) (hown : s.vm.findClass own = some m.cls) {Kc : String} {index : Nat} (w : (Jvm.Cond.classLink own index Kc).before a0 Z = true) (eT : T.heap = h) {a : Addr} (F : Ins Z h a Kc true) (hd : decode c.code pc = .ok (.instanceof index, 3)) (hp : pc + 3 = pc')
    (k : ∀ T', Stand p l e R s m args below meth c T' locs cells slots → T'.heap = h → OGo p e below K T' (mkF m pc' Ls (.int 1 :: st))) : OGo p e below K T (mkF m pc Ls (.ref a :: st)) := by
  subst hp
  obtain ⟨T', X', e', q⟩ := instY X hx hZ hown w eT F (g := mkF m pc Ls (.ref a :: st)) rfl rfl hd
  exact (k T' X' e').via q

theorem g_clone (X : Stand p l e R s m args below meth c T locs cells slots) (hx : p.tables.exec = Jvm.exec) (hZ : Z.Warmed39 s.vm) (hown : s.vm.findClass own = some m.cls) {ad : String} {index : Nat}
    (w1 : (Jvm.Cond.methodLink own index ⟨ad, "clone", "()Ljava/lang/Object;"⟩).before a0 Z = true) (w2 : (Jvm.Cond.sameMethod ad "java/lang/Object" "clone" "()Ljava/lang/Object;").before a0 Z = true) (w3 : (Jvm.Cond.native ⟨"java/lang/Object", "clone", "()Ljava/lang/Object;"⟩).before a0 Z = true)
    (w4 : (Jvm.Cond.instanceMethod ⟨"java/lang/Object", "clone", "()Ljava/lang/Object;"⟩).before a0 Z = true) (w5 : (Jvm.Cond.selects ad ⟨ad, "clone", "()Ljava/lang/Object;"⟩ ⟨"java/lang/Object", "clone", "()Ljava/lang/Object;"⟩).before a0 Z = true) (w6 : (Jvm.Cond.castable ad "java/lang/Cloneable").before a0 Z = true)
    (eT : T.heap = h) {a : Addr} {kk : ClassId} {ty : FieldType} {vs : List Value} (F : OAry Z h a kk ty vs) (E : Exa Z h a ad) (P : OPr h0 ws h locs) (hsize : Ls.size = c.maxLocals) (hd : decode c.code pc = .ok (.invokevirtual index, 3)) (hp : pc + 3 = pc')
    (hf : 1 ≤ R.frames) {W cap : Nat} (hW : (st.map fun v => v.category).sum ≤ W) (hl : W + 14 ≤ R.locals) (hcap : vs.length ≤ cap) (hc : cells + 1 ≤ R.cells) (hsl : slots + cap ≤ R.slots)
    (k : ∀ T' h' a', a' = h.size → h0.size ≤ a' → Stand p l e R s m args below meth c T' locs (cells + 1) (slots + cap) → T'.heap = h' → Ext h h' → OPr h0 ws h' locs → OAry Z h' a' kk ty vs → Exa Z h' a' ad → OGo p e below K T' (mkF m pc' Ls (.ref a' :: st))) : OGo p e below K T (mkF m pc Ls (.ref a :: st)) := by
  subst hp
  obtain ⟨cl, A, r1, r2, r3, r4⟩ := F
  obtain ⟨T', h', X', e', E', A', B', r⟩ := cloneA X hx hZ hown w1 w2 w3 w4 w5 w6 eT A E (aryFit (k := kk) A r2 r4) (g := mkF m pc Ls (.ref a :: st)) rfl hsize rfl hd hf (W := W) (by show 2 * 0 + _ ≤ _; omega) hl (cap := cap) (by rw [← r2] at hcap; simpa using hcap) hc hsl
  exact (k T' h' h.size rfl P.1.1 X' e' E' (P.ext E') ⟨_, A', r1, r2, r3, r4⟩ B').via r
theorem eqI {first : State} {o : Option Outcome} {idx : List Nat} {t u : Term} {x y : Int32} (ha : t.eval args first o idx s = some (.int x)) (hb : u.eval args first o idx s = some (.int y)) : (Jvm.Cond.eq t u).value args first o s idx = some (decide (x = y)) := by simp [Cond.value, ha, hb]
theorem lenSt {t : Term} {a : Addr} {cl : Cell} {ty : FieldType} {n : Int32} (ev : t.eval args s none [] s = some (.ref a)) (A : Arr s s.heap a cl ty) (q : (Jvm.Cond.eq (.length t) (.int n)).value args s none s [] = some true) : cl.slots.size = n.toInt ∧ cl.slots.size < 2 ^ 31 := by
  have ha : s.arrayAt? a = some cl := A.fin (Vm.Alike.refl _)
  by_cases hl : cl.slots.size < 2 ^ 31
  · have e1 := len_f (idx := []) (first := s) (o := none) ev ha hl
    have e2 : cl.slots.size.toInt32 = n := by rw [eqI e1 (Term.int_eval n)] at q; simpa using q
    exact ⟨by rw [← e2, len_toInt hl], hl⟩
  · have e1 : (Term.length t).eval args s none [] s = none := by simp [Term.eval, ev, ha, hl]
    simp [Cond.value, e1] at q
theorem elemSt {t u : Term} {a : Addr} {cl : Cell} {ty : FieldType} {i : Int32} {v : Value} (ev : t.eval args s none [] s = some (.ref a)) (A : Arr s s.heap a cl ty) (eu : u.eval args s none [] s = some v) (hv : v.isRef = true) (q : (Jvm.Cond.eq (.elem t (.int i)) u).value args s none s [] = some true) : cl.slots[i.toNatClampNeg]? = some v := by
  obtain ⟨x, y, e1, e2, k1, k2⟩ := cmp_v (Or.inl q)
  cases eu.symm.trans e2
  have hx : x.isRef = true := by rcases ref_cases hv with rfl | ⟨b, rfl⟩ <;> exact k2.2
  have r : x = v := by rw [eq_R e1 e2 hx hv] at q; simpa using q
  subst r
  exact (elem_in e1 ev (Term.int_eval i) A.1).2
theorem aryStart {a : Addr} {cl : Cell} {ty : FieldType} {vs : List Value} (hf : Fit s) (A : Arr s s.heap a cl ty) (hs : cl.slots.size < 2 ^ 31) (hl : cl.slots.size = vs.length) (hv : ∀ i, i < vs.length → cl.slots[i]? = vs[i]?) : OAry s s.heap a cl.cls ty vs := by
  have e : cl.slots.toList = vs := by
    apply List.ext_getElem?
    intro i
    by_cases hi : i < vs.length
    · rw [← hv i hi]; simp
    · rw [List.getElem?_eq_none (by simp; omega), List.getElem?_eq_none (by omega)]
  refine ⟨cl, A, rfl, e, by omega, fun v hm => ?_⟩
  rw [← e] at hm
  obtain ⟨i, hi, rfl⟩ := List.getElem_of_mem hm
  have hi' : i < cl.slots.size := by simpa using hi
  have q := hf A.1 hi'
  obtain ⟨hs', k, hk, comp, hkind⟩ := A.2.1
  have e2 : s.slotType? cl.cls cl.vm i = some ty := by
    cases hq : cl.vm <;> first | exact absurd hq (hs' _) | simp [State.slotType?, hk, hkind]
  simp [State.fitsSlot, e2] at q
  simpa using q

theorem wd (hw : ∀ d ∈ tables_1, d.before a0 Z = true) (k : Nat) {d : Jvm.Cond} (q : tables_1[k]? = some d) : d.before a0 Z = true := hw d (List.mem_of_getElem? q)
theorem narR {t : FieldType} {v : Value} (q : v.isRef = true) : narrow t v = v := by rcases ref_cases q with rfl | ⟨a, rfl⟩ <;> cases t <;> rfl
theorem fitR {t : FieldType} {v : Value} (q : v.isRef = true) (r : t.isReference = true) : fits t v = true := by
  rcases ref_cases q with rfl | ⟨a, rfl⟩ <;> cases t <;> first | rfl | cases r
theorem insP {a : Addr} {C : String} {b : Bool} (F : Ins Z h0 a C b) (P : OPr h0 ws h L) : Ins Z h a C b := by
  obtain ⟨cell, cT, h1, h2, h3⟩ := F
  obtain ⟨c', e1, e2, e3, -⟩ := P.1.2.2 _ _ h1
  exact ⟨c', cT, e1, h2, by rw [e2, e3]; exact h3⟩
theorem neAry {a b : Addr} {kk : ClassId} {ty : FieldType} {vs : List Value} {C : String} {n : Nat} (E : Exa Z h b C) (wi : (Jvm.Cond.instantiable C n).before a0 Z = true) (F : OAry Z h a kk ty vs) : b ≠ a := by
  obtain ⟨c, A, -⟩ := F; exact ne_arr E wi A
theorem exSta {C n d Kc : String} (q : (Jvm.Cond.exactly (.static C n d) Kc).value args s none s [] = some true) (hi : (Jvm.Cond.initializedFor C n d).before args s = true ∨ ((Jvm.Cond.initialized C).before args s = true ∧ (Jvm.Cond.laysStatic C n d).before args s = true)) :
    ∃ a, (Term.static C n d).eval args s none [] s = some (.ref a) ∧ Sta s s.heap C n d (.ref a) ∧ Exa s s.heap a Kc := by
  obtain ⟨a, ev⟩ := exa_v q
  exact ⟨a, ev, Sta.start ev hi, Exa.start ev q⟩
theorem eqFld {t : Term} {a : Addr} {C n d : String} {k : Int32} (ev : t.eval args s none [] s = some (.ref a)) (q : (Jvm.Cond.eq (.field t C n d) (.int k)).value args s none s [] = some true) : Fld s s.heap a C n d (.int k) := by
  obtain ⟨x, y, e1, e2, -, k2⟩ := cmp_v (Or.inl q)
  cases e2
  obtain ⟨z, rfl⟩ := k2
  have r : z = k := by rw [eqI e1 (Term.int_eval k)] at q; simpa using q
  subst r
  exact Fld.start ((fld_at ev).symm.trans e1)
theorem eqFldR {t u : Term} {a : Addr} {v : Value} {C n d : String} (ev : t.eval args s none [] s = some (.ref a)) (eu : u.eval args s none [] s = some v) (hv : v.isRef = true) (q : (Jvm.Cond.eq (.field t C n d) u).value args s none s [] = some true) : Fld s s.heap a C n d v := by
  obtain ⟨x, y, e1, e2, k1, k2⟩ := cmp_v (Or.inl q)
  cases eu.symm.trans e2
  have hx : x.isRef = true := by rcases ref_cases hv with rfl | ⟨b, rfl⟩ <;> exact k2.2
  have r : x = v := by rw [eq_R e1 e2 hx hv] at q; simpa using q
  subst r
  exact Fld.start ((fld_at ev).symm.trans e1)
end Own
theorem sub0 (x y : Int64) : x - y = 0 ↔ y = x := by
  constructor
  · intro q; have r := Int64.sub_add_cancel x y; rw [q, Int64.zero_add] at r; exact r
  · rintro rfl; exact Int64.sub_self _
theorem d3_0 : decode jdk_68_method_2_code 0 = .ok (.aload_n 0, 1) := by decide +kernel
theorem d3_1 : decode jdk_68_method_2_code 1 = .ok (.invokespecial 3, 3) := by decide +kernel
theorem d3_4 : decode jdk_68_method_2_code 4 = .ok (.getstatic 18, 3) := by decide +kernel
theorem d3_7 : decode jdk_68_method_2_code 7 = .ok (.ifCond .eq 18, 3) := by decide +kernel
theorem d3_10 : decode jdk_68_method_2_code 10 = .ok (.aload_n 0, 1) := by decide +kernel
theorem d3_11 : decode jdk_68_method_2_code 11 = .ok (.iload_n 1, 1) := by decide +kernel
theorem d3_12 : decode jdk_68_method_2_code 12 = .ok (.newarray .byte, 2) := by decide +kernel
theorem d3_14 : decode jdk_68_method_2_code 14 = .ok (.putfield 15, 3) := by decide +kernel
theorem d3_17 : decode jdk_68_method_2_code 17 = .ok (.aload_n 0, 1) := by decide +kernel
theorem d3_18 : decode jdk_68_method_2_code 18 = .ok (.iconst 0, 1) := by decide +kernel
theorem d3_19 : decode jdk_68_method_2_code 19 = .ok (.putfield 22, 3) := by decide +kernel
theorem d3_22 : decode jdk_68_method_2_code 22 = .ok (.goto 16, 3) := by decide +kernel
theorem d3_38 : decode jdk_68_method_2_code 38 = .ok (.return_, 1) := by decide +kernel
theorem pn_rm_ab : plainFor (⟨"java/lang/AbstractStringBuilder", "<init>", "(I)V"⟩ : MethodName) = true := by first | exact plainFor_of_name (by first | (simp [plainName, overriddenIn]; done) | decide +kernel) | decide +kernel
set_option maxRecDepth 65536 in
set_option maxHeartbeats 40000000 in
theorem rm_ab {l : Launch} {Z : State} {a0 : Array Value} (hw : ∀ d ∈ tables_1, d.before a0 Z = true) (a : Addr) (cs : Int32) {h0 : Heap} (I0 : Exa Z h0 a "java/lang/StringBuilder") (I1 : Fld Z h0 a "java/lang/AbstractStringBuilder" "value" "[B" .null) (I2 : Fld Z h0 a "java/lang/AbstractStringBuilder" "coder" "B" (.int (0 : Int32))) (I3 : Sta Z h0 "java/lang/String" "COMPACT_STRINGS" "Z" (.int cs)) (hcs : ¬ cs = 0) :
    OMet l (⟨"java/lang/AbstractStringBuilder", "<init>", "(I)V"⟩ : MethodName) jdk_68_method_2_code 2 (Option.none : Option Jvm.ClassFile.FieldType) ({ frames := 1, cells := 1, slots := 16, locals := 12 } : Room) #[(.ref a), (.int (16 : Int32))] Z h0 (fun v h L => v = none ∧ OPr h0 [a] h L) := by
  refine OMet.body pn_rm_ab (Ls := #[.val (.ref a), .val (.int (16 : Int32))]) (fun m => by first | (simp [entryFrame, mkF, argsToLocals, Value.category]; done) | rfl) ?_
  intro p e s m below meth c T0 K hK X0 hx hby hml hown hnm hret hlk hZ eh0
  have P0 := OPr.refl h0 [a]
  refine g_aloadN X0 hx (hb hby d3_0) (rfl : 0 + 1 = 1) rfl rfl ?_
  refine g_inito X0 hx hZ hown (wd hw 22 rfl) (wd hw 8 rfl) (wd hw 9 rfl) eh0 (by rw [hml]; rfl) (hb hby d3_1) (rfl : 1 + 3 = 4) (by decide) (W := 0) (Nat.le_of_eq rfl) (by decide) fun T1 X1 eh1 => ?_
  refine g_gets X1 hx hZ hown (host := "") (Or.inl (wd hw 23 rfl)) Via.refl eh1 I3 (hb hby d3_4) (rfl : 4 + 3 = 7) fun T2 X2 eh2 => ?_
  refine g_ifN X2 hx (hb hby d3_7) (XT.i0_eq_f hcs) (rfl : 7 + 3 = 10) ?_
  refine g_aloadN X2 hx (hb hby d3_10) (rfl : 10 + 1 = 11) rfl rfl ?_
  refine g_iloadN X2 hx (hb hby d3_11) (rfl : 11 + 1 = 12) rfl ?_
  refine g_newarray X2 hx hZ (ad := "[B") (by decide) (wd hw 25 rfl) eh2 (vs := [(.int (0 : Int32)), (.int (0 : Int32)), (.int (0 : Int32)), (.int (0 : Int32)), (.int (0 : Int32)), (.int (0 : Int32)), (.int (0 : Int32)), (.int (0 : Int32)), (.int (0 : Int32)), (.int (0 : Int32)), (.int (0 : Int32)), (.int (0 : Int32)), (.int (0 : Int32)), (.int (0 : Int32)), (.int (0 : Int32)), (.int (0 : Int32))]) (by decide) (by rfl) (cap := 16) (by decide) (by decide) P0 (hb hby d3_12) (rfl : 12 + 2 = 14) (by decide) (by decide) fun T3 hh3 a3 k3 q3 g3 X3 eh3 E3 P3 A3 B3 => ?_
  have F4 := (I1.ext E3)
  have F5 := (I0.ext E3)
  refine g_putf X3 hx hZ hown (host := "") (Or.inl (wd hw 26 rfl)) Via.refl eh3 F4 F5 (Or.inl (wd hw 27 rfl)) (wd hw 11 rfl) (ty := (.array .byte)) (by decide) rfl rfl P3 (Or.inl (List.mem_of_getElem? (i := 0) rfl)) (hb hby d3_14) (rfl : 14 + 3 = 17) fun T6 hh6 X6 eh6 W6 P6 F6 => ?_
  refine g_aloadN X6 hx (hb hby d3_17) (rfl : 17 + 1 = 18) rfl rfl ?_
  refine g_iconst X6 hx (0 : Int32) (hb hby d3_18) (rfl : 18 + 1 = 19) (by decide) ?_
  have F7 := ((I2.ext E3).other W6 (Or.inr (slot_ne (Or.inl (wd hw 29 rfl)) (Or.inl (wd hw 27 rfl)) (by decide) (t := .byte) (by decide) (t' := (.array .byte)) (by decide))))
  have F8 := (F5.wr W6)
  refine g_putf X6 hx hZ hown (host := "") (Or.inl (wd hw 28 rfl)) Via.refl eh6 F7 F8 (Or.inl (wd hw 29 rfl)) (wd hw 11 rfl) (ty := .byte) (by decide) (by decide) (by decide) P6 (Or.inl (List.mem_of_getElem? (i := 0) rfl)) (hb hby d3_19) (rfl : 19 + 3 = 22) fun T9 hh9 X9 eh9 W9 P9 F9 => ?_
  refine g_goto X9 hx (hb hby d3_22) (by decide) (pc' := 38) (by decide) ?_
  exact g_ret0 X9 hx hret hlk (hb hby d3_38) (by decide) (by decide) eh9 hK ⟨rfl, P9⟩
theorem d2_0 : decode jdk_67_method_1_code 0 = .ok (.aload_n 0, 1) := by decide +kernel
theorem d2_1 : decode jdk_67_method_1_code 1 = .ok (.bipush 16, 2) := by decide +kernel
theorem d2_3 : decode jdk_67_method_1_code 3 = .ok (.invokespecial 1, 3) := by decide +kernel
theorem d2_6 : decode jdk_67_method_1_code 6 = .ok (.return_, 1) := by decide +kernel
theorem pn_rm_sb : plainFor (⟨"java/lang/StringBuilder", "<init>", "()V"⟩ : MethodName) = true := by first | exact plainFor_of_name (by first | (simp [plainName, overriddenIn]; done) | decide +kernel) | decide +kernel
set_option maxRecDepth 65536 in
set_option maxHeartbeats 40000000 in
theorem rm_sb {l : Launch} {Z : State} {a0 : Array Value} (hw : ∀ d ∈ tables_1, d.before a0 Z = true) (a : Addr) (cs : Int32) {h0 : Heap} (I0 : Exa Z h0 a "java/lang/StringBuilder") (I1 : Fld Z h0 a "java/lang/AbstractStringBuilder" "value" "[B" .null) (I2 : Fld Z h0 a "java/lang/AbstractStringBuilder" "coder" "B" (.int (0 : Int32))) (I3 : Sta Z h0 "java/lang/String" "COMPACT_STRINGS" "Z" (.int cs)) (hcs : ¬ cs = 0) :
    OMet l (⟨"java/lang/StringBuilder", "<init>", "()V"⟩ : MethodName) jdk_67_method_1_code 1 (Option.none : Option Jvm.ClassFile.FieldType) ({ frames := 2, cells := 1, slots := 16, locals := 25 } : Room) #[(.ref a)] Z h0 (fun v h L => v = none ∧ OPr h0 [a] h L) := by
  refine OMet.body pn_rm_sb (Ls := #[.val (.ref a)]) (fun m => by first | (simp [entryFrame, mkF, argsToLocals, Value.category]; done) | rfl) ?_
  intro p e s m below meth c T0 K hK X0 hx hby hml hown hnm hret hlk hZ eh0
  have P0 := OPr.refl h0 [a]
  refine g_aloadN X0 hx (hb hby d2_0) (rfl : 0 + 1 = 1) rfl rfl ?_
  refine g_bipush X0 hx (16 : Int32) (hb hby d2_1) (rfl : 1 + 2 = 3) (by decide) ?_
  refine g_special X0 hx hZ hown eh0 (rm_ab hw a cs I0 I1 I2 I3 hcs) rfl (wd hw 16 rfl) (wd hw 17 rfl) (wd hw 21 rfl) (wd hw 20 rfl) (by decide) (a := a) (argsL := [(.int (16 : Int32))]) (rest := []) rfl rfl (ps := [.int]) (by decide) rfl (W := 0) (Nat.le_of_eq rfl) (by decide) (by decide) (by decide) (by decide) (by rw [hml]; rfl) (hb hby d2_3) (rfl : 3 + 3 = 6) fun v1 T1 hh1 L1 X1 eh1 Q1 => ?_
  obtain ⟨rfl, Pc1⟩ := Q1
  have P1 := P0.call Pc1 (allS (Or.inl (List.mem_of_getElem? (i := 0) rfl)) all0)
  show OGo p e below K T1 (mkF m 6 #[.val (.ref a)] [])
  exact g_ret0 X1 hx hret hlk (hb hby d2_6) (by decide) (by decide) eh1 hK ⟨rfl, P1⟩
theorem d0_0 : decode prog_12_method_1_code 0 = .ok (.aload_n 0, 1) := by decide +kernel
theorem d0_1 : decode prog_12_method_1_code 1 = .ok (.invokespecial 1, 3) := by decide +kernel
theorem d0_4 : decode prog_12_method_1_code 4 = .ok (.aload_n 0, 1) := by decide +kernel
theorem d0_5 : decode prog_12_method_1_code 5 = .ok (.new 7, 3) := by decide +kernel
theorem d0_8 : decode prog_12_method_1_code 8 = .ok (.dup, 1) := by decide +kernel
theorem d0_9 : decode prog_12_method_1_code 9 = .ok (.invokespecial 9, 3) := by decide +kernel
theorem d0_12 : decode prog_12_method_1_code 12 = .ok (.putfield 10, 3) := by decide +kernel
theorem d0_15 : decode prog_12_method_1_code 15 = .ok (.aload_n 0, 1) := by decide +kernel
theorem d0_16 : decode prog_12_method_1_code 16 = .ok (.lload_n 1, 1) := by decide +kernel
theorem d0_17 : decode prog_12_method_1_code 17 = .ok (.ldc2_w 18, 3) := by decide +kernel
theorem d0_20 : decode prog_12_method_1_code 20 = .ok (.lcmp, 1) := by decide +kernel
theorem d0_21 : decode prog_12_method_1_code 21 = .ok (.ifCond .ne 7, 3) := by decide +kernel
theorem d0_24 : decode prog_12_method_1_code 24 = .ok (.iconst 1, 1) := by decide +kernel
theorem d0_25 : decode prog_12_method_1_code 25 = .ok (.goto 4, 3) := by decide +kernel
theorem d0_28 : decode prog_12_method_1_code 28 = .ok (.iconst 0, 1) := by decide +kernel
theorem d0_29 : decode prog_12_method_1_code 29 = .ok (.putfield 20, 3) := by decide +kernel
theorem d0_32 : decode prog_12_method_1_code 32 = .ok (.aload_n 0, 1) := by decide +kernel
theorem d0_33 : decode prog_12_method_1_code 33 = .ok (.aload_n 0, 1) := by decide +kernel
theorem d0_34 : decode prog_12_method_1_code 34 = .ok (.getfield 20, 3) := by decide +kernel
theorem d0_37 : decode prog_12_method_1_code 37 = .ok (.ifCond .eq 9, 3) := by decide +kernel
theorem d0_40 : decode prog_12_method_1_code 40 = .ok (.ldc2_w 18, 3) := by decide +kernel
theorem d0_43 : decode prog_12_method_1_code 43 = .ok (.goto 4, 3) := by decide +kernel
theorem d0_46 : decode prog_12_method_1_code 46 = .ok (.lload_n 1, 1) := by decide +kernel
theorem d0_47 : decode prog_12_method_1_code 47 = .ok (.putfield 24, 3) := by decide +kernel
theorem d0_50 : decode prog_12_method_1_code 50 = .ok (.aload_n 0, 1) := by decide +kernel
theorem d0_51 : decode prog_12_method_1_code 51 = .ok (.lload_n 1, 1) := by decide +kernel
theorem d0_52 : decode prog_12_method_1_code 52 = .ok (.lconst 0, 1) := by decide +kernel
theorem d0_53 : decode prog_12_method_1_code 53 = .ok (.lcmp, 1) := by decide +kernel
theorem d0_54 : decode prog_12_method_1_code 54 = .ok (.ifCond .ne 7, 3) := by decide +kernel
theorem d0_57 : decode prog_12_method_1_code 57 = .ok (.iconst 1, 1) := by decide +kernel
theorem d0_58 : decode prog_12_method_1_code 58 = .ok (.goto 4, 3) := by decide +kernel
theorem d0_61 : decode prog_12_method_1_code 61 = .ok (.iconst 0, 1) := by decide +kernel
theorem d0_62 : decode prog_12_method_1_code 62 = .ok (.putfield 28, 3) := by decide +kernel
theorem d0_65 : decode prog_12_method_1_code 65 = .ok (.return_, 1) := by decide +kernel
theorem pn_rm_br : plainFor (⟨"com/example/twofold/twofold/io/http/BodyReader", "<init>", "(J)V"⟩ : MethodName) = true := by first | exact plainFor_of_name (by first | (simp [plainName, overriddenIn]; done) | decide +kernel) | decide +kernel
set_option maxRecDepth 65536 in
set_option maxHeartbeats 40000000 in
theorem rm_br {l : Launch} {Z : State} {a0 : Array Value} (hw : ∀ d ∈ tables_1, d.before a0 Z = true) (a : Addr) (len : Int64) (cs : Int32) {h0 : Heap} (I0 : Exa Z h0 a "com/example/twofold/twofold/io/http/BodyReader") (I1 : Fld Z h0 a "com/example/twofold/twofold/io/http/BodyReader" "chunked" "Z" (.int (0 : Int32))) (I2 : Fld Z h0 a "com/example/twofold/twofold/io/http/BodyReader" "remaining" "J" (.long (0 : Int64))) (I3 : Fld Z h0 a "com/example/twofold/twofold/io/http/BodyReader" "ended" "Z" (.int (0 : Int32))) (I4 : Fld Z h0 a "com/example/twofold/twofold/io/http/BodyReader" "failure" "Ljava/io/IOException;" .null) (I5 : Fld Z h0 a "com/example/twofold/twofold/io/http/BodyReader" "sizeLine" "Ljava/lang/StringBuilder;" .null) (I6 : Sta Z h0 "java/lang/String" "COMPACT_STRINGS" "Z" (.int cs)) (hcs : ¬ cs = 0) :
    OMet l (⟨"com/example/twofold/twofold/io/http/BodyReader", "<init>", "(J)V"⟩ : MethodName) prog_12_method_1_code 3 (Option.none : Option Jvm.ClassFile.FieldType) ({ frames := 3, cells := 2, slots := 20, locals := 39 } : Room) #[(.ref a), (.long len)] Z h0 (fun v h L => v = none ∧ OPr h0 [a] h L ∧ Fld Z h a "com/example/twofold/twofold/io/http/BodyReader" "chunked" "Z" (.int (if len = -1 then 1 else 0 : Int32)) ∧ Fld Z h a "com/example/twofold/twofold/io/http/BodyReader" "remaining" "J" (.long len) ∧ Fld Z h a "com/example/twofold/twofold/io/http/BodyReader" "ended" "Z" (.int (if len = 0 then 1 else 0 : Int32)) ∧ Fld Z h a "com/example/twofold/twofold/io/http/BodyReader" "failure" "Ljava/io/IOException;" .null) := by
  refine OMet.body pn_rm_br (Ls := #[.val (.ref a), .val (.long len), .second]) (fun m => by first | (simp [entryFrame, mkF, argsToLocals, Value.category]; done) | rfl) ?_
  intro p e s m below meth c T0 K hK X0 hx hby hml hown hnm hret hlk hZ eh0
  have P0 := OPr.refl h0 [a]
  refine g_aloadN X0 hx (hb hby d0_0) (rfl : 0 + 1 = 1) rfl rfl ?_
  refine g_inito X0 hx hZ hown (wd hw 7 rfl) (wd hw 8 rfl) (wd hw 9 rfl) eh0 (by rw [hml]; rfl) (hb hby d0_1) (rfl : 1 + 3 = 4) (by decide) (W := 0) (Nat.le_of_eq rfl) (by decide) fun T1 X1 eh1 => ?_
  refine g_aloadN X1 hx (hb hby d0_4) (rfl : 4 + 1 = 5) rfl rfl ?_
  refine g_new X1 hx hZ hown (wd hw 10 rfl) (wd hw 11 rfl) (wd hw 12 rfl) eh1 P0 (hb hby d0_5) (rfl : 5 + 3 = 8) (by decide) (by decide) fun T2 hh2 a2 q2 g2 X2 eh2 E2 P2 A2 D2 => ?_
  have f3 : Fld Z hh2 a2 "java/lang/AbstractStringBuilder" "value" "[B" .null := D2 (Or.inl (wd hw 27 rfl)) (ty := (.array .byte)) (by decide)
  have f4 : Fld Z hh2 a2 "java/lang/AbstractStringBuilder" "coder" "B" (.int (0 : Int32)) := D2 (Or.inl (wd hw 29 rfl)) (ty := .byte) (by decide)
  refine g_dup X2 hx (hb hby d0_8) (rfl : 8 + 1 = 9) rfl ?_
  have F6 := (I6.ext E2)
  refine g_special X2 hx hZ hown eh2 (rm_sb hw a2 cs A2 f3 f4 F6 hcs) rfl (wd hw 13 rfl) (wd hw 14 rfl) (wd hw 15 rfl) (wd hw 12 rfl) (by decide) (a := a2) (argsL := []) (rest := [(.ref a2), (.ref a)]) rfl rfl (ps := []) (by decide) rfl (W := 2) (Nat.le_of_eq rfl) (by decide) (by decide) (by decide) (by decide) (by rw [hml]; rfl) (hb hby d0_9) (rfl : 9 + 3 = 12) fun v5 T5 hh5 L5 X5 eh5 Q5 => ?_
  obtain ⟨rfl, Pc5⟩ := Q5
  have P5 := P2.call Pc5 (allS (Or.inr g2) all0)
  show OGo p e below K T5 (mkF m 12 #[.val (.ref a), .val (.long len), .second] [(.ref a2), (.ref a)])
  have ne7 : a ≠ a2 := Nat.ne_of_lt (Nat.lt_of_lt_of_le I0.lt (Nat.le_of_eq q2.symm))
  have F8 := (fldP (I5.ext E2) Pc5 (ninS ne7 nin0))
  have F9 := (exaP I0 P5)
  refine g_putf X5 hx hZ hown (host := "") (Or.inl (wd hw 30 rfl)) Via.refl eh5 F8 F9 (Or.inr ⟨(wd hw 31 rfl), rfl, hnm⟩) (wd hw 2 rfl) (ty := (.object "java/lang/StringBuilder")) (by decide) rfl rfl P5 (Or.inl (List.mem_of_getElem? (i := 0) rfl)) (hb hby d0_12) (rfl : 12 + 3 = 15) fun T10 hh10 X10 eh10 W10 P10 F10 => ?_
  refine g_aloadN X10 hx (hb hby d0_15) (rfl : 15 + 1 = 16) rfl rfl ?_
  refine g_lloadN X10 hx (hb hby d0_16) (rfl : 16 + 1 = 17) rfl ?_
  refine g_ldc2J X10 hx hZ hown (wd hw 32 rfl) (hb hby d0_17) (rfl : 17 + 3 = 20) ?_
  refine g_lcmp X10 hx (hb hby d0_20) (rfl : 20 + 1 = 21) ?_
  by_cases hm : len = (-1 : Int64)
  · refine g_ifN X10 hx (hb hby d0_21) (XT.ll_ne_f hm) (rfl : 21 + 3 = 24) ?_
    refine g_iconst X10 hx (1 : Int32) (hb hby d0_24) (rfl : 24 + 1 = 25) (by decide) ?_
    refine g_goto X10 hx (hb hby d0_25) (by decide) (pc' := 29) (by decide) ?_
    have F11 := ((fldP (I1.ext E2) Pc5 (ninS ne7 nin0)).other W10 (Or.inr (slot_ne (Or.inr (wd hw 34 rfl)) (Or.inr (wd hw 31 rfl)) (by decide) (t := .boolean) (by decide) (t' := (.object "java/lang/StringBuilder")) (by decide))))
    have F12 := (F9.wr W10)
    refine g_putf X10 hx hZ hown (host := "") (Or.inl (wd hw 33 rfl)) Via.refl eh10 F11 F12 (Or.inr ⟨(wd hw 34 rfl), rfl, hnm⟩) (wd hw 2 rfl) (ty := .boolean) (by decide) (by decide) (by decide) P10 (Or.inl (List.mem_of_getElem? (i := 0) rfl)) (hb hby d0_29) (rfl : 29 + 3 = 32) fun T13 hh13 X13 eh13 W13 P13 F13 => ?_
    refine g_aloadN X13 hx (hb hby d0_32) (rfl : 32 + 1 = 33) rfl rfl ?_
    refine g_aloadN X13 hx (hb hby d0_33) (rfl : 33 + 1 = 34) rfl rfl ?_
    refine g_getf X13 hx hZ hown (host := "") (Or.inl (wd hw 33 rfl)) Via.refl eh13 F13 (hb hby d0_34) (rfl : 34 + 3 = 37) fun T14 X14 eh14 => ?_
    refine g_ifN X14 hx (hb hby d0_37) (XT.i0_eq_f (by decide)) (rfl : 37 + 3 = 40) ?_
    refine g_ldc2J X14 hx hZ hown (wd hw 32 rfl) (hb hby d0_40) (rfl : 40 + 3 = 43) ?_
    refine g_goto X14 hx (hb hby d0_43) (by decide) (pc' := 47) (by decide) ?_
    have F15 := (((fldP (I2.ext E2) Pc5 (ninS ne7 nin0)).other W10 (Or.inr (slot_ne (Or.inl (wd hw 36 rfl)) (Or.inr (wd hw 31 rfl)) (by decide) (t := .long) (by decide) (t' := (.object "java/lang/StringBuilder")) (by decide)))).other W13 (Or.inr (slot_ne (Or.inl (wd hw 36 rfl)) (Or.inr (wd hw 34 rfl)) (by decide) (t := .long) (by decide) (t' := .boolean) (by decide))))
    have F16 := (F12.wr W13)
    refine g_putf X14 hx hZ hown (host := "") (Or.inl (wd hw 35 rfl)) Via.refl eh14 F15 F16 (Or.inl (wd hw 36 rfl)) (wd hw 2 rfl) (ty := .long) (by decide) rfl rfl P13 (Or.inl (List.mem_of_getElem? (i := 0) rfl)) (hb hby d0_47) (rfl : 47 + 3 = 50) fun T17 hh17 X17 eh17 W17 P17 F17 => ?_
    refine g_aloadN X17 hx (hb hby d0_50) (rfl : 50 + 1 = 51) rfl rfl ?_
    refine g_lloadN X17 hx (hb hby d0_51) (rfl : 51 + 1 = 52) rfl ?_
    refine g_lconst X17 hx (0 : Int64) (hb hby d0_52) (rfl : 52 + 1 = 53) (by decide) ?_
    refine g_lcmp X17 hx (hb hby d0_53) (rfl : 53 + 1 = 54) ?_
    by_cases hz : len = (0 : Int64)
    · refine g_ifN X17 hx (hb hby d0_54) (XT.ll_ne_f hz) (rfl : 54 + 3 = 57) ?_
      refine g_iconst X17 hx (1 : Int32) (hb hby d0_57) (rfl : 57 + 1 = 58) (by decide) ?_
      refine g_goto X17 hx (hb hby d0_58) (by decide) (pc' := 62) (by decide) ?_
      have F18 := ((((fldP (I3.ext E2) Pc5 (ninS ne7 nin0)).other W10 (Or.inr (slot_ne (Or.inl (wd hw 38 rfl)) (Or.inr (wd hw 31 rfl)) (by decide) (t := .boolean) (by decide) (t' := (.object "java/lang/StringBuilder")) (by decide)))).other W13 (Or.inr (slot_ne (Or.inl (wd hw 38 rfl)) (Or.inr (wd hw 34 rfl)) (by decide) (t := .boolean) (by decide) (t' := .boolean) (by decide)))).other W17 (Or.inr (slot_ne (Or.inl (wd hw 38 rfl)) (Or.inl (wd hw 36 rfl)) (by decide) (t := .boolean) (by decide) (t' := .long) (by decide))))
      have F19 := (F16.wr W17)
      refine g_putf X17 hx hZ hown (host := "") (Or.inl (wd hw 37 rfl)) Via.refl eh17 F18 F19 (Or.inl (wd hw 38 rfl)) (wd hw 2 rfl) (ty := .boolean) (by decide) (by decide) (by decide) P17 (Or.inl (List.mem_of_getElem? (i := 0) rfl)) (hb hby d0_62) (rfl : 62 + 3 = 65) fun T20 hh20 X20 eh20 W20 P20 F20 => ?_
      have F21 := ((F13.other W17 (Or.inr (slot_ne (Or.inr (wd hw 34 rfl)) (Or.inl (wd hw 36 rfl)) (by decide) (t := .boolean) (by decide) (t' := .long) (by decide)))).other W20 (Or.inr (slot_ne (Or.inr (wd hw 34 rfl)) (Or.inl (wd hw 38 rfl)) (by decide) (t := .boolean) (by decide) (t' := .boolean) (by decide))))
      have F22 := (F17.other W20 (Or.inr (slot_ne (Or.inl (wd hw 36 rfl)) (Or.inl (wd hw 38 rfl)) (by decide) (t := .long) (by decide) (t' := .boolean) (by decide))))
      have F23 := (((((fldP (I4.ext E2) Pc5 (ninS ne7 nin0)).other W10 (Or.inr (slot_ne (Or.inl (wd hw 45 rfl)) (Or.inr (wd hw 31 rfl)) (by decide) (t := (.object "java/io/IOException")) (by decide) (t' := (.object "java/lang/StringBuilder")) (by decide)))).other W13 (Or.inr (slot_ne (Or.inl (wd hw 45 rfl)) (Or.inr (wd hw 34 rfl)) (by decide) (t := (.object "java/io/IOException")) (by decide) (t' := .boolean) (by decide)))).other W17 (Or.inr (slot_ne (Or.inl (wd hw 45 rfl)) (Or.inl (wd hw 36 rfl)) (by decide) (t := (.object "java/io/IOException")) (by decide) (t' := .long) (by decide)))).other W20 (Or.inr (slot_ne (Or.inl (wd hw 45 rfl)) (Or.inl (wd hw 38 rfl)) (by decide) (t := (.object "java/io/IOException")) (by decide) (t' := .boolean) (by decide))))
      exact g_ret0 X20 hx hret hlk (hb hby d0_65) (by decide) (by decide) eh20 hK ⟨rfl, P20, (by rw [if_pos hm]; exact F21), (by rw [hm]; exact F22), (by rw [if_pos hz]; exact F20), F23⟩
    · refine g_ifY X17 hx (hb hby d0_54) (XT.ll_ne_t hz) (by decide) (pc' := 61) (by decide) ?_
      refine g_iconst X17 hx (0 : Int32) (hb hby d0_61) (rfl : 61 + 1 = 62) (by decide) ?_
      have F24 := ((((fldP (I3.ext E2) Pc5 (ninS ne7 nin0)).other W10 (Or.inr (slot_ne (Or.inl (wd hw 38 rfl)) (Or.inr (wd hw 31 rfl)) (by decide) (t := .boolean) (by decide) (t' := (.object "java/lang/StringBuilder")) (by decide)))).other W13 (Or.inr (slot_ne (Or.inl (wd hw 38 rfl)) (Or.inr (wd hw 34 rfl)) (by decide) (t := .boolean) (by decide) (t' := .boolean) (by decide)))).other W17 (Or.inr (slot_ne (Or.inl (wd hw 38 rfl)) (Or.inl (wd hw 36 rfl)) (by decide) (t := .boolean) (by decide) (t' := .long) (by decide))))
      have F25 := (F16.wr W17)
      refine g_putf X17 hx hZ hown (host := "") (Or.inl (wd hw 37 rfl)) Via.refl eh17 F24 F25 (Or.inl (wd hw 38 rfl)) (wd hw 2 rfl) (ty := .boolean) (by decide) (by decide) (by decide) P17 (Or.inl (List.mem_of_getElem? (i := 0) rfl)) (hb hby d0_62) (rfl : 62 + 3 = 65) fun T26 hh26 X26 eh26 W26 P26 F26 => ?_
      have F27 := ((F13.other W17 (Or.inr (slot_ne (Or.inr (wd hw 34 rfl)) (Or.inl (wd hw 36 rfl)) (by decide) (t := .boolean) (by decide) (t' := .long) (by decide)))).other W26 (Or.inr (slot_ne (Or.inr (wd hw 34 rfl)) (Or.inl (wd hw 38 rfl)) (by decide) (t := .boolean) (by decide) (t' := .boolean) (by decide))))
      have F28 := (F17.other W26 (Or.inr (slot_ne (Or.inl (wd hw 36 rfl)) (Or.inl (wd hw 38 rfl)) (by decide) (t := .long) (by decide) (t' := .boolean) (by decide))))
      have F29 := (((((fldP (I4.ext E2) Pc5 (ninS ne7 nin0)).other W10 (Or.inr (slot_ne (Or.inl (wd hw 45 rfl)) (Or.inr (wd hw 31 rfl)) (by decide) (t := (.object "java/io/IOException")) (by decide) (t' := (.object "java/lang/StringBuilder")) (by decide)))).other W13 (Or.inr (slot_ne (Or.inl (wd hw 45 rfl)) (Or.inr (wd hw 34 rfl)) (by decide) (t := (.object "java/io/IOException")) (by decide) (t' := .boolean) (by decide)))).other W17 (Or.inr (slot_ne (Or.inl (wd hw 45 rfl)) (Or.inl (wd hw 36 rfl)) (by decide) (t := (.object "java/io/IOException")) (by decide) (t' := .long) (by decide)))).other W26 (Or.inr (slot_ne (Or.inl (wd hw 45 rfl)) (Or.inl (wd hw 38 rfl)) (by decide) (t := (.object "java/io/IOException")) (by decide) (t' := .boolean) (by decide))))
      exact g_ret0 X26 hx hret hlk (hb hby d0_65) (by decide) (by decide) eh26 hK ⟨rfl, P26, (by rw [if_pos hm]; exact F27), (by rw [hm]; exact F28), (by rw [if_neg hz]; exact F26), F29⟩
  · refine g_ifY X10 hx (hb hby d0_21) (XT.ll_ne_t hm) (by decide) (pc' := 28) (by decide) ?_
    refine g_iconst X10 hx (0 : Int32) (hb hby d0_28) (rfl : 28 + 1 = 29) (by decide) ?_
    have F30 := ((fldP (I1.ext E2) Pc5 (ninS ne7 nin0)).other W10 (Or.inr (slot_ne (Or.inr (wd hw 34 rfl)) (Or.inr (wd hw 31 rfl)) (by decide) (t := .boolean) (by decide) (t' := (.object "java/lang/StringBuilder")) (by decide))))
    have F31 := (F9.wr W10)
    refine g_putf X10 hx hZ hown (host := "") (Or.inl (wd hw 33 rfl)) Via.refl eh10 F30 F31 (Or.inr ⟨(wd hw 34 rfl), rfl, hnm⟩) (wd hw 2 rfl) (ty := .boolean) (by decide) (by decide) (by decide) P10 (Or.inl (List.mem_of_getElem? (i := 0) rfl)) (hb hby d0_29) (rfl : 29 + 3 = 32) fun T32 hh32 X32 eh32 W32 P32 F32 => ?_
    refine g_aloadN X32 hx (hb hby d0_32) (rfl : 32 + 1 = 33) rfl rfl ?_
    refine g_aloadN X32 hx (hb hby d0_33) (rfl : 33 + 1 = 34) rfl rfl ?_
    refine g_getf X32 hx hZ hown (host := "") (Or.inl (wd hw 33 rfl)) Via.refl eh32 F32 (hb hby d0_34) (rfl : 34 + 3 = 37) fun T33 X33 eh33 => ?_
    refine g_ifY X33 hx (hb hby d0_37) (XT.i0_eq_t (by decide)) (by decide) (pc' := 46) (by decide) ?_
    refine g_lloadN X33 hx (hb hby d0_46) (rfl : 46 + 1 = 47) rfl ?_
    have F34 := (((fldP (I2.ext E2) Pc5 (ninS ne7 nin0)).other W10 (Or.inr (slot_ne (Or.inl (wd hw 36 rfl)) (Or.inr (wd hw 31 rfl)) (by decide) (t := .long) (by decide) (t' := (.object "java/lang/StringBuilder")) (by decide)))).other W32 (Or.inr (slot_ne (Or.inl (wd hw 36 rfl)) (Or.inr (wd hw 34 rfl)) (by decide) (t := .long) (by decide) (t' := .boolean) (by decide))))
    have F35 := (F31.wr W32)
    refine g_putf X33 hx hZ hown (host := "") (Or.inl (wd hw 35 rfl)) Via.refl eh33 F34 F35 (Or.inl (wd hw 36 rfl)) (wd hw 2 rfl) (ty := .long) (by decide) rfl rfl P32 (Or.inl (List.mem_of_getElem? (i := 0) rfl)) (hb hby d0_47) (rfl : 47 + 3 = 50) fun T36 hh36 X36 eh36 W36 P36 F36 => ?_
    refine g_aloadN X36 hx (hb hby d0_50) (rfl : 50 + 1 = 51) rfl rfl ?_
    refine g_lloadN X36 hx (hb hby d0_51) (rfl : 51 + 1 = 52) rfl ?_
    refine g_lconst X36 hx (0 : Int64) (hb hby d0_52) (rfl : 52 + 1 = 53) (by decide) ?_
    refine g_lcmp X36 hx (hb hby d0_53) (rfl : 53 + 1 = 54) ?_
    by_cases hz : len = (0 : Int64)
    · refine g_ifN X36 hx (hb hby d0_54) (XT.ll_ne_f hz) (rfl : 54 + 3 = 57) ?_
      refine g_iconst X36 hx (1 : Int32) (hb hby d0_57) (rfl : 57 + 1 = 58) (by decide) ?_
      refine g_goto X36 hx (hb hby d0_58) (by decide) (pc' := 62) (by decide) ?_
      have F37 := ((((fldP (I3.ext E2) Pc5 (ninS ne7 nin0)).other W10 (Or.inr (slot_ne (Or.inl (wd hw 38 rfl)) (Or.inr (wd hw 31 rfl)) (by decide) (t := .boolean) (by decide) (t' := (.object "java/lang/StringBuilder")) (by decide)))).other W32 (Or.inr (slot_ne (Or.inl (wd hw 38 rfl)) (Or.inr (wd hw 34 rfl)) (by decide) (t := .boolean) (by decide) (t' := .boolean) (by decide)))).other W36 (Or.inr (slot_ne (Or.inl (wd hw 38 rfl)) (Or.inl (wd hw 36 rfl)) (by decide) (t := .boolean) (by decide) (t' := .long) (by decide))))
      have F38 := (F35.wr W36)
      refine g_putf X36 hx hZ hown (host := "") (Or.inl (wd hw 37 rfl)) Via.refl eh36 F37 F38 (Or.inl (wd hw 38 rfl)) (wd hw 2 rfl) (ty := .boolean) (by decide) (by decide) (by decide) P36 (Or.inl (List.mem_of_getElem? (i := 0) rfl)) (hb hby d0_62) (rfl : 62 + 3 = 65) fun T39 hh39 X39 eh39 W39 P39 F39 => ?_
      have F40 := ((F32.other W36 (Or.inr (slot_ne (Or.inr (wd hw 34 rfl)) (Or.inl (wd hw 36 rfl)) (by decide) (t := .boolean) (by decide) (t' := .long) (by decide)))).other W39 (Or.inr (slot_ne (Or.inr (wd hw 34 rfl)) (Or.inl (wd hw 38 rfl)) (by decide) (t := .boolean) (by decide) (t' := .boolean) (by decide))))
      have F41 := (F36.other W39 (Or.inr (slot_ne (Or.inl (wd hw 36 rfl)) (Or.inl (wd hw 38 rfl)) (by decide) (t := .long) (by decide) (t' := .boolean) (by decide))))
      have F42 := (((((fldP (I4.ext E2) Pc5 (ninS ne7 nin0)).other W10 (Or.inr (slot_ne (Or.inl (wd hw 45 rfl)) (Or.inr (wd hw 31 rfl)) (by decide) (t := (.object "java/io/IOException")) (by decide) (t' := (.object "java/lang/StringBuilder")) (by decide)))).other W32 (Or.inr (slot_ne (Or.inl (wd hw 45 rfl)) (Or.inr (wd hw 34 rfl)) (by decide) (t := (.object "java/io/IOException")) (by decide) (t' := .boolean) (by decide)))).other W36 (Or.inr (slot_ne (Or.inl (wd hw 45 rfl)) (Or.inl (wd hw 36 rfl)) (by decide) (t := (.object "java/io/IOException")) (by decide) (t' := .long) (by decide)))).other W39 (Or.inr (slot_ne (Or.inl (wd hw 45 rfl)) (Or.inl (wd hw 38 rfl)) (by decide) (t := (.object "java/io/IOException")) (by decide) (t' := .boolean) (by decide))))
      exact g_ret0 X39 hx hret hlk (hb hby d0_65) (by decide) (by decide) eh39 hK ⟨rfl, P39, (by rw [if_neg hm]; exact F40), F41, (by rw [if_pos hz]; exact F39), F42⟩
    · refine g_ifY X36 hx (hb hby d0_54) (XT.ll_ne_t hz) (by decide) (pc' := 61) (by decide) ?_
      refine g_iconst X36 hx (0 : Int32) (hb hby d0_61) (rfl : 61 + 1 = 62) (by decide) ?_
      have F43 := ((((fldP (I3.ext E2) Pc5 (ninS ne7 nin0)).other W10 (Or.inr (slot_ne (Or.inl (wd hw 38 rfl)) (Or.inr (wd hw 31 rfl)) (by decide) (t := .boolean) (by decide) (t' := (.object "java/lang/StringBuilder")) (by decide)))).other W32 (Or.inr (slot_ne (Or.inl (wd hw 38 rfl)) (Or.inr (wd hw 34 rfl)) (by decide) (t := .boolean) (by decide) (t' := .boolean) (by decide)))).other W36 (Or.inr (slot_ne (Or.inl (wd hw 38 rfl)) (Or.inl (wd hw 36 rfl)) (by decide) (t := .boolean) (by decide) (t' := .long) (by decide))))
      have F44 := (F35.wr W36)
      refine g_putf X36 hx hZ hown (host := "") (Or.inl (wd hw 37 rfl)) Via.refl eh36 F43 F44 (Or.inl (wd hw 38 rfl)) (wd hw 2 rfl) (ty := .boolean) (by decide) (by decide) (by decide) P36 (Or.inl (List.mem_of_getElem? (i := 0) rfl)) (hb hby d0_62) (rfl : 62 + 3 = 65) fun T45 hh45 X45 eh45 W45 P45 F45 => ?_
      have F46 := ((F32.other W36 (Or.inr (slot_ne (Or.inr (wd hw 34 rfl)) (Or.inl (wd hw 36 rfl)) (by decide) (t := .boolean) (by decide) (t' := .long) (by decide)))).other W45 (Or.inr (slot_ne (Or.inr (wd hw 34 rfl)) (Or.inl (wd hw 38 rfl)) (by decide) (t := .boolean) (by decide) (t' := .boolean) (by decide))))
      have F47 := (F36.other W45 (Or.inr (slot_ne (Or.inl (wd hw 36 rfl)) (Or.inl (wd hw 38 rfl)) (by decide) (t := .long) (by decide) (t' := .boolean) (by decide))))
      have F48 := (((((fldP (I4.ext E2) Pc5 (ninS ne7 nin0)).other W10 (Or.inr (slot_ne (Or.inl (wd hw 45 rfl)) (Or.inr (wd hw 31 rfl)) (by decide) (t := (.object "java/io/IOException")) (by decide) (t' := (.object "java/lang/StringBuilder")) (by decide)))).other W32 (Or.inr (slot_ne (Or.inl (wd hw 45 rfl)) (Or.inr (wd hw 34 rfl)) (by decide) (t := (.object "java/io/IOException")) (by decide) (t' := .boolean) (by decide)))).other W36 (Or.inr (slot_ne (Or.inl (wd hw 45 rfl)) (Or.inl (wd hw 36 rfl)) (by decide) (t := (.object "java/io/IOException")) (by decide) (t' := .long) (by decide)))).other W45 (Or.inr (slot_ne (Or.inl (wd hw 45 rfl)) (Or.inl (wd hw 38 rfl)) (by decide) (t := (.object "java/io/IOException")) (by decide) (t' := .boolean) (by decide))))
      exact g_ret0 X45 hx hret hlk (hb hby d0_65) (by decide) (by decide) eh45 hK ⟨rfl, P45, (by rw [if_neg hm]; exact F46), F47, (by rw [if_neg hz]; exact F45), F48⟩
theorem d4_0 : decode prog_12_method_4_code 0 = .ok (.aload_n 0, 1) := by decide +kernel
theorem d4_1 : decode prog_12_method_4_code 1 = .ok (.getfield 28, 3) := by decide +kernel
theorem d4_4 : decode prog_12_method_4_code 4 = .ok (.ifCond .ne 10, 3) := by decide +kernel
theorem d4_7 : decode prog_12_method_4_code 7 = .ok (.aload_n 0, 1) := by decide +kernel
theorem d4_8 : decode prog_12_method_4_code 8 = .ok (.getfield 31, 3) := by decide +kernel
theorem d4_11 : decode prog_12_method_4_code 11 = .ok (.ifnull 7, 3) := by decide +kernel
theorem d4_14 : decode prog_12_method_4_code 14 = .ok (.iconst 1, 1) := by decide +kernel
theorem d4_15 : decode prog_12_method_4_code 15 = .ok (.goto 4, 3) := by decide +kernel
theorem d4_18 : decode prog_12_method_4_code 18 = .ok (.iconst 0, 1) := by decide +kernel
theorem d4_19 : decode prog_12_method_4_code 19 = .ok (.ireturn, 1) := by decide +kernel
theorem pn_rm_over : plainFor (⟨"com/example/twofold/twofold/io/http/BodyReader", "over", "()Z"⟩ : MethodName) = true := by first | exact plainFor_of_name (by first | (simp [plainName, overriddenIn]; done) | decide +kernel) | decide +kernel
set_option maxRecDepth 65536 in
set_option maxHeartbeats 40000000 in
theorem rm_over {l : Launch} {Z : State} {a0 : Array Value} (hw : ∀ d ∈ tables_1, d.before a0 Z = true) (a : Addr) (en : Int32) (vv : Value) {h0 : Heap} (I0 : Fld Z h0 a "com/example/twofold/twofold/io/http/BodyReader" "ended" "Z" (.int en)) (I1 : Fld Z h0 a "com/example/twofold/twofold/io/http/BodyReader" "failure" "Ljava/io/IOException;" vv) (hv : vv.isRef = true) :
    OMet l (⟨"com/example/twofold/twofold/io/http/BodyReader", "over", "()Z"⟩ : MethodName) prog_12_method_4_code 1 (Option.some Jvm.ClassFile.FieldType.boolean) ({ frames := 0, cells := 0, slots := 0, locals := 0 } : Room) #[(.ref a)] Z h0 (fun v h L => v = some (.int (if en = 0 ∧ (vv : Value) = .null then 0 else 1 : Int32)) ∧ OPr h0 [] h L) := by
  refine OMet.body pn_rm_over (Ls := #[.val (.ref a)]) (fun m => by first | (simp [entryFrame, mkF, argsToLocals, Value.category]; done) | rfl) ?_
  intro p e s m below meth c T0 K hK X0 hx hby hml hown hnm hret hlk hZ eh0
  have P0 := OPr.refl h0 []
  refine g_aloadN X0 hx (hb hby d4_0) (rfl : 0 + 1 = 1) rfl rfl ?_
  refine g_getf X0 hx hZ hown (host := "") (Or.inl (wd hw 37 rfl)) Via.refl eh0 I0 (hb hby d4_1) (rfl : 1 + 3 = 4) fun T1 X1 eh1 => ?_
  by_cases h0 : en = (0 : Int32)
  · refine g_ifN X1 hx (hb hby d4_4) (XT.i0_ne_f h0) (rfl : 4 + 3 = 7) ?_
    refine g_aloadN X1 hx (hb hby d4_7) (rfl : 7 + 1 = 8) rfl rfl ?_
    refine g_getf X1 hx hZ hown (host := "") (Or.inl (wd hw 44 rfl)) Via.refl eh1 I1 (hb hby d4_8) (rfl : 8 + 3 = 11) fun T2 X2 eh2 => ?_
    rcases ref_cases hv with rfl | ⟨b, rfl⟩
    · refine g_nullY X2 hx (hb hby d4_11) (by decide) (pc' := 18) (by decide) ?_
      refine g_iconst X2 hx (0 : Int32) (hb hby d4_18) (rfl : 18 + 1 = 19) (by decide) ?_
      exact g_ret X2 hx hret hlk rfl (Or.inl ⟨rfl, Or.inr (Or.inl rfl), _, rfl⟩) (hb hby d4_19) (by decide) (by decide) eh2 hK ⟨(by simp [h0]), P0⟩
    · refine g_nullN X2 hx (hb hby d4_11) (rfl : 11 + 3 = 14) ?_
      refine g_iconst X2 hx (1 : Int32) (hb hby d4_14) (rfl : 14 + 1 = 15) (by decide) ?_
      refine g_goto X2 hx (hb hby d4_15) (by decide) (pc' := 19) (by decide) ?_
      exact g_ret X2 hx hret hlk rfl (Or.inl ⟨rfl, Or.inr (Or.inl rfl), _, rfl⟩) (hb hby d4_19) (by decide) (by decide) eh2 hK ⟨(by simp), P0⟩
  · refine g_ifY X1 hx (hb hby d4_4) (XT.i0_ne_t h0) (by decide) (pc' := 14) (by decide) ?_
    refine g_iconst X1 hx (1 : Int32) (hb hby d4_14) (rfl : 14 + 1 = 15) (by decide) ?_
    refine g_goto X1 hx (hb hby d4_15) (by decide) (pc' := 19) (by decide) ?_
    exact g_ret X1 hx hret hlk rfl (Or.inl ⟨rfl, Or.inr (Or.inl rfl), _, rfl⟩) (hb hby d4_19) (by decide) (by decide) eh1 hK ⟨(by simp [h0]), P0⟩
theorem d5_0 : decode jdk_29_method_70_code 0 = .ok (.lload_n 0, 1) := by decide +kernel
theorem d5_1 : decode jdk_29_method_70_code 1 = .ok (.lload_n 2, 1) := by decide +kernel
theorem d5_2 : decode jdk_29_method_70_code 2 = .ok (.lcmp, 1) := by decide +kernel
theorem d5_3 : decode jdk_29_method_70_code 3 = .ok (.ifCond .gt 7, 3) := by decide +kernel
theorem d5_6 : decode jdk_29_method_70_code 6 = .ok (.lload_n 0, 1) := by decide +kernel
theorem d5_7 : decode jdk_29_method_70_code 7 = .ok (.goto 4, 3) := by decide +kernel
theorem d5_10 : decode jdk_29_method_70_code 10 = .ok (.lload_n 2, 1) := by decide +kernel
theorem d5_11 : decode jdk_29_method_70_code 11 = .ok (.lreturn, 1) := by decide +kernel
theorem pn_rm_min : plainFor (⟨"java/lang/Math", "min", "(JJ)J"⟩ : MethodName) = true := by first | exact plainFor_of_name (by first | (simp [plainName, overriddenIn]; done) | decide +kernel) | exact Jvm.Free.JP.mathPlain rfl (by decide) | decide +kernel
set_option maxRecDepth 65536 in
set_option maxHeartbeats 40000000 in
theorem rm_min {l : Launch} {Z : State} {a0 : Array Value} (hw : ∀ d ∈ tables_1, d.before a0 Z = true) (x : Int64) (y : Int64) {h0 : Heap}   :
    OMet l (⟨"java/lang/Math", "min", "(JJ)J"⟩ : MethodName) jdk_29_method_70_code 4 (Option.some Jvm.ClassFile.FieldType.long) ({ frames := 0, cells := 0, slots := 0, locals := 0 } : Room) #[(.long x), (.long y)] Z h0 (fun v h L => v = some (.long (if y < x then y else x : Int64)) ∧ OPr h0 [] h L) := by
  refine OMet.body pn_rm_min (Ls := #[.val (.long x), .second, .val (.long y), .second]) (fun m => by first | (simp [entryFrame, mkF, argsToLocals, Value.category]; done) | rfl) ?_
  intro p e s m below meth c T0 K hK X0 hx hby hml hown hnm hret hlk hZ eh0
  have P0 := OPr.refl h0 []
  refine g_lloadN X0 hx (hb hby d5_0) (rfl : 0 + 1 = 1) rfl ?_
  refine g_lloadN X0 hx (hb hby d5_1) (rfl : 1 + 1 = 2) rfl ?_
  refine g_lcmp X0 hx (hb hby d5_2) (rfl : 2 + 1 = 3) ?_
  by_cases h : y < x
  · refine g_ifY X0 hx (hb hby d5_3) (XT.ll_gt_t h) (by decide) (pc' := 10) (by decide) ?_
    refine g_lloadN X0 hx (hb hby d5_10) (rfl : 10 + 1 = 11) rfl ?_
    exact g_ret X0 hx hret hlk rfl (Or.inr (Or.inl ⟨rfl, rfl, _, rfl⟩)) (hb hby d5_11) (by decide) (by decide) eh0 hK ⟨(by rw [if_pos h]), P0⟩
  · refine g_ifN X0 hx (hb hby d5_3) (XT.ll_gt_f h) (rfl : 3 + 3 = 6) ?_
    refine g_lloadN X0 hx (hb hby d5_6) (rfl : 6 + 1 = 7) rfl ?_
    refine g_goto X0 hx (hb hby d5_7) (by decide) (pc' := 11) (by decide) ?_
    exact g_ret X0 hx hret hlk rfl (Or.inr (Or.inl ⟨rfl, rfl, _, rfl⟩)) (hb hby d5_11) (by decide) (by decide) eh0 hK ⟨(by rw [if_neg h]), P0⟩
theorem d6_0 : decode prog_12_method_3_code 0 = .ok (.aload_n 0, 1) := by decide +kernel
theorem d6_1 : decode prog_12_method_3_code 1 = .ok (.dup, 1) := by decide +kernel
theorem d6_2 : decode prog_12_method_3_code 2 = .ok (.getfield 24, 3) := by decide +kernel
theorem d6_5 : decode prog_12_method_3_code 5 = .ok (.iload_n 1, 1) := by decide +kernel
theorem d6_6 : decode prog_12_method_3_code 6 = .ok (.i2l, 1) := by decide +kernel
theorem d6_7 : decode prog_12_method_3_code 7 = .ok (.lsub, 1) := by decide +kernel
theorem d6_8 : decode prog_12_method_3_code 8 = .ok (.putfield 24, 3) := by decide +kernel
theorem d6_11 : decode prog_12_method_3_code 11 = .ok (.aload_n 0, 1) := by decide +kernel
theorem d6_12 : decode prog_12_method_3_code 12 = .ok (.getfield 24, 3) := by decide +kernel
theorem d6_15 : decode prog_12_method_3_code 15 = .ok (.lconst 0, 1) := by decide +kernel
theorem d6_16 : decode prog_12_method_3_code 16 = .ok (.lcmp, 1) := by decide +kernel
theorem d6_17 : decode prog_12_method_3_code 17 = .ok (.ifCond .ne 23, 3) := by decide +kernel
theorem d6_20 : decode prog_12_method_3_code 20 = .ok (.aload_n 0, 1) := by decide +kernel
theorem d6_21 : decode prog_12_method_3_code 21 = .ok (.getfield 20, 3) := by decide +kernel
theorem d6_24 : decode prog_12_method_3_code 24 = .ok (.ifCond .eq 11, 3) := by decide +kernel
theorem d6_35 : decode prog_12_method_3_code 35 = .ok (.aload_n 0, 1) := by decide +kernel
theorem d6_36 : decode prog_12_method_3_code 36 = .ok (.iconst 1, 1) := by decide +kernel
theorem d6_37 : decode prog_12_method_3_code 37 = .ok (.putfield 28, 3) := by decide +kernel
theorem d6_40 : decode prog_12_method_3_code 40 = .ok (.return_, 1) := by decide +kernel
theorem pn_rm_taken : plainFor (⟨"com/example/twofold/twofold/io/http/BodyReader", "taken", "(I)V"⟩ : MethodName) = true := by first | exact plainFor_of_name (by first | (simp [plainName, overriddenIn]; done) | decide +kernel) | decide +kernel
set_option maxRecDepth 65536 in
set_option maxHeartbeats 40000000 in
theorem rm_taken {l : Launch} {Z : State} {a0 : Array Value} (hw : ∀ d ∈ tables_1, d.before a0 Z = true) (a : Addr) (rem : Int64) (en : Int32) (k : Int32) (fa : Value) {h0 : Heap} (I0 : Exa Z h0 a "com/example/twofold/twofold/io/http/BodyReader") (I1 : Fld Z h0 a "com/example/twofold/twofold/io/http/BodyReader" "chunked" "Z" (.int (0 : Int32))) (I2 : Fld Z h0 a "com/example/twofold/twofold/io/http/BodyReader" "remaining" "J" (.long rem)) (I3 : Fld Z h0 a "com/example/twofold/twofold/io/http/BodyReader" "ended" "Z" (.int en)) (I4 : Fld Z h0 a "com/example/twofold/twofold/io/http/BodyReader" "failure" "Ljava/io/IOException;" fa) (hfa : fa.isRef = true) :
    OMet l (⟨"com/example/twofold/twofold/io/http/BodyReader", "taken", "(I)V"⟩ : MethodName) prog_12_method_3_code 2 (Option.none : Option Jvm.ClassFile.FieldType) ({ frames := 0, cells := 0, slots := 0, locals := 0 } : Room) #[(.ref a), (.int k)] Z h0 (fun v h L => v = none ∧ OPr h0 [a] h L ∧ Fld Z h a "com/example/twofold/twofold/io/http/BodyReader" "chunked" "Z" (.int (0 : Int32)) ∧ Fld Z h a "com/example/twofold/twofold/io/http/BodyReader" "remaining" "J" (.long (rem - k.toInt64)) ∧ Fld Z h a "com/example/twofold/twofold/io/http/BodyReader" "ended" "Z" (.int (if rem - k.toInt64 = 0 then 1 else en : Int32)) ∧ Fld Z h a "com/example/twofold/twofold/io/http/BodyReader" "failure" "Ljava/io/IOException;" fa) := by
  refine OMet.body pn_rm_taken (Ls := #[.val (.ref a), .val (.int k)]) (fun m => by first | (simp [entryFrame, mkF, argsToLocals, Value.category]; done) | rfl) ?_
  intro p e s m below meth c T0 K hK X0 hx hby hml hown hnm hret hlk hZ eh0
  have P0 := OPr.refl h0 [a]
  refine g_aloadN X0 hx (hb hby d6_0) (rfl : 0 + 1 = 1) rfl rfl ?_
  refine g_dup X0 hx (hb hby d6_1) (rfl : 1 + 1 = 2) rfl ?_
  refine g_getf X0 hx hZ hown (host := "") (Or.inl (wd hw 35 rfl)) Via.refl eh0 I2 (hb hby d6_2) (rfl : 2 + 3 = 5) fun T1 X1 eh1 => ?_
  refine g_iloadN X1 hx (hb hby d6_5) (rfl : 5 + 1 = 6) rfl ?_
  refine g_i2l X1 hx (hb hby d6_6) (rfl : 6 + 1 = 7) ?_
  refine g_lsub X1 hx (hb hby d6_7) (rfl : 7 + 1 = 8) (z := (rem - (k).toInt64)) rfl ?_
  refine g_putf X1 hx hZ hown (host := "") (Or.inl (wd hw 35 rfl)) Via.refl eh1 I2 I0 (Or.inl (wd hw 36 rfl)) (wd hw 2 rfl) (ty := .long) (by decide) rfl rfl P0 (Or.inl (List.mem_of_getElem? (i := 0) rfl)) (hb hby d6_8) (rfl : 8 + 3 = 11) fun T2 hh2 X2 eh2 W2 P2 F2 => ?_
  refine g_aloadN X2 hx (hb hby d6_11) (rfl : 11 + 1 = 12) rfl rfl ?_
  refine g_getf X2 hx hZ hown (host := "") (Or.inl (wd hw 35 rfl)) Via.refl eh2 F2 (hb hby d6_12) (rfl : 12 + 3 = 15) fun T3 X3 eh3 => ?_
  refine g_lconst X3 hx (0 : Int64) (hb hby d6_15) (rfl : 15 + 1 = 16) (by decide) ?_
  refine g_lcmp X3 hx (hb hby d6_16) (rfl : 16 + 1 = 17) ?_
  by_cases hr : (rem - (k).toInt64) = (0 : Int64)
  · refine g_ifN X3 hx (hb hby d6_17) (XT.ll_ne_f hr) (rfl : 17 + 3 = 20) ?_
    refine g_aloadN X3 hx (hb hby d6_20) (rfl : 20 + 1 = 21) rfl rfl ?_
    have F4 := (I1.other W2 (Or.inr (slot_ne (Or.inr (wd hw 34 rfl)) (Or.inl (wd hw 36 rfl)) (by decide) (t := .boolean) (by decide) (t' := .long) (by decide))))
    refine g_getf X3 hx hZ hown (host := "") (Or.inl (wd hw 33 rfl)) Via.refl eh3 F4 (hb hby d6_21) (rfl : 21 + 3 = 24) fun T5 X5 eh5 => ?_
    refine g_ifY X5 hx (hb hby d6_24) (XT.i0_eq_t (by decide)) (by decide) (pc' := 35) (by decide) ?_
    refine g_aloadN X5 hx (hb hby d6_35) (rfl : 35 + 1 = 36) rfl rfl ?_
    refine g_iconst X5 hx (1 : Int32) (hb hby d6_36) (rfl : 36 + 1 = 37) (by decide) ?_
    have F6 := (I3.other W2 (Or.inr (slot_ne (Or.inl (wd hw 38 rfl)) (Or.inl (wd hw 36 rfl)) (by decide) (t := .boolean) (by decide) (t' := .long) (by decide))))
    have F7 := (I0.wr W2)
    refine g_putf X5 hx hZ hown (host := "") (Or.inl (wd hw 37 rfl)) Via.refl eh5 F6 F7 (Or.inl (wd hw 38 rfl)) (wd hw 2 rfl) (ty := .boolean) (by decide) (by decide) (by decide) P2 (Or.inl (List.mem_of_getElem? (i := 0) rfl)) (hb hby d6_37) (rfl : 37 + 3 = 40) fun T8 hh8 X8 eh8 W8 P8 F8 => ?_
    have F9 := (F4.other W8 (Or.inr (slot_ne (Or.inr (wd hw 34 rfl)) (Or.inl (wd hw 38 rfl)) (by decide) (t := .boolean) (by decide) (t' := .boolean) (by decide))))
    have F10 := (F2.other W8 (Or.inr (slot_ne (Or.inl (wd hw 36 rfl)) (Or.inl (wd hw 38 rfl)) (by decide) (t := .long) (by decide) (t' := .boolean) (by decide))))
    have F11 := ((I4.other W2 (Or.inr (slot_ne (Or.inl (wd hw 45 rfl)) (Or.inl (wd hw 36 rfl)) (by decide) (t := (.object "java/io/IOException")) (by decide) (t' := .long) (by decide)))).other W8 (Or.inr (slot_ne (Or.inl (wd hw 45 rfl)) (Or.inl (wd hw 38 rfl)) (by decide) (t := (.object "java/io/IOException")) (by decide) (t' := .boolean) (by decide))))
    exact g_ret0 X8 hx hret hlk (hb hby d6_40) (by decide) (by decide) eh8 hK ⟨rfl, P8, F9, F10, (by rw [if_pos hr]; exact F8), F11⟩
  · refine g_ifY X3 hx (hb hby d6_17) (XT.ll_ne_t hr) (by decide) (pc' := 40) (by decide) ?_
    have F12 := (I1.other W2 (Or.inr (slot_ne (Or.inr (wd hw 34 rfl)) (Or.inl (wd hw 36 rfl)) (by decide) (t := .boolean) (by decide) (t' := .long) (by decide))))
    have F13 := (I3.other W2 (Or.inr (slot_ne (Or.inl (wd hw 38 rfl)) (Or.inl (wd hw 36 rfl)) (by decide) (t := .boolean) (by decide) (t' := .long) (by decide))))
    have F14 := (I4.other W2 (Or.inr (slot_ne (Or.inl (wd hw 45 rfl)) (Or.inl (wd hw 36 rfl)) (by decide) (t := (.object "java/io/IOException")) (by decide) (t' := .long) (by decide))))
    exact g_ret0 X3 hx hret hlk (hb hby d6_40) (by decide) (by decide) eh3 hK ⟨rfl, P2, F12, F2, (by rw [if_neg hr]; exact F13), F14⟩
theorem pn_rm0 : plainFor x = true := by first | exact plainFor_of_name (by first | (simp [plainName, overriddenIn]; done) | decide +kernel) | decide +kernel
set_option maxRecDepth 65536 in
set_option maxHeartbeats 40000000 in
theorem rm0 {l : Launch} {Z : State} {a0 : Array Value} (hw : ∀ d ∈ tables_1, d.before a0 Z = true) (p1 : Int64) (p2 : Int32) (p3 : Int32) (cs : Int32) {h0 : Heap} (I0 : Sta Z h0 "java/lang/String" "COMPACT_STRINGS" "Z" (.int cs)) (hcs : ¬ cs = 0) :
    OMet l x code maxLocals ret room_1 #[(.long p1), (.int p2), (.int p3)] Z h0 (fun v h L => v = some (.int (1 : Int32)) ∧ OPr h0 [] h L) := by
  refine OMet.body pn_rm0 (Ls := #[.val (.long p1), .second, .val (.int p2), .val (.int p3), .unset, .unset, .unset, .unset, .unset, .unset, .unset, .unset]) (fun m => by first | (simp [entryFrame, mkF, argsToLocals, Value.category, maxLocals]; done) | rfl) ?_
  intro p e s m below meth c T0 K hK X0 hx hby hml hown hnm hret hlk hZ eh0
  have P0 := OPr.refl h0 []
  refine g_lloadN X0 hx (hb hby at_0) (rfl : 0 + 1 = 1) rfl ?_
  refine g_ldc2J X0 hx hZ hown (wd hw 0 rfl) (hb hby at_1) (rfl : 1 + 3 = 4) ?_
  refine g_land X0 hx (hb hby at_4) (rfl : 4 + 1 = 5) (z := (p1 &&& (9223372036854775807 : Int64))) rfl ?_
  obtain ⟨len, hlen⟩ : ∃ z : Int64, z = (p1 &&& (9223372036854775807 : Int64)) := ⟨_, rfl⟩
  rw [← hlen]
  refine g_lstore X0 hx (hb hby at_5) (rfl : 5 + 2 = 7) (Ls' := #[.val (.long p1), .second, .val (.int p2), .val (.int p3), .val (.long len), .second, .unset, .unset, .unset, .unset, .unset, .unset]) rfl ?_
  refine g_lload X0 hx (hb hby at_7) (rfl : 7 + 2 = 9) rfl ?_
  refine g_lconst X0 hx (0 : Int64) (hb hby at_9) (rfl : 9 + 1 = 10) (by decide) ?_
  refine g_lcmp X0 hx (hb hby at_10) (rfl : 10 + 1 = 11) ?_
  by_cases h0 : len = (0 : Int64)
  · refine g_ifN X0 hx (hb hby at_11) (XT.ll_ne_f h0) (rfl : 11 + 3 = 14) ?_
    refine g_iconst X0 hx (1 : Int32) (hb hby at_14) (rfl : 14 + 1 = 15) (by decide) ?_
    exact g_ret X0 hx hret hlk rfl (Or.inl ⟨rfl, Or.inr (Or.inl rfl), _, rfl⟩) (hb hby at_15) (by decide) (by decide) eh0 hK ⟨rfl, P0⟩
  · refine g_ifY X0 hx (hb hby at_11) (XT.ll_ne_t h0) (by decide) (pc' := 16) (by decide) ?_
    refine g_new X0 hx hZ hown (wd hw 1 rfl) (wd hw 2 rfl) (wd hw 3 rfl) eh0 P0 (hb hby at_16) (rfl : 16 + 3 = 19) (by decide) (by decide) fun T1 hh1 a1 q1 g1 X1 eh1 E1 P1 A1 D1 => ?_
    have f2 : Fld Z hh1 a1 "com/example/twofold/twofold/io/http/BodyReader" "sizeLine" "Ljava/lang/StringBuilder;" .null := D1 (Or.inr (wd hw 31 rfl)) (ty := (.object "java/lang/StringBuilder")) (by decide)
    have f3 : Fld Z hh1 a1 "com/example/twofold/twofold/io/http/BodyReader" "chunked" "Z" (.int (0 : Int32)) := D1 (Or.inr (wd hw 34 rfl)) (ty := .boolean) (by decide)
    have f4 : Fld Z hh1 a1 "com/example/twofold/twofold/io/http/BodyReader" "remaining" "J" (.long (0 : Int64)) := D1 (Or.inl (wd hw 36 rfl)) (ty := .long) (by decide)
    have f5 : Fld Z hh1 a1 "com/example/twofold/twofold/io/http/BodyReader" "ended" "Z" (.int (0 : Int32)) := D1 (Or.inl (wd hw 38 rfl)) (ty := .boolean) (by decide)
    have f6 : Fld Z hh1 a1 "com/example/twofold/twofold/io/http/BodyReader" "failure" "Ljava/io/IOException;" .null := D1 (Or.inl (wd hw 45 rfl)) (ty := (.object "java/io/IOException")) (by decide)
    have f7 : Fld Z hh1 a1 "com/example/twofold/twofold/io/http/BodyReader" "lineEnd" "I" (.int (0 : Int32)) := D1 (Or.inl (wd hw 57 rfl)) (ty := .int) (by decide)
    refine g_dup X1 hx (hb hby at_19) (rfl : 19 + 1 = 20) rfl ?_
    refine g_lload X1 hx (hb hby at_20) (rfl : 20 + 2 = 22) rfl ?_
    have F9 := (I0.ext E1)
    refine g_special X1 hx hZ hown eh1 (rm_br hw a1 len cs A1 f3 f4 f5 f6 f2 F9 hcs) rfl (wd hw 4 rfl) (wd hw 5 rfl) (wd hw 6 rfl) (wd hw 3 rfl) (by decide) (a := a1) (argsL := [(.long len)]) (rest := [(.ref a1)]) rfl rfl (ps := [.long]) (by decide) rfl (W := 1) (Nat.le_of_eq rfl) (by decide) (by decide) (by decide) (by decide) (by rw [hml]; rfl) (hb hby at_22) (rfl : 22 + 3 = 25) fun v8 T8 hh8 L8 X8 eh8 Q8 => ?_
    obtain ⟨rfl, Pc8, G8_0, G8_1, G8_2, G8_3⟩ := Q8
    have P8 := P1.call Pc8 (allS (Or.inr g1) all0)
    show OGo p e below K T8 (mkF m 25 #[.val (.long p1), .second, .val (.int p2), .val (.int p3), .val (.long len), .second, .unset, .unset, .unset, .unset, .unset, .unset] [(.ref a1)])
    have hm : ¬ len = -1 := by
      have q : len.toInt = p1.toInt % (2 ^ 63 : Nat) := by rw [hlen]; exact c_maskL p1 9223372036854775807 63 (by decide) (by decide)
      intro r; rw [r] at q; have : (-1 : Int64).toInt = -1 := rfl; omega
    have F10 := G8_0
    rw [if_neg hm] at F10
    have F11 := G8_2
    rw [if_neg h0] at F11
    refine g_astore X8 hx (hb hby at_25) (rfl : 25 + 2 = 27) rfl (Ls' := #[.val (.long p1), .second, .val (.int p2), .val (.int p3), .val (.long len), .second, .val (.ref a1), .unset, .unset, .unset, .unset, .unset]) rfl ?_
    refine g_aload X8 hx (hb hby at_27) (rfl : 27 + 2 = 29) rfl rfl ?_
    have F13 := (exaP A1 Pc8)
    refine g_virtual X8 hx hZ hown eh8 (rm_over hw a1 (0 : Int32) .null F11 G8_3 rfl) (C := "com/example/twofold/twofold/io/http/BodyReader") (wd hw 39 rfl) (wd hw 40 rfl) (notFace_of_selects (args := #[]) (mvT hZ (wd hw 42 rfl))) (wd hw 42 rfl) (wd hw 41 rfl) (wd hw 43 rfl) (wd hw 3 rfl) (by decide) (a := a1) F13 (argsL := []) (rest := []) rfl rfl (ps := []) (rt := (some .boolean)) (by decide) rfl (W := 0) (Nat.le_of_eq rfl) (by decide) (by decide) (by decide) (by decide) (by rw [hml]; rfl) (hb hby at_29) (rfl : 29 + 3 = 32) fun v12 T12 hh12 L12 X12 eh12 Q12 => ?_
    obtain ⟨rfl, Pc12⟩ := Q12
    have P12 := P8.call Pc12 all0
    show OGo p e below K T12 (mkF m 32 #[.val (.long p1), .second, .val (.int p2), .val (.int p3), .val (.long len), .second, .val (.ref a1), .unset, .unset, .unset, .unset, .unset] [(.int (if (0 : Int32) = 0 ∧ (.null : Value) = .null then 0 else 1 : Int32))])
    refine g_ifN X12 hx (hb hby at_32) (XT.i0_ne_f (by simp)) (rfl : 32 + 3 = 35) ?_
    refine g_iconst X12 hx (1 : Int32) (hb hby at_35) (rfl : 35 + 1 = 36) (by decide) ?_
    refine g_goto X12 hx (hb hby at_36) (by decide) (pc' := 40) (by decide) ?_
    refine g_istore X12 hx (hb hby at_40) (rfl : 40 + 2 = 42) (Ls' := #[.val (.long p1), .second, .val (.int p2), .val (.int p3), .val (.long len), .second, .val (.ref a1), .val (.int (1 : Int32)), .unset, .unset, .unset, .unset]) rfl ?_
    refine g_lload X12 hx (hb hby at_42) (rfl : 42 + 2 = 44) rfl ?_
    refine g_iloadN X12 hx (hb hby at_44) (rfl : 44 + 1 = 45) rfl ?_
    refine g_ldcI X12 hx hZ hown (wd hw 46 rfl) (hb hby at_45) (rfl : 45 + 2 = 47) ?_
    refine g_iand X12 hx (hb hby at_47) (rfl : 47 + 1 = 48) (z := (p2 &&& (2147483647 : Int32))) rfl ?_
    refine g_i2l X12 hx (hb hby at_48) (rfl : 48 + 1 = 49) ?_
    refine g_static X12 hx hZ hown eh12 (rm_min hw len (((p2 &&& (2147483647 : Int32))).toInt64)) (wd hw 47 rfl) (wd hw 48 rfl) (wd hw 50 rfl) (wd hw 49 rfl) (by decide) (argsL := [(.long len), (.long ((p2 &&& (2147483647 : Int32))).toInt64)]) (rest := []) rfl rfl (ps := [.long, .long]) (rt := (some .long)) (by decide) rfl (W := 0) (Nat.le_of_eq rfl) (by decide) (by decide) (by decide) (by decide) (by rw [hml]; rfl) (hb hby at_49) (rfl : 49 + 3 = 52) fun v14 T14 hh14 L14 X14 eh14 Q14 => ?_
    obtain ⟨rfl, Pc14⟩ := Q14
    have P14 := P12.call Pc14 all0
    show OGo p e below K T14 (mkF m 52 #[.val (.long p1), .second, .val (.int p2), .val (.int p3), .val (.long len), .second, .val (.ref a1), .val (.int (1 : Int32)), .unset, .unset, .unset, .unset] [(.long (if ((p2 &&& (2147483647 : Int32))).toInt64 < len then ((p2 &&& (2147483647 : Int32))).toInt64 else len : Int64))])
    refine g_l2i X14 hx (hb hby at_52) (rfl : 52 + 1 = 53) ?_
    obtain ⟨ka, hka⟩ : ∃ z : Int32, z = ((if ((p2 &&& (2147483647 : Int32))).toInt64 < len then ((p2 &&& (2147483647 : Int32))).toInt64 else len : Int64)).toInt32 := ⟨_, rfl⟩
    rw [← hka]
    refine g_istore X14 hx (hb hby at_53) (rfl : 53 + 2 = 55) (Ls' := #[.val (.long p1), .second, .val (.int p2), .val (.int p3), .val (.long len), .second, .val (.ref a1), .val (.int (1 : Int32)), .val (.int ka), .unset, .unset, .unset]) rfl ?_
    refine g_aload X14 hx (hb hby at_55) (rfl : 55 + 2 = 57) rfl rfl ?_
    refine g_iload X14 hx (hb hby at_57) (rfl : 57 + 2 = 59) rfl ?_
    have F16 := (exaP (exaP F13 Pc12) Pc14)
    have F17 := (fldP (fldP F10 Pc12 nin0) Pc14 nin0)
    have F18 := (fldP (fldP G8_1 Pc12 nin0) Pc14 nin0)
    have F19 := (fldP (fldP F11 Pc12 nin0) Pc14 nin0)
    have F20 := (fldP (fldP G8_3 Pc12 nin0) Pc14 nin0)
    refine g_virtual X14 hx hZ hown eh14 (rm_taken hw a1 len (0 : Int32) ka .null F16 F17 F18 F19 F20 rfl) (C := "com/example/twofold/twofold/io/http/BodyReader") (wd hw 51 rfl) (wd hw 52 rfl) (notFace_of_selects (args := #[]) (mvT hZ (wd hw 54 rfl))) (wd hw 54 rfl) (wd hw 53 rfl) (wd hw 55 rfl) (wd hw 3 rfl) (by decide) (a := a1) F16 (argsL := [(.int ka)]) (rest := []) rfl rfl (ps := [.int]) (rt := none) (by decide) rfl (W := 0) (Nat.le_of_eq rfl) (by decide) (by decide) (by decide) (by decide) (by rw [hml]; rfl) (hb hby at_59) (rfl : 59 + 3 = 62) fun v15 T15 hh15 L15 X15 eh15 Q15 => ?_
    obtain ⟨rfl, Pc15, G15_0, G15_1, G15_2, G15_3⟩ := Q15
    have P15 := P14.call Pc15 (allS (Or.inr g1) all0)
    show OGo p e below K T15 (mkF m 62 #[.val (.long p1), .second, .val (.int p2), .val (.int p3), .val (.long len), .second, .val (.ref a1), .val (.int (1 : Int32)), .val (.int ka), .unset, .unset, .unset] [])
    refine g_iload X15 hx (hb hby at_62) (rfl : 62 + 2 = 64) rfl ?_
    refine g_ifN X15 hx (hb hby at_64) (XT.i0_eq_f (by decide)) (rfl : 64 + 3 = 67) ?_
    refine g_aload X15 hx (hb hby at_67) (rfl : 67 + 2 = 69) rfl rfl ?_
    have F22 := (exaP F16 Pc15)
    refine g_virtual X15 hx hZ hown eh15 (rm_over hw a1 (if len - ka.toInt64 = 0 then 1 else (0 : Int32) : Int32) .null G15_2 G15_3 rfl) (C := "com/example/twofold/twofold/io/http/BodyReader") (wd hw 39 rfl) (wd hw 40 rfl) (notFace_of_selects (args := #[]) (mvT hZ (wd hw 42 rfl))) (wd hw 42 rfl) (wd hw 41 rfl) (wd hw 43 rfl) (wd hw 3 rfl) (by decide) (a := a1) F22 (argsL := []) (rest := []) rfl rfl (ps := []) (rt := (some .boolean)) (by decide) rfl (W := 0) (Nat.le_of_eq rfl) (by decide) (by decide) (by decide) (by decide) (by rw [hml]; rfl) (hb hby at_69) (rfl : 69 + 3 = 72) fun v21 T21 hh21 L21 X21 eh21 Q21 => ?_
    obtain ⟨rfl, Pc21⟩ := Q21
    have P21 := P15.call Pc21 all0
    show OGo p e below K T21 (mkF m 72 #[.val (.long p1), .second, .val (.int p2), .val (.int p3), .val (.long len), .second, .val (.ref a1), .val (.int (1 : Int32)), .val (.int ka), .unset, .unset, .unset] [(.int (if (if len - ka.toInt64 = 0 then 1 else (0 : Int32) : Int32) = 0 ∧ (.null : Value) = .null then 0 else 1 : Int32))])
    refine g_iload X21 hx (hb hby at_72) (rfl : 72 + 2 = 74) rfl ?_
    refine g_i2l X21 hx (hb hby at_74) (rfl : 74 + 1 = 75) ?_
    refine g_lload X21 hx (hb hby at_75) (rfl : 75 + 2 = 77) rfl ?_
    refine g_lcmp X21 hx (hb hby at_77) (rfl : 77 + 1 = 78) ?_
    by_cases he : (ka).toInt64 = len
    · refine g_ifN X21 hx (hb hby at_78) (XT.ll_ne_f he) (rfl : 78 + 3 = 81) ?_
      refine g_iconst X21 hx (1 : Int32) (hb hby at_81) (rfl : 81 + 1 = 82) (by decide) ?_
      refine g_goto X21 hx (hb hby at_82) (by decide) (pc' := 86) (by decide) ?_
      refine g_icmpN X21 hx (hb hby at_86) (XT.ii_ne_f (by rw [if_pos ((sub0 _ _).mpr he)]; simp)) (rfl : 86 + 3 = 89) ?_
      refine g_iconst X21 hx (1 : Int32) (hb hby at_89) (rfl : 89 + 1 = 90) (by decide) ?_
      refine g_goto X21 hx (hb hby at_90) (by decide) (pc' := 94) (by decide) ?_
      refine g_istore X21 hx (hb hby at_94) (rfl : 94 + 2 = 96) (Ls' := #[.val (.long p1), .second, .val (.int p2), .val (.int p3), .val (.long len), .second, .val (.ref a1), .val (.int (1 : Int32)), .val (.int ka), .unset, .unset, .unset]) rfl ?_
      refine g_lload X21 hx (hb hby at_96) (rfl : 96 + 2 = 98) rfl ?_
      refine g_iload X21 hx (hb hby at_98) (rfl : 98 + 2 = 100) rfl ?_
      refine g_i2l X21 hx (hb hby at_100) (rfl : 100 + 1 = 101) ?_
      refine g_lsub X21 hx (hb hby at_101) (rfl : 101 + 1 = 102) (z := (len - (ka).toInt64)) rfl ?_
      refine g_lstore X21 hx (hb hby at_102) (rfl : 102 + 2 = 104) (Ls' := #[.val (.long p1), .second, .val (.int p2), .val (.int p3), .val (.long len), .second, .val (.ref a1), .val (.int (1 : Int32)), .val (.int ka), .val (.long (len - (ka).toInt64)), .second, .unset]) rfl ?_
      refine g_lload X21 hx (hb hby at_104) (rfl : 104 + 2 = 106) rfl ?_
      refine g_lconst X21 hx (0 : Int64) (hb hby at_106) (rfl : 106 + 1 = 107) (by decide) ?_
      refine g_lcmp X21 hx (hb hby at_107) (rfl : 107 + 1 = 108) ?_
      refine g_ifY X21 hx (hb hby at_108) (XT.ll_le_t (by rw [(sub0 _ _).mpr he]; decide)) (by decide) (pc' := 167) (by decide) ?_
      refine g_iload X21 hx (hb hby at_167) (rfl : 167 + 2 = 169) rfl ?_
      exact g_ret X21 hx hret hlk rfl (Or.inl ⟨rfl, Or.inr (Or.inl rfl), _, rfl⟩) (hb hby at_169) (by decide) (by decide) eh21 hK ⟨rfl, P21⟩
    · refine g_ifY X21 hx (hb hby at_78) (XT.ll_ne_t he) (by decide) (pc' := 85) (by decide) ?_
      refine g_iconst X21 hx (0 : Int32) (hb hby at_85) (rfl : 85 + 1 = 86) (by decide) ?_
      refine g_icmpN X21 hx (hb hby at_86) (XT.ii_ne_f (by rw [if_neg (fun q => he ((sub0 _ _).mp q))]; simp)) (rfl : 86 + 3 = 89) ?_
      refine g_iconst X21 hx (1 : Int32) (hb hby at_89) (rfl : 89 + 1 = 90) (by decide) ?_
      refine g_goto X21 hx (hb hby at_90) (by decide) (pc' := 94) (by decide) ?_
      refine g_istore X21 hx (hb hby at_94) (rfl : 94 + 2 = 96) (Ls' := #[.val (.long p1), .second, .val (.int p2), .val (.int p3), .val (.long len), .second, .val (.ref a1), .val (.int (1 : Int32)), .val (.int ka), .unset, .unset, .unset]) rfl ?_
      refine g_lload X21 hx (hb hby at_96) (rfl : 96 + 2 = 98) rfl ?_
      refine g_iload X21 hx (hb hby at_98) (rfl : 98 + 2 = 100) rfl ?_
      refine g_i2l X21 hx (hb hby at_100) (rfl : 100 + 1 = 101) ?_
      refine g_lsub X21 hx (hb hby at_101) (rfl : 101 + 1 = 102) (z := (len - (ka).toInt64)) rfl ?_
      refine g_lstore X21 hx (hb hby at_102) (rfl : 102 + 2 = 104) (Ls' := #[.val (.long p1), .second, .val (.int p2), .val (.int p3), .val (.long len), .second, .val (.ref a1), .val (.int (1 : Int32)), .val (.int ka), .val (.long (len - (ka).toInt64)), .second, .unset]) rfl ?_
      refine g_lload X21 hx (hb hby at_104) (rfl : 104 + 2 = 106) rfl ?_
      refine g_lconst X21 hx (0 : Int64) (hb hby at_106) (rfl : 106 + 1 = 107) (by decide) ?_
      refine g_lcmp X21 hx (hb hby at_107) (rfl : 107 + 1 = 108) ?_
      by_cases hp : (0 : Int64) < (len - (ka).toInt64)
      · refine g_ifN X21 hx (hb hby at_108) (XT.ll_le_f hp) (rfl : 108 + 3 = 111) ?_
        refine g_lload X21 hx (hb hby at_111) (rfl : 111 + 2 = 113) rfl ?_
        refine g_iloadN X21 hx (hb hby at_113) (rfl : 113 + 1 = 114) rfl ?_
        refine g_ldcI X21 hx hZ hown (wd hw 46 rfl) (hb hby at_114) (rfl : 114 + 2 = 116) ?_
        refine g_iand X21 hx (hb hby at_116) (rfl : 116 + 1 = 117) (z := (p3 &&& (2147483647 : Int32))) rfl ?_
        refine g_i2l X21 hx (hb hby at_117) (rfl : 117 + 1 = 118) ?_
        have F23 := (fldP G15_2 Pc21 nin0)
        have F24 := F23
        rw [if_neg (fun q => he ((sub0 _ _).mp q))] at F24
        refine g_static X21 hx hZ hown eh21 (rm_min hw (len - (ka).toInt64) (((p3 &&& (2147483647 : Int32))).toInt64)) (wd hw 47 rfl) (wd hw 48 rfl) (wd hw 50 rfl) (wd hw 49 rfl) (by decide) (argsL := [(.long (len - (ka).toInt64)), (.long ((p3 &&& (2147483647 : Int32))).toInt64)]) (rest := []) rfl rfl (ps := [.long, .long]) (rt := (some .long)) (by decide) rfl (W := 0) (Nat.le_of_eq rfl) (by decide) (by decide) (by decide) (by decide) (by rw [hml]; rfl) (hb hby at_118) (rfl : 118 + 3 = 121) fun v25 T25 hh25 L25 X25 eh25 Q25 => ?_
        obtain ⟨rfl, Pc25⟩ := Q25
        have P25 := P21.call Pc25 all0
        show OGo p e below K T25 (mkF m 121 #[.val (.long p1), .second, .val (.int p2), .val (.int p3), .val (.long len), .second, .val (.ref a1), .val (.int (1 : Int32)), .val (.int ka), .val (.long (len - (ka).toInt64)), .second, .unset] [(.long (if ((p3 &&& (2147483647 : Int32))).toInt64 < (len - (ka).toInt64) then ((p3 &&& (2147483647 : Int32))).toInt64 else (len - (ka).toInt64) : Int64))])
        refine g_l2i X25 hx (hb hby at_121) (rfl : 121 + 1 = 122) ?_
        obtain ⟨kb, hkb⟩ : ∃ z : Int32, z = ((if ((p3 &&& (2147483647 : Int32))).toInt64 < (len - (ka).toInt64) then ((p3 &&& (2147483647 : Int32))).toInt64 else (len - (ka).toInt64) : Int64)).toInt32 := ⟨_, rfl⟩
        rw [← hkb]
        refine g_istore X25 hx (hb hby at_122) (rfl : 122 + 2 = 124) (Ls' := #[.val (.long p1), .second, .val (.int p2), .val (.int p3), .val (.long len), .second, .val (.ref a1), .val (.int (1 : Int32)), .val (.int ka), .val (.long (len - (ka).toInt64)), .second, .val (.int kb)]) rfl ?_
        refine g_aload X25 hx (hb hby at_124) (rfl : 124 + 2 = 126) rfl rfl ?_
        refine g_iload X25 hx (hb hby at_126) (rfl : 126 + 2 = 128) rfl ?_
        have F27 := (exaP (exaP F22 Pc21) Pc25)
        have F28 := (fldP (fldP G15_0 Pc21 nin0) Pc25 nin0)
        have F29 := (fldP (fldP G15_1 Pc21 nin0) Pc25 nin0)
        have F30 := (fldP F24 Pc25 nin0)
        have F31 := (fldP (fldP G15_3 Pc21 nin0) Pc25 nin0)
        refine g_virtual X25 hx hZ hown eh25 (rm_taken hw a1 (len - ka.toInt64) (0 : Int32) kb .null F27 F28 F29 F30 F31 rfl) (C := "com/example/twofold/twofold/io/http/BodyReader") (wd hw 51 rfl) (wd hw 52 rfl) (notFace_of_selects (args := #[]) (mvT hZ (wd hw 54 rfl))) (wd hw 54 rfl) (wd hw 53 rfl) (wd hw 55 rfl) (wd hw 3 rfl) (by decide) (a := a1) F27 (argsL := [(.int kb)]) (rest := []) rfl rfl (ps := [.int]) (rt := none) (by decide) rfl (W := 0) (Nat.le_of_eq rfl) (by decide) (by decide) (by decide) (by decide) (by rw [hml]; rfl) (hb hby at_128) (rfl : 128 + 3 = 131) fun v26 T26 hh26 L26 X26 eh26 Q26 => ?_
        obtain ⟨rfl, Pc26, G26_0, G26_1, G26_2, G26_3⟩ := Q26
        have P26 := P25.call Pc26 (allS (Or.inr g1) all0)
        show OGo p e below K T26 (mkF m 131 #[.val (.long p1), .second, .val (.int p2), .val (.int p3), .val (.long len), .second, .val (.ref a1), .val (.int (1 : Int32)), .val (.int ka), .val (.long (len - (ka).toInt64)), .second, .val (.int kb)] [])
        refine g_iload X26 hx (hb hby at_131) (rfl : 131 + 2 = 133) rfl ?_
        refine g_ifN X26 hx (hb hby at_133) (XT.i0_eq_f (by decide)) (rfl : 133 + 3 = 136) ?_
        refine g_aload X26 hx (hb hby at_136) (rfl : 136 + 2 = 138) rfl rfl ?_
        have F33 := (exaP F27 Pc26)
        refine g_virtual X26 hx hZ hown eh26 (rm_over hw a1 (if (len - ka.toInt64) - kb.toInt64 = 0 then 1 else (0 : Int32) : Int32) .null G26_2 G26_3 rfl) (C := "com/example/twofold/twofold/io/http/BodyReader") (wd hw 39 rfl) (wd hw 40 rfl) (notFace_of_selects (args := #[]) (mvT hZ (wd hw 42 rfl))) (wd hw 42 rfl) (wd hw 41 rfl) (wd hw 43 rfl) (wd hw 3 rfl) (by decide) (a := a1) F33 (argsL := []) (rest := []) rfl rfl (ps := []) (rt := (some .boolean)) (by decide) rfl (W := 0) (Nat.le_of_eq rfl) (by decide) (by decide) (by decide) (by decide) (by rw [hml]; rfl) (hb hby at_138) (rfl : 138 + 3 = 141) fun v32 T32 hh32 L32 X32 eh32 Q32 => ?_
        obtain ⟨rfl, Pc32⟩ := Q32
        have P32 := P26.call Pc32 all0
        show OGo p e below K T32 (mkF m 141 #[.val (.long p1), .second, .val (.int p2), .val (.int p3), .val (.long len), .second, .val (.ref a1), .val (.int (1 : Int32)), .val (.int ka), .val (.long (len - (ka).toInt64)), .second, .val (.int kb)] [(.int (if (if (len - ka.toInt64) - kb.toInt64 = 0 then 1 else (0 : Int32) : Int32) = 0 ∧ (.null : Value) = .null then 0 else 1 : Int32))])
        refine g_lload X32 hx (hb hby at_141) (rfl : 141 + 2 = 143) rfl ?_
        refine g_iload X32 hx (hb hby at_143) (rfl : 143 + 2 = 145) rfl ?_
        refine g_i2l X32 hx (hb hby at_145) (rfl : 145 + 1 = 146) ?_
        refine g_lsub X32 hx (hb hby at_146) (rfl : 146 + 1 = 147) (z := ((len - (ka).toInt64) - (kb).toInt64)) rfl ?_
        refine g_lconst X32 hx (0 : Int64) (hb hby at_147) (rfl : 147 + 1 = 148) (by decide) ?_
        refine g_lcmp X32 hx (hb hby at_148) (rfl : 148 + 1 = 149) ?_
        by_cases hf : ((len - (ka).toInt64) - (kb).toInt64) = (0 : Int64)
        · refine g_ifN X32 hx (hb hby at_149) (XT.ll_ne_f hf) (rfl : 149 + 3 = 152) ?_
          refine g_iconst X32 hx (1 : Int32) (hb hby at_152) (rfl : 152 + 1 = 153) (by decide) ?_
          refine g_goto X32 hx (hb hby at_153) (by decide) (pc' := 157) (by decide) ?_
          refine g_icmpN X32 hx (hb hby at_157) (XT.ii_ne_f (by rw [if_pos hf]; simp)) (rfl : 157 + 3 = 160) ?_
          refine g_iconst X32 hx (1 : Int32) (hb hby at_160) (rfl : 160 + 1 = 161) (by decide) ?_
          refine g_goto X32 hx (hb hby at_161) (by decide) (pc' := 165) (by decide) ?_
          refine g_istore X32 hx (hb hby at_165) (rfl : 165 + 2 = 167) (Ls' := #[.val (.long p1), .second, .val (.int p2), .val (.int p3), .val (.long len), .second, .val (.ref a1), .val (.int (1 : Int32)), .val (.int ka), .val (.long (len - (ka).toInt64)), .second, .val (.int kb)]) rfl ?_
          refine g_iload X32 hx (hb hby at_167) (rfl : 167 + 2 = 169) rfl ?_
          exact g_ret X32 hx hret hlk rfl (Or.inl ⟨rfl, Or.inr (Or.inl rfl), _, rfl⟩) (hb hby at_169) (by decide) (by decide) eh32 hK ⟨rfl, P32⟩
        · refine g_ifY X32 hx (hb hby at_149) (XT.ll_ne_t hf) (by decide) (pc' := 156) (by decide) ?_
          refine g_iconst X32 hx (0 : Int32) (hb hby at_156) (rfl : 156 + 1 = 157) (by decide) ?_
          refine g_icmpN X32 hx (hb hby at_157) (XT.ii_ne_f (by rw [if_neg hf]; simp)) (rfl : 157 + 3 = 160) ?_
          refine g_iconst X32 hx (1 : Int32) (hb hby at_160) (rfl : 160 + 1 = 161) (by decide) ?_
          refine g_goto X32 hx (hb hby at_161) (by decide) (pc' := 165) (by decide) ?_
          refine g_istore X32 hx (hb hby at_165) (rfl : 165 + 2 = 167) (Ls' := #[.val (.long p1), .second, .val (.int p2), .val (.int p3), .val (.long len), .second, .val (.ref a1), .val (.int (1 : Int32)), .val (.int ka), .val (.long (len - (ka).toInt64)), .second, .val (.int kb)]) rfl ?_
          refine g_iload X32 hx (hb hby at_167) (rfl : 167 + 2 = 169) rfl ?_
          exact g_ret X32 hx hret hlk rfl (Or.inl ⟨rfl, Or.inr (Or.inl rfl), _, rfl⟩) (hb hby at_169) (by decide) (by decide) eh32 hK ⟨rfl, P32⟩
      · refine g_ifY X21 hx (hb hby at_108) (XT.ll_le_t hp) (by decide) (pc' := 167) (by decide) ?_
        refine g_iload X21 hx (hb hby at_167) (rfl : 167 + 2 = 169) rfl ?_
        exact g_ret X21 hx hret hlk rfl (Or.inl ⟨rfl, Or.inr (Or.inl rfl), _, rfl⟩) (hb hby at_169) (by decide) (by decide) eh21 hK ⟨rfl, P21⟩
set_option maxRecDepth 65536 in
set_option maxHeartbeats 40000000 in
theorem comes_1 {Post : Tables → Env → Array Value → State → Outcome → State → Prop} (hpost : ∀ tb e args s v u, (limb_1_1.after args s (.returned v) u = true ∧ limb_1_2.after args s (.returned v) u = true ∧ True) → Jvm.Pilot.@@N@@.Jvm.D.Framed s (.returned v) u (Jvm.fieldLocs frame_1_writes args s ++ Jvm.arrayLocs frame_1_arrays args s ++ Jvm.staticLocs frame_1_statics s) 16 128 → Post tb e args s (.returned v) u) :
    ArmFor flags0 classFile x code maxLocals ret World_1 tables_1 room_1 Calls_1 rest_1 Pre_1 Post := by
  intro l hfl _ _ p e ha hc hk s m args below hf hA hF happ hP
  obtain ⟨hcalls, hrest, hpre⟩ := hP
  obtain ⟨-, -, -, hnamed, -, -, -, hat⟩ := (Spec.applies_iff hf).mp happ
  obtain ⟨hg, hn⟩ := and_e (Cond.before_iff.mp (show (Jvm.Cond.and given_1 narrow_1).before args s = true from hpre))
  obtain ⟨h1, hgg⟩ := and_e hg
  obtain ⟨w0, w1, w2, rfl⟩ : ∃ w0 w1 w2 : Value, args = #[w0, w1, w2] := by
    have hs : args.size = 3 := by simpa [Cond.value, given_1] using h1
    obtain ⟨L⟩ := args
    match L, hs with
    | [w0, w1, w2], _ => exact ⟨w0, w1, w2, rfl⟩
  have hw := fun d (hd : d ∈ tables_1) => atoms_spec (ws := Jvm.Cond.code x code maxLocals ret :: tables_1) hat d (List.mem_cons_of_mem _ hd)
  have hfit : Fit s := fun {y c} hc i hi => by
    obtain ⟨ha, rfl⟩ := Array.getElem?_eq_some_iff.mp hc
    have q := List.all_eq_true.mp ((Array.all_eq_true_iff_forall_mem.mp hF) _ (Array.getElem_mem ha)) i (List.mem_range.mpr hi)
    simpa [Array.getElem?_eq_getElem hi] using q
  obtain ⟨ga0, gb0⟩ := and_e hgg
  obtain ⟨i0, ea0⟩ := isL_v ga0
  obtain rfl : w0 = (.long i0) := Option.some.inj ea0
  obtain ⟨ga1, gb1⟩ := and_e gb0
  obtain ⟨i1, ea1⟩ := is_v ga1
  obtain rfl : w1 = (.int i1) := Option.some.inj ea1
  obtain ⟨i2, ea2⟩ := is_v gb1
  obtain rfl : w2 = (.int i2) := Option.some.inj ea2
  obtain ⟨hsets, hown0⟩ := atoms_of _ (rest_1_c_eq ▸ (show rest_1_c.before _ s = true from hrest))
  obtain ⟨cs, ecs⟩ := is_v (Cond.before_iff.mp (hsets _ (List.mem_of_getElem? (i := 1) rfl)))
  have Scs := Sta.start ecs (Or.inl (hsets _ (List.mem_of_getElem? (i := 0) rfl)))
  have hcs : ¬ cs = 0 := by have q := not_v (Cond.before_iff.mp (hsets _ (List.mem_of_getElem? (i := 2) rfl))); rw [eqI ecs (Term.int_eval _)] at q; simpa using q
  obtain ⟨n, o, r1, r2, r3, _, L, rfl, ⟨rfl, Pf⟩, hq⟩ := (rm0 hw i0 i1 i2 cs Scs hcs) tables_1 p e ha hc hk s m _ below hf ((Spec.applies_iff_loose hf).mp happ).1 ⟨rfl, State.Warmed39.refl s, rfl⟩ trivial
  refine ⟨n, _, r1, r2, r3, hpost _ _ _ _ _ _ ⟨Cond.after_iff.mpr rfl, Cond.after_iff.mpr (eq_i res_at (Term.int_eval (1)) rfl), trivial⟩ ⟨hq.1, hq.2.1, (hq.2.2.sift fun y hy => Or.inr (Pf.fr y hy)).mono (by decide) (by decide)⟩⟩
theorem main_1_1 : Claimed_1_1 := comes_1 fun _ _ _ _ _ _ h hF => ⟨h.1, hF⟩
theorem main_1_2 : Claimed_1_2 := comes_1 fun _ _ _ _ _ _ h hF => ⟨h.2.1, hF⟩
end Jvm.Pilot.@@N@@
namespace Jvm.Pilot.@@N@@
open Jvm Jvm.ClassFile Sem Op Lib Jvm.Free Jvm.Stand Jvm.Pilot.@@N@@.Jvm.D
/-! MADE BY PROGRAM (witnessworld.py) out of the Statement's table words and the real class files: 21 classes; the members and pool entries that the words name. The judged class is class 1, her method 1. -/
namespace start1
open Jvm.ClassFile
def u (s : String) : CpInfo := .utf8 (stringToUtf16 s)
/-- a pool by its gaps: so many unusable entries, then the entry; so many at the end -/
def gap : Nat → List CpInfo → List CpInfo
  | 0, r => r
  | n + 1, r => .unusable :: gap n r
def poolList (es : List (Nat × CpInfo)) (last : Nat) : List CpInfo := es.foldr (fun e r => gap e.1 (e.2 :: r)) (gap last [])
def pool (es : List (Nat × CpInfo)) (last : Nat) : Array CpInfo := ⟨poolList es last⟩
def fileOf (pool : Array CpInfo) (this : Nat) (attrs : Array Attribute := #[]) (ms : Array MethodInfo := #[]) (fl : Nat := 33) (sup : Nat := 0) (ifs : Array Nat := #[]) (fds : Array FieldInfo := #[]) : ClassFile where
  minorVersion := 0
  majorVersion := 65
  constantPool := pool
  accessFlags := fl
  thisClass := this
  superClass := sup
  interfaces := ifs
  fields := fds
  methods := ms
  attributes := attrs
def plain (name : String) (sup : Option ClassId) : Class where
  name := name
  kind := .ordinary
  loader := none
  accessFlags := 33
  super := sup
  interfaces := #[]
  cf := none
  fields := #[]
  methods := #[]
  instanceTypes := #[]
  staticTypes := #[]
  resolved := #[]
  callSites := []
  init := .initialized
  statics := none
  mirror := none

def pool0 : Array CpInfo := pool [(5, u "<init>"), (0, u "()V"), (1, .class_ 10), (1, u "java/lang/Object")] 113

def k0c0 : Code := { maxStack := 0, maxLocals := 1, code := object_method_1_code, exceptionTable := #[], attributes := #[] }
def k0m0 : Method := { name := "<init>", desc := "()V", sig := { parameters := [], returnType := none }, accessFlags := 1, code := some k0c0 }
/-- java/lang/Object -/
def k0 : Class := { plain "java/lang/Object" none with
  accessFlags := 33
  interfaces := #[]
  cf := some (fileOf pool0 8 #[] #[{ accessFlags := 1, nameIndex := 5, descriptorIndex := 6, attributes := #[] }] 33 0 #[] #[])
  fields := #[]
  methods := #[k0m0]
  instanceTypes := #[]
  staticTypes := #[]
  resolved := Array.replicate 124 none
  statics := none }

def pool1 : Array CpInfo := pool [(2, .class_ 4), (1, u "java/lang/Object"), (0, u "<init>"), (0, u "()V"), (2, .long 9223372036854775807), (1, .class_ 12), (0, u "com/example/twofold/twofold/io/http/BodyReader"), (0, .methodref 11 14), (0, .nameAndType 5 15), (0, u "(J)V"), (0, .methodref 11 17), (0, .nameAndType 18 19), (0, u "over"), (0, u "()Z"), (0, .integer 2147483647), (0, .methodref 22 23), (0, .class_ 24), (0, .nameAndType 25 26), (0, u "java/lang/Math"), (0, u "min"), (0, u "(JJ)J"), (0, .methodref 11 28), (0, .nameAndType 29 30), (0, u "taken"), (0, u "(I)V"), (0, .class_ 32), (0, u "com/example/twofold/twofold/io/http/BodyReaderTakenPinLaw"), (2, u "law"), (0, u "(JII)Z")] 3

def k1m0 : Method := { name := "<init>", desc := "()V", sig := { parameters := [], returnType := none }, accessFlags := 1, code := none }
def k1c1 : Code := { maxStack := 5, maxLocals := 12, code := code, exceptionTable := #[], attributes := #[] }
def k1m1 : Method := { name := "law", desc := "(JII)Z", sig := { parameters := [.long, .int, .int], returnType := some .boolean }, accessFlags := 9, code := some k1c1 }
/-- com/example/twofold/twofold/io/http/BodyReaderTakenPinLaw -/
def k1 : Class := { plain "com/example/twofold/twofold/io/http/BodyReaderTakenPinLaw" (some 0) with
  accessFlags := 49
  interfaces := #[]
  cf := some (fileOf pool1 31 #[] #[{ accessFlags := 1, nameIndex := 5, descriptorIndex := 6, attributes := #[] }, { accessFlags := 9, nameIndex := 35, descriptorIndex := 36, attributes := #[] }] 49 2 #[] #[])
  fields := #[]
  methods := #[k1m0, k1m1]
  instanceTypes := #[]
  staticTypes := #[]
  resolved := Array.replicate 40 none
  statics := none }

def pool2 : Array CpInfo := pool [(1, .methodref 2 3), (0, .class_ 4), (0, .nameAndType 5 6), (0, u "java/lang/Object"), (0, u "<init>"), (0, u "()V"), (0, .class_ 8), (0, u "java/lang/StringBuilder"), (0, .methodref 7 3), (0, .fieldref 11 12), (0, .class_ 13), (0, .nameAndType 14 15), (0, u "com/example/twofold/twofold/io/http/BodyReader"), (0, u "sizeLine"), (0, u "Ljava/lang/StringBuilder;"), (2, .long 18446744073709551615), (1, .fieldref 11 21), (0, .nameAndType 22 23), (0, u "chunked"), (0, u "Z"), (0, .fieldref 11 25), (0, .nameAndType 26 27), (0, u "remaining"), (0, u "J"), (0, .fieldref 11 29), (0, .nameAndType 30 23), (0, u "ended"), (0, .fieldref 11 32), (0, .nameAndType 33 34), (0, u "failure"), (0, u "Ljava/io/IOException;"), (5, u "()Z"), (19, .fieldref 11 61), (0, .nameAndType 62 63), (0, u "lineEnd"), (0, u "I"), (11, u "last"), (24, u "(I)V"), (22, u "MAX_SIZE_DIGITS"), (2, u "MAX_SIZE_LINE"), (1, u "(J)V"), (6, u "taken"), (0, u "over")] 4

def k2c0 : Code := { maxStack := 5, maxLocals := 3, code := prog_12_method_1_code, exceptionTable := #[], attributes := #[] }
def k2m0 : Method := { name := "<init>", desc := "(J)V", sig := { parameters := [.long], returnType := none }, accessFlags := 0, code := some k2c0 }
def k2c1 : Code := { maxStack := 5, maxLocals := 2, code := prog_12_method_3_code, exceptionTable := #[], attributes := #[] }
def k2m1 : Method := { name := "taken", desc := "(I)V", sig := { parameters := [.int], returnType := none }, accessFlags := 0, code := some k2c1 }
def k2c2 : Code := { maxStack := 1, maxLocals := 1, code := prog_12_method_4_code, exceptionTable := #[], attributes := #[] }
def k2m2 : Method := { name := "over", desc := "()Z", sig := { parameters := [], returnType := some .boolean }, accessFlags := 0, code := some k2c2 }
/-- com/example/twofold/twofold/io/http/BodyReader -/
def k2 : Class := { plain "com/example/twofold/twofold/io/http/BodyReader" (some 0) with
  accessFlags := 48
  interfaces := #[]
  cf := some (fileOf pool2 11 #[] #[{ accessFlags := 0, nameIndex := 5, descriptorIndex := 128, attributes := #[] }, { accessFlags := 0, nameIndex := 135, descriptorIndex := 100, attributes := #[] }, { accessFlags := 0, nameIndex := 136, descriptorIndex := 40, attributes := #[] }] 48 2 #[] #[{ accessFlags := 26, nameIndex := 123, descriptorIndex := 63, attributes := #[] }, { accessFlags := 26, nameIndex := 126, descriptorIndex := 63, attributes := #[] }, { accessFlags := 18, nameIndex := 22, descriptorIndex := 23, attributes := #[] }, { accessFlags := 2, nameIndex := 26, descriptorIndex := 27, attributes := #[] }, { accessFlags := 18, nameIndex := 14, descriptorIndex := 15, attributes := #[] }, { accessFlags := 2, nameIndex := 62, descriptorIndex := 63, attributes := #[] }, { accessFlags := 2, nameIndex := 75, descriptorIndex := 23, attributes := #[] }, { accessFlags := 2, nameIndex := 30, descriptorIndex := 23, attributes := #[] }, { accessFlags := 2, nameIndex := 33, descriptorIndex := 34, attributes := #[] }])
  fields := #[{ name := "MAX_SIZE_DIGITS", type := .int, accessFlags := 26, slot := 0, constantValue := 0 }, { name := "MAX_SIZE_LINE", type := .int, accessFlags := 26, slot := 1, constantValue := 0 }, { name := "chunked", type := .boolean, accessFlags := 18, slot := 0, constantValue := 0 }, { name := "remaining", type := .long, accessFlags := 2, slot := 1, constantValue := 0 }, { name := "sizeLine", type := (.object "java/lang/StringBuilder"), accessFlags := 18, slot := 2, constantValue := 0 }, { name := "lineEnd", type := .int, accessFlags := 2, slot := 3, constantValue := 0 }, { name := "last", type := .boolean, accessFlags := 2, slot := 4, constantValue := 0 }, { name := "ended", type := .boolean, accessFlags := 2, slot := 5, constantValue := 0 }, { name := "failure", type := (.object "java/io/IOException"), accessFlags := 2, slot := 6, constantValue := 0 }]
  methods := #[k2m0, k2m1, k2m2]
  instanceTypes := #[.boolean, .long, (.object "java/lang/StringBuilder"), .int, .boolean, .boolean, (.object "java/io/IOException")]
  staticTypes := #[.int, .int]
  resolved := Array.replicate 141 none
  statics := none }

def pool3 : Array CpInfo := pool [(1, .class_ 2), (0, u "java/lang/Appendable"), (0, .class_ 4), (0, u "java/lang/Object")] 9

/-- java/lang/Appendable -/
def k3 : Class := { plain "java/lang/Appendable" (some 0) with
  accessFlags := 1537
  interfaces := #[]
  cf := some (fileOf pool3 1 #[] #[] 1537 3 #[] #[])
  fields := #[]
  methods := #[]
  instanceTypes := #[]
  staticTypes := #[]
  resolved := Array.replicate 14 none
  statics := none }

def pool4 : Array CpInfo := pool [(2, .class_ 4), (1, u "java/lang/CharSequence"), (42, .class_ 48), (0, u "java/lang/CharSequence$1CodePointIterator"), (10, .class_ 60), (0, u "java/lang/CharSequence$1CharIterator"), (5, .class_ 67), (0, u "java/lang/Object")] 63

/-- java/lang/CharSequence -/
def k4 : Class := { plain "java/lang/CharSequence" (some 0) with
  accessFlags := 1537
  interfaces := #[]
  cf := some (fileOf pool4 2 #[.nestMembers #[47, 59]] #[] 1537 66 #[] #[])
  fields := #[]
  methods := #[]
  instanceTypes := #[]
  staticTypes := #[]
  resolved := Array.replicate 131 none
  statics := none }

def pool5 : Array CpInfo := pool [(1, .class_ 2), (0, u "java/lang/String"), (0, .methodref 4 5), (0, .class_ 6), (0, .nameAndType 7 8), (0, u "java/lang/Object"), (0, u "<init>"), (0, u "()V"), (1, .class_ 12), (1, u "java/lang/AbstractStringBuilder"), (0, u "EMPTYVALUE"), (0, u "[B"), (0, .fieldref 10 16), (0, .nameAndType 17 14), (0, u "value"), (0, .fieldref 1 19), (0, .nameAndType 20 21), (0, u "COMPACT_STRINGS"), (0, u "Z"), (0, .fieldref 10 23), (0, .nameAndType 24 25), (0, u "coder"), (0, u "B"), (22, .class_ 49), (0, u "java/lang/CharSequence"), (25, u "maybeLatin1"), (5, u "count"), (0, u "I"), (20, u "(I)V"), (340, .class_ 445), (0, u "java/lang/Appendable")] 163

def k5m0 : Method := { name := "<init>", desc := "()V", sig := { parameters := [], returnType := none }, accessFlags := 0, code := none }
def k5c1 : Code := { maxStack := 2, maxLocals := 2, code := jdk_68_method_2_code, exceptionTable := #[], attributes := #[] }
def k5m1 : Method := { name := "<init>", desc := "(I)V", sig := { parameters := [.int], returnType := none }, accessFlags := 0, code := some k5c1 }
/-- java/lang/AbstractStringBuilder -/
def k5 : Class := { plain "java/lang/AbstractStringBuilder" (some 0) with
  accessFlags := 1056
  interfaces := #[3, 4]
  cf := some (fileOf pool5 10 #[] #[{ accessFlags := 0, nameIndex := 7, descriptorIndex := 8, attributes := #[] }, { accessFlags := 0, nameIndex := 7, descriptorIndex := 103, attributes := #[] }] 1056 4 #[444, 48] #[{ accessFlags := 0, nameIndex := 17, descriptorIndex := 14, attributes := #[] }, { accessFlags := 0, nameIndex := 24, descriptorIndex := 25, attributes := #[] }, { accessFlags := 0, nameIndex := 75, descriptorIndex := 21, attributes := #[] }, { accessFlags := 0, nameIndex := 81, descriptorIndex := 82, attributes := #[] }, { accessFlags := 26, nameIndex := 13, descriptorIndex := 14, attributes := #[] }])
  fields := #[{ name := "value", type := (.array .byte), accessFlags := 0, slot := 0, constantValue := 0 }, { name := "coder", type := .byte, accessFlags := 0, slot := 1, constantValue := 0 }, { name := "maybeLatin1", type := .boolean, accessFlags := 0, slot := 2, constantValue := 0 }, { name := "count", type := .int, accessFlags := 0, slot := 3, constantValue := 0 }, { name := "EMPTYVALUE", type := (.array .byte), accessFlags := 26, slot := 0, constantValue := 0 }]
  methods := #[k5m0, k5m1]
  instanceTypes := #[(.array .byte), .byte, .boolean, .int]
  staticTypes := #[(.array .byte)]
  resolved := Array.replicate 609 none
  statics := none }

def pool6 : Array CpInfo := pool [(1, .class_ 2), (0, u "java/io/Serializable"), (0, .class_ 4), (0, u "java/lang/Object")] 2

/-- java/io/Serializable -/
def k6 : Class := { plain "java/io/Serializable" (some 0) with
  accessFlags := 1537
  interfaces := #[]
  cf := some (fileOf pool6 1 #[] #[] 1537 3 #[] #[])
  fields := #[]
  methods := #[]
  instanceTypes := #[]
  staticTypes := #[]
  resolved := Array.replicate 7 none
  statics := none }

def pool7 : Array CpInfo := pool [(1, .class_ 2), (0, u "java/lang/Comparable"), (0, .class_ 4), (0, u "java/lang/Object")] 7

/-- java/lang/Comparable -/
def k7 : Class := { plain "java/lang/Comparable" (some 0) with
  accessFlags := 1537
  interfaces := #[]
  cf := some (fileOf pool7 1 #[] #[] 1537 3 #[] #[])
  fields := #[]
  methods := #[]
  instanceTypes := #[]
  staticTypes := #[]
  resolved := Array.replicate 12 none
  statics := none }

def pool8 : Array CpInfo := pool [(1, .methodref 2 3), (0, .class_ 4), (0, .nameAndType 5 6), (0, u "java/lang/AbstractStringBuilder"), (0, u "<init>"), (0, u "(I)V"), (17, .class_ 26), (1, u "java/lang/StringBuilder"), (118, u "()V"), (203, .class_ 350), (0, u "java/lang/Appendable"), (0, .class_ 352), (0, u "java/io/Serializable"), (0, .class_ 354), (0, u "java/lang/Comparable"), (0, .class_ 356), (0, u "java/lang/CharSequence"), (0, u "serialVersionUID"), (0, u "J")] 63

def k8c0 : Code := { maxStack := 2, maxLocals := 1, code := jdk_67_method_1_code, exceptionTable := #[], attributes := #[] }
def k8m0 : Method := { name := "<init>", desc := "()V", sig := { parameters := [], returnType := none }, accessFlags := 1, code := some k8c0 }
/-- java/lang/StringBuilder -/
def k8 : Class := { plain "java/lang/StringBuilder" (some 5) with
  accessFlags := 49
  interfaces := #[3, 6, 7, 4]
  cf := some (fileOf pool8 24 #[] #[{ accessFlags := 1, nameIndex := 5, descriptorIndex := 145, attributes := #[] }] 49 2 #[349, 351, 353, 355] #[{ accessFlags := 24, nameIndex := 357, descriptorIndex := 358, attributes := #[] }])
  fields := #[{ name := "serialVersionUID", type := .long, accessFlags := 24, slot := 0, constantValue := 0 }]
  methods := #[k8m0]
  instanceTypes := #[(.array .byte), .byte, .boolean, .int]
  staticTypes := #[.long]
  resolved := Array.replicate 422 none
  statics := none }

def pool9 : Array CpInfo := pool [(1, .class_ 2), (0, u "java/lang/constant/Constable"), (0, .class_ 4), (0, u "java/lang/Object")] 6

/-- java/lang/constant/Constable -/
def k9 : Class := { plain "java/lang/constant/Constable" (some 0) with
  accessFlags := 1537
  interfaces := #[]
  cf := some (fileOf pool9 1 #[] #[] 1537 3 #[] #[])
  fields := #[]
  methods := #[]
  instanceTypes := #[]
  staticTypes := #[]
  resolved := Array.replicate 11 none
  statics := none }

def pool10 : Array CpInfo := pool [(1, .class_ 2), (0, u "java/lang/constant/ConstantDesc"), (0, .class_ 4), (0, u "java/lang/Object")] 32

/-- java/lang/constant/ConstantDesc -/
def k10 : Class := { plain "java/lang/constant/ConstantDesc" (some 0) with
  accessFlags := 1537
  interfaces := #[]
  cf := some (fileOf pool10 1 #[] #[] 1537 3 #[] #[])
  fields := #[]
  methods := #[]
  instanceTypes := #[]
  staticTypes := #[]
  resolved := Array.replicate 37 none
  statics := none }

def pool11 : Array CpInfo := pool [(2, .class_ 4), (1, u "java/lang/Object"), (0, u "<init>"), (0, u "()V"), (3, .class_ 12), (1, u "java/lang/String"), (0, u "value"), (0, u "[B"), (2, u "coder"), (0, u "B"), (2, u "hash"), (0, u "I"), (2, u "hashIsZero"), (0, u "Z"), (13, u "COMPACT_STRINGS"), (534, .class_ 576), (0, u "java/lang/CharSequence"), (22, u "CASE_INSENSITIVE_ORDER"), (0, u "Ljava/util/Comparator;"), (500, u "serialPersistentFields"), (0, u "[Ljava/io/ObjectStreamField;"), (0, .class_ 1104), (0, u "java/lang/String$CaseInsensitiveComparator"), (1, .class_ 1107), (0, u "java/io/Serializable"), (0, .class_ 1109), (0, u "java/lang/Comparable"), (0, .class_ 1111), (0, u "java/lang/constant/Constable"), (0, .class_ 1113), (0, u "java/lang/constant/ConstantDesc"), (2, u "serialVersionUID"), (0, u "J"), (3, u "REPL"), (0, u "C"), (2, u "LATIN1"), (1, u "UTF16")] 323

def k11m0 : Method := { name := "<init>", desc := "()V", sig := { parameters := [], returnType := none }, accessFlags := 1, code := none }
/-- java/lang/String -/
def k11 : Class := { plain "java/lang/String" (some 0) with
  accessFlags := 49
  interfaces := #[6, 7, 4, 9, 10]
  cf := some (fileOf pool11 10 #[.nestMembers #[1103]] #[{ accessFlags := 1, nameIndex := 5, descriptorIndex := 6, attributes := #[] }] 49 2 #[1106, 1108, 575, 1110, 1112] #[{ accessFlags := 18, nameIndex := 13, descriptorIndex := 14, attributes := #[] }, { accessFlags := 18, nameIndex := 17, descriptorIndex := 18, attributes := #[] }, { accessFlags := 2, nameIndex := 21, descriptorIndex := 22, attributes := #[] }, { accessFlags := 2, nameIndex := 25, descriptorIndex := 26, attributes := #[] }, { accessFlags := 26, nameIndex := 1116, descriptorIndex := 1117, attributes := #[] }, { accessFlags := 24, nameIndex := 40, descriptorIndex := 26, attributes := #[] }, { accessFlags := 26, nameIndex := 1101, descriptorIndex := 1102, attributes := #[] }, { accessFlags := 26, nameIndex := 1121, descriptorIndex := 1122, attributes := #[] }, { accessFlags := 25, nameIndex := 599, descriptorIndex := 600, attributes := #[] }, { accessFlags := 24, nameIndex := 1125, descriptorIndex := 18, attributes := #[] }, { accessFlags := 24, nameIndex := 1127, descriptorIndex := 18, attributes := #[] }])
  fields := #[{ name := "value", type := (.array .byte), accessFlags := 18, slot := 0, constantValue := 0 }, { name := "coder", type := .byte, accessFlags := 18, slot := 1, constantValue := 0 }, { name := "hash", type := .int, accessFlags := 2, slot := 2, constantValue := 0 }, { name := "hashIsZero", type := .boolean, accessFlags := 2, slot := 3, constantValue := 0 }, { name := "serialVersionUID", type := .long, accessFlags := 26, slot := 0, constantValue := 0 }, { name := "COMPACT_STRINGS", type := .boolean, accessFlags := 24, slot := 1, constantValue := 0 }, { name := "serialPersistentFields", type := (.array (.object "java/io/ObjectStreamField")), accessFlags := 26, slot := 2, constantValue := 0 }, { name := "REPL", type := .char, accessFlags := 26, slot := 3, constantValue := 0 }, { name := "CASE_INSENSITIVE_ORDER", type := (.object "java/util/Comparator"), accessFlags := 25, slot := 4, constantValue := 0 }, { name := "LATIN1", type := .byte, accessFlags := 24, slot := 5, constantValue := 0 }, { name := "UTF16", type := .byte, accessFlags := 24, slot := 6, constantValue := 0 }]
  methods := #[k11m0]
  instanceTypes := #[(.array .byte), .byte, .int, .boolean]
  staticTypes := #[.long, .boolean, (.array (.object "java/io/ObjectStreamField")), .char, (.object "java/util/Comparator"), .byte, .byte]
  resolved := Array.replicate 1451 none
  statics := some 0 }

def pool12 : Array CpInfo := pool [(1, .class_ 2), (0, u "java/lang/Math"), (1, .class_ 6), (1, u "java/lang/Object"), (0, u "<init>"), (0, u "()V"), (89, .class_ 100), (1, u "java/lang/Math$RandomNumberGeneratorHolder"), (20, u "(JJ)J"), (50, u "negativeZeroFloatBits"), (0, u "J"), (2, u "negativeZeroDoubleBits"), (24, u "min"), (43, u "$assertionsDisabled"), (0, u "Z"), (91, u "twoToTheDoubleScaleDown"), (0, u "D"), (4, u "twoToTheDoubleScaleUp"), (9, u "E"), (3, u "PI"), (2, u "TAU"), (2, u "DEGREES_TO_RADIANS"), (0, u "RADIANS_TO_DEGREES")] 94

def k12m0 : Method := { name := "<init>", desc := "()V", sig := { parameters := [], returnType := none }, accessFlags := 2, code := none }
def k12c1 : Code := { maxStack := 4, maxLocals := 4, code := jdk_29_method_70_code, exceptionTable := #[], attributes := #[] }
def k12m1 : Method := { name := "min", desc := "(JJ)J", sig := { parameters := [.long, .long], returnType := some .long }, accessFlags := 9, code := some k12c1 }
/-- java/lang/Math -/
def k12 : Class := { plain "java/lang/Math" (some 0) with
  accessFlags := 49
  interfaces := #[]
  cf := some (fileOf pool12 1 #[.nestMembers #[98]] #[{ accessFlags := 2, nameIndex := 7, descriptorIndex := 8, attributes := #[] }, { accessFlags := 9, nameIndex := 201, descriptorIndex := 121, attributes := #[] }] 49 4 #[] #[{ accessFlags := 25, nameIndex := 354, descriptorIndex := 339, attributes := #[] }, { accessFlags := 25, nameIndex := 358, descriptorIndex := 339, attributes := #[] }, { accessFlags := 25, nameIndex := 361, descriptorIndex := 339, attributes := #[] }, { accessFlags := 26, nameIndex := 364, descriptorIndex := 339, attributes := #[] }, { accessFlags := 26, nameIndex := 365, descriptorIndex := 339, attributes := #[] }, { accessFlags := 26, nameIndex := 172, descriptorIndex := 173, attributes := #[] }, { accessFlags := 26, nameIndex := 176, descriptorIndex := 173, attributes := #[] }, { accessFlags := 8, nameIndex := 344, descriptorIndex := 339, attributes := #[] }, { accessFlags := 8, nameIndex := 338, descriptorIndex := 339, attributes := #[] }, { accessFlags := 4120, nameIndex := 245, descriptorIndex := 246, attributes := #[] }])
  fields := #[{ name := "E", type := .double, accessFlags := 25, slot := 0, constantValue := 0 }, { name := "PI", type := .double, accessFlags := 25, slot := 1, constantValue := 0 }, { name := "TAU", type := .double, accessFlags := 25, slot := 2, constantValue := 0 }, { name := "DEGREES_TO_RADIANS", type := .double, accessFlags := 26, slot := 3, constantValue := 0 }, { name := "RADIANS_TO_DEGREES", type := .double, accessFlags := 26, slot := 4, constantValue := 0 }, { name := "negativeZeroFloatBits", type := .long, accessFlags := 26, slot := 5, constantValue := 0 }, { name := "negativeZeroDoubleBits", type := .long, accessFlags := 26, slot := 6, constantValue := 0 }, { name := "twoToTheDoubleScaleUp", type := .double, accessFlags := 8, slot := 7, constantValue := 0 }, { name := "twoToTheDoubleScaleDown", type := .double, accessFlags := 8, slot := 8, constantValue := 0 }, { name := "$assertionsDisabled", type := .boolean, accessFlags := 4120, slot := 9, constantValue := 0 }]
  methods := #[k12m0, k12m1]
  instanceTypes := #[]
  staticTypes := #[.double, .double, .double, .double, .double, .long, .long, .double, .double, .boolean]
  resolved := Array.replicate 460 none
  statics := none }

def pool13 : Array CpInfo := pool [(4, .class_ 6), (1, u "java/lang/Object"), (0, u "<init>"), (0, u "()V"), (5, .class_ 16), (1, u "java/lang/StringLatin1"), (104, u "$assertionsDisabled"), (0, u "Z"), (98, .class_ 223), (1, u "java/lang/StringLatin1$LinesSpliterator"), (166, .class_ 391), (0, u "java/lang/StringLatin1$CharsSpliterator")] 3

def k13m0 : Method := { name := "<init>", desc := "()V", sig := { parameters := [], returnType := none }, accessFlags := 0, code := none }
/-- java/lang/StringLatin1 -/
def k13 : Class := { plain "java/lang/StringLatin1" (some 0) with
  accessFlags := 48
  interfaces := #[]
  cf := some (fileOf pool13 14 #[.nestMembers #[390, 221]] #[{ accessFlags := 0, nameIndex := 7, descriptorIndex := 8, attributes := #[] }] 48 4 #[] #[{ accessFlags := 4120, nameIndex := 121, descriptorIndex := 122, attributes := #[] }])
  fields := #[{ name := "$assertionsDisabled", type := .boolean, accessFlags := 4120, slot := 0, constantValue := 0 }]
  methods := #[k13m0]
  instanceTypes := #[]
  staticTypes := #[.boolean]
  resolved := Array.replicate 395 none
  statics := none }

def pool14 : Array CpInfo := pool [(2, .class_ 4), (1, u "java/lang/Object"), (0, u "<init>"), (0, u "()V"), (17, .class_ 26), (1, u "jdk/internal/util/Preconditions"), (28, .class_ 56), (0, u "jdk/internal/util/Preconditions$4"), (57, .class_ 115), (0, u "jdk/internal/util/Preconditions$1"), (7, u "SIOOBE_FORMATTER"), (0, u "Ljava/util/function/BiFunction;"), (0, .class_ 126), (0, u "jdk/internal/util/Preconditions$2"), (3, u "AIOOBE_FORMATTER"), (0, .class_ 132), (0, u "jdk/internal/util/Preconditions$3"), (3, u "IOOBE_FORMATTER")] 57

def k14m0 : Method := { name := "<init>", desc := "()V", sig := { parameters := [], returnType := none }, accessFlags := 1, code := none }
/-- jdk/internal/util/Preconditions -/
def k14 : Class := { plain "jdk/internal/util/Preconditions" (some 0) with
  accessFlags := 33
  interfaces := #[]
  cf := some (fileOf pool14 24 #[.nestMembers #[55, 131, 125, 114]] #[{ accessFlags := 1, nameIndex := 5, descriptorIndex := 6, attributes := #[] }] 33 2 #[] #[{ accessFlags := 25, nameIndex := 123, descriptorIndex := 124, attributes := #[] }, { accessFlags := 25, nameIndex := 130, descriptorIndex := 124, attributes := #[] }, { accessFlags := 25, nameIndex := 136, descriptorIndex := 124, attributes := #[] }])
  fields := #[{ name := "SIOOBE_FORMATTER", type := (.object "java/util/function/BiFunction"), accessFlags := 25, slot := 0, constantValue := 0 }, { name := "AIOOBE_FORMATTER", type := (.object "java/util/function/BiFunction"), accessFlags := 25, slot := 1, constantValue := 0 }, { name := "IOOBE_FORMATTER", type := (.object "java/util/function/BiFunction"), accessFlags := 25, slot := 2, constantValue := 0 }]
  methods := #[k14m0]
  instanceTypes := #[]
  staticTypes := #[(.object "java/util/function/BiFunction"), (.object "java/util/function/BiFunction"), (.object "java/util/function/BiFunction")]
  resolved := Array.replicate 194 none
  statics := some 1 }

def pool15 : Array CpInfo := pool [(9, u "<init>"), (6, .class_ 18), (1, u "java/lang/Object"), (0, u "()V"), (1, .class_ 23), (1, u "jdk/internal/util/ArraysSupport"), (0, u "LOG2_ARRAY_LONG_INDEX_SCALE"), (0, u "I"), (2, u "U"), (0, u "Ljdk/internal/misc/Unsafe;"), (8, u "BIG_ENDIAN"), (0, u "Z"), (8, u "LOG2_BYTE_BIT_SIZE"), (4, u "LOG2_ARRAY_INT_INDEX_SCALE"), (54, u "JLA"), (0, u "Ljdk/internal/access/JavaLangAccess;"), (11, u "LOG2_ARRAY_BOOLEAN_INDEX_SCALE"), (9, u "LOG2_ARRAY_BYTE_INDEX_SCALE"), (5, u "LOG2_ARRAY_CHAR_INDEX_SCALE"), (5, u "LOG2_ARRAY_SHORT_INDEX_SCALE"), (18, u "LOG2_ARRAY_FLOAT_INDEX_SCALE"), (24, u "LOG2_ARRAY_DOUBLE_INDEX_SCALE"), (89, u "T_BOOLEAN"), (2, u "T_CHAR"), (1, u "T_FLOAT"), (1, u "T_DOUBLE"), (1, u "T_BYTE"), (1, u "T_SHORT"), (1, u "T_INT"), (1, u "T_LONG"), (1, u "SOFT_MAX_ARRAY_LENGTH")] 83

def k15m0 : Method := { name := "<init>", desc := "()V", sig := { parameters := [], returnType := none }, accessFlags := 2, code := none }
/-- jdk/internal/util/ArraysSupport -/
def k15 : Class := { plain "jdk/internal/util/ArraysSupport" (some 0) with
  accessFlags := 33
  interfaces := #[]
  cf := some (fileOf pool15 21 #[] #[{ accessFlags := 2, nameIndex := 9, descriptorIndex := 19, attributes := #[] }] 33 16 #[] #[{ accessFlags := 24, nameIndex := 28, descriptorIndex := 29, attributes := #[] }, { accessFlags := 26, nameIndex := 38, descriptorIndex := 39, attributes := #[] }, { accessFlags := 25, nameIndex := 121, descriptorIndex := 25, attributes := #[] }, { accessFlags := 25, nameIndex := 131, descriptorIndex := 25, attributes := #[] }, { accessFlags := 25, nameIndex := 137, descriptorIndex := 25, attributes := #[] }, { accessFlags := 25, nameIndex := 143, descriptorIndex := 25, attributes := #[] }, { accessFlags := 25, nameIndex := 53, descriptorIndex := 25, attributes := #[] }, { accessFlags := 25, nameIndex := 24, descriptorIndex := 25, attributes := #[] }, { accessFlags := 25, nameIndex := 162, descriptorIndex := 25, attributes := #[] }, { accessFlags := 25, nameIndex := 187, descriptorIndex := 25, attributes := #[] }, { accessFlags := 26, nameIndex := 48, descriptorIndex := 25, attributes := #[] }, { accessFlags := 25, nameIndex := 277, descriptorIndex := 25, attributes := #[] }, { accessFlags := 25, nameIndex := 280, descriptorIndex := 25, attributes := #[] }, { accessFlags := 25, nameIndex := 282, descriptorIndex := 25, attributes := #[] }, { accessFlags := 25, nameIndex := 284, descriptorIndex := 25, attributes := #[] }, { accessFlags := 25, nameIndex := 286, descriptorIndex := 25, attributes := #[] }, { accessFlags := 25, nameIndex := 288, descriptorIndex := 25, attributes := #[] }, { accessFlags := 25, nameIndex := 290, descriptorIndex := 25, attributes := #[] }, { accessFlags := 25, nameIndex := 292, descriptorIndex := 25, attributes := #[] }, { accessFlags := 26, nameIndex := 108, descriptorIndex := 109, attributes := #[] }, { accessFlags := 25, nameIndex := 294, descriptorIndex := 25, attributes := #[] }])
  fields := #[{ name := "U", type := (.object "jdk/internal/misc/Unsafe"), accessFlags := 24, slot := 0, constantValue := 0 }, { name := "BIG_ENDIAN", type := .boolean, accessFlags := 26, slot := 1, constantValue := 0 }, { name := "LOG2_ARRAY_BOOLEAN_INDEX_SCALE", type := .int, accessFlags := 25, slot := 2, constantValue := 0 }, { name := "LOG2_ARRAY_BYTE_INDEX_SCALE", type := .int, accessFlags := 25, slot := 3, constantValue := 0 }, { name := "LOG2_ARRAY_CHAR_INDEX_SCALE", type := .int, accessFlags := 25, slot := 4, constantValue := 0 }, { name := "LOG2_ARRAY_SHORT_INDEX_SCALE", type := .int, accessFlags := 25, slot := 5, constantValue := 0 }, { name := "LOG2_ARRAY_INT_INDEX_SCALE", type := .int, accessFlags := 25, slot := 6, constantValue := 0 }, { name := "LOG2_ARRAY_LONG_INDEX_SCALE", type := .int, accessFlags := 25, slot := 7, constantValue := 0 }, { name := "LOG2_ARRAY_FLOAT_INDEX_SCALE", type := .int, accessFlags := 25, slot := 8, constantValue := 0 }, { name := "LOG2_ARRAY_DOUBLE_INDEX_SCALE", type := .int, accessFlags := 25, slot := 9, constantValue := 0 }, { name := "LOG2_BYTE_BIT_SIZE", type := .int, accessFlags := 26, slot := 10, constantValue := 0 }, { name := "T_BOOLEAN", type := .int, accessFlags := 25, slot := 11, constantValue := 0 }, { name := "T_CHAR", type := .int, accessFlags := 25, slot := 12, constantValue := 0 }, { name := "T_FLOAT", type := .int, accessFlags := 25, slot := 13, constantValue := 0 }, { name := "T_DOUBLE", type := .int, accessFlags := 25, slot := 14, constantValue := 0 }, { name := "T_BYTE", type := .int, accessFlags := 25, slot := 15, constantValue := 0 }, { name := "T_SHORT", type := .int, accessFlags := 25, slot := 16, constantValue := 0 }, { name := "T_INT", type := .int, accessFlags := 25, slot := 17, constantValue := 0 }, { name := "T_LONG", type := .int, accessFlags := 25, slot := 18, constantValue := 0 }, { name := "JLA", type := (.object "jdk/internal/access/JavaLangAccess"), accessFlags := 26, slot := 19, constantValue := 0 }, { name := "SOFT_MAX_ARRAY_LENGTH", type := .int, accessFlags := 25, slot := 20, constantValue := 0 }]
  methods := #[k15m0]
  instanceTypes := #[]
  staticTypes := #[(.object "jdk/internal/misc/Unsafe"), .boolean, .int, .int, .int, .int, .int, .int, .int, .int, .int, .int, .int, .int, .int, .int, .int, .int, .int, (.object "jdk/internal/access/JavaLangAccess"), .int]
  resolved := Array.replicate 378 none
  statics := none }

def pool16 : Array CpInfo := pool [(1, u "java/lang/Cloneable"), (0, .class_ 1), (0, u "java/lang/Object"), (0, .class_ 3)] 3

/-- java/lang/Cloneable -/
def k16 : Class := { plain "java/lang/Cloneable" (some 0) with
  accessFlags := 1537
  interfaces := #[]
  cf := some (fileOf pool16 2 #[] #[] 1537 4 #[] #[])
  fields := #[]
  methods := #[]
  instanceTypes := #[]
  staticTypes := #[]
  resolved := Array.replicate 8 none
  statics := none }

/-- the primitive byte -/
def k17 : Class := { plain "byte" none with kind := .primitive 'B', accessFlags := 0x411 }
/-- [B -/
def k18 : Class := { plain "[B" (some 0) with kind := .array 17 .byte, interfaces := #[16, 6], accessFlags := 1041 }

/-- the primitive int -/
def k19 : Class := { plain "int" none with kind := .primitive 'I', accessFlags := 0x411 }
/-- [I -/
def k20 : Class := { plain "[I" (some 0) with kind := .array 19 .int, interfaces := #[16, 6], accessFlags := 1041 }

def heap : Heap := #[{ cls := 11, slots := #[.long 0, .int 1, .null, .int 0, .null, .int 0, .int 0], vm := .statics 11 },
  { cls := 14, slots := #[.null, .null, .null], vm := .statics 14 }]
def classes : Array Class := #[k0, k1, k2, k3, k4, k5, k6, k7, k8, k9, k10, k11, k12, k13, k14, k15, k16, k17, k18, k19, k20]
def interned : List (Array UInt16 × Addr) := []
def slotsUsed : Nat := 10
def theMethod : MethodId := ⟨1, 1⟩
def args0 : Array Value := #[.long 5, .int 3, .int 4]
def aboutOver (below : List Frame) : State where
  vm := { classes := classes, interned := interned.toArray }
  heap := heap
  slotsUsed := slotsUsed
  threads := #[{ frames := .invoking theMethod args0 :: below }]
def below0 : List Frame := [.native { method := ⟨0, 0⟩, args := #[] }]
def about1 : State := aboutOver below0
def p0 : Program := .bare "" "" ""
def e0 : Env := launch0.env 0 0 0
theorem w_frames : about1.frames = Frame.invoking theMethod args0 :: below0 := rfl
set_option maxRecDepth 65536 in
theorem w_args : argsFit about1.vm theMethod args0 = true := by decide +kernel
set_option maxRecDepth 65536 in
theorem w_heap : heapFits about1 = true := by decide +kernel
set_option maxRecDepth 65536 in
theorem w_runnable : about1.curStatus? = some .runnable := by decide +kernel
set_option maxRecDepth 65536 in
theorem w_alone : about1.alone = true := by decide +kernel
set_option maxRecDepth 65536 in
theorem w_named : about1.methodNamed? x = some theMethod := by decide +kernel
set_option maxRecDepth 65536 in
theorem w_hears : about1.hears theMethod below0 = true := by decide +kernel
set_option maxRecDepth 65536 in
theorem w_ripe : about1.ripe theMethod args0 below0 = true := by decide +kernel
theorem w_running : about1.status = .running := rfl
set_option maxRecDepth 65536 in
theorem w_room : about1.hasRoom e0.platform room_1 = true :=
  launch0.hasRoom_least _ room_1 (by decide +kernel) (by decide +kernel) (by decide +kernel) (by decide +kernel) (by decide +kernel) (by decide +kernel)
theorem allAtoms_all (ts : List Jvm.Cond) (a : Array Jvm.Value) (st : Jvm.State) : (allAtoms ts).before a st = ts.all (fun c => c.before a st) := by
  induction ts with
  | nil => rfl
  | cons c t ih =>
    show (Jvm.Cond.and c (allAtoms t)).before a st = _
    rw [Jvm.Cond.before_and, ih, List.all_cons]
def words1 : List Jvm.Cond := Jvm.Cond.code x code maxLocals ret :: tables_1
/-- a 'code' word, met by the world's own term for the bytes: nothing is compared byte by byte -/
theorem code_word {y : MethodName} {bytes : ByteArray} {mx : Nat} {rt : Option FieldType} {a : Array Value} {s : State} {m : MethodId} {meth : Method} {c : Code} (h1 : s.methodNamed? y = some m) (h2 : s.vm.method? m = some meth) (h3 : meth.code = some c) (h4 : c.code = bytes)
    (h5 : (c.maxLocals == mx && c.exceptionTable.isEmpty && decide (c.maxStack ≤ mostOperands) && decide (meth.sig.returnType = rt) && !meth.locks && decide (parseMethodDescriptor y.desc = some meth.sig)) = true) : (Jvm.Cond.code y bytes mx rt).before a s = true := by
  simp only [Bool.and_eq_true, beq_iff_eq, Bool.not_eq_true', decide_eq_true_eq] at h5
  obtain ⟨⟨⟨⟨⟨g1, g2⟩, g3⟩, g4⟩, g5⟩, g6⟩ := h5
  simp [Cond.before, Cond.holds, Cond.value, h1, h2, h3, h4, g1, g2, g3, g4, g5, g6]
def isCode : Jvm.Cond → Bool
  | .code _ _ _ _ => true
  | _ => false
theorem all_split {L : List Jvm.Cond} {P : Jvm.Cond → Bool} (h1 : L.all (fun c => isCode c || P c) = true) (h2 : ∀ c ∈ L.filter isCode, P c = true) : L.all P = true := by
  refine List.all_eq_true.mpr fun c hc => ?_
  have h := List.all_eq_true.mp h1 c hc
  rcases Bool.eq_false_or_eq_true (isCode c) with hi | hi
  · exact h2 c (List.mem_filter.mpr ⟨hc, hi⟩)
  · simpa [hi] using h
set_option maxRecDepth 65536 in
theorem w_c0 : (Jvm.Cond.code x code maxLocals ret).before args0 about1 = true := code_word (m := ⟨1, 1⟩) (meth := k1m1) (c := k1c1) (by decide +kernel) rfl rfl rfl (by decide +kernel)
set_option maxRecDepth 65536 in
theorem w_c1 : (Jvm.Cond.code ({ cls := "com/example/twofold/twofold/io/http/BodyReader", name := "<init>", desc := "(J)V" } : Jvm.MethodName) prog_12_method_1_code (3 : Nat) (Option.none : Option Jvm.ClassFile.FieldType)).before args0 about1 = true := code_word (m := ⟨2, 0⟩) (meth := k2m0) (c := k2c0) (by decide +kernel) rfl rfl rfl (by decide +kernel)
set_option maxRecDepth 65536 in
theorem w_c2 : (Jvm.Cond.code ({ cls := "java/lang/Object", name := "<init>", desc := "()V" } : Jvm.MethodName) object_method_1_code (1 : Nat) (Option.none : Option Jvm.ClassFile.FieldType)).before args0 about1 = true := code_word (m := ⟨0, 0⟩) (meth := k0m0) (c := k0c0) (by decide +kernel) rfl rfl rfl (by decide +kernel)
set_option maxRecDepth 65536 in
theorem w_c3 : (Jvm.Cond.code ({ cls := "java/lang/StringBuilder", name := "<init>", desc := "()V" } : Jvm.MethodName) jdk_67_method_1_code (1 : Nat) (Option.none : Option Jvm.ClassFile.FieldType)).before args0 about1 = true := code_word (m := ⟨8, 0⟩) (meth := k8m0) (c := k8c0) (by decide +kernel) rfl rfl rfl (by decide +kernel)
set_option maxRecDepth 65536 in
theorem w_c4 : (Jvm.Cond.code ({ cls := "java/lang/AbstractStringBuilder", name := "<init>", desc := "(I)V" } : Jvm.MethodName) jdk_68_method_2_code (2 : Nat) (Option.none : Option Jvm.ClassFile.FieldType)).before args0 about1 = true := code_word (m := ⟨5, 1⟩) (meth := k5m1) (c := k5c1) (by decide +kernel) rfl rfl rfl (by decide +kernel)
set_option maxRecDepth 65536 in
theorem w_c5 : (Jvm.Cond.code ({ cls := "com/example/twofold/twofold/io/http/BodyReader", name := "over", desc := "()Z" } : Jvm.MethodName) prog_12_method_4_code (1 : Nat) (Option.some Jvm.ClassFile.FieldType.boolean)).before args0 about1 = true := code_word (m := ⟨2, 2⟩) (meth := k2m2) (c := k2c2) (by decide +kernel) rfl rfl rfl (by decide +kernel)
set_option maxRecDepth 65536 in
theorem w_c6 : (Jvm.Cond.code ({ cls := "java/lang/Math", name := "min", desc := "(JJ)J" } : Jvm.MethodName) jdk_29_method_70_code (4 : Nat) (Option.some Jvm.ClassFile.FieldType.long)).before args0 about1 = true := code_word (m := ⟨12, 1⟩) (meth := k12m1) (c := k12c1) (by decide +kernel) rfl rfl rfl (by decide +kernel)
set_option maxRecDepth 65536 in
theorem w_c7 : (Jvm.Cond.code ({ cls := "com/example/twofold/twofold/io/http/BodyReader", name := "taken", desc := "(I)V" } : Jvm.MethodName) prog_12_method_3_code (2 : Nat) (Option.none : Option Jvm.ClassFile.FieldType)).before args0 about1 = true := code_word (m := ⟨2, 1⟩) (meth := k2m1) (c := k2c1) (by decide +kernel) rfl rfl rfl (by decide +kernel)
def codes1 : List Jvm.Cond := [Jvm.Cond.code x code maxLocals ret, Jvm.Cond.code ({ cls := "com/example/twofold/twofold/io/http/BodyReader", name := "<init>", desc := "(J)V" } : Jvm.MethodName) prog_12_method_1_code (3 : Nat) (Option.none : Option Jvm.ClassFile.FieldType), Jvm.Cond.code ({ cls := "java/lang/Object", name := "<init>", desc := "()V" } : Jvm.MethodName) object_method_1_code (1 : Nat) (Option.none : Option Jvm.ClassFile.FieldType), Jvm.Cond.code ({ cls := "java/lang/StringBuilder", name := "<init>", desc := "()V" } : Jvm.MethodName) jdk_67_method_1_code (1 : Nat) (Option.none : Option Jvm.ClassFile.FieldType), Jvm.Cond.code ({ cls := "java/lang/AbstractStringBuilder", name := "<init>", desc := "(I)V" } : Jvm.MethodName) jdk_68_method_2_code (2 : Nat) (Option.none : Option Jvm.ClassFile.FieldType), Jvm.Cond.code ({ cls := "com/example/twofold/twofold/io/http/BodyReader", name := "over", desc := "()Z" } : Jvm.MethodName) prog_12_method_4_code (1 : Nat) (Option.some Jvm.ClassFile.FieldType.boolean), Jvm.Cond.code ({ cls := "java/lang/Math", name := "min", desc := "(JJ)J" } : Jvm.MethodName) jdk_29_method_70_code (4 : Nat) (Option.some Jvm.ClassFile.FieldType.long), Jvm.Cond.code ({ cls := "com/example/twofold/twofold/io/http/BodyReader", name := "taken", desc := "(I)V" } : Jvm.MethodName) prog_12_method_3_code (2 : Nat) (Option.none : Option Jvm.ClassFile.FieldType)]
set_option maxRecDepth 65536 in
theorem codes_eq : words1.filter isCode = codes1 := rfl
theorem w_codes : ∀ c ∈ words1.filter isCode, c.before args0 about1 = true := by
  rw [codes_eq]
  intro c hc
  simp only [codes1, List.mem_cons, List.not_mem_nil, or_false] at hc
  rcases hc with rfl | rfl | rfl | rfl | rfl | rfl | rfl | rfl
  · exact w_c0
  · exact w_c1
  · exact w_c2
  · exact w_c3
  · exact w_c4
  · exact w_c5
  · exact w_c6
  · exact w_c7
set_option maxRecDepth 65536 in
theorem w_t1 : (words1.take 24).all (fun c => isCode c || c.before args0 about1) = true := by decide +kernel
set_option maxRecDepth 65536 in
theorem w_t2 : ((words1.drop 24).take 24).all (fun c => isCode c || c.before args0 about1) = true := by decide +kernel
set_option maxRecDepth 65536 in
theorem w_t3 : ((words1.drop 24).drop 24).all (fun c => isCode c || c.before args0 about1) = true := by decide +kernel
theorem w_tables : (allAtoms (Jvm.Cond.code x code maxLocals ret :: tables_1)).before args0 about1 = true := by
  rw [allAtoms_all]
  show words1.all (fun c => c.before args0 about1) = true
  refine all_split ?_ w_codes
  rw [← List.take_append_drop 24 words1, List.all_append, w_t1, ← List.take_append_drop 24 (words1.drop 24), List.all_append, w_t2, w_t3]
  rfl
set_option maxRecDepth 65536 in
theorem w_rest : rest_1_c.before args0 about1 = true := by decide +kernel
set_option maxRecDepth 65536 in
theorem w_case : (Jvm.Cond.and given_1 narrow_1).before args0 about1 = true := by decide +kernel
theorem w_applies : (headSpec (Jvm.Cond.code x code maxLocals ret :: tables_1) room_1).applies x e0.platform about1 = true :=
  (Spec.applies_iff w_frames).mpr ⟨w_running, w_runnable, w_alone, w_named, w_hears, w_ripe, w_room, w_tables⟩
theorem atStart : AtStart classFile x code maxLocals ret World_1 tables_1 room_1 Calls_1 rest_1 Pre_1 launch0 p0 e0 about1 theMethod args0 below0 :=
  ⟨lists_1, trivial, launch0.admits_env _ _ _, launch0.least_env, fairChoices_fair.cas, fairChoices_fair.clock, w_frames, w_args, w_heap, w_applies, trivial, w_rest, w_case⟩
end start1
theorem witness_1 : WitnessClaimed_1 := ⟨start1.p0, start1.e0, start1.about1, start1.theMethod, start1.args0, start1.below0, start1.atStart⟩
end Jvm.Pilot.@@N@@
