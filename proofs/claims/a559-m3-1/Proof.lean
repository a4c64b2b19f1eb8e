import JvmDerived
import JvmDerived.Pilot.@@N@@Statement
import JvmDerived.Pilot.@@N@@Code
set_option linter.unusedVariables false
set_option linter.unusedSimpArgs false
namespace Jvm.Pilot.@@N@@
open Jvm Jvm.ClassFile Sem Op Lib Jvm.Free Jvm.Stand Jvm.LawKit Jvm.RoadKit Bundle Jvm.Pilot.@@N@@.Jvm.D

section Own
variable {p : Program} {l : Launch} {e : Env} {R : Room} {s : State} {m : MethodId} {args : Array Value} {below : List Frame} {meth : Method} {c : Code} {T : State} {locs : List Loc} {cells slots : Nat} {Z : State} {a0 : Array Value} {h h' h0 : Heap} {K : Outcome → State → Prop} {pc pc' : Nat} {Ls : Array Slot} {st : List Value} {own : String} {ws ws' : List Addr} {L L' : List Loc}
/-- what is left to show at a point of a walk -/
def OGo (p : Program) (e : Env) (below : List Frame) (K : Outcome → State → Prop) (T : State) (g : JFrame) : Prop :=
  ∃ s₂ o, Steps p.tables e below (T.setTop g) s₂ ∧ s₂.status = .running ∧ Ended s₂ below o ∧ K o s₂
theorem OGo.via {T' : State} {g g' : JFrame} (k : OGo p e below K T' g') (q : ∀ t, Steps p.tables e below (T'.setTop g') t → Steps p.tables e below (T.setTop g) t) : OGo p e below K T g := by
  obtain ⟨s₂, o, h1, h2⟩ := k; exact ⟨s₂, o, q _ h1, h2⟩
theorem OGo.tr {T' : State} {g g' : JFrame} (k : OGo p e below K T' g') (q : Steps p.tables e below (T.setTop g) (T'.setTop g')) : OGo p e below K T g := k.via fun _ r => q.trans r
/-- the cells of h0 stand in h but for those at ws; cells of statics stand; what was written is at ws or new -/
def OPr (h0 : Heap) (ws : List Addr) (h : Heap) (L : List Loc) : Prop := Keep h0 h ws ∧ (∀ (x : Addr) (c : Cell), h0[x]? = some c → c.vm.isStatics = true → h[x]? = some c) ∧ ∀ y ∈ L, y.base ∈ ws ∨ h0.size ≤ y.base
theorem OPr.refl (h : Heap) (ws : List Addr) : OPr h ws h [] := ⟨Keep.refl h ws, fun _ _ q _ => q, fun _ q => nomatch q⟩
theorem OPr.size (P : OPr h0 ws h L) : h0.size ≤ h.size := P.1.1
theorem OPr.ge (P : OPr h0 ws h L) {a : Addr} (q : a = h.size) : h0.size ≤ a := q ▸ P.1.1
theorem OPr.ext (P : OPr h0 ws h L) (E : Ext h h') : OPr h0 ws h' L := ⟨P.1.ext E, fun x c q r => E.2 _ _ (P.2.1 x c q r), P.2.2⟩
theorem OPr.wr {a : Addr} {sl : Nat} {v : Value} (P : OPr h0 ws h L) (W : Wr h h' a sl v) (q : a ∈ ws ∨ h0.size ≤ a) : OPr h0 ws h' (L ++ [⟨a, sl⟩]) := by
  refine ⟨P.1.wr W q, fun x c r1 r2 => ?_, fun y hy => ?_⟩
  · obtain ⟨c', e1, -, -, -, e5, -, e7⟩ := wr_at W (P.2.1 x c r1 r2)
    have ne : x ≠ a := fun u => by rw [(e7 u).2.2] at r2; cases r2
    rw [← e5 ne]; exact e1
  · rcases List.mem_append.mp hy with u | u
    · exact P.2.2 y u
    · cases List.mem_singleton.mp u; exact q
theorem OPr.call (P : OPr h0 ws h L) (P' : OPr h ws' h' L') (q : ∀ x ∈ ws', x ∈ ws ∨ h0.size ≤ x) : OPr h0 ws h' (L ++ L') := by
  refine ⟨P.1.trans P'.1 q, fun x c r1 r2 => P'.2.1 x c (P.2.1 x c r1 r2) r2, fun y hy => ?_⟩
  rcases List.mem_append.mp hy with u | u
  · exact P.2.2 y u
  · rcases P'.2.2 y u with v | v
    · exact q _ v
    · exact Or.inr (Nat.le_trans P.1.1 v)
theorem OPr.fr (P : OPr h0 [] h L) : Fr h0.size L := fun y hy => (P.2.2 y hy).elim (fun q => nomatch q) id
theorem fldP {a : Addr} {C n d : String} {v : Value} (F : Fld Z h0 a C n d v) (P : OPr h0 ws h L) (q : a ∉ ws) : Fld Z h a C n d v := F.keep P.1 q
theorem exaP {a : Addr} {C : String} (F : Exa Z h0 a C) (P : OPr h0 ws h L) : Exa Z h a C := F.keep P.1
theorem staP {C n d : String} {v : Value} (F : Sta Z h0 C n d v) (P : OPr h0 ws h L) : Sta Z h C n d v := by
  obtain ⟨cf, i, k, f, sa, cell, h1, h2, h3, h4, h5, h6, h7⟩ := F
  exact ⟨cf, i, k, f, sa, cell, h1, h2, h3, h4, P.2.1 _ _ h5 h6, h6, h7⟩
/-- an array, told whole -/
def OAry (Z : State) (h : Heap) (a : Addr) (k : ClassId) (ty : FieldType) (vs : List Value) : Prop := ∃ c : Cell, Arr Z h a c ty ∧ c.cls = k ∧ c.slots.toList = vs ∧ vs.length < 2 ^ 31 ∧ ∀ v ∈ vs, fits ty v = true
theorem aryP {a : Addr} {k : ClassId} {ty : FieldType} {vs : List Value} (F : OAry Z h0 a k ty vs) (P : OPr h0 ws h L) (q : a ∉ ws) : OAry Z h a k ty vs := by
  obtain ⟨c, A, r⟩ := F; exact ⟨c, ⟨P.1.2.1 a c A.1 q, A.2⟩, r⟩
theorem aryE {a : Addr} {k : ClassId} {ty : FieldType} {vs : List Value} (F : OAry Z h a k ty vs) (E : Ext h h') : OAry Z h' a k ty vs := by
  obtain ⟨c, A, r⟩ := F; exact ⟨c, A.ext E, r⟩
theorem aryO {a b : Addr} {k : ClassId} {ty : FieldType} {vs : List Value} {sl : Nat} {v : Value} (F : OAry Z h b k ty vs) (W : Wr h h' a sl v) (q : b ≠ a) : OAry Z h' b k ty vs := by
  obtain ⟨c, A, r⟩ := F; exact ⟨c, A.other W q, r⟩
theorem aryLt {a : Addr} {k : ClassId} {ty : FieldType} {vs : List Value} (F : OAry Z h a k ty vs) : a < h.size := by obtain ⟨c, A, -⟩ := F; exact A.lt
theorem arySet {a : Addr} {k : ClassId} {ty : FieldType} {vs vs' : List Value} {j : Nat} {v : Value} (F : OAry Z h a k ty vs) (W : Wr h h' a j v) (hf : fits ty v = true) (e : vs.set j v = vs') : OAry Z h' a k ty vs' := by
  obtain ⟨c, A, r1, rfl, r3, r4⟩ := F
  subst e
  refine ⟨_, A.same W, r1, ?_, by simpa using r3, fun u hu => ?_⟩
  · show (c.slots.setIfInBounds j v).toList = _
    simp
  · rcases List.mem_or_eq_of_mem_set hu with z | rfl
    · exact r4 u z
    · exact hf
theorem aryIn {c : Cell} {vs : List Value} {j : Int32} {v : Value} (q : c.slots.toList = vs) (hj : ¬ j < 0) (hv : vs[j.toNatClampNeg]? = some v) : ¬ (j < 0 ∨ c.slots.size ≤ j.toNatClampNeg) ∧ c.slots[j.toNatClampNeg]? = some v := by
  subst q
  have hv' : c.slots[j.toNatClampNeg]? = some v := by simpa using hv
  exact ⟨fun u => u.elim hj fun u => by have := (Array.getElem?_eq_some_iff.mp hv').1; omega, hv'⟩
theorem aryFit {a : Addr} {k : ClassId} {ty : FieldType} {vs : List Value} {c : Cell} (A : Arr Z h a c ty) (q : c.slots.toList = vs) (r : ∀ v ∈ vs, fits ty v = true) : FitC Z c := fun i v hv => by
  subst q
  obtain ⟨hs, k, hk, comp, hkind⟩ := A.2.1
  have e : Z.slotType? c.cls .none i = some ty := by simp [State.slotType?, hk, hkind]
  have m : v ∈ c.slots.toList := by obtain ⟨hi, rfl⟩ := Array.getElem?_eq_some_iff.mp hv; simp
  simp [State.fitsSlot, e, r v m]
/-- what a method that returned has left -/
def OFin (s : State) (rm : Room) (Q : Option Value → Heap → List Loc → Prop) (o : Outcome) (U' : State) : Prop := ∃ v L, o = .returned v ∧ Q v U'.heap L ∧ FrameEnd s o U' L rm.cells rm.slots
/-- a method's contract, at given arguments and a given heap -/
def OMet (l : Launch) (y : MethodName) (bytes : ByteArray) (maxL : Nat) (ret : Option FieldType) (rm : Room) (as : Array Value) (Z : State) (h0 : Heap) (Q : Option Value → Heap → List Loc → Prop) : Prop :=
  ∀ ws : List Jvm.Cond, MetFree l y (head1 (Jvm.Cond.code y bytes maxL ret :: ws) rm) (fun a U => a = as ∧ Z.Warmed39 U.vm ∧ U.heap = h0) (fun _ _ _ _ _ => True) (fun _ U o U' => OFin U rm Q o U')
theorem OMet.body {y : MethodName} {bytes : ByteArray} {maxL : Nat} {ret : Option FieldType} {rm : Room} {as : Array Value} {Q : Option Value → Heap → List Loc → Prop} {Ls : Array Slot} (hpl : plainFor y = true) (hef : ∀ m, entryFrame m as maxL = mkF m 0 Ls [])
    (H : ∀ (p : Program) (e : Env) (s : State) (m : MethodId) (below : List Frame) (meth : Method) (c : Code) (T : State) (K : Outcome → State → Prop), K = OFin s rm Q → Stand p l e rm s m as below meth c T [] 0 0 → p.tables.exec = Jvm.exec → c.code = bytes → c.maxLocals = maxL → s.vm.findClass y.cls = some m.cls → meth.name = y.name → meth.sig.returnType = ret → meth.locks = false → Z.Warmed39 s.vm → T.heap = h0 → OGo p e below K T (mkF m 0 Ls [])) :
    OMet l y bytes maxL ret rm as Z h0 Q := fun ws => by
  refine MetFree.of_bodySF hpl hisR ?_
  intro p e s m args below meth c s₁ Bd hml0 hP hK
  obtain ⟨rfl, hZ, hh⟩ := hP
  have e0 : s₁.heap = h0 := by rw [← hh, Bd.state]; rfl
  have k := H p e s m below meth c s₁ _ rfl (Stand.of_body Bd) Bd.exec Bd.bytes hml0 (findClass_of_methodNamed Bd.named) (name_of_methodNamed Bd.named Bd.method).1 Bd.returns Bd.notSynchronized hZ e0
  rw [← hef m] at k
  exact k
theorem g_ret {rm : Room} {Q : Option Value → Heap → List Loc → Prop} {t : FieldType} {w : Value} {i : Instr} (X : Stand p l e rm s m args below meth c T locs cells slots) (hx : p.tables.exec = Jvm.exec) (hret : meth.sig.returnType = some t) (hlk : meth.locks = false) (hn : narrow t w = w)
    (hi : (i = .ireturn ∧ (t = .int ∨ t = .boolean ∨ t = .byte ∨ t = .char ∨ t = .short) ∧ ∃ z, w = .int z) ∨ (i = .lreturn ∧ t = .long ∧ ∃ z, w = .long z) ∨ (i = .dreturn ∧ t = .double ∧ ∃ z, w = .double z) ∨ (i = .freturn ∧ t = .float ∧ ∃ z, w = .float z) ∨ (i = .areturn ∧ t.isReference = true ∧ w.isRef = true))
    (hd : decode c.code pc = .ok (i, 1)) (hc : cells ≤ rm.cells) (hs : slots ≤ rm.slots) (eT : T.heap = h) (hK : K = OFin s rm Q) (hQ : Q (some w) h locs) : OGo p e below K T (mkF m pc Ls (w :: st)) := by
  subst hK
  obtain ⟨fs, hr, hrun, hended, hW, hsame⟩ := X.leave (v := some w) (fun h => by rw [hret] at h; cases h) hlk
  exact ⟨_, _, retOut X hx hret hn hi hd hr, hrun, hended, _, _, rfl, by show Q _ T.heap _; rw [eT]; exact hQ, ⟨_, rfl⟩, hW, hsame.mono hc hs⟩
theorem g_ret0 {rm : Room} {Q : Option Value → Heap → List Loc → Prop} (X : Stand p l e rm s m args below meth c T locs cells slots) (hx : p.tables.exec = Jvm.exec) (hret : meth.sig.returnType = none) (hlk : meth.locks = false)
    (hd : decode c.code pc = .ok (.return_, 1)) (hc : cells ≤ rm.cells) (hs : slots ≤ rm.slots) (eT : T.heap = h) (hK : K = OFin s rm Q) (hQ : Q none h locs) : OGo p e below K T (mkF m pc Ls []) := by
  subst hK
  obtain ⟨fs, hr, hrun, hended, hW, hsame⟩ := X.leave (v := none) (fun _ => rfl) hlk
  exact ⟨_, _, X.returnOut hx hret hd hr, hrun, hended, _, _, rfl, by show Q _ T.heap _; rw [eT]; exact hQ, ⟨_, rfl⟩, hW, hsame.mono hc hs⟩
theorem g_getf (X : Stand p l e R s m args below meth c T locs cells slots) (hx : p.tables.exec = Jvm.exec) (hZ : Z.Warmed39 s.vm) (hown : s.vm.findClass own = some m.cls) {R0 O n d host : String} {index : Nat} (w : (Jvm.Cond.fieldLink own index R0 n d).before a0 Z = true ∨ (Jvm.Cond.fieldLinkNest own index R0 n d host).before a0 Z = true) (via : Via Z R0 O n d)
    (eT : T.heap = h) {a : Addr} {v : Value} (F : Fld Z h a O n d v) (hd : decode c.code pc = .ok (.getfield index, 3)) (hp : pc + 3 = pc')
    (k : ∀ T', Stand p l e R s m args below meth c T' locs cells slots → T'.heap = h → OGo p e below K T' (mkF m pc' Ls (v :: st))) : OGo p e below K T (mkF m pc Ls (.ref a :: st)) := by
  subst hp
  obtain ⟨T', X', e', q⟩ := getF X hx hZ hown w via eT F (g := mkF m pc Ls (.ref a :: st)) rfl rfl hd
  exact (k T' X' e').via q
theorem g_gets (X : Stand p l e R s m args below meth c T locs cells slots) (hx : p.tables.exec = Jvm.exec) (hZ : Z.Warmed39 s.vm) (hown : s.vm.findClass own = some m.cls) {R0 O n d host : String} {index : Nat} (w : (Jvm.Cond.fieldLink own index R0 n d).before a0 Z = true ∨ (Jvm.Cond.fieldLinkNest own index R0 n d host).before a0 Z = true) (via : Via Z R0 O n d)
    (eT : T.heap = h) {v : Value} (F : Sta Z h O n d v) (hd : decode c.code pc = .ok (.getstatic index, 3)) (hp : pc + 3 = pc')
    (k : ∀ T', Stand p l e R s m args below meth c T' locs cells slots → T'.heap = h → OGo p e below K T' (mkF m pc' Ls (v :: st))) : OGo p e below K T (mkF m pc Ls st) := by
  subst hp
  obtain ⟨T', X', e', q⟩ := getS2 X hx hZ hown w via eT F (g := mkF m pc Ls st) rfl hd
  exact (k T' X' e').via q
theorem g_putf (X : Stand p l e R s m args below meth c T locs cells slots) (hx : p.tables.exec = Jvm.exec) (hZ : Z.Warmed39 s.vm) (hown : s.vm.findClass own = some m.cls) {R0 O n d host C : String} {index kk : Nat} {ty : FieldType} (w : (Jvm.Cond.fieldLink own index R0 n d).before a0 Z = true ∨ (Jvm.Cond.fieldLinkNest own index R0 n d host).before a0 Z = true) (via : Via Z R0 O n d)
    (eT : T.heap = h) {a : Addr} {v old : Value} (F : Fld Z h a O n d old) (E : Exa Z h a C) (L : (Jvm.Cond.lays C O n d).before a0 Z = true ∨ ((Jvm.Cond.laysFinal C O n d).before a0 Z = true ∧ own = O ∧ meth.name = "<init>")) (wi : (Jvm.Cond.instantiable C kk).before a0 Z = true)
    (hty : parseFieldDescriptor d = some ty) (hn : narrow ty v = v) (hf : fits ty v = true) (P : OPr h0 ws h locs) (q : a ∈ ws ∨ h0.size ≤ a) (hd : decode c.code pc = .ok (.putfield index, 3)) (hp : pc + 3 = pc')
    (k : ∀ T' h', Stand p l e R s m args below meth c T' (locs ++ [⟨a, RoadKit.slotOf Z O n d⟩]) cells slots → T'.heap = h' → Wr h h' a (RoadKit.slotOf Z O n d) v → OPr h0 ws h' (locs ++ [⟨a, RoadKit.slotOf Z O n d⟩]) → Fld Z h' a O n d v → OGo p e below K T' (mkF m pc' Ls st)) : OGo p e below K T (mkF m pc Ls (v :: .ref a :: st)) := by
  subst hp
  obtain ⟨T', h', X', e', W', r⟩ := putF X hx hZ hown w via eT F E L wi hty hn hf (g := mkF m pc Ls (v :: .ref a :: st)) rfl rfl hd
  exact (k T' h' X' e' W' (P.wr W' q) (F.same W')).via r
theorem g_new (X : Stand p l e R s m args below meth c T locs cells slots) (hx : p.tables.exec = Jvm.exec) (hZ : Z.Warmed39 s.vm) (hown : s.vm.findClass own = some m.cls) {C : String} {index n : Nat} (w : (Jvm.Cond.classLink own index C).before a0 Z = true) (wi : (Jvm.Cond.instantiable C n).before a0 Z = true) (wz : (Jvm.Cond.initialized C).before a0 Z = true) (eT : T.heap = h)
    (P : OPr h0 ws h locs) (hd : decode c.code pc = .ok (.new index, 3)) (hp : pc + 3 = pc') (hc : cells + 1 ≤ R.cells) (hl : slots + n ≤ R.slots)
    (k : ∀ T' h' a, a = h.size → h0.size ≤ a → Stand p l e R s m args below meth c T' locs (cells + 1) (slots + n) → T'.heap = h' → Ext h h' → OPr h0 ws h' locs → Exa Z h' a C → (∀ {O nm d : String} {ty : FieldType}, Laid Z a0 C O nm d → parseFieldDescriptor d = some ty → Fld Z h' a O nm d (defaultValue ty)) → OGo p e below K T' (mkF m pc' Ls (.ref a :: st))) : OGo p e below K T (mkF m pc Ls st) := by
  subst hp
  obtain ⟨T', h', X', e', E', A', D', -, r⟩ := newO X hx hZ hown w wi wz eT (g := mkF m pc Ls st) rfl hd hc hl
  exact (k T' h' h.size rfl P.1.1 X' e' E' (P.ext E') A' D').via r
theorem g_inito (X : Stand p l e R s m args below meth c T locs cells slots) (hx : p.tables.exec = Jvm.exec) (hZ : Z.Warmed39 s.vm) (hown : s.vm.findClass own = some m.cls) {idx : Nat} (w1 : (Jvm.Cond.methodLink own idx Lib.objectInit).before a0 Z = true) (w2 : (Jvm.Cond.instanceMethod Lib.objectInit).before a0 Z = true)
    (w3 : (Jvm.Cond.code Lib.objectInit ⟨#[0xb1]⟩ 1 none).before a0 Z = true) (eT : T.heap = h) (hsize : Ls.size = c.maxLocals) {a : Addr} (hd : decode c.code pc = .ok (.invokespecial idx, 3)) (hp : pc + 3 = pc')
    (hf : 1 ≤ R.frames) {W : Nat} (hW : (st.map fun v => v.category).sum ≤ W) (hl : W + 12 ≤ R.locals)
    (k : ∀ T', Stand p l e R s m args below meth c T' locs cells slots → T'.heap = h → OGo p e below K T' (mkF m pc' Ls st)) : OGo p e below K T (mkF m pc Ls (.ref a :: st)) := by
  subst hp
  obtain ⟨T', X', e', q⟩ := initO X hx hZ hown w1 w2 w3 eT (g := mkF m pc Ls (.ref a :: st)) rfl hsize rfl hd hf (W := W) (by show 2 * 0 + _ ≤ _; omega) hl
  exact (k T' X' e').via q
theorem OMet.back {y : MethodName} {bytes : ByteArray} {maxL : Nat} {ret : Option FieldType} {rm : Room} {as : Array Value} {Q : Option Value → Heap → List Loc → Prop} {len W : Nat} (hM : OMet l y bytes maxL ret rm as Z h Q) (hZ : Z.Warmed39 s.vm) (wc : (Jvm.Cond.code y bytes maxL ret).before a0 Z = true) (wz : (Jvm.Cond.initialized y.cls).before a0 Z = true) (hf : rm.frames + 1 ≤ R.frames) (hl : W + (maxL + 11) + rm.locals ≤ R.locals) :
    Back l R p e below s args y len W (fun A a => a = as ∧ A.U.heap = h ∧ A.cells + rm.cells ≤ R.cells ∧ A.slots + rm.slots ≤ R.slots)
      (fun A _ v B => ∃ L, Q v B.U.heap L ∧ B.locs = A.locs ++ L ∧ B.cells = A.cells + rm.cells ∧ B.slots = A.slots + rm.slots) := backOf (hM []) hZ wc wz hf hl
theorem g_special (X : Stand p l e R s m args below meth c T locs cells slots) (hx : p.tables.exec = Jvm.exec) (hZ : Z.Warmed39 s.vm) (hown : s.vm.findClass own = some m.cls) (eT : T.heap = h) {y : MethodName} {bytes : ByteArray} {maxL index : Nat} {rm : Room} {as : Array Value} {Q : Option Value → Heap → List Loc → Prop} (hM : OMet l y bytes maxL none rm as Z h Q) (hy1 : y.name = "<init>")
    (w1 : (Jvm.Cond.methodLink own index y).before a0 Z = true) (w2 : (Jvm.Cond.instanceMethod y).before a0 Z = true) (w3 : (Jvm.Cond.code y bytes maxL none).before a0 Z = true) (wz : (Jvm.Cond.initialized y.cls).before a0 Z = true) (hy : y.cls ≠ "java/lang/invoke/MethodHandle" ∧ y.cls ≠ "java/lang/invoke/VarHandle")
    {a : Addr} {argsL rest : List Value} (has : (.ref a :: argsL).toArray = as) (hst : st = argsL.reverse ++ .ref a :: rest) {W : Nat} {ps : List FieldType} (hde : parseMethodDescriptor y.desc = some ⟨ps, none⟩) (hlen : argsL.length = ps.length) (hW : (rest.map fun v => v.category).sum ≤ W) (hf : rm.frames + 1 ≤ R.frames) (hl : W + (maxL + 11) + rm.locals ≤ R.locals) (hc : cells + rm.cells ≤ R.cells) (hs : slots + rm.slots ≤ R.slots)
    (hsize : Ls.size = c.maxLocals) (hd : decode c.code pc = .ok (.invokespecial index, 3)) (hp : pc + 3 = pc')
    (k : ∀ v T' h' L, Stand p l e R s m args below meth c T' (locs ++ L) (cells + rm.cells) (slots + rm.slots) → T'.heap = h' → Q v h' L → OGo p e below K T' (mkF m pc' Ls (v.toList ++ rest))) : OGo p e below K T (mkF m pc Ls st) := by
  subst hp has
  obtain ⟨v, vm₁, ⟨T', L', c', n'⟩, -, X', ⟨Lc, hQ, l1, y1, z1⟩, r⟩ := X.specialBack hx (y := y) hy1 hown (mvT hZ w1) (mvT hZ w2) (mvT hZ w3) hy (hM.back (W := W) hZ w3 wz hf hl) (g := mkF m pc Ls st) rfl hsize (Steps.refl _) (a := a) (argsL := argsL) (rest := rest) (lenOf hde hlen) hst (by show 2 * 0 + _ ≤ _; omega) hd (fun _ _ => ⟨rfl, eT, hc, hs⟩)
  dsimp only [Pt.U, Pt.locs, Pt.cells, Pt.slots] at X' l1 y1 z1 r hQ
  subst l1 y1 z1
  exact (k v T' _ Lc X' rfl hQ).tr r
theorem g_virtual (X : Stand p l e R s m args below meth c T locs cells slots) (hx : p.tables.exec = Jvm.exec) (hZ : Z.Warmed39 s.vm) (hown : s.vm.findClass own = some m.cls) (eT : T.heap = h) {y z : MethodName} {bytes : ByteArray} {maxL index : Nat} {ret : Option FieldType} {rm : Room} {as : Array Value} {Q : Option Value → Heap → List Loc → Prop} (hM : OMet l z bytes maxL ret rm as Z h Q) {C : String}
    (w1 : (Jvm.Cond.methodLink own index y).before a0 Z = true) (w2 : (Jvm.Cond.declares y).before a0 Z = true) (nf : NotFace s y) (w3 : (Jvm.Cond.selects C y z).before a0 Z = true) (w4 : (Jvm.Cond.instanceMethod z).before a0 Z = true) (w5 : (Jvm.Cond.code z bytes maxL ret).before a0 Z = true) (wz : (Jvm.Cond.initialized z.cls).before a0 Z = true) (hy : y.cls ≠ "java/lang/invoke/MethodHandle" ∧ y.cls ≠ "java/lang/invoke/VarHandle")
    {a : Addr} (E : Exa Z h a C) {argsL rest : List Value} (has : (.ref a :: argsL).toArray = as) (hst : st = argsL.reverse ++ .ref a :: rest) {W : Nat} {ps : List FieldType} {rt : Option FieldType} (hde : parseMethodDescriptor y.desc = some ⟨ps, rt⟩) (hlen : argsL.length = ps.length) (hW : (rest.map fun v => v.category).sum ≤ W) (hf : rm.frames + 1 ≤ R.frames) (hl : W + (maxL + 11) + rm.locals ≤ R.locals) (hc : cells + rm.cells ≤ R.cells) (hs : slots + rm.slots ≤ R.slots)
    (hsize : Ls.size = c.maxLocals) (hd : decode c.code pc = .ok (.invokevirtual index, 3)) (hp : pc + 3 = pc')
    (k : ∀ v T' h' L, Stand p l e R s m args below meth c T' (locs ++ L) (cells + rm.cells) (slots + rm.slots) → T'.heap = h' → Q v h' L → OGo p e below K T' (mkF m pc' Ls (v.toList ++ rest))) : OGo p e below K T (mkF m pc Ls st) := by
  subst hp has
  obtain ⟨cB, kB, q1, q2, q3⟩ := isOf (T := T) hZ eT E
  obtain ⟨v, vm₁, ⟨T', L', c', n'⟩, -, X', ⟨Lc, hQ, l1, y1, z1⟩, r⟩ := X.virtualBack hx (y := y) (z := z) hown (mvT hZ w1) (mvT hZ w2) nf (mvT hZ w3) (mvT hZ w4) hy (hM.back (W := W) hZ w5 wz hf hl) q1 q3 (g := mkF m pc Ls st) rfl hsize (Steps.refl _) (argsL := argsL) (rest := rest) (lenOf hde hlen) hst (by show 2 * 0 + _ ≤ _; omega) hd (fun _ _ => ⟨rfl, eT, hc, hs⟩)
  dsimp only [Pt.U, Pt.locs, Pt.cells, Pt.slots] at X' l1 y1 z1 r hQ
  subst l1 y1 z1
  exact (k v T' _ Lc X' rfl hQ).tr r
theorem g_virtualUp (X : Stand p l e R s m args below meth c T locs cells slots) (hx : p.tables.exec = Jvm.exec) (hZ : Z.Warmed39 s.vm) (hown : s.vm.findClass own = some m.cls) (eT : T.heap = h) {y z : MethodName} {bytes : ByteArray} {maxL index : Nat} {ret : Option FieldType} {rm : Room} {as : Array Value} {Q : Option Value → Heap → List Loc → Prop} (hM : OMet l z bytes maxL ret rm as Z h Q) {C owner : String}
    (w1 : (Jvm.Cond.methodLink own index y).before a0 Z = true) (w0 : (Jvm.Cond.sameMethod y.cls owner y.name y.desc).before a0 Z = true) (w2 : (Jvm.Cond.declares ⟨owner, y.name, y.desc⟩).before a0 Z = true) (nf : NotFace s ⟨owner, y.name, y.desc⟩) (w3 : (Jvm.Cond.selects C y z).before a0 Z = true) (w4 : (Jvm.Cond.instanceMethod z).before a0 Z = true) (w5 : (Jvm.Cond.code z bytes maxL ret).before a0 Z = true) (wz : (Jvm.Cond.initialized z.cls).before a0 Z = true) (hy : owner ≠ "java/lang/invoke/MethodHandle" ∧ owner ≠ "java/lang/invoke/VarHandle")
    {a : Addr} (E : Exa Z h a C) {argsL rest : List Value} (has : (.ref a :: argsL).toArray = as) (hst : st = argsL.reverse ++ .ref a :: rest) {W : Nat} {ps : List FieldType} {rt : Option FieldType} (hde : parseMethodDescriptor y.desc = some ⟨ps, rt⟩) (hlen : argsL.length = ps.length) (hW : (rest.map fun v => v.category).sum ≤ W) (hf : rm.frames + 1 ≤ R.frames) (hl : W + (maxL + 11) + rm.locals ≤ R.locals) (hc : cells + rm.cells ≤ R.cells) (hs : slots + rm.slots ≤ R.slots)
    (hsize : Ls.size = c.maxLocals) (hd : decode c.code pc = .ok (.invokevirtual index, 3)) (hp : pc + 3 = pc')
    (k : ∀ v T' h' L, Stand p l e R s m args below meth c T' (locs ++ L) (cells + rm.cells) (slots + rm.slots) → T'.heap = h' → Q v h' L → OGo p e below K T' (mkF m pc' Ls (v.toList ++ rest))) : OGo p e below K T (mkF m pc Ls st) := by
  subst hp has
  obtain ⟨cB, kB, q1, q2, q3⟩ := isOf (T := T) hZ eT E
  obtain ⟨v, vm₁, ⟨T', L', c', n'⟩, -, X', ⟨Lc, hQ, l1, y1, z1⟩, r⟩ := X.virtualBackUp hx (x := y) (y := z) (owner := owner) hown (mvT hZ w1) (mvT hZ w0) (mvT hZ w2) hy (mvT hZ w3) (mvT hZ w4) (hM.back (W := W) hZ w5 wz hf hl) q1 q3 (g := mkF m pc Ls st) rfl hsize (Steps.refl _) (argsL := argsL) (rest := rest) (lenOf hde hlen) hst (by show 2 * 0 + _ ≤ _; omega) hd (fun _ _ => ⟨rfl, eT, hc, hs⟩)
  dsimp only [Pt.U, Pt.locs, Pt.cells, Pt.slots] at X' l1 y1 z1 r hQ
  subst l1 y1 z1
  exact (k v T' _ Lc X' rfl hQ).tr r
theorem g_static (X : Stand p l e R s m args below meth c T locs cells slots) (hx : p.tables.exec = Jvm.exec) (hZ : Z.Warmed39 s.vm) (hown : s.vm.findClass own = some m.cls) (eT : T.heap = h) {y : MethodName} {bytes : ByteArray} {maxL index : Nat} {ret : Option FieldType} {rm : Room} {as : Array Value} {Q : Option Value → Heap → List Loc → Prop} (hM : OMet l y bytes maxL ret rm as Z h Q)
    (w1 : (Jvm.Cond.methodLink own index y).before a0 Z = true) (w2 : (Jvm.Cond.static y).before a0 Z = true) (w3 : (Jvm.Cond.code y bytes maxL ret).before a0 Z = true) (wz : (Jvm.Cond.initialized y.cls).before a0 Z = true) (hy : y.cls ≠ "java/lang/invoke/MethodHandle" ∧ y.cls ≠ "java/lang/invoke/VarHandle")
    {argsL rest : List Value} (has : argsL.toArray = as) (hst : st = argsL.reverse ++ rest) {W : Nat} {ps : List FieldType} {rt : Option FieldType} (hde : parseMethodDescriptor y.desc = some ⟨ps, rt⟩) (hlen : argsL.length = ps.length) (hW : (rest.map fun v => v.category).sum ≤ W) (hf : rm.frames + 1 ≤ R.frames) (hl : W + (maxL + 11) + rm.locals ≤ R.locals) (hc : cells + rm.cells ≤ R.cells) (hs : slots + rm.slots ≤ R.slots)
    (hsize : Ls.size = c.maxLocals) (hd : decode c.code pc = .ok (.invokestatic index, 3)) (hp : pc + 3 = pc')
    (k : ∀ v T' h' L, Stand p l e R s m args below meth c T' (locs ++ L) (cells + rm.cells) (slots + rm.slots) → T'.heap = h' → Q v h' L → OGo p e below K T' (mkF m pc' Ls (v.toList ++ rest))) : OGo p e below K T (mkF m pc Ls st) := by
  subst hp has
  obtain ⟨v, vm₁, ⟨T', L', c', n'⟩, -, X', ⟨Lc, hQ, l1, y1, z1⟩, r⟩ := Jvm.LawKit.callS X hx (y := y) hown (mvT hZ w1) (mvT hZ w2) (mvT hZ wz) (mvT hZ w3) hy (hM.back (W := W) hZ w3 wz hf hl) (g := mkF m pc Ls st) rfl hsize (argsL := argsL) (rest := rest) (lenOf hde hlen) hst (by show 2 * 0 + _ ≤ _; omega) hd (fun _ _ => ⟨rfl, eT, hc, hs⟩)
  dsimp only [Pt.U, Pt.locs, Pt.cells, Pt.slots] at X' l1 y1 z1 r hQ
  subst l1 y1 z1
  exact (k v T' _ Lc X' rfl hQ).via r
theorem g_face (X : Stand p l e R s m args below meth c T locs cells slots) (hx : p.tables.exec = Jvm.exec) (hZ : Z.Warmed39 s.vm) (hown : s.vm.findClass own = some m.cls) (eT : T.heap = h) {y z : MethodName} {bytes : ByteArray} {maxL index count : Nat} {ret : Option FieldType} {rm : Room} {as : Array Value} {Q : Option Value → Heap → List Loc → Prop} (hM : OMet l z bytes maxL ret rm as Z h Q) {C : String}
    (w1 : (Jvm.Cond.methodLink own index y).before a0 Z = true) (w2 : (Jvm.Cond.declares y).before a0 Z = true) (w6 : (Jvm.Cond.interfaceMethod y.cls y.cls y.name y.desc).before a0 Z = true) (w3 : (Jvm.Cond.selects C y z).before a0 Z = true) (w4 : (Jvm.Cond.instanceMethod z).before a0 Z = true) (w7 : (Jvm.Cond.publicMethod z).before a0 Z = true) (w8 : (Jvm.Cond.unhidden C y.name y.desc).before a0 Z = true) (w9 : (Jvm.Cond.castable C y.cls).before a0 Z = true) (w5 : (Jvm.Cond.code z bytes maxL ret).before a0 Z = true) (wz : (Jvm.Cond.initialized z.cls).before a0 Z = true) (hy : y.cls ≠ "java/lang/invoke/MethodHandle" ∧ y.cls ≠ "java/lang/invoke/VarHandle")
    {a : Addr} (E : Exa Z h a C) {argsL rest : List Value} (has : (.ref a :: argsL).toArray = as) (hst : st = argsL.reverse ++ .ref a :: rest) {W : Nat} {ps : List FieldType} {rt : Option FieldType} (hde : parseMethodDescriptor y.desc = some ⟨ps, rt⟩) (hlen : argsL.length = ps.length) (hW : (rest.map fun v => v.category).sum ≤ W) (hf : rm.frames + 1 ≤ R.frames) (hl : W + (maxL + 11) + rm.locals ≤ R.locals) (hc : cells + rm.cells ≤ R.cells) (hs : slots + rm.slots ≤ R.slots)
    (hsize : Ls.size = c.maxLocals) (hd : decode c.code pc = .ok (.invokeinterface index count, 5)) (hp : pc + 5 = pc')
    (k : ∀ v T' h' L, Stand p l e R s m args below meth c T' (locs ++ L) (cells + rm.cells) (slots + rm.slots) → T'.heap = h' → Q v h' L → OGo p e below K T' (mkF m pc' Ls (v.toList ++ rest))) : OGo p e below K T (mkF m pc Ls st) := by
  subst hp has
  obtain ⟨cB, kB, q1, q2, q3⟩ := isOf (T := T) hZ eT E
  obtain ⟨v, vm₁, ⟨T', L', c', n'⟩, -, X', ⟨Lc, hQ, l1, y1, z1⟩, r⟩ := X.interfaceBack hx (xi := y) (y := z) hown (mvT hZ w1) (mvT hZ w2) (mvT hZ w6 (by simp [Jvm.Cond.onTables, Jvm.Cond.keepsFace, Jvm.Cond.keeps, Jvm.Cond.steady, Jvm.Cond.faceAtom, hy.1, hy.2])) (mvT hZ w3) (mvT hZ w4) (mvT hZ w7) (mvT hZ w8) (mvT hZ w9) hy (hM.back (W := W) hZ w5 wz hf hl) q1 q2 q3 (g := mkF m pc Ls st) rfl hsize (Steps.refl _) (argsL := argsL) (rest := rest) (lenOf hde hlen) hst (by show 2 * 0 + _ ≤ _; omega) hd (fun _ _ => ⟨rfl, eT, hc, hs⟩)
  dsimp only [Pt.U, Pt.locs, Pt.cells, Pt.slots] at X' l1 y1 z1 r hQ
  subst l1 y1 z1
  exact (k v T' _ Lc X' rfl hQ).tr r
theorem g_aloadN (X : Stand p l e R s m args below meth c T locs cells slots) (hx : p.tables.exec = Jvm.exec) {k : Fin 4} {v : Value} (hd : decode c.code pc = .ok (.aload_n k, 1)) (hp : pc + 1 = pc') (hl : Ls[k.val]? = some (.val v)) (hv : v.isRef = true)
    (k : OGo p e below K T (mkF m pc' Ls (v :: st))) : OGo p e below K T (mkF m pc Ls (st)) := by
  subst hp; exact k.via fun _ q => XS.aloadN X.here hx rfl hd hl hv q
theorem g_aload (X : Stand p l e R s m args below meth c T locs cells slots) (hx : p.tables.exec = Jvm.exec) {k : Nat} {v : Value} (hd : decode c.code pc = .ok (.aload k, 2)) (hp : pc + 2 = pc') (hl : Ls[k]? = some (.val v)) (hv : v.isRef = true)
    (k : OGo p e below K T (mkF m pc' Ls (v :: st))) : OGo p e below K T (mkF m pc Ls (st)) := by
  subst hp; exact k.via fun _ q => XS.aload X.here hx rfl hd hl hv q
theorem g_iloadN (X : Stand p l e R s m args below meth c T locs cells slots) (hx : p.tables.exec = Jvm.exec) {k : Fin 4} {v : Int32} (hd : decode c.code pc = .ok (.iload_n k, 1)) (hp : pc + 1 = pc') (hl : Ls[k.val]? = some (.val (.int v)))
    (k : OGo p e below K T (mkF m pc' Ls (.int v :: st))) : OGo p e below K T (mkF m pc Ls (st)) := by
  subst hp; exact k.via fun _ q => XS.iloadN X.here hx rfl hd hl q
theorem g_iload (X : Stand p l e R s m args below meth c T locs cells slots) (hx : p.tables.exec = Jvm.exec) {k : Nat} {v : Int32} (hd : decode c.code pc = .ok (.iload k, 2)) (hp : pc + 2 = pc') (hl : Ls[k]? = some (.val (.int v)))
    (k : OGo p e below K T (mkF m pc' Ls (.int v :: st))) : OGo p e below K T (mkF m pc Ls (st)) := by
  subst hp; exact k.via fun _ q => XS.iload X.here hx rfl hd hl q
theorem g_lloadN (X : Stand p l e R s m args below meth c T locs cells slots) (hx : p.tables.exec = Jvm.exec) {k : Fin 4} {v : Int64} (hd : decode c.code pc = .ok (.lload_n k, 1)) (hp : pc + 1 = pc') (hl : Ls[k.val]? = some (.val (.long v)))
    (k : OGo p e below K T (mkF m pc' Ls (.long v :: st))) : OGo p e below K T (mkF m pc Ls (st)) := by
  subst hp; exact k.via fun _ q => XT.lloadN X.here hx rfl hd hl q
theorem g_lload (X : Stand p l e R s m args below meth c T locs cells slots) (hx : p.tables.exec = Jvm.exec) {k : Nat} {v : Int64} (hd : decode c.code pc = .ok (.lload k, 2)) (hp : pc + 2 = pc') (hl : Ls[k]? = some (.val (.long v)))
    (k : OGo p e below K T (mkF m pc' Ls (.long v :: st))) : OGo p e below K T (mkF m pc Ls (st)) := by
  subst hp; exact k.via fun _ q => XT.lload X.here hx rfl hd hl q
theorem g_istoreN (X : Stand p l e R s m args below meth c T locs cells slots) (hx : p.tables.exec = Jvm.exec) {k : Fin 4} {x : Int32} {Ls' : Array Slot} (hd : decode c.code pc = .ok (.istore_n k, 1)) (hp : pc + 1 = pc') (hl : storeLocals Ls k.val (.int x) = some Ls')
    (k : OGo p e below K T (mkF m pc' Ls' (st))) : OGo p e below K T (mkF m pc Ls (.int x :: st)) := by
  subst hp; exact k.via fun _ q => XS.istoreN X.here hx rfl hd rfl hl q
theorem g_istore (X : Stand p l e R s m args below meth c T locs cells slots) (hx : p.tables.exec = Jvm.exec) {k : Nat} {x : Int32} {Ls' : Array Slot} (hd : decode c.code pc = .ok (.istore k, 2)) (hp : pc + 2 = pc') (hl : storeLocals Ls k (.int x) = some Ls')
    (k : OGo p e below K T (mkF m pc' Ls' (st))) : OGo p e below K T (mkF m pc Ls (.int x :: st)) := by
  subst hp; exact k.via fun _ q => XS.istore X.here hx rfl hd rfl hl q
theorem g_lstoreN (X : Stand p l e R s m args below meth c T locs cells slots) (hx : p.tables.exec = Jvm.exec) {k : Fin 4} {x : Int64} {Ls' : Array Slot} (hd : decode c.code pc = .ok (.lstore_n k, 1)) (hp : pc + 1 = pc') (hl : storeLocals Ls k.val (.long x) = some Ls')
    (k : OGo p e below K T (mkF m pc' Ls' (st))) : OGo p e below K T (mkF m pc Ls (.long x :: st)) := by
  subst hp; exact k.via fun _ q => XT.lstoreN X.here hx rfl hd rfl hl q
theorem g_lstore (X : Stand p l e R s m args below meth c T locs cells slots) (hx : p.tables.exec = Jvm.exec) {k : Nat} {x : Int64} {Ls' : Array Slot} (hd : decode c.code pc = .ok (.lstore k, 2)) (hp : pc + 2 = pc') (hl : storeLocals Ls k (.long x) = some Ls')
    (k : OGo p e below K T (mkF m pc' Ls' (st))) : OGo p e below K T (mkF m pc Ls (.long x :: st)) := by
  subst hp; exact k.via fun _ q => XT.lstore X.here hx rfl hd rfl hl q
theorem g_astoreN (X : Stand p l e R s m args below meth c T locs cells slots) (hx : p.tables.exec = Jvm.exec) {k : Fin 4} {x : Value} {Ls' : Array Slot} (hd : decode c.code pc = .ok (.astore_n k, 1)) (hp : pc + 1 = pc') (hv : x.isRef = true) (hl : storeLocals Ls k.val x = some Ls')
    (k : OGo p e below K T (mkF m pc' Ls' (st))) : OGo p e below K T (mkF m pc Ls (x :: st)) := by
  subst hp; exact k.via fun _ q => XS.astoreN X.here hx rfl hd rfl hv hl q
theorem g_astore (X : Stand p l e R s m args below meth c T locs cells slots) (hx : p.tables.exec = Jvm.exec) {k : Nat} {x : Value} {Ls' : Array Slot} (hd : decode c.code pc = .ok (.astore k, 2)) (hp : pc + 2 = pc') (hv : x.isRef = true) (hl : storeLocals Ls k x = some Ls')
    (k : OGo p e below K T (mkF m pc' Ls' (st))) : OGo p e below K T (mkF m pc Ls (x :: st)) := by
  subst hp; exact k.via fun _ q => XS.astore X.here hx rfl hd rfl hv hl q
theorem g_iconst (X : Stand p l e R s m args below meth c T locs cells slots) (hx : p.tables.exec = Jvm.exec) {i : Int} (v : Int32) (hd : decode c.code pc = .ok (.iconst i, 1)) (hp : pc + 1 = pc') (hv : Int32.ofInt i = v)
    (k : OGo p e below K T (mkF m pc' Ls (.int v :: st))) : OGo p e below K T (mkF m pc Ls st) := by
  subst hp; exact k.via fun _ q => XT.iconstV X.here hx rfl v hd hv q
theorem g_bipush (X : Stand p l e R s m args below meth c T locs cells slots) (hx : p.tables.exec = Jvm.exec) {i : Int} (v : Int32) (hd : decode c.code pc = .ok (.bipush i, 2)) (hp : pc + 2 = pc') (hv : (Int8.ofInt i).toInt32 = v)
    (k : OGo p e below K T (mkF m pc' Ls (.int v :: st))) : OGo p e below K T (mkF m pc Ls st) := by
  subst hp; exact k.via fun _ q => XT.bipushV X.here hx rfl v hd hv q
theorem g_sipush (X : Stand p l e R s m args below meth c T locs cells slots) (hx : p.tables.exec = Jvm.exec) {i : Int} (v : Int32) (hd : decode c.code pc = .ok (.sipush i, 3)) (hp : pc + 3 = pc') (hv : (Int16.ofInt i).toInt32 = v)
    (k : OGo p e below K T (mkF m pc' Ls (.int v :: st))) : OGo p e below K T (mkF m pc Ls st) := by
  subst hp; exact k.via fun _ q => XT.sipushV X.here hx rfl v hd hv q
theorem g_lconst (X : Stand p l e R s m args below meth c T locs cells slots) (hx : p.tables.exec = Jvm.exec) {i : Fin 2} (v : Int64) (hd : decode c.code pc = .ok (.lconst i, 1)) (hp : pc + 1 = pc') (hv : Int64.ofNat i = v)
    (k : OGo p e below K T (mkF m pc' Ls (.long v :: st))) : OGo p e below K T (mkF m pc Ls st) := by
  subst hp; exact k.via fun _ q => XT.lconstV X.here hx rfl v hd hv q
theorem g_anull (X : Stand p l e R s m args below meth c T locs cells slots) (hx : p.tables.exec = Jvm.exec)  (hd : decode c.code pc = .ok (.aconst_null, 1)) (hp : pc + 1 = pc')
    (k : OGo p e below K T (mkF m pc' Ls (.null :: st))) : OGo p e below K T (mkF m pc Ls (st)) := by
  subst hp; exact k.via fun _ q => XS.aconstNull X.here hx rfl hd  q
theorem g_ldcI (X : Stand p l e R s m args below meth c T locs cells slots) (hx : p.tables.exec = Jvm.exec) (hZ : Z.Warmed39 s.vm) (hown : s.vm.findClass own = some m.cls) {index : Nat} {v : Int32} (w : (Jvm.Cond.constant own index v).before a0 Z = true) (hd : decode c.code pc = .ok (.ldc index, 2)) (hp : pc + 2 = pc')
    (k : OGo p e below K T (mkF m pc' Ls (.int v :: st))) : OGo p e below K T (mkF m pc Ls st) := by
  subst hp; exact k.via fun _ q => X.ldcI hx hown (mvT hZ w) rfl hd q
theorem g_ldc2J (X : Stand p l e R s m args below meth c T locs cells slots) (hx : p.tables.exec = Jvm.exec) (hZ : Z.Warmed39 s.vm) (hown : s.vm.findClass own = some m.cls) {index : Nat} {v : Int64} (w : (Jvm.Cond.constantLong own index v).before a0 Z = true) (hd : decode c.code pc = .ok (.ldc2_w index, 3)) (hp : pc + 3 = pc')
    (k : OGo p e below K T (mkF m pc' Ls (.long v :: st))) : OGo p e below K T (mkF m pc Ls st) := by
  subst hp; exact k.via fun _ q => X.ldc2J hx hown (mvT hZ w) rfl hd q
theorem g_iadd (X : Stand p l e R s m args below meth c T locs cells slots) (hx : p.tables.exec = Jvm.exec) {x y z : Int32} (hd : decode c.code pc = .ok (.iadd, 1)) (hp : pc + 1 = pc') (hz : x + y = z)
    (k : OGo p e below K T (mkF m pc' Ls (.int z :: st))) : OGo p e below K T (mkF m pc Ls (.int y :: .int x :: st)) := by
  subst hp hz; exact k.via fun _ q => XS.iadd X.here hx rfl hd rfl q
theorem g_isub (X : Stand p l e R s m args below meth c T locs cells slots) (hx : p.tables.exec = Jvm.exec) {x y z : Int32} (hd : decode c.code pc = .ok (.isub, 1)) (hp : pc + 1 = pc') (hz : x - y = z)
    (k : OGo p e below K T (mkF m pc' Ls (.int z :: st))) : OGo p e below K T (mkF m pc Ls (.int y :: .int x :: st)) := by
  subst hp hz; exact k.via fun _ q => XS.isub X.here hx rfl hd rfl q
theorem g_iand (X : Stand p l e R s m args below meth c T locs cells slots) (hx : p.tables.exec = Jvm.exec) {x y z : Int32} (hd : decode c.code pc = .ok (.iand, 1)) (hp : pc + 1 = pc') (hz : x &&& y = z)
    (k : OGo p e below K T (mkF m pc' Ls (.int z :: st))) : OGo p e below K T (mkF m pc Ls (.int y :: .int x :: st)) := by
  subst hp hz; exact k.via fun _ q => XS.iand X.here hx rfl hd rfl q
theorem g_imul (X : Stand p l e R s m args below meth c T locs cells slots) (hx : p.tables.exec = Jvm.exec) {x y z : Int32} (hd : decode c.code pc = .ok (.imul, 1)) (hp : pc + 1 = pc') (hz : x * y = z)
    (k : OGo p e below K T (mkF m pc' Ls (.int z :: st))) : OGo p e below K T (mkF m pc Ls (.int y :: .int x :: st)) := by
  subst hp hz; exact k.via fun _ q => XS.imul X.here hx rfl hd rfl q
theorem g_ixor (X : Stand p l e R s m args below meth c T locs cells slots) (hx : p.tables.exec = Jvm.exec) {x y z : Int32} (hd : decode c.code pc = .ok (.ixor, 1)) (hp : pc + 1 = pc') (hz : x ^^^ y = z)
    (k : OGo p e below K T (mkF m pc' Ls (.int z :: st))) : OGo p e below K T (mkF m pc Ls (.int y :: .int x :: st)) := by
  subst hp hz; exact k.via fun _ q => XT.ixor X.here hx rfl hd rfl q
theorem g_ior (X : Stand p l e R s m args below meth c T locs cells slots) (hx : p.tables.exec = Jvm.exec) {x y z : Int32} (hd : decode c.code pc = .ok (.ior, 1)) (hp : pc + 1 = pc') (hz : x ||| y = z)
    (k : OGo p e below K T (mkF m pc' Ls (.int z :: st))) : OGo p e below K T (mkF m pc Ls (.int y :: .int x :: st)) := by
  subst hp hz; exact k.via fun _ q => XT.ior X.here hx rfl hd rfl q
theorem g_ishl (X : Stand p l e R s m args below meth c T locs cells slots) (hx : p.tables.exec = Jvm.exec) {x y z : Int32} (hd : decode c.code pc = .ok (.ishl, 1)) (hp : pc + 1 = pc') (hz : x <<< (y &&& 31) = z)
    (k : OGo p e below K T (mkF m pc' Ls (.int z :: st))) : OGo p e below K T (mkF m pc Ls (.int y :: .int x :: st)) := by
  subst hp hz; exact k.via fun _ q => XT.ishl X.here hx rfl hd rfl q
theorem g_ishr (X : Stand p l e R s m args below meth c T locs cells slots) (hx : p.tables.exec = Jvm.exec) {x y z : Int32} (hd : decode c.code pc = .ok (.ishr, 1)) (hp : pc + 1 = pc') (hz : x >>> (y &&& 31) = z)
    (k : OGo p e below K T (mkF m pc' Ls (.int z :: st))) : OGo p e below K T (mkF m pc Ls (.int y :: .int x :: st)) := by
  subst hp hz; exact k.via fun _ q => XT.ishr X.here hx rfl hd rfl q
theorem g_iushr (X : Stand p l e R s m args below meth c T locs cells slots) (hx : p.tables.exec = Jvm.exec) {x y z : Int32} (hd : decode c.code pc = .ok (.iushr, 1)) (hp : pc + 1 = pc') (hz : XT.ushr x y = z)
    (k : OGo p e below K T (mkF m pc' Ls (.int z :: st))) : OGo p e below K T (mkF m pc Ls (.int y :: .int x :: st)) := by
  subst hp hz; exact k.via fun _ q => XT.iushr X.here hx rfl hd rfl q
theorem g_ladd (X : Stand p l e R s m args below meth c T locs cells slots) (hx : p.tables.exec = Jvm.exec) {x y z : Int64} (hd : decode c.code pc = .ok (.ladd, 1)) (hp : pc + 1 = pc') (hz : x + y = z)
    (k : OGo p e below K T (mkF m pc' Ls (.long z :: st))) : OGo p e below K T (mkF m pc Ls (.long y :: .long x :: st)) := by
  subst hp hz; exact k.via fun _ q => XT.ladd X.here hx rfl hd rfl q
theorem g_lsub (X : Stand p l e R s m args below meth c T locs cells slots) (hx : p.tables.exec = Jvm.exec) {x y z : Int64} (hd : decode c.code pc = .ok (.lsub, 1)) (hp : pc + 1 = pc') (hz : x - y = z)
    (k : OGo p e below K T (mkF m pc' Ls (.long z :: st))) : OGo p e below K T (mkF m pc Ls (.long y :: .long x :: st)) := by
  subst hp hz; exact k.via fun _ q => XT.lsub X.here hx rfl hd rfl q
theorem g_lmul (X : Stand p l e R s m args below meth c T locs cells slots) (hx : p.tables.exec = Jvm.exec) {x y z : Int64} (hd : decode c.code pc = .ok (.lmul, 1)) (hp : pc + 1 = pc') (hz : x * y = z)
    (k : OGo p e below K T (mkF m pc' Ls (.long z :: st))) : OGo p e below K T (mkF m pc Ls (.long y :: .long x :: st)) := by
  subst hp hz; exact k.via fun _ q => XT.lmul X.here hx rfl hd rfl q
theorem g_land (X : Stand p l e R s m args below meth c T locs cells slots) (hx : p.tables.exec = Jvm.exec) {x y z : Int64} (hd : decode c.code pc = .ok (.land, 1)) (hp : pc + 1 = pc') (hz : x &&& y = z)
    (k : OGo p e below K T (mkF m pc' Ls (.long z :: st))) : OGo p e below K T (mkF m pc Ls (.long y :: .long x :: st)) := by
  subst hp hz; exact k.via fun _ q => XT.land X.here hx rfl hd rfl q
theorem g_lor (X : Stand p l e R s m args below meth c T locs cells slots) (hx : p.tables.exec = Jvm.exec) {x y z : Int64} (hd : decode c.code pc = .ok (.lor, 1)) (hp : pc + 1 = pc') (hz : x ||| y = z)
    (k : OGo p e below K T (mkF m pc' Ls (.long z :: st))) : OGo p e below K T (mkF m pc Ls (.long y :: .long x :: st)) := by
  subst hp hz; exact k.via fun _ q => XT.lor X.here hx rfl hd rfl q
theorem g_lxor (X : Stand p l e R s m args below meth c T locs cells slots) (hx : p.tables.exec = Jvm.exec) {x y z : Int64} (hd : decode c.code pc = .ok (.lxor, 1)) (hp : pc + 1 = pc') (hz : x ^^^ y = z)
    (k : OGo p e below K T (mkF m pc' Ls (.long z :: st))) : OGo p e below K T (mkF m pc Ls (.long y :: .long x :: st)) := by
  subst hp hz; exact k.via fun _ q => XT.lxor X.here hx rfl hd rfl q
theorem g_lshl (X : Stand p l e R s m args below meth c T locs cells slots) (hx : p.tables.exec = Jvm.exec) {x : Int64} {y : Int32} (hd : decode c.code pc = .ok (.lshl, 1)) (hp : pc + 1 = pc')
    (k : OGo p e below K T (mkF m pc' Ls (.long (x <<< (y.toInt64 &&& 63)) :: st))) : OGo p e below K T (mkF m pc Ls (.int y :: .long x :: st)) := by
  subst hp; exact k.via fun _ q => XT.lshl X.here hx rfl hd rfl q
theorem g_lshr (X : Stand p l e R s m args below meth c T locs cells slots) (hx : p.tables.exec = Jvm.exec) {x : Int64} {y : Int32} (hd : decode c.code pc = .ok (.lshr, 1)) (hp : pc + 1 = pc')
    (k : OGo p e below K T (mkF m pc' Ls (.long (x >>> (y.toInt64 &&& 63)) :: st))) : OGo p e below K T (mkF m pc Ls (.int y :: .long x :: st)) := by
  subst hp; exact k.via fun _ q => XT.lshr X.here hx rfl hd rfl q
theorem g_lushr (X : Stand p l e R s m args below meth c T locs cells slots) (hx : p.tables.exec = Jvm.exec) {x : Int64} {y : Int32} (hd : decode c.code pc = .ok (.lushr, 1)) (hp : pc + 1 = pc')
    (k : OGo p e below K T (mkF m pc' Ls (.long (XT.ushrL x y) :: st))) : OGo p e below K T (mkF m pc Ls (.int y :: .long x :: st)) := by
  subst hp; exact k.via fun _ q => XT.lushr X.here hx rfl hd rfl q
theorem g_idiv (X : Stand p l e R s m args below meth c T locs cells slots) (hx : p.tables.exec = Jvm.exec) {x y : Int32} (hd : decode c.code pc = .ok (.idiv, 1)) (hp : pc + 1 = pc') (hy : y ≠ 0)
    (k : OGo p e below K T (mkF m pc' Ls (.int (x / y) :: st))) : OGo p e below K T (mkF m pc Ls (.int y :: .int x :: st)) := by
  subst hp; exact k.via fun _ q => XS.idiv X.here hx rfl hd rfl hy q
theorem g_irem (X : Stand p l e R s m args below meth c T locs cells slots) (hx : p.tables.exec = Jvm.exec) {x y : Int32} (hd : decode c.code pc = .ok (.irem, 1)) (hp : pc + 1 = pc') (hy : y ≠ 0)
    (k : OGo p e below K T (mkF m pc' Ls (.int (x % y) :: st))) : OGo p e below K T (mkF m pc Ls (.int y :: .int x :: st)) := by
  subst hp; exact k.via fun _ q => iremM X hx rfl hd rfl hy q
theorem g_ldiv (X : Stand p l e R s m args below meth c T locs cells slots) (hx : p.tables.exec = Jvm.exec) {x y : Int64} (hd : decode c.code pc = .ok (.ldiv, 1)) (hp : pc + 1 = pc') (hy : y ≠ 0)
    (k : OGo p e below K T (mkF m pc' Ls (.long (x / y) :: st))) : OGo p e below K T (mkF m pc Ls (.long y :: .long x :: st)) := by
  subst hp; exact k.via fun _ q => XT.ldiv X.here hx rfl hd rfl hy q
theorem g_lrem (X : Stand p l e R s m args below meth c T locs cells slots) (hx : p.tables.exec = Jvm.exec) {x y : Int64} (hd : decode c.code pc = .ok (.lrem, 1)) (hp : pc + 1 = pc') (hy : y ≠ 0)
    (k : OGo p e below K T (mkF m pc' Ls (.long (x % y) :: st))) : OGo p e below K T (mkF m pc Ls (.long y :: .long x :: st)) := by
  subst hp; exact k.via fun _ q => XT.lrem X.here hx rfl hd rfl hy (by rw [lrem_mod]; exact q)
theorem g_ineg (X : Stand p l e R s m args below meth c T locs cells slots) (hx : p.tables.exec = Jvm.exec) {x : Int32} (hd : decode c.code pc = .ok (.ineg, 1)) (hp : pc + 1 = pc')
    (k : OGo p e below K T (mkF m pc' Ls (.int (-x) :: st))) : OGo p e below K T (mkF m pc Ls (.int x :: st)) := by
  subst hp; exact k.via fun _ q => XS.ineg X.here hx rfl hd rfl q
theorem g_lneg (X : Stand p l e R s m args below meth c T locs cells slots) (hx : p.tables.exec = Jvm.exec) {x : Int64} (hd : decode c.code pc = .ok (.lneg, 1)) (hp : pc + 1 = pc')
    (k : OGo p e below K T (mkF m pc' Ls (.long (-x) :: st))) : OGo p e below K T (mkF m pc Ls (.long x :: st)) := by
  subst hp; exact k.via fun _ q => XT.lneg X.here hx rfl hd rfl q
theorem g_i2l (X : Stand p l e R s m args below meth c T locs cells slots) (hx : p.tables.exec = Jvm.exec) {x : Int32} (hd : decode c.code pc = .ok (.i2l, 1)) (hp : pc + 1 = pc')
    (k : OGo p e below K T (mkF m pc' Ls (.long x.toInt64 :: st))) : OGo p e below K T (mkF m pc Ls (.int x :: st)) := by
  subst hp; exact k.via fun _ q => XT.i2l X.here hx rfl hd rfl q
theorem g_l2i (X : Stand p l e R s m args below meth c T locs cells slots) (hx : p.tables.exec = Jvm.exec) {x : Int64} (hd : decode c.code pc = .ok (.l2i, 1)) (hp : pc + 1 = pc')
    (k : OGo p e below K T (mkF m pc' Ls (.int x.toInt32 :: st))) : OGo p e below K T (mkF m pc Ls (.long x :: st)) := by
  subst hp; exact k.via fun _ q => XT.l2i X.here hx rfl hd rfl q
theorem g_i2b (X : Stand p l e R s m args below meth c T locs cells slots) (hx : p.tables.exec = Jvm.exec) {x : Int32} (hd : decode c.code pc = .ok (.i2b, 1)) (hp : pc + 1 = pc')
    (k : OGo p e below K T (mkF m pc' Ls (.int x.toInt8.toInt32 :: st))) : OGo p e below K T (mkF m pc Ls (.int x :: st)) := by
  subst hp; exact k.via fun _ q => XT.i2b X.here hx rfl hd rfl q
theorem g_i2c (X : Stand p l e R s m args below meth c T locs cells slots) (hx : p.tables.exec = Jvm.exec) {x : Int32} (hd : decode c.code pc = .ok (.i2c, 1)) (hp : pc + 1 = pc')
    (k : OGo p e below K T (mkF m pc' Ls (.int x.toUInt32.toUInt16.toUInt32.toInt32 :: st))) : OGo p e below K T (mkF m pc Ls (.int x :: st)) := by
  subst hp; exact k.via fun _ q => XT.i2c X.here hx rfl hd rfl q
theorem g_i2s (X : Stand p l e R s m args below meth c T locs cells slots) (hx : p.tables.exec = Jvm.exec) {x : Int32} (hd : decode c.code pc = .ok (.i2s, 1)) (hp : pc + 1 = pc')
    (k : OGo p e below K T (mkF m pc' Ls (.int x.toInt16.toInt32 :: st))) : OGo p e below K T (mkF m pc Ls (.int x :: st)) := by
  subst hp; exact k.via fun _ q => XT.i2s X.here hx rfl hd rfl q
theorem g_lcmp (X : Stand p l e R s m args below meth c T locs cells slots) (hx : p.tables.exec = Jvm.exec) {x y : Int64} (hd : decode c.code pc = .ok (.lcmp, 1)) (hp : pc + 1 = pc')
    (k : OGo p e below K T (mkF m pc' Ls (.int (XT.cmpL x y) :: st))) : OGo p e below K T (mkF m pc Ls (.long y :: .long x :: st)) := by
  subst hp; exact k.via fun _ q => XT.lcmp X.here hx rfl hd rfl q
theorem g_dup (X : Stand p l e R s m args below meth c T locs cells slots) (hx : p.tables.exec = Jvm.exec) {x : Value} (hd : decode c.code pc = .ok (.dup, 1)) (hp : pc + 1 = pc') (hc : x.category = 1)
    (k : OGo p e below K T (mkF m pc' Ls (x :: x :: st))) : OGo p e below K T (mkF m pc Ls (x :: st)) := by
  subst hp; exact k.via fun _ q => XS.dup X.here hx rfl hd rfl hc q
theorem g_pop (X : Stand p l e R s m args below meth c T locs cells slots) (hx : p.tables.exec = Jvm.exec) {x : Value} (hd : decode c.code pc = .ok (.pop, 1)) (hp : pc + 1 = pc') (hc : x.category = 1)
    (k : OGo p e below K T (mkF m pc' Ls (st))) : OGo p e below K T (mkF m pc Ls (x :: st)) := by
  subst hp; exact k.via fun _ q => XT.pop X.here hx rfl hd rfl hc q
theorem g_dupx1 (X : Stand p l e R s m args below meth c T locs cells slots) (hx : p.tables.exec = Jvm.exec) {x y : Value} (hd : decode c.code pc = .ok (.dup_x1, 1)) (hp : pc + 1 = pc') (hc : x.category = 1) (hc' : y.category = 1)
    (k : OGo p e below K T (mkF m pc' Ls (x :: y :: x :: st))) : OGo p e below K T (mkF m pc Ls (x :: y :: st)) := by
  subst hp; exact k.via fun _ q => XT.dupX1 X.here hx rfl hd rfl hc hc' q
theorem g_dup2 (X : Stand p l e R s m args below meth c T locs cells slots) (hx : p.tables.exec = Jvm.exec) {x y : Value} (hd : decode c.code pc = .ok (.dup2, 1)) (hp : pc + 1 = pc') (hc : x.category = 1) (hc' : y.category = 1)
    (k : OGo p e below K T (mkF m pc' Ls (x :: y :: x :: y :: st))) : OGo p e below K T (mkF m pc Ls (x :: y :: st)) := by
  subst hp; exact k.via fun _ q => XT.dup2 X.here hx rfl hd rfl hc hc' q
theorem g_dup2L (X : Stand p l e R s m args below meth c T locs cells slots) (hx : p.tables.exec = Jvm.exec) {x : Int64} (hd : decode c.code pc = .ok (.dup2, 1)) (hp : pc + 1 = pc')
    (k : OGo p e below K T (mkF m pc' Ls (.long x :: .long x :: st))) : OGo p e below K T (mkF m pc Ls (.long x :: st)) := by
  subst hp; exact k.via fun _ q => XT.dup2L X.here hx rfl hd rfl q
theorem g_iinc (X : Stand p l e R s m args below meth c T locs cells slots) (hx : p.tables.exec = Jvm.exec) {k : Nat} {cst : Int} {x z : Int32} {Ls' : Array Slot} (v : Int32) (hd : decode c.code pc = .ok (.iinc k cst, 3)) (hp : pc + 3 = pc') (hv : Int32.ofInt cst = v) (hl : Ls[k]? = some (.val (.int x))) (hs : x + v = z) (hl' : storeLocals Ls k (.int z) = some Ls')
    (k : OGo p e below K T (mkF m pc' Ls' st)) : OGo p e below K T (mkF m pc Ls st) := by
  subst hp hs; exact k.via fun _ q => XT.iincV X.here hx rfl v hd hv hl hl' q
theorem g_ifY (X : Stand p l e R s m args below meth c T locs cells slots) (hx : p.tables.exec = Jvm.exec) {cd : ClassFile.Cond} {x : Int32} {o : Int} (hd : decode c.code pc = .ok (.ifCond cd o, 3)) (hc : ifCond.holds cd x = true) (ho : 0 ≤ (pc : Int) + o) (hp : ((pc : Int) + o).toNat = pc')
    (k : OGo p e below K T (mkF m pc' Ls st)) : OGo p e below K T (mkF m pc Ls (.int x :: st)) := k.via fun _ q => XS.ifYes X.here hx rfl rfl hd rfl hc ho hp q
theorem g_ifN (X : Stand p l e R s m args below meth c T locs cells slots) (hx : p.tables.exec = Jvm.exec) {cd : ClassFile.Cond} {x : Int32} {o : Int} (hd : decode c.code pc = .ok (.ifCond cd o, 3)) (hc : ifCond.holds cd x = false) (hp : pc + 3 = pc')
    (k : OGo p e below K T (mkF m pc' Ls st)) : OGo p e below K T (mkF m pc Ls (.int x :: st)) := by
  subst hp; exact k.via fun _ q => XS.ifNo X.here hx rfl hd rfl hc q
theorem g_icmpY (X : Stand p l e R s m args below meth c T locs cells slots) (hx : p.tables.exec = Jvm.exec) {cd : ClassFile.Cond} {x y : Int32} {o : Int} (hd : decode c.code pc = .ok (.if_icmp cd o, 3)) (hc : if_icmp.holds cd x y = true) (ho : 0 ≤ (pc : Int) + o) (hp : ((pc : Int) + o).toNat = pc')
    (k : OGo p e below K T (mkF m pc' Ls st)) : OGo p e below K T (mkF m pc Ls (.int y :: .int x :: st)) := k.via fun _ q => XS.icmpYes X.here hx rfl rfl hd rfl hc ho hp q
theorem g_icmpN (X : Stand p l e R s m args below meth c T locs cells slots) (hx : p.tables.exec = Jvm.exec) {cd : ClassFile.Cond} {x y : Int32} {o : Int} (hd : decode c.code pc = .ok (.if_icmp cd o, 3)) (hc : if_icmp.holds cd x y = false) (hp : pc + 3 = pc')
    (k : OGo p e below K T (mkF m pc' Ls st)) : OGo p e below K T (mkF m pc Ls (.int y :: .int x :: st)) := by
  subst hp; exact k.via fun _ q => XS.icmpNo X.here hx rfl hd rfl hc q
theorem g_acmpY (X : Stand p l e R s m args below meth c T locs cells slots) (hx : p.tables.exec = Jvm.exec) {cd : ClassFile.ACond} {x y : Value} {o : Int} (hd : decode c.code pc = .ok (.if_acmp cd o, 3)) (hx1 : x.isRef = true) (hy1 : y.isRef = true) (hc : XT.acmp cd x y = true) (ho : 0 ≤ (pc : Int) + o) (hp : ((pc : Int) + o).toNat = pc')
    (k : OGo p e below K T (mkF m pc' Ls st)) : OGo p e below K T (mkF m pc Ls (y :: x :: st)) := k.via fun _ q => XT.acmpYes X.here hx rfl rfl hd rfl hx1 hy1 hc ho hp q
theorem g_acmpN (X : Stand p l e R s m args below meth c T locs cells slots) (hx : p.tables.exec = Jvm.exec) {cd : ClassFile.ACond} {x y : Value} {o : Int} (hd : decode c.code pc = .ok (.if_acmp cd o, 3)) (hx1 : x.isRef = true) (hy1 : y.isRef = true) (hc : XT.acmp cd x y = false) (hp : pc + 3 = pc')
    (k : OGo p e below K T (mkF m pc' Ls st)) : OGo p e below K T (mkF m pc Ls (y :: x :: st)) := by
  subst hp; exact k.via fun _ q => XT.acmpNo X.here hx rfl hd rfl hx1 hy1 hc q
theorem g_nullY (X : Stand p l e R s m args below meth c T locs cells slots) (hx : p.tables.exec = Jvm.exec) {o : Int} (hd : decode c.code pc = .ok (.ifnull o, 3)) (ho : 0 ≤ (pc : Int) + o) (hp : ((pc : Int) + o).toNat = pc')
    (k : OGo p e below K T (mkF m pc' Ls st)) : OGo p e below K T (mkF m pc Ls (.null :: st)) := k.via fun _ q => XS.ifnullYes X.here hx rfl rfl hd rfl ho hp q
theorem g_nullN (X : Stand p l e R s m args below meth c T locs cells slots) (hx : p.tables.exec = Jvm.exec) {o : Int} {a : Addr} (hd : decode c.code pc = .ok (.ifnull o, 3)) (hp : pc + 3 = pc')
    (k : OGo p e below K T (mkF m pc' Ls st)) : OGo p e below K T (mkF m pc Ls (.ref a :: st)) := by
  subst hp; exact k.via fun _ q => XS.ifnullNo X.here hx rfl hd rfl q
theorem g_nonnullY (X : Stand p l e R s m args below meth c T locs cells slots) (hx : p.tables.exec = Jvm.exec) {o : Int} {a : Addr} (hd : decode c.code pc = .ok (.ifnonnull o, 3)) (ho : 0 ≤ (pc : Int) + o) (hp : ((pc : Int) + o).toNat = pc')
    (k : OGo p e below K T (mkF m pc' Ls st)) : OGo p e below K T (mkF m pc Ls (.ref a :: st)) := k.via fun _ q => XT.ifnonnullYes X.here hx rfl rfl hd rfl ho hp q
theorem g_nonnullN (X : Stand p l e R s m args below meth c T locs cells slots) (hx : p.tables.exec = Jvm.exec) {o : Int} (hd : decode c.code pc = .ok (.ifnonnull o, 3)) (hp : pc + 3 = pc')
    (k : OGo p e below K T (mkF m pc' Ls st)) : OGo p e below K T (mkF m pc Ls (.null :: st)) := by
  subst hp; exact k.via fun _ q => XT.ifnonnullNo X.here hx rfl hd rfl q
theorem g_goto (X : Stand p l e R s m args below meth c T locs cells slots) (hx : p.tables.exec = Jvm.exec) {o : Int} (hd : decode c.code pc = .ok (.goto o, 3)) (ho : 0 ≤ (pc : Int) + o) (hp : ((pc : Int) + o).toNat = pc')
    (k : OGo p e below K T (mkF m pc' Ls st)) : OGo p e below K T (mkF m pc Ls st) := k.via fun _ q => XS.goto X.here hx rfl rfl hd ho hp q
theorem g_len (X : Stand p l e R s m args below meth c T locs cells slots) (hx : p.tables.exec = Jvm.exec) (hZ : Z.Warmed39 s.vm) (eT : T.heap = h) {a : Addr} {kk : ClassId} {ty : FieldType} {vs : List Value} (F : OAry Z h a kk ty vs) {z : Int32} (hz : vs.length.toInt32 = z) (hd : decode c.code pc = .ok (.arraylength, 1)) (hp : pc + 1 = pc')
    (k : OGo p e below K T (mkF m pc' Ls (.int z :: st))) : OGo p e below K T (mkF m pc Ls (.ref a :: st)) := by
  subst hp hz
  obtain ⟨cl, A, r1, rfl, -⟩ := F
  refine k.via fun t q => X.arraylength hx (cell := cl) (a := a) (by rw [eT]; exact A.1) (State.isArrayOf_alike hZ.alike A.2.1) (g := mkF m pc Ls (.ref a :: st)) rfl (rest := st) rfl hd t ?_
  simpa using q
theorem g_iaload (X : Stand p l e R s m args below meth c T locs cells slots) (hx : p.tables.exec = Jvm.exec) (hZ : Z.Warmed39 s.vm) (eT : T.heap = h) {a : Addr} {kk : ClassId} {vs : List Value} (F : OAry Z h a kk .int vs) {j : Int32} {v : Value} (hj : ¬ j < 0) (hv : vs[j.toNatClampNeg]? = some v) (hd : decode c.code pc = .ok (.iaload, 1)) (hp : pc + 1 = pc')
    (k : OGo p e below K T (mkF m pc' Ls (v :: st))) : OGo p e below K T (mkF m pc Ls (.int j :: .ref a :: st)) := by
  subst hp
  obtain ⟨cl, A, r1, r2, -⟩ := F
  exact k.via fun t q => X.iaload hx (cell := cl) (a := a) (j := j) (v := v) (by rw [eT]; exact A.1) (State.isArrayOf_alike hZ.alike A.2.1) A.2.2 (aryIn r2 hj hv).1 (aryIn r2 hj hv).2 (g := mkF m pc Ls (.int j :: .ref a :: st)) rfl (rest := st) rfl hd t q
theorem g_laload (X : Stand p l e R s m args below meth c T locs cells slots) (hx : p.tables.exec = Jvm.exec) (hZ : Z.Warmed39 s.vm) (eT : T.heap = h) {a : Addr} {kk : ClassId} {vs : List Value} (F : OAry Z h a kk .long vs) {j : Int32} {v : Value} (hj : ¬ j < 0) (hv : vs[j.toNatClampNeg]? = some v) (hd : decode c.code pc = .ok (.laload, 1)) (hp : pc + 1 = pc')
    (k : OGo p e below K T (mkF m pc' Ls (v :: st))) : OGo p e below K T (mkF m pc Ls (.int j :: .ref a :: st)) := by
  subst hp
  obtain ⟨cl, A, r1, r2, -⟩ := F
  exact k.via fun t q => X.laload hx (cell := cl) (a := a) (j := j) (v := v) (by rw [eT]; exact A.1) (State.isArrayOf_alike hZ.alike A.2.1) A.2.2 (aryIn r2 hj hv).1 (aryIn r2 hj hv).2 (g := mkF m pc Ls (.int j :: .ref a :: st)) rfl (rest := st) rfl hd t q
theorem g_caload (X : Stand p l e R s m args below meth c T locs cells slots) (hx : p.tables.exec = Jvm.exec) (hZ : Z.Warmed39 s.vm) (eT : T.heap = h) {a : Addr} {kk : ClassId} {vs : List Value} (F : OAry Z h a kk .char vs) {j : Int32} {v : Value} (hj : ¬ j < 0) (hv : vs[j.toNatClampNeg]? = some v) (hd : decode c.code pc = .ok (.caload, 1)) (hp : pc + 1 = pc')
    (k : OGo p e below K T (mkF m pc' Ls (v :: st))) : OGo p e below K T (mkF m pc Ls (.int j :: .ref a :: st)) := by
  subst hp
  obtain ⟨cl, A, r1, r2, -⟩ := F
  exact k.via fun t q => X.caload hx (cell := cl) (a := a) (j := j) (v := v) (by rw [eT]; exact A.1) (State.isArrayOf_alike hZ.alike A.2.1) A.2.2 (aryIn r2 hj hv).1 (aryIn r2 hj hv).2 (g := mkF m pc Ls (.int j :: .ref a :: st)) rfl (rest := st) rfl hd t q
theorem g_baload (X : Stand p l e R s m args below meth c T locs cells slots) (hx : p.tables.exec = Jvm.exec) (hZ : Z.Warmed39 s.vm) (eT : T.heap = h) {a : Addr} {kk : ClassId} {vs : List Value} (F : OAry Z h a kk .byte vs) {j : Int32} {v : Value} (hj : ¬ j < 0) (hv : vs[j.toNatClampNeg]? = some v) (hd : decode c.code pc = .ok (.baload, 1)) (hp : pc + 1 = pc')
    (k : OGo p e below K T (mkF m pc' Ls (v :: st))) : OGo p e below K T (mkF m pc Ls (.int j :: .ref a :: st)) := by
  subst hp
  obtain ⟨cl, A, r1, r2, -⟩ := F
  exact k.via fun t q => X.baloadBytes hx (cell := cl) (a := a) (j := j) (v := v) (by rw [eT]; exact A.1) (State.isArrayOf_alike hZ.alike A.2.1) A.2.2 (aryIn r2 hj hv).1 (aryIn r2 hj hv).2 (g := mkF m pc Ls (.int j :: .ref a :: st)) rfl (rest := st) rfl hd t q
theorem g_zaload (X : Stand p l e R s m args below meth c T locs cells slots) (hx : p.tables.exec = Jvm.exec) (hZ : Z.Warmed39 s.vm) (eT : T.heap = h) {a : Addr} {kk : ClassId} {vs : List Value} (F : OAry Z h a kk .boolean vs) {j : Int32} {v : Value} (hj : ¬ j < 0) (hv : vs[j.toNatClampNeg]? = some v) (hd : decode c.code pc = .ok (.baload, 1)) (hp : pc + 1 = pc')
    (k : OGo p e below K T (mkF m pc' Ls (v :: st))) : OGo p e below K T (mkF m pc Ls (.int j :: .ref a :: st)) := by
  subst hp
  obtain ⟨cl, A, r1, r2, -⟩ := F
  exact k.via fun t q => X.baloadBooleans hx (cell := cl) (a := a) (j := j) (v := v) (by rw [eT]; exact A.1) (State.isArrayOf_alike hZ.alike A.2.1) A.2.2 (aryIn r2 hj hv).1 (aryIn r2 hj hv).2 (g := mkF m pc Ls (.int j :: .ref a :: st)) rfl (rest := st) rfl hd t q
theorem g_saload (X : Stand p l e R s m args below meth c T locs cells slots) (hx : p.tables.exec = Jvm.exec) (hZ : Z.Warmed39 s.vm) (eT : T.heap = h) {a : Addr} {kk : ClassId} {vs : List Value} (F : OAry Z h a kk .short vs) {j : Int32} {v : Value} (hj : ¬ j < 0) (hv : vs[j.toNatClampNeg]? = some v) (hd : decode c.code pc = .ok (.saload, 1)) (hp : pc + 1 = pc')
    (k : OGo p e below K T (mkF m pc' Ls (v :: st))) : OGo p e below K T (mkF m pc Ls (.int j :: .ref a :: st)) := by
  subst hp
  obtain ⟨cl, A, r1, r2, -⟩ := F
  exact k.via fun t q => X.saload hx (cell := cl) (a := a) (j := j) (v := v) (by rw [eT]; exact A.1) (State.isArrayOf_alike hZ.alike A.2.1) A.2.2 (aryIn r2 hj hv).1 (aryIn r2 hj hv).2 (g := mkF m pc Ls (.int j :: .ref a :: st)) rfl (rest := st) rfl hd t q
theorem g_aaload (X : Stand p l e R s m args below meth c T locs cells slots) (hx : p.tables.exec = Jvm.exec) (hZ : Z.Warmed39 s.vm) (eT : T.heap = h) {a : Addr} {kk : ClassId} {ty : FieldType} {vs : List Value} (F : OAry Z h a kk ty vs) (hty : ty.isReference = true) {j : Int32} {v : Value} (hj : ¬ j < 0) (hv : vs[j.toNatClampNeg]? = some v) (hd : decode c.code pc = .ok (.aaload, 1)) (hp : pc + 1 = pc')
    (k : OGo p e below K T (mkF m pc' Ls (v :: st))) : OGo p e below K T (mkF m pc Ls (.int j :: .ref a :: st)) := by
  subst hp
  obtain ⟨cl, A, r1, r2, -⟩ := F
  exact k.via fun t q => X.aaload hx (cell := cl) (a := a) (j := j) (v := v) (by rw [eT]; exact A.1) (State.isArrayOf_alike hZ.alike A.2.1) hty A.2.2 (aryIn r2 hj hv).1 (aryIn r2 hj hv).2 (g := mkF m pc Ls (.int j :: .ref a :: st)) rfl (rest := st) rfl hd t q
theorem g_iastore (X : Stand p l e R s m args below meth c T locs cells slots) (hx : p.tables.exec = Jvm.exec) (hZ : Z.Warmed39 s.vm) (eT : T.heap = h) {a : Addr} {kk : ClassId} {vs vs' : List Value} (F : OAry Z h a kk .int vs) {j : Int32} {u : Value} {x : Int32} (hj : ¬ j < 0) (hv : vs[j.toNatClampNeg]? = some u) (hvs : vs.set j.toNatClampNeg (.int x) = vs') (P : OPr h0 ws h locs) (q : a ∈ ws ∨ h0.size ≤ a) (hd : decode c.code pc = .ok (.iastore, 1)) (hp : pc + 1 = pc')
    (k : ∀ T' h', Stand p l e R s m args below meth c T' (locs ++ [⟨a, j.toNatClampNeg⟩]) cells slots → T'.heap = h' → Wr h h' a j.toNatClampNeg (.int x) → OPr h0 ws h' (locs ++ [⟨a, j.toNatClampNeg⟩]) → OAry Z h' a kk .int vs' → OGo p e below K T' (mkF m pc' Ls st)) : OGo p e below K T (mkF m pc Ls (.int x :: .int j :: .ref a :: st)) := by
  subst hp
  obtain ⟨cl, A, r1, r2, r3⟩ := F
  obtain ⟨T', h', X', e', W', r⟩ := stI X hx hZ eT A (aryIn r2 hj hv).1 (g := mkF m pc Ls (.int x :: .int j :: .ref a :: st)) rfl rfl hd
  exact (k T' h' X' e' W' (P.wr W' q) (arySet ⟨cl, A, r1, r2, r3⟩ W' rfl hvs)).via r
theorem g_lastore (X : Stand p l e R s m args below meth c T locs cells slots) (hx : p.tables.exec = Jvm.exec) (hZ : Z.Warmed39 s.vm) (eT : T.heap = h) {a : Addr} {kk : ClassId} {vs vs' : List Value} (F : OAry Z h a kk .long vs) {j : Int32} {u : Value} {x : Int64} (hj : ¬ j < 0) (hv : vs[j.toNatClampNeg]? = some u) (hvs : vs.set j.toNatClampNeg (.long x) = vs') (P : OPr h0 ws h locs) (q : a ∈ ws ∨ h0.size ≤ a) (hd : decode c.code pc = .ok (.lastore, 1)) (hp : pc + 1 = pc')
    (k : ∀ T' h', Stand p l e R s m args below meth c T' (locs ++ [⟨a, j.toNatClampNeg⟩]) cells slots → T'.heap = h' → Wr h h' a j.toNatClampNeg (.long x) → OPr h0 ws h' (locs ++ [⟨a, j.toNatClampNeg⟩]) → OAry Z h' a kk .long vs' → OGo p e below K T' (mkF m pc' Ls st)) : OGo p e below K T (mkF m pc Ls (.long x :: .int j :: .ref a :: st)) := by
  subst hp
  obtain ⟨cl, A, r1, r2, r3⟩ := F
  obtain ⟨T', h', X', e', W', r⟩ := stJ X hx hZ eT A (aryIn r2 hj hv).1 (g := mkF m pc Ls (.long x :: .int j :: .ref a :: st)) rfl rfl hd
  exact (k T' h' X' e' W' (P.wr W' q) (arySet ⟨cl, A, r1, r2, r3⟩ W' rfl hvs)).via r
theorem g_aastore (X : Stand p l e R s m args below meth c T locs cells slots) (hx : p.tables.exec = Jvm.exec) (hZ : Z.Warmed39 s.vm) (eT : T.heap = h) {a : Addr} {kk : ClassId} {ty : FieldType} {vs vs' : List Value} (F : OAry Z h a kk ty vs) (hty : ty.isReference = true) {j : Int32} {u x : Value} (hj : ¬ j < 0) (hv : vs[j.toNatClampNeg]? = some u) (hvs : vs.set j.toNatClampNeg x = vs') (hf : fits ty x = true) (S : Sto Z h a x) (P : OPr h0 ws h locs) (q : a ∈ ws ∨ h0.size ≤ a) (hd : decode c.code pc = .ok (.aastore, 1)) (hp : pc + 1 = pc')
    (k : ∀ T' h', Stand p l e R s m args below meth c T' (locs ++ [⟨a, j.toNatClampNeg⟩]) cells slots → T'.heap = h' → Wr h h' a j.toNatClampNeg x → OPr h0 ws h' (locs ++ [⟨a, j.toNatClampNeg⟩]) → OAry Z h' a kk ty vs' → OGo p e below K T' (mkF m pc' Ls st)) : OGo p e below K T (mkF m pc Ls (x :: .int j :: .ref a :: st)) := by
  subst hp
  obtain ⟨cl, A, r1, r2, r3⟩ := F
  obtain ⟨T', h', X', e', W', r⟩ := stR X hx hZ eT A (aryIn r2 hj hv).1 hty S (g := mkF m pc Ls (x :: .int j :: .ref a :: st)) rfl rfl hd
  exact (k T' h' X' e' W' (P.wr W' q) (arySet ⟨cl, A, r1, r2, r3⟩ W' hf hvs)).via r
theorem fit0 (ty : FieldType) : fits ty (defaultValue ty) = true := by cases ty <;> rfl
theorem stoOf {a y : Addr} {kk : ClassId} {ty : FieldType} {vs : List Value} {C : String} (F : OAry Z h a kk ty vs) (O : Ovr Z kk C) (I : Ins Z h y C true) : Sto Z h a (.ref y) := by
  obtain ⟨cl, A, r1, -⟩ := F; exact Sto.ofV A r1 O I
theorem g_newarray (X : Stand p l e R s m args below meth c T locs cells slots) (hx : p.tables.exec = Jvm.exec) (hZ : Z.Warmed39 s.vm) {aty : ArrayType} {ad : String} (had : "[" ++ (newarray.typeOf aty).toString = ad) (w : (Jvm.Cond.arrayClass (newarray.typeOf aty)).before a0 Z = true) (eT : T.heap = h) {n : Int32} {vs : List Value} (hn : ¬ n < 0) (hvs : List.replicate n.toNatClampNeg (defaultValue (newarray.typeOf aty)) = vs) {cap : Nat} (hcap : n.toNatClampNeg ≤ cap) (hb : cap * 8 ≤ 536870912) (P : OPr h0 ws h locs)  (hd : decode c.code pc = .ok (.newarray aty, 2)) (hp : pc + 2 = pc') (hc : cells + 1 ≤ R.cells) (hl : slots + cap ≤ R.slots)
    (k : ∀ T' h' a kk, a = h.size → h0.size ≤ a → Stand p l e R s m args below meth c T' locs (cells + 1) (slots + cap) → T'.heap = h' → Ext h h' → OPr h0 ws h' locs → OAry Z h' a kk (newarray.typeOf aty) vs → Exa Z h' a ad → OGo p e below K T' (mkF m pc' Ls (.ref a :: st))) : OGo p e below K T (mkF m pc Ls (.int n :: st)) := by
  subst hp hvs had
  have hcb : componentBytes (newarray.typeOf aty) ≤ 8 := by cases aty <;> decide
  obtain ⟨cA, kA, comp, h1, h2, h3, X', r⟩ := X.newarrayPrim hx (mvA hZ w) (g := mkF m pc Ls (.int n :: st)) rfl hd rfl hn (Nat.le_trans (Nat.mul_le_mul hcap hcb) hb) hc (by omega)
  subst eT
  rw [hZ.alike.findClass] at h1
  obtain ⟨kZ, z1, -⟩ := Vm.findClass_spec h1
  obtain ⟨k', z2, z3⟩ := hZ.alike.2.2 _ _ z1
  cases h2.symm.trans z2
  have kk : kZ.kind = .array comp (newarray.typeOf aty) := by rw [← h3, z3]
  have hN : (T.heap.push (newA cA (newarray.typeOf aty) n))[T.heap.size]? = some (newA cA (newarray.typeOf aty) n) := by simp
  have A' : Arr Z (T.heap.push (newA cA (newarray.typeOf aty) n)) T.heap.size (newA cA (newarray.typeOf aty) n) (newarray.typeOf aty) := ⟨hN, ⟨by simp [newA], kZ, z1, comp, kk⟩, by simp [newA]⟩
  have E' : Ext T.heap (T.heap.push (newA cA (newarray.typeOf aty) n)) := ext_of fun a q => Array.getElem?_push_lt q |>.trans (Array.getElem?_eq_getElem q).symm
  refine (k _ _ T.heap.size cA rfl P.1.1 (X'.more (Nat.le_refl _) (by omega)) rfl E' (P.ext E') ⟨_, A', rfl, by simp [newA], by have := (back32 hn).2; simpa using this, fun v hv => ?_⟩ (exa_arr A' h1 rfl)).via r
  rw [(List.mem_replicate.mp hv).2]; exact fit0 _
theorem g_anewarray (X : Stand p l e R s m args below meth c T locs cells slots) (hx : p.tables.exec = Jvm.exec) (hZ : Z.Warmed39 s.vm) (hown : s.vm.findClass own = some m.cls) {C : String} {index : Nat} (w1 : (Jvm.Cond.classLink own index C).before a0 Z = true) (w2 : (Jvm.Cond.arrayOver (.object C)).before a0 Z = true) {ad : String} (had : "[" ++ (FieldType.object C).toString = ad) (eT : T.heap = h) {n : Int32} {vs : List Value} (hn : ¬ n < 0) (hvs : List.replicate n.toNatClampNeg Value.null = vs) {cap : Nat} (hcap : n.toNatClampNeg ≤ cap) (hb : cap * 8 ≤ 536870912) (P : OPr h0 ws h locs) (hd : decode c.code pc = .ok (.anewarray index, 3)) (hp : pc + 3 = pc') (hc : cells + 1 ≤ R.cells) (hl : slots + cap ≤ R.slots)
    (k : ∀ T' h' a kk, a = h.size → h0.size ≤ a → Stand p l e R s m args below meth c T' locs (cells + 1) (slots + cap) → T'.heap = h' → Ext h h' → OPr h0 ws h' locs → OAry Z h' a kk (.object C) vs → Ovr Z kk C → Exa Z h' a ad → OGo p e below K T' (mkF m pc' Ls (.ref a :: st))) : OGo p e below K T (mkF m pc Ls (.int n :: st)) := by
  subst hp hvs
  obtain ⟨T', h', cA, X', e', E', A', B', O', r⟩ := newRE X hx hZ hown w1 w2 eT (g := mkF m pc Ls (.int n :: st)) rfl hd rfl hn hcap hb hc hl had
  refine (k T' h' h.size cA rfl P.1.1 X' e' E' (P.ext E') ⟨_, A', rfl, by simp [newA, defaultValue], by have := (back32 hn).2; simpa using this, fun v hv => ?_⟩ O' B').via r
  rw [(List.mem_replicate.mp hv).2]; rfl
theorem g_anewarrayA (X : Stand p l e R s m args below meth c T locs cells slots) (hx : p.tables.exec = Jvm.exec) (hZ : Z.Warmed39 s.vm) (hown : s.vm.findClass own = some m.cls) {C : String} {ty : FieldType} {index : Nat} (hC : (FieldType.array ty).toString = C) (w1 : (Jvm.Cond.classLink own index C).before a0 Z = true) (w2 : (Jvm.Cond.arrayOver (.array ty)).before a0 Z = true) {ad : String} (had : "[" ++ C = ad) (eT : T.heap = h) {n : Int32} {vs : List Value} (hn : ¬ n < 0) (hvs : List.replicate n.toNatClampNeg Value.null = vs) {cap : Nat} (hcap : n.toNatClampNeg ≤ cap) (hb : cap * 8 ≤ 536870912) (P : OPr h0 ws h locs) (hd : decode c.code pc = .ok (.anewarray index, 3)) (hp : pc + 3 = pc') (hc : cells + 1 ≤ R.cells) (hl : slots + cap ≤ R.slots)
    (k : ∀ T' h' a kk, a = h.size → h0.size ≤ a → Stand p l e R s m args below meth c T' locs (cells + 1) (slots + cap) → T'.heap = h' → Ext h h' → OPr h0 ws h' locs → OAry Z h' a kk (.array ty) vs → OvrA Z kk ty C → OGo p e below K T' (mkF m pc' Ls (.ref a :: st))) : OGo p e below K T (mkF m pc Ls (.int n :: st)) := by
  subst hp hvs
  obtain ⟨T', h', cA, X', e', E', A', -, O', r⟩ := newRA X hx hZ hown hC w1 w2 eT (g := mkF m pc Ls (.int n :: st)) rfl hd rfl hn hcap hb hc hl had
  refine (k T' h' h.size cA rfl P.1.1 X' e' E' (P.ext E') ⟨_, A', rfl, by simp [newA, defaultValue], by have := (back32 hn).2; simpa using this, fun v hv => ?_⟩ O').via r
  rw [(List.mem_replicate.mp hv).2]; rfl
theorem stoOfA {a y : Addr} {kk : ClassId} {t0 ty : FieldType} {vs : List Value} {C : String} (F : OAry Z h a kk t0 vs) (O : OvrA Z kk ty C) (I : Ins Z h y C true) : Sto Z h a (.ref y) := by
  obtain ⟨cl, A, r1, -⟩ := F; exact Sto.ofVA A r1 O I
theorem g_castN (X : Stand p l e R s m args below meth c T locs cells slots) (hx : p.tables.exec = Jvm.exec) {index : Nat} (hd : decode c.code pc = .ok (.checkcast index, 3)) (hp : pc + 3 = pc')
    (k : OGo p e below K T (mkF m pc' Ls (.null :: st))) : OGo p e below K T (mkF m pc Ls (.null :: st)) := by
  subst hp; exact k.via fun t q => X.checkcastNull hx (g := mkF m pc Ls (.null :: st)) rfl rfl hd t q
theorem g_instN0 (X : Stand p l e R s m args below meth c T locs cells slots) (hx : p.tables.exec = Jvm.exec) {index : Nat} (hd : decode c.code pc = .ok (.instanceof index, 3)) (hp : pc + 3 = pc')
    (k : OGo p e below K T (mkF m pc' Ls (.int 0 :: st))) : OGo p e below K T (mkF m pc Ls (.null :: st)) := by
  subst hp; exact k.via fun t q => X.instanceofNull hx (g := mkF m pc Ls (.null :: st)) rfl rfl hd t q
theorem g_cast (X : Stand p l e R s m args below meth c T locs cells slots) (hx : p.tables.exec = Jvm.exec) (hZ : Z.Warmed39 s.vm) (hown : s.vm.findClass own = some m.cls) {Kc : String} {index : Nat} (w : (Jvm.Cond.classLink own index Kc).before a0 Z = true) (eT : T.heap = h) {a : Addr} (F : Ins Z h a Kc true) (hd : decode c.code pc = .ok (.checkcast index, 3)) (hp : pc + 3 = pc')
    (k : ∀ T', Stand p l e R s m args below meth c T' locs cells slots → T'.heap = h → OGo p e below K T' (mkF m pc' Ls (.ref a :: st))) : OGo p e below K T (mkF m pc Ls (.ref a :: st)) := by
  subst hp
  obtain ⟨T', X', e', q⟩ := castY X hx hZ hown w eT F (g := mkF m pc Ls (.ref a :: st)) rfl rfl hd
  exact (k T' X' e').via q
theorem g_instY (X : Stand p l e R s m args below meth c T locs cells slots) (hx : p.tables.exec = Jvm.exec) (hZ : Z.Warmed39 s.vm) (hown : s.vm.findClass own = some m.cls) {Kc : String} {index : Nat} (w : (Jvm.Cond.classLink own index Kc).before a0 Z = true) (eT : T.heap = h) {a : Addr} (F : Ins Z h a Kc true) (hd : decode c.code pc = .ok (.instanceof index, 3)) (hp : pc + 3 = pc')
    (k : ∀ T', Stand p l e R s m args below meth c T' locs cells slots → T'.heap = h → OGo p e below K T' (mkF m pc' Ls (.int 1 :: st))) : OGo p e below K T (mkF m pc Ls (.ref a :: st)) := by
  subst hp
  obtain ⟨T', X', e', q⟩ := instY X hx hZ hown w eT F (g := mkF m pc Ls (.ref a :: st)) rfl rfl hd
  exact (k T' X' e').via q

theorem g_clone (X : Stand p l e R s m args below meth c T locs cells slots) (hx : p.tables.exec = Jvm.exec) (hZ : Z.Warmed39 s.vm) (hown : s.vm.findClass own = some m.cls) {ad : String} {index : Nat}
    (w1 : (Jvm.Cond.methodLink own index ⟨ad, "clone", "()Ljava/lang/Object;"⟩).before a0 Z = true) (w2 : (Jvm.Cond.sameMethod ad "java/lang/Object" "clone" "()Ljava/lang/Object;").before a0 Z = true) (w3 : (Jvm.Cond.native ⟨"java/lang/Object", "clone", "()Ljava/lang/Object;"⟩).before a0 Z = true)
    (w4 : (Jvm.Cond.instanceMethod ⟨"java/lang/Object", "clone", "()Ljava/lang/Object;"⟩).before a0 Z = true) (w5 : (Jvm.Cond.selects ad ⟨ad, "clone", "()Ljava/lang/Object;"⟩ ⟨"java/lang/Object", "clone", "()Ljava/lang/Object;"⟩).before a0 Z = true) (w6 : (Jvm.Cond.castable ad "java/lang/Cloneable").before a0 Z = true)
    (eT : T.heap = h) {a : Addr} {kk : ClassId} {ty : FieldType} {vs : List Value} (F : OAry Z h a kk ty vs) (E : Exa Z h a ad) (P : OPr h0 ws h locs) (hsize : Ls.size = c.maxLocals) (hd : decode c.code pc = .ok (.invokevirtual index, 3)) (hp : pc + 3 = pc')
    (hf : 1 ≤ R.frames) {W cap : Nat} (hW : (st.map fun v => v.category).sum ≤ W) (hl : W + 14 ≤ R.locals) (hcap : vs.length ≤ cap) (hc : cells + 1 ≤ R.cells) (hsl : slots + cap ≤ R.slots)
    (k : ∀ T' h' a', a' = h.size → h0.size ≤ a' → Stand p l e R s m args below meth c T' locs (cells + 1) (slots + cap) → T'.heap = h' → Ext h h' → OPr h0 ws h' locs → OAry Z h' a' kk ty vs → Exa Z h' a' ad → OGo p e below K T' (mkF m pc' Ls (.ref a' :: st))) : OGo p e below K T (mkF m pc Ls (.ref a :: st)) := by
  subst hp
  obtain ⟨cl, A, r1, r2, r3, r4⟩ := F
  obtain ⟨T', h', X', e', E', A', B', r⟩ := cloneA X hx hZ hown w1 w2 w3 w4 w5 w6 eT A E (aryFit (k := kk) A r2 r4) (g := mkF m pc Ls (.ref a :: st)) rfl hsize rfl hd hf (W := W) (by show 2 * 0 + _ ≤ _; omega) hl (cap := cap) (by rw [← r2] at hcap; simpa using hcap) hc hsl
  exact (k T' h' h.size rfl P.1.1 X' e' E' (P.ext E') ⟨_, A', r1, r2, r3, r4⟩ B').via r
theorem eqI {first : State} {o : Option Outcome} {idx : List Nat} {t u : Term} {x y : Int32} (ha : t.eval args first o idx s = some (.int x)) (hb : u.eval args first o idx s = some (.int y)) : (Jvm.Cond.eq t u).value args first o s idx = some (decide (x = y)) := by simp [Cond.value, ha, hb]
theorem lenSt {t : Term} {a : Addr} {cl : Cell} {ty : FieldType} {n : Int32} (ev : t.eval args s none [] s = some (.ref a)) (A : Arr s s.heap a cl ty) (q : (Jvm.Cond.eq (.length t) (.int n)).value args s none s [] = some true) : cl.slots.size = n.toInt ∧ cl.slots.size < 2 ^ 31 := by
  have ha : s.arrayAt? a = some cl := A.fin (Vm.Alike.refl _)
  by_cases hl : cl.slots.size < 2 ^ 31
  · have e1 := len_f (idx := []) (first := s) (o := none) ev ha hl
    have e2 : cl.slots.size.toInt32 = n := by rw [eqI e1 (Term.int_eval n)] at q; simpa using q
    exact ⟨by rw [← e2, len_toInt hl], hl⟩
  · have e1 : (Term.length t).eval args s none [] s = none := by simp [Term.eval, ev, ha, hl]
    simp [Cond.value, e1] at q
theorem elemSt {t u : Term} {a : Addr} {cl : Cell} {ty : FieldType} {i : Int32} {v : Value} (ev : t.eval args s none [] s = some (.ref a)) (A : Arr s s.heap a cl ty) (eu : u.eval args s none [] s = some v) (hv : v.isRef = true) (q : (Jvm.Cond.eq (.elem t (.int i)) u).value args s none s [] = some true) : cl.slots[i.toNatClampNeg]? = some v := by
  obtain ⟨x, y, e1, e2, k1, k2⟩ := cmp_v (Or.inl q)
  cases eu.symm.trans e2
  have hx : x.isRef = true := by rcases ref_cases hv with rfl | ⟨b, rfl⟩ <;> exact k2.2
  have r : x = v := by rw [eq_R e1 e2 hx hv] at q; simpa using q
  subst r
  exact (elem_in e1 ev (Term.int_eval i) A.1).2
theorem aryStart {a : Addr} {cl : Cell} {ty : FieldType} {vs : List Value} (hf : Fit s) (A : Arr s s.heap a cl ty) (hs : cl.slots.size < 2 ^ 31) (hl : cl.slots.size = vs.length) (hv : ∀ i, i < vs.length → cl.slots[i]? = vs[i]?) : OAry s s.heap a cl.cls ty vs := by
  have e : cl.slots.toList = vs := by
    apply List.ext_getElem?
    intro i
    by_cases hi : i < vs.length
    · rw [← hv i hi]; simp
    · rw [List.getElem?_eq_none (by simp; omega), List.getElem?_eq_none (by omega)]
  refine ⟨cl, A, rfl, e, by omega, fun v hm => ?_⟩
  rw [← e] at hm
  obtain ⟨i, hi, rfl⟩ := List.getElem_of_mem hm
  have hi' : i < cl.slots.size := by simpa using hi
  have q := hf A.1 hi'
  obtain ⟨hs', k, hk, comp, hkind⟩ := A.2.1
  have e2 : s.slotType? cl.cls cl.vm i = some ty := by
    cases hq : cl.vm <;> first | exact absurd hq (hs' _) | simp [State.slotType?, hk, hkind]
  simp [State.fitsSlot, e2] at q
  simpa using q

theorem wd (hw : ∀ d ∈ tables_1, d.before a0 Z = true) (k : Nat) {d : Jvm.Cond} (q : tables_1[k]? = some d) : d.before a0 Z = true := hw d (List.mem_of_getElem? q)
theorem narR {t : FieldType} {v : Value} (q : v.isRef = true) : narrow t v = v := by rcases ref_cases q with rfl | ⟨a, rfl⟩ <;> cases t <;> rfl
theorem fitR {t : FieldType} {v : Value} (q : v.isRef = true) (r : t.isReference = true) : fits t v = true := by
  rcases ref_cases q with rfl | ⟨a, rfl⟩ <;> cases t <;> first | rfl | cases r
theorem insP {a : Addr} {C : String} {b : Bool} (F : Ins Z h0 a C b) (P : OPr h0 ws h L) : Ins Z h a C b := by
  obtain ⟨cell, cT, h1, h2, h3⟩ := F
  obtain ⟨c', e1, e2, e3, -⟩ := P.1.2.2 _ _ h1
  exact ⟨c', cT, e1, h2, by rw [e2, e3]; exact h3⟩
theorem neAry {a b : Addr} {kk : ClassId} {ty : FieldType} {vs : List Value} {C : String} {n : Nat} (E : Exa Z h b C) (wi : (Jvm.Cond.instantiable C n).before a0 Z = true) (F : OAry Z h a kk ty vs) : b ≠ a := by
  obtain ⟨c, A, -⟩ := F; exact ne_arr E wi A
theorem exSta {C n d Kc : String} (q : (Jvm.Cond.exactly (.static C n d) Kc).value args s none s [] = some true) (hi : (Jvm.Cond.initializedFor C n d).before args s = true ∨ ((Jvm.Cond.initialized C).before args s = true ∧ (Jvm.Cond.laysStatic C n d).before args s = true)) :
    ∃ a, (Term.static C n d).eval args s none [] s = some (.ref a) ∧ Sta s s.heap C n d (.ref a) ∧ Exa s s.heap a Kc := by
  obtain ⟨a, ev⟩ := exa_v q
  exact ⟨a, ev, Sta.start ev hi, Exa.start ev q⟩
theorem eqFld {t : Term} {a : Addr} {C n d : String} {k : Int32} (ev : t.eval args s none [] s = some (.ref a)) (q : (Jvm.Cond.eq (.field t C n d) (.int k)).value args s none s [] = some true) : Fld s s.heap a C n d (.int k) := by
  obtain ⟨x, y, e1, e2, -, k2⟩ := cmp_v (Or.inl q)
  cases e2
  obtain ⟨z, rfl⟩ := k2
  have r : z = k := by rw [eqI e1 (Term.int_eval k)] at q; simpa using q
  subst r
  exact Fld.start ((fld_at ev).symm.trans e1)
theorem eqFldR {t u : Term} {a : Addr} {v : Value} {C n d : String} (ev : t.eval args s none [] s = some (.ref a)) (eu : u.eval args s none [] s = some v) (hv : v.isRef = true) (q : (Jvm.Cond.eq (.field t C n d) u).value args s none s [] = some true) : Fld s s.heap a C n d v := by
  obtain ⟨x, y, e1, e2, k1, k2⟩ := cmp_v (Or.inl q)
  cases eu.symm.trans e2
  have hx : x.isRef = true := by rcases ref_cases hv with rfl | ⟨b, rfl⟩ <;> exact k2.2
  have r : x = v := by rw [eq_R e1 e2 hx hv] at q; simpa using q
  subst r
  exact Fld.start ((fld_at ev).symm.trans e1)
theorem g_dloadN (X : Stand p l e R s m args below meth c T locs cells slots) (hx : p.tables.exec = Jvm.exec) {k : Fin 4} {v : UInt64} (hd : decode c.code pc = .ok (.dload_n k, 1)) (hp : pc + 1 = pc') (hl : Ls[k.val]? = some (.val (.double v)))
    (k : OGo p e below K T (mkF m pc' Ls (.double v :: st))) : OGo p e below K T (mkF m pc Ls (st)) := by
  subst hp; exact k.via fun _ q => XS.dloadN X.here hx rfl hd hl q
theorem g_dload (X : Stand p l e R s m args below meth c T locs cells slots) (hx : p.tables.exec = Jvm.exec) {k : Nat} {v : UInt64} (hd : decode c.code pc = .ok (.dload k, 2)) (hp : pc + 2 = pc') (hl : Ls[k]? = some (.val (.double v)))
    (k : OGo p e below K T (mkF m pc' Ls (.double v :: st))) : OGo p e below K T (mkF m pc Ls (st)) := by
  subst hp; exact k.via fun _ q => XS.dload X.here hx rfl hd hl q
theorem g_floadN (X : Stand p l e R s m args below meth c T locs cells slots) (hx : p.tables.exec = Jvm.exec) {k : Fin 4} {v : UInt32} (hd : decode c.code pc = .ok (.fload_n k, 1)) (hp : pc + 1 = pc') (hl : Ls[k.val]? = some (.val (.float v)))
    (k : OGo p e below K T (mkF m pc' Ls (.float v :: st))) : OGo p e below K T (mkF m pc Ls (st)) := by
  subst hp; exact k.via fun _ q => XS.floadN X.here hx rfl hd hl q
theorem g_fload (X : Stand p l e R s m args below meth c T locs cells slots) (hx : p.tables.exec = Jvm.exec) {k : Nat} {v : UInt32} (hd : decode c.code pc = .ok (.fload k, 2)) (hp : pc + 2 = pc') (hl : Ls[k]? = some (.val (.float v)))
    (k : OGo p e below K T (mkF m pc' Ls (.float v :: st))) : OGo p e below K T (mkF m pc Ls (st)) := by
  subst hp; exact k.via fun _ q => XS.fload X.here hx rfl hd hl q
theorem g_dstoreN (X : Stand p l e R s m args below meth c T locs cells slots) (hx : p.tables.exec = Jvm.exec) {k : Fin 4} {x : UInt64} {Ls' : Array Slot} (hd : decode c.code pc = .ok (.dstore_n k, 1)) (hp : pc + 1 = pc') (hl : storeLocals Ls k.val (.double x) = some Ls')
    (k : OGo p e below K T (mkF m pc' Ls' (st))) : OGo p e below K T (mkF m pc Ls (.double x :: st)) := by
  subst hp; exact k.via fun _ q => XS.dstoreN X.here hx rfl hd rfl hl q
theorem g_dstore (X : Stand p l e R s m args below meth c T locs cells slots) (hx : p.tables.exec = Jvm.exec) {k : Nat} {x : UInt64} {Ls' : Array Slot} (hd : decode c.code pc = .ok (.dstore k, 2)) (hp : pc + 2 = pc') (hl : storeLocals Ls k (.double x) = some Ls')
    (k : OGo p e below K T (mkF m pc' Ls' (st))) : OGo p e below K T (mkF m pc Ls (.double x :: st)) := by
  subst hp; exact k.via fun _ q => XS.dstore X.here hx rfl hd rfl hl q
theorem g_fstoreN (X : Stand p l e R s m args below meth c T locs cells slots) (hx : p.tables.exec = Jvm.exec) {k : Fin 4} {x : UInt32} {Ls' : Array Slot} (hd : decode c.code pc = .ok (.fstore_n k, 1)) (hp : pc + 1 = pc') (hl : storeLocals Ls k.val (.float x) = some Ls')
    (k : OGo p e below K T (mkF m pc' Ls' (st))) : OGo p e below K T (mkF m pc Ls (.float x :: st)) := by
  subst hp; exact k.via fun _ q => XS.fstoreN X.here hx rfl hd rfl hl q
theorem g_fstore (X : Stand p l e R s m args below meth c T locs cells slots) (hx : p.tables.exec = Jvm.exec) {k : Nat} {x : UInt32} {Ls' : Array Slot} (hd : decode c.code pc = .ok (.fstore k, 2)) (hp : pc + 2 = pc') (hl : storeLocals Ls k (.float x) = some Ls')
    (k : OGo p e below K T (mkF m pc' Ls' (st))) : OGo p e below K T (mkF m pc Ls (.float x :: st)) := by
  subst hp; exact k.via fun _ q => XS.fstore X.here hx rfl hd rfl hl q
theorem g_i2d (X : Stand p l e R s m args below meth c T locs cells slots) (hx : p.tables.exec = Jvm.exec) {x : Int32} (hd : decode c.code pc = .ok (.i2d, 1)) (hp : pc + 1 = pc')
    (k : OGo p e below K T (mkF m pc' Ls (.double (FP.i2d x) :: st))) : OGo p e below K T (mkF m pc Ls (.int x :: st)) := by
  subst hp; exact k.via fun _ q => XS.i2dS X.here hx rfl hd rfl rfl q
theorem g_i2f (X : Stand p l e R s m args below meth c T locs cells slots) (hx : p.tables.exec = Jvm.exec) {x : Int32} (hd : decode c.code pc = .ok (.i2f, 1)) (hp : pc + 1 = pc')
    (k : OGo p e below K T (mkF m pc' Ls (.float (FP.i2f x) :: st))) : OGo p e below K T (mkF m pc Ls (.int x :: st)) := by
  subst hp; exact k.via fun _ q => XS.i2fS X.here hx rfl hd rfl rfl q
theorem g_dcmp (X : Stand p l e R s m args below meth c T locs cells slots) (hx : p.tables.exec = Jvm.exec) {o : CmpOp} {x y : UInt64} (hd : decode c.code pc = .ok (.dcmp o, 1)) (hp : pc + 1 = pc')
    (k : OGo p e below K T (mkF m pc' Ls (.int (cmpValue (FP.dcmp x y) o) :: st))) : OGo p e below K T (mkF m pc Ls (.double y :: .double x :: st)) := by
  subst hp; exact k.via fun _ q => XS.dcmpS X.here hx rfl hd rfl rfl q
theorem g_fcmp (X : Stand p l e R s m args below meth c T locs cells slots) (hx : p.tables.exec = Jvm.exec) {o : CmpOp} {x y : UInt32} (hd : decode c.code pc = .ok (.fcmp o, 1)) (hp : pc + 1 = pc')
    (k : OGo p e below K T (mkF m pc' Ls (.int (cmpValue (FP.fcmp x y) o) :: st))) : OGo p e below K T (mkF m pc Ls (.float y :: .float x :: st)) := by
  subst hp; exact k.via fun _ q => XS.fcmpS X.here hx rfl hd rfl rfl q
theorem g_fconst0 (X : Stand p l e R s m args below meth c T locs cells slots) (hx : p.tables.exec = Jvm.exec)  (hd : decode c.code pc = .ok (.fconst 0, 1)) (hp : pc + 1 = pc')
    (k : OGo p e below K T (mkF m pc' Ls (.float FP.fconst0 :: st))) : OGo p e below K T (mkF m pc Ls (st)) := by
  subst hp; exact k.via fun _ q => XS.fconst0 X.here hx rfl hd rfl q
theorem g_ldc2D (X : Stand p l e R s m args below meth c T locs cells slots) (hx : p.tables.exec = Jvm.exec) (hZ : Z.Warmed39 s.vm) (hown : s.vm.findClass own = some m.cls) {index : Nat} {v : UInt64} (w : (Jvm.Cond.constantDouble own index v).before a0 Z = true) (hd : decode c.code pc = .ok (.ldc2_w index, 3)) (hp : pc + 3 = pc')
    (k : OGo p e below K T (mkF m pc' Ls (.double v :: st))) : OGo p e below K T (mkF m pc Ls st) := by
  subst hp; exact k.via fun t q => X.ldc2DoubleC hx hown (mvT hZ w) (g := mkF m pc Ls st) rfl hd t q
theorem g_faload (X : Stand p l e R s m args below meth c T locs cells slots) (hx : p.tables.exec = Jvm.exec) (hZ : Z.Warmed39 s.vm) (eT : T.heap = h) {a : Addr} {kk : ClassId} {vs : List Value} (F : OAry Z h a kk .float vs) {j : Int32} {v : Value} (hj : ¬ j < 0) (hv : vs[j.toNatClampNeg]? = some v) (hd : decode c.code pc = .ok (.faload, 1)) (hp : pc + 1 = pc')
    (k : OGo p e below K T (mkF m pc' Ls (v :: st))) : OGo p e below K T (mkF m pc Ls (.int j :: .ref a :: st)) := by
  subst hp
  obtain ⟨cl, A, r1, r2, -⟩ := F
  exact k.via fun t q => X.faload hx (cell := cl) (a := a) (j := j) (v := v) (by rw [eT]; exact A.1) (State.isArrayOf_alike hZ.alike A.2.1) A.2.2 (aryIn r2 hj hv).1 (aryIn r2 hj hv).2 (g := mkF m pc Ls (.int j :: .ref a :: st)) rfl (rest := st) rfl hd t q
theorem g_fastore (X : Stand p l e R s m args below meth c T locs cells slots) (hx : p.tables.exec = Jvm.exec) (hZ : Z.Warmed39 s.vm) (eT : T.heap = h) {a : Addr} {kk : ClassId} {vs vs' : List Value} (F : OAry Z h a kk .float vs) {j : Int32} {u : Value} {x : UInt32} (hj : ¬ j < 0) (hv : vs[j.toNatClampNeg]? = some u) (hvs : vs.set j.toNatClampNeg (.float x) = vs') (P : OPr h0 ws h locs) (q : a ∈ ws ∨ h0.size ≤ a) (hd : decode c.code pc = .ok (.fastore, 1)) (hp : pc + 1 = pc')
    (k : ∀ T' h', Stand p l e R s m args below meth c T' (locs ++ [⟨a, j.toNatClampNeg⟩]) cells slots → T'.heap = h' → Wr h h' a j.toNatClampNeg (.float x) → OPr h0 ws h' (locs ++ [⟨a, j.toNatClampNeg⟩]) → OAry Z h' a kk .float vs' → OGo p e below K T' (mkF m pc' Ls st)) : OGo p e below K T (mkF m pc Ls (.float x :: .int j :: .ref a :: st)) := by
  subst hp
  obtain ⟨cl, A, r1, r2, r3⟩ := F
  obtain ⟨T', h', X', e', W', r⟩ := stF X hx hZ eT A (aryIn r2 hj hv).1 (g := mkF m pc Ls (.float x :: .int j :: .ref a :: st)) rfl rfl hd
  exact (k T' h' X' e' W' (P.wr W' q) (arySet ⟨cl, A, r1, r2, r3⟩ W' rfl hvs)).via r
end Own
theorem selfcmp (x : Int32) (o : CmpOp) : cmpValue (FP.fcmp (FP.i2f x) (FP.i2f x)) o = 0 := fcmpV_self (nn_w32 (i2f_w x)) o
theorem signcmp {x : Int32} : cmpValue (FP.fcmp (FP.i2f x) FP.fconst0) .g < 0 ↔ x < 0 := by
  have hk : ∀ o : Option Ordering, cmpValue o .g < 0 ↔ o = some .lt := by
    intro o; rcases o with _ | (_ | _ | _) <;> decide
  have hn : FP.Core.val32 (FP.Core.i2f x) ≠ .nan := (FP.Core.i2f_fin x).ne_nan
  have hz : FP.Core.val32 FP.Core.fconst0 ≠ .nan := by rw [FP.Core.val32_fconst0]; exact FP.Core.Datum.noConfusion
  rw [hk, FP.fcmp_core, FP.i2f_core, FP.fconst0_core, FP.Core.fcmp_lt_key hn hz]
  have h0 : FP.Core.fkey FP.Core.fconst0 = 0 := by decide +kernel
  have hs := FP.Core.sgn_bits32 hn
  obtain ⟨c, q, e⟩ := FP.Core.l2f_shape x.toInt64
  rw [← FP.Core.i2f_l2f, Int32.toInt_toInt64] at e
  rw [e] at hs
  have hs1 : decide (x.toInt < 0) = decide (2 ^ 31 ≤ (FP.Core.i2f x).toNat) := hs
  have hs2 : x.toInt < 0 ↔ 2 ^ 31 ≤ (FP.Core.i2f x).toNat := decide_eq_decide.mp hs1
  have hl : (FP.Core.i2f x).toNat < 2 ^ 32 := (FP.Core.i2f x).toNat_lt
  have ek : FP.Core.fkey (FP.Core.i2f x) = if 2 ^ 31 ≤ (FP.Core.i2f x).toNat then ((2 ^ 31 : Nat) : Int) - ((FP.Core.i2f x).toNat : Int) else ((FP.Core.i2f x).toNat : Int) := rfl
  have z0 : (0 : Int32).toInt = 0 := rfl
  rw [h0, ek, Int32.lt_iff_toInt_lt, z0, hs2]
  constructor
  · intro h; split at h <;> omega
  · intro h
    have hb := FP.Core.i2f_ne_zero (v := x) (fun q0 => by rw [q0, z0] at hs2; exact absurd (hs2.mpr (q0 ▸ h)) (by decide))
    rw [if_pos h]; omega
theorem d2_0 : decode jdk_65_method_103_code 0 = .ok (.iconst 0, 1) := by decide +kernel
theorem d2_1 : decode jdk_65_method_103_code 1 = .ok (.istore_n 2, 1) := by decide +kernel
theorem d2_2 : decode jdk_65_method_103_code 2 = .ok (.aload_n 0, 1) := by decide +kernel
theorem d2_3 : decode jdk_65_method_103_code 3 = .ok (.arraylength, 1) := by decide +kernel
theorem d2_4 : decode jdk_65_method_103_code 4 = .ok (.istore_n 3, 1) := by decide +kernel
theorem d2_5 : decode jdk_65_method_103_code 5 = .ok (.iload_n 2, 1) := by decide +kernel
theorem d2_6 : decode jdk_65_method_103_code 6 = .ok (.iload_n 3, 1) := by decide +kernel
theorem d2_7 : decode jdk_65_method_103_code 7 = .ok (.if_icmp .ge 13, 3) := by decide +kernel
theorem d2_10 : decode jdk_65_method_103_code 10 = .ok (.aload_n 0, 1) := by decide +kernel
theorem d2_11 : decode jdk_65_method_103_code 11 = .ok (.iload_n 2, 1) := by decide +kernel
theorem d2_12 : decode jdk_65_method_103_code 12 = .ok (.iload_n 1, 1) := by decide +kernel
theorem d2_13 : decode jdk_65_method_103_code 13 = .ok (.iastore, 1) := by decide +kernel
theorem d2_14 : decode jdk_65_method_103_code 14 = .ok (.iinc 2 1, 3) := by decide +kernel
theorem d2_17 : decode jdk_65_method_103_code 17 = .ok (.goto (-12), 3) := by decide +kernel
theorem d2_20 : decode jdk_65_method_103_code 20 = .ok (.return_, 1) := by decide +kernel
theorem pn_rm_fill : plainFor (⟨"java/util/Arrays", "fill", "([II)V"⟩ : MethodName) = true := by first | exact plainFor_of_name (by first | (simp [plainName, overriddenIn]; done) | decide +kernel) | decide +kernel
set_option maxRecDepth 65536 in
set_option maxHeartbeats 40000000 in
theorem rm_fill {l : Launch} {Z : State} {a0 : Array Value} (hw : ∀ d ∈ tables_1, d.before a0 Z = true) (a : Addr) (ka : ClassId) {h0 : Heap} (I0 : OAry Z h0 a ka .int [(.int (0 : Int32)), (.int (0 : Int32)), (.int (0 : Int32))])  :
    OMet l (⟨"java/util/Arrays", "fill", "([II)V"⟩ : MethodName) jdk_65_method_103_code 4 (Option.none : Option Jvm.ClassFile.FieldType) ({ frames := 0, cells := 0, slots := 0, locals := 0 } : Room) #[(.ref a), (.int (-1 : Int32))] Z h0 (fun v h L => v = none ∧ OPr h0 [a] h L ∧ OAry Z h a ka .int [(.int (-1 : Int32)), (.int (-1 : Int32)), (.int (-1 : Int32))]) := by
  refine OMet.body pn_rm_fill (Ls := #[.val (.ref a), .val (.int (-1 : Int32)), .unset, .unset]) (fun m => by first | (simp [entryFrame, mkF, argsToLocals, Value.category]; done) | rfl) ?_
  intro p e s m below meth c T0 K hK X0 hx hby hml hown hnm hret hlk hZ eh0
  have P0 := OPr.refl h0 [a]
  refine g_iconst X0 hx (0 : Int32) (hb hby d2_0) (rfl : 0 + 1 = 1) (by decide) ?_
  refine g_istoreN X0 hx (hb hby d2_1) (rfl : 1 + 1 = 2) (Ls' := #[.val (.ref a), .val (.int (-1 : Int32)), .val (.int (0 : Int32)), .unset]) rfl ?_
  refine g_aloadN X0 hx (hb hby d2_2) (rfl : 2 + 1 = 3) rfl rfl ?_
  refine g_len X0 hx hZ eh0 I0 (z := (3 : Int32)) rfl (hb hby d2_3) (rfl : 3 + 1 = 4) ?_
  refine g_istoreN X0 hx (hb hby d2_4) (rfl : 4 + 1 = 5) (Ls' := #[.val (.ref a), .val (.int (-1 : Int32)), .val (.int (0 : Int32)), .val (.int (3 : Int32))]) rfl ?_
  refine g_iloadN X0 hx (hb hby d2_5) (rfl : 5 + 1 = 6) rfl ?_
  refine g_iloadN X0 hx (hb hby d2_6) (rfl : 6 + 1 = 7) rfl ?_
  refine g_icmpN X0 hx (hb hby d2_7) (XT.ii_ge_f (by decide)) (rfl : 7 + 3 = 10) ?_
  refine g_aloadN X0 hx (hb hby d2_10) (rfl : 10 + 1 = 11) rfl rfl ?_
  refine g_iloadN X0 hx (hb hby d2_11) (rfl : 11 + 1 = 12) rfl ?_
  refine g_iloadN X0 hx (hb hby d2_12) (rfl : 12 + 1 = 13) rfl ?_
  refine g_iastore X0 hx hZ eh0 I0 (by decide) (by rfl) (vs' := [(.int (-1 : Int32)), (.int (0 : Int32)), (.int (0 : Int32))]) (by rfl) P0 (Or.inl (List.mem_of_getElem? (i := 0) rfl)) (hb hby d2_13) (rfl : 13 + 1 = 14) fun T1 hh1 X1 eh1 W1 P1 A1 => ?_
  refine g_iinc X1 hx (1 : Int32) (hb hby d2_14) (rfl : 14 + 3 = 17) (by decide) rfl (z := (1 : Int32)) (by decide) (Ls' := #[.val (.ref a), .val (.int (-1 : Int32)), .val (.int (1 : Int32)), .val (.int (3 : Int32))]) rfl ?_
  refine g_goto X1 hx (hb hby d2_17) (by decide) (pc' := 5) (by decide) ?_
  refine g_iloadN X1 hx (hb hby d2_5) (rfl : 5 + 1 = 6) rfl ?_
  refine g_iloadN X1 hx (hb hby d2_6) (rfl : 6 + 1 = 7) rfl ?_
  refine g_icmpN X1 hx (hb hby d2_7) (XT.ii_ge_f (by decide)) (rfl : 7 + 3 = 10) ?_
  refine g_aloadN X1 hx (hb hby d2_10) (rfl : 10 + 1 = 11) rfl rfl ?_
  refine g_iloadN X1 hx (hb hby d2_11) (rfl : 11 + 1 = 12) rfl ?_
  refine g_iloadN X1 hx (hb hby d2_12) (rfl : 12 + 1 = 13) rfl ?_
  refine g_iastore X1 hx hZ eh1 A1 (by decide) (by rfl) (vs' := [(.int (-1 : Int32)), (.int (-1 : Int32)), (.int (0 : Int32))]) (by rfl) P1 (Or.inl (List.mem_of_getElem? (i := 0) rfl)) (hb hby d2_13) (rfl : 13 + 1 = 14) fun T2 hh2 X2 eh2 W2 P2 A2 => ?_
  refine g_iinc X2 hx (1 : Int32) (hb hby d2_14) (rfl : 14 + 3 = 17) (by decide) rfl (z := (2 : Int32)) (by decide) (Ls' := #[.val (.ref a), .val (.int (-1 : Int32)), .val (.int (2 : Int32)), .val (.int (3 : Int32))]) rfl ?_
  refine g_goto X2 hx (hb hby d2_17) (by decide) (pc' := 5) (by decide) ?_
  refine g_iloadN X2 hx (hb hby d2_5) (rfl : 5 + 1 = 6) rfl ?_
  refine g_iloadN X2 hx (hb hby d2_6) (rfl : 6 + 1 = 7) rfl ?_
  refine g_icmpN X2 hx (hb hby d2_7) (XT.ii_ge_f (by decide)) (rfl : 7 + 3 = 10) ?_
  refine g_aloadN X2 hx (hb hby d2_10) (rfl : 10 + 1 = 11) rfl rfl ?_
  refine g_iloadN X2 hx (hb hby d2_11) (rfl : 11 + 1 = 12) rfl ?_
  refine g_iloadN X2 hx (hb hby d2_12) (rfl : 12 + 1 = 13) rfl ?_
  refine g_iastore X2 hx hZ eh2 A2 (by decide) (by rfl) (vs' := [(.int (-1 : Int32)), (.int (-1 : Int32)), (.int (-1 : Int32))]) (by rfl) P2 (Or.inl (List.mem_of_getElem? (i := 0) rfl)) (hb hby d2_13) (rfl : 13 + 1 = 14) fun T3 hh3 X3 eh3 W3 P3 A3 => ?_
  refine g_iinc X3 hx (1 : Int32) (hb hby d2_14) (rfl : 14 + 3 = 17) (by decide) rfl (z := (3 : Int32)) (by decide) (Ls' := #[.val (.ref a), .val (.int (-1 : Int32)), .val (.int (3 : Int32)), .val (.int (3 : Int32))]) rfl ?_
  refine g_goto X3 hx (hb hby d2_17) (by decide) (pc' := 5) (by decide) ?_
  refine g_iloadN X3 hx (hb hby d2_5) (rfl : 5 + 1 = 6) rfl ?_
  refine g_iloadN X3 hx (hb hby d2_6) (rfl : 6 + 1 = 7) rfl ?_
  refine g_icmpY X3 hx (hb hby d2_7) (XT.ii_ge_t (by decide)) (by decide) (pc' := 20) (by decide) ?_
  exact g_ret0 X3 hx hret hlk (hb hby d2_20) (by decide) (by decide) eh3 hK ⟨rfl, P3, A3⟩
theorem d0_0 : decode prog_27_method_1_code 0 = .ok (.aload_n 0, 1) := by decide +kernel
theorem d0_1 : decode prog_27_method_1_code 1 = .ok (.invokespecial 1, 3) := by decide +kernel
theorem d0_4 : decode prog_27_method_1_code 4 = .ok (.aload_n 0, 1) := by decide +kernel
theorem d0_5 : decode prog_27_method_1_code 5 = .ok (.iload_n 1, 1) := by decide +kernel
theorem d0_6 : decode prog_27_method_1_code 6 = .ok (.newarray .int, 2) := by decide +kernel
theorem d0_8 : decode prog_27_method_1_code 8 = .ok (.putfield 7, 3) := by decide +kernel
theorem d0_11 : decode prog_27_method_1_code 11 = .ok (.aload_n 0, 1) := by decide +kernel
theorem d0_12 : decode prog_27_method_1_code 12 = .ok (.getfield 7, 3) := by decide +kernel
theorem d0_15 : decode prog_27_method_1_code 15 = .ok (.iconst (-1), 1) := by decide +kernel
theorem d0_16 : decode prog_27_method_1_code 16 = .ok (.invokestatic 13, 3) := by decide +kernel
theorem d0_19 : decode prog_27_method_1_code 19 = .ok (.aload_n 0, 1) := by decide +kernel
theorem d0_20 : decode prog_27_method_1_code 20 = .ok (.iload_n 1, 1) := by decide +kernel
theorem d0_21 : decode prog_27_method_1_code 21 = .ok (.newarray .float, 2) := by decide +kernel
theorem d0_23 : decode prog_27_method_1_code 23 = .ok (.putfield 19, 3) := by decide +kernel
theorem d0_26 : decode prog_27_method_1_code 26 = .ok (.aload_n 0, 1) := by decide +kernel
theorem d0_27 : decode prog_27_method_1_code 27 = .ok (.iload_n 1, 1) := by decide +kernel
theorem d0_28 : decode prog_27_method_1_code 28 = .ok (.newarray .int, 2) := by decide +kernel
theorem d0_30 : decode prog_27_method_1_code 30 = .ok (.putfield 23, 3) := by decide +kernel
theorem d0_33 : decode prog_27_method_1_code 33 = .ok (.aload_n 0, 1) := by decide +kernel
theorem d0_34 : decode prog_27_method_1_code 34 = .ok (.iload_n 1, 1) := by decide +kernel
theorem d0_35 : decode prog_27_method_1_code 35 = .ok (.newarray .int, 2) := by decide +kernel
theorem d0_37 : decode prog_27_method_1_code 37 = .ok (.putfield 26, 3) := by decide +kernel
theorem d0_40 : decode prog_27_method_1_code 40 = .ok (.aload_n 0, 1) := by decide +kernel
theorem d0_41 : decode prog_27_method_1_code 41 = .ok (.iload_n 1, 1) := by decide +kernel
theorem d0_42 : decode prog_27_method_1_code 42 = .ok (.newarray .int, 2) := by decide +kernel
theorem d0_44 : decode prog_27_method_1_code 44 = .ok (.putfield 29, 3) := by decide +kernel
theorem d0_47 : decode prog_27_method_1_code 47 = .ok (.return_, 1) := by decide +kernel
theorem pn_rm_init : plainFor (⟨"com/example/twofold/twofold/ltr/DecisionTree", "<init>", "(I)V"⟩ : MethodName) = true := by first | exact plainFor_of_name (by first | (simp [plainName, overriddenIn]; done) | decide +kernel) | decide +kernel
set_option maxRecDepth 65536 in
set_option maxHeartbeats 40000000 in
theorem rm_init {l : Launch} {Z : State} {a0 : Array Value} (hw : ∀ d ∈ tables_1, d.before a0 Z = true) (t : Addr) {h0 : Heap} (I0 : Exa Z h0 t "com/example/twofold/twofold/ltr/DecisionTree") (I1 : Fld Z h0 t "com/example/twofold/twofold/ltr/DecisionTree" "feature" "[I" .null) (I2 : Fld Z h0 t "com/example/twofold/twofold/ltr/DecisionTree" "value" "[F" .null) (I3 : Fld Z h0 t "com/example/twofold/twofold/ltr/DecisionTree" "below" "[I" .null) (I4 : Fld Z h0 t "com/example/twofold/twofold/ltr/DecisionTree" "notBelow" "[I" .null) (I5 : Fld Z h0 t "com/example/twofold/twofold/ltr/DecisionTree" "missing" "[I" .null)  :
    OMet l (⟨"com/example/twofold/twofold/ltr/DecisionTree", "<init>", "(I)V"⟩ : MethodName) prog_27_method_1_code 2 (Option.none : Option Jvm.ClassFile.FieldType) ({ frames := 1, cells := 5, slots := 15, locals := 15 } : Room) #[(.ref t), (.int (3 : Int32))] Z h0 (fun v h L => ∃ fe : Addr, ∃ va : Addr, ∃ be : Addr, ∃ nb : Addr, ∃ mi : Addr, ∃ kfe : ClassId, ∃ kva : ClassId, ∃ kbe : ClassId, ∃ knb : ClassId, ∃ kmi : ClassId, v = none ∧ OPr h0 [t] h L ∧ h0.size ≤ fe ∧ h0.size ≤ va ∧ h0.size ≤ be ∧ h0.size ≤ nb ∧ h0.size ≤ mi ∧ Fld Z h t "com/example/twofold/twofold/ltr/DecisionTree" "feature" "[I" (.ref fe) ∧ Fld Z h t "com/example/twofold/twofold/ltr/DecisionTree" "value" "[F" (.ref va) ∧ Fld Z h t "com/example/twofold/twofold/ltr/DecisionTree" "below" "[I" (.ref be) ∧ Fld Z h t "com/example/twofold/twofold/ltr/DecisionTree" "notBelow" "[I" (.ref nb) ∧ Fld Z h t "com/example/twofold/twofold/ltr/DecisionTree" "missing" "[I" (.ref mi) ∧ OAry Z h fe kfe .int [(.int (-1 : Int32)), (.int (-1 : Int32)), (.int (-1 : Int32))] ∧ OAry Z h va kva .float [(.float (0 : UInt32)), (.float (0 : UInt32)), (.float (0 : UInt32))] ∧ OAry Z h be kbe .int [(.int (0 : Int32)), (.int (0 : Int32)), (.int (0 : Int32))] ∧ OAry Z h nb knb .int [(.int (0 : Int32)), (.int (0 : Int32)), (.int (0 : Int32))] ∧ OAry Z h mi kmi .int [(.int (0 : Int32)), (.int (0 : Int32)), (.int (0 : Int32))] ∧ fe ≠ va ∧ fe ≠ be ∧ fe ≠ nb ∧ fe ≠ mi ∧ va ≠ be ∧ va ≠ nb ∧ va ≠ mi ∧ be ≠ nb ∧ be ≠ mi ∧ nb ≠ mi) := by
  refine OMet.body pn_rm_init (Ls := #[.val (.ref t), .val (.int (3 : Int32))]) (fun m => by first | (simp [entryFrame, mkF, argsToLocals, Value.category]; done) | rfl) ?_
  intro p e s m below meth c T0 K hK X0 hx hby hml hown hnm hret hlk hZ eh0
  have P0 := OPr.refl h0 [t]
  refine g_aloadN X0 hx (hb hby d0_0) (rfl : 0 + 1 = 1) rfl rfl ?_
  refine g_inito X0 hx hZ hown (wd hw 7 rfl) (wd hw 8 rfl) (wd hw 9 rfl) eh0 (by rw [hml]; rfl) (hb hby d0_1) (rfl : 1 + 3 = 4) (by decide) (W := 0) (Nat.le_of_eq rfl) (by decide) fun T1 X1 eh1 => ?_
  refine g_aloadN X1 hx (hb hby d0_4) (rfl : 4 + 1 = 5) rfl rfl ?_
  refine g_iloadN X1 hx (hb hby d0_5) (rfl : 5 + 1 = 6) rfl ?_
  refine g_newarray X1 hx hZ (ad := "[I") (by decide) (wd hw 10 rfl) eh1 (vs := [(.int (0 : Int32)), (.int (0 : Int32)), (.int (0 : Int32))]) (by decide) (by rfl) (cap := 3) (by decide) (by decide) P0 (hb hby d0_6) (rfl : 6 + 2 = 8) (by decide) (by decide) fun T2 hh2 a2 k2 q2 g2 X2 eh2 E2 P2 A2 B2 => ?_
  have F3 := (I1.ext E2)
  have F4 := (I0.ext E2)
  refine g_putf X2 hx hZ hown (host := "") (Or.inl (wd hw 11 rfl)) Via.refl eh2 F3 F4 (Or.inr ⟨(wd hw 12 rfl), rfl, hnm⟩) (wd hw 2 rfl) (ty := (.array .int)) (by decide) rfl rfl P2 (Or.inl (List.mem_of_getElem? (i := 0) rfl)) (hb hby d0_8) (rfl : 8 + 3 = 11) fun T5 hh5 X5 eh5 W5 P5 F5 => ?_
  refine g_aloadN X5 hx (hb hby d0_11) (rfl : 11 + 1 = 12) rfl rfl ?_
  refine g_getf X5 hx hZ hown (host := "") (Or.inl (wd hw 11 rfl)) Via.refl eh5 F5 (hb hby d0_12) (rfl : 12 + 3 = 15) fun T6 X6 eh6 => ?_
  refine g_iconst X6 hx (-1 : Int32) (hb hby d0_15) (rfl : 15 + 1 = 16) (by decide) ?_
  have ne8 : t ≠ a2 := Nat.ne_of_lt (Nat.lt_of_lt_of_le I0.lt (Nat.le_of_eq q2.symm))
  have F9 := (aryO A2 W5 (Ne.symm ne8))
  refine g_static X6 hx hZ hown eh6 (rm_fill hw a2 k2 F9) (wd hw 13 rfl) (wd hw 14 rfl) (wd hw 16 rfl) (wd hw 15 rfl) (by decide) (argsL := [(.ref a2), (.int (-1 : Int32))]) (rest := []) rfl rfl (ps := [(.array .int), .int]) (rt := none) (by decide) rfl (W := 0) (Nat.le_of_eq rfl) (by decide) (by decide) (by decide) (by decide) (by rw [hml]; rfl) (hb hby d0_16) (rfl : 16 + 3 = 19) fun v7 T7 hh7 L7 X7 eh7 Q7 => ?_
  obtain ⟨rfl, Pc7, G7_0⟩ := Q7
  have P7 := P5.call Pc7 (allS (Or.inr g2) all0)
  show OGo p e below K T7 (mkF m 19 #[.val (.ref t), .val (.int (3 : Int32))] [])
  refine g_aloadN X7 hx (hb hby d0_19) (rfl : 19 + 1 = 20) rfl rfl ?_
  refine g_iloadN X7 hx (hb hby d0_20) (rfl : 20 + 1 = 21) rfl ?_
  refine g_newarray X7 hx hZ (ad := "[F") (by decide) (wd hw 0 rfl) eh7 (vs := [(.float (0 : UInt32)), (.float (0 : UInt32)), (.float (0 : UInt32))]) (by decide) (by rfl) (cap := 3) (by decide) (by decide) P7 (hb hby d0_21) (rfl : 21 + 2 = 23) (by decide) (by decide) fun T10 hh10 a10 k10 q10 g10 X10 eh10 E10 P10 A10 B10 => ?_
  have F11 := ((fldP ((I2.ext E2).other W5 (Or.inr (slot_ne (Or.inr (wd hw 18 rfl)) (Or.inr (wd hw 12 rfl)) (by decide) (t := (.array .float)) (by decide) (t' := (.array .int)) (by decide)))) Pc7 (ninS ne8 nin0)).ext E10)
  have F12 := ((exaP (F4.wr W5) Pc7).ext E10)
  refine g_putf X10 hx hZ hown (host := "") (Or.inl (wd hw 17 rfl)) Via.refl eh10 F11 F12 (Or.inr ⟨(wd hw 18 rfl), rfl, hnm⟩) (wd hw 2 rfl) (ty := (.array .float)) (by decide) rfl rfl P10 (Or.inl (List.mem_of_getElem? (i := 0) rfl)) (hb hby d0_23) (rfl : 23 + 3 = 26) fun T13 hh13 X13 eh13 W13 P13 F13 => ?_
  refine g_aloadN X13 hx (hb hby d0_26) (rfl : 26 + 1 = 27) rfl rfl ?_
  refine g_iloadN X13 hx (hb hby d0_27) (rfl : 27 + 1 = 28) rfl ?_
  refine g_newarray X13 hx hZ (ad := "[I") (by decide) (wd hw 10 rfl) eh13 (vs := [(.int (0 : Int32)), (.int (0 : Int32)), (.int (0 : Int32))]) (by decide) (by rfl) (cap := 3) (by decide) (by decide) P13 (hb hby d0_28) (rfl : 28 + 2 = 30) (by decide) (by decide) fun T14 hh14 a14 k14 q14 g14 X14 eh14 E14 P14 A14 B14 => ?_
  have F15 := ((((fldP ((I3.ext E2).other W5 (Or.inr (slot_ne (Or.inr (wd hw 20 rfl)) (Or.inr (wd hw 12 rfl)) (by decide) (t := (.array .int)) (by decide) (t' := (.array .int)) (by decide)))) Pc7 (ninS ne8 nin0)).ext E10).other W13 (Or.inr (slot_ne (Or.inr (wd hw 20 rfl)) (Or.inr (wd hw 18 rfl)) (by decide) (t := (.array .int)) (by decide) (t' := (.array .float)) (by decide)))).ext E14)
  have F16 := ((F12.wr W13).ext E14)
  refine g_putf X14 hx hZ hown (host := "") (Or.inl (wd hw 19 rfl)) Via.refl eh14 F15 F16 (Or.inr ⟨(wd hw 20 rfl), rfl, hnm⟩) (wd hw 2 rfl) (ty := (.array .int)) (by decide) rfl rfl P14 (Or.inl (List.mem_of_getElem? (i := 0) rfl)) (hb hby d0_30) (rfl : 30 + 3 = 33) fun T17 hh17 X17 eh17 W17 P17 F17 => ?_
  refine g_aloadN X17 hx (hb hby d0_33) (rfl : 33 + 1 = 34) rfl rfl ?_
  refine g_iloadN X17 hx (hb hby d0_34) (rfl : 34 + 1 = 35) rfl ?_
  refine g_newarray X17 hx hZ (ad := "[I") (by decide) (wd hw 10 rfl) eh17 (vs := [(.int (0 : Int32)), (.int (0 : Int32)), (.int (0 : Int32))]) (by decide) (by rfl) (cap := 3) (by decide) (by decide) P17 (hb hby d0_35) (rfl : 35 + 2 = 37) (by decide) (by decide) fun T18 hh18 a18 k18 q18 g18 X18 eh18 E18 P18 A18 B18 => ?_
  have F19 := ((((((fldP ((I4.ext E2).other W5 (Or.inr (slot_ne (Or.inr (wd hw 22 rfl)) (Or.inr (wd hw 12 rfl)) (by decide) (t := (.array .int)) (by decide) (t' := (.array .int)) (by decide)))) Pc7 (ninS ne8 nin0)).ext E10).other W13 (Or.inr (slot_ne (Or.inr (wd hw 22 rfl)) (Or.inr (wd hw 18 rfl)) (by decide) (t := (.array .int)) (by decide) (t' := (.array .float)) (by decide)))).ext E14).other W17 (Or.inr (slot_ne (Or.inr (wd hw 22 rfl)) (Or.inr (wd hw 20 rfl)) (by decide) (t := (.array .int)) (by decide) (t' := (.array .int)) (by decide)))).ext E18)
  have F20 := ((F16.wr W17).ext E18)
  refine g_putf X18 hx hZ hown (host := "") (Or.inl (wd hw 21 rfl)) Via.refl eh18 F19 F20 (Or.inr ⟨(wd hw 22 rfl), rfl, hnm⟩) (wd hw 2 rfl) (ty := (.array .int)) (by decide) rfl rfl P18 (Or.inl (List.mem_of_getElem? (i := 0) rfl)) (hb hby d0_37) (rfl : 37 + 3 = 40) fun T21 hh21 X21 eh21 W21 P21 F21 => ?_
  refine g_aloadN X21 hx (hb hby d0_40) (rfl : 40 + 1 = 41) rfl rfl ?_
  refine g_iloadN X21 hx (hb hby d0_41) (rfl : 41 + 1 = 42) rfl ?_
  refine g_newarray X21 hx hZ (ad := "[I") (by decide) (wd hw 10 rfl) eh21 (vs := [(.int (0 : Int32)), (.int (0 : Int32)), (.int (0 : Int32))]) (by decide) (by rfl) (cap := 3) (by decide) (by decide) P21 (hb hby d0_42) (rfl : 42 + 2 = 44) (by decide) (by decide) fun T22 hh22 a22 k22 q22 g22 X22 eh22 E22 P22 A22 B22 => ?_
  have F23 := ((((((((fldP ((I5.ext E2).other W5 (Or.inr (slot_ne (Or.inr (wd hw 24 rfl)) (Or.inr (wd hw 12 rfl)) (by decide) (t := (.array .int)) (by decide) (t' := (.array .int)) (by decide)))) Pc7 (ninS ne8 nin0)).ext E10).other W13 (Or.inr (slot_ne (Or.inr (wd hw 24 rfl)) (Or.inr (wd hw 18 rfl)) (by decide) (t := (.array .int)) (by decide) (t' := (.array .float)) (by decide)))).ext E14).other W17 (Or.inr (slot_ne (Or.inr (wd hw 24 rfl)) (Or.inr (wd hw 20 rfl)) (by decide) (t := (.array .int)) (by decide) (t' := (.array .int)) (by decide)))).ext E18).other W21 (Or.inr (slot_ne (Or.inr (wd hw 24 rfl)) (Or.inr (wd hw 22 rfl)) (by decide) (t := (.array .int)) (by decide) (t' := (.array .int)) (by decide)))).ext E22)
  have F24 := ((F20.wr W21).ext E22)
  refine g_putf X22 hx hZ hown (host := "") (Or.inl (wd hw 23 rfl)) Via.refl eh22 F23 F24 (Or.inr ⟨(wd hw 24 rfl), rfl, hnm⟩) (wd hw 2 rfl) (ty := (.array .int)) (by decide) rfl rfl P22 (Or.inl (List.mem_of_getElem? (i := 0) rfl)) (hb hby d0_44) (rfl : 44 + 3 = 47) fun T25 hh25 X25 eh25 W25 P25 F25 => ?_
  have F26 := (((((((((fldP F5 Pc7 (ninS ne8 nin0)).ext E10).other W13 (Or.inr (slot_ne (Or.inr (wd hw 12 rfl)) (Or.inr (wd hw 18 rfl)) (by decide) (t := (.array .int)) (by decide) (t' := (.array .float)) (by decide)))).ext E14).other W17 (Or.inr (slot_ne (Or.inr (wd hw 12 rfl)) (Or.inr (wd hw 20 rfl)) (by decide) (t := (.array .int)) (by decide) (t' := (.array .int)) (by decide)))).ext E18).other W21 (Or.inr (slot_ne (Or.inr (wd hw 12 rfl)) (Or.inr (wd hw 22 rfl)) (by decide) (t := (.array .int)) (by decide) (t' := (.array .int)) (by decide)))).ext E22).other W25 (Or.inr (slot_ne (Or.inr (wd hw 12 rfl)) (Or.inr (wd hw 24 rfl)) (by decide) (t := (.array .int)) (by decide) (t' := (.array .int)) (by decide))))
  have F27 := ((((((F13.ext E14).other W17 (Or.inr (slot_ne (Or.inr (wd hw 18 rfl)) (Or.inr (wd hw 20 rfl)) (by decide) (t := (.array .float)) (by decide) (t' := (.array .int)) (by decide)))).ext E18).other W21 (Or.inr (slot_ne (Or.inr (wd hw 18 rfl)) (Or.inr (wd hw 22 rfl)) (by decide) (t := (.array .float)) (by decide) (t' := (.array .int)) (by decide)))).ext E22).other W25 (Or.inr (slot_ne (Or.inr (wd hw 18 rfl)) (Or.inr (wd hw 24 rfl)) (by decide) (t := (.array .float)) (by decide) (t' := (.array .int)) (by decide))))
  have F28 := ((((F17.ext E18).other W21 (Or.inr (slot_ne (Or.inr (wd hw 20 rfl)) (Or.inr (wd hw 22 rfl)) (by decide) (t := (.array .int)) (by decide) (t' := (.array .int)) (by decide)))).ext E22).other W25 (Or.inr (slot_ne (Or.inr (wd hw 20 rfl)) (Or.inr (wd hw 24 rfl)) (by decide) (t := (.array .int)) (by decide) (t' := (.array .int)) (by decide))))
  have F29 := ((F21.ext E22).other W25 (Or.inr (slot_ne (Or.inr (wd hw 22 rfl)) (Or.inr (wd hw 24 rfl)) (by decide) (t := (.array .int)) (by decide) (t' := (.array .int)) (by decide))))
  have F30 := (aryO (aryE (aryO (aryE (aryO (aryE (aryO (aryE G7_0 E10) W13 (Ne.symm ne8)) E14) W17 (Ne.symm ne8)) E18) W21 (Ne.symm ne8)) E22) W25 (Ne.symm ne8))
  have F31 := (exaP (F4.wr W5) Pc7)
  have ne32 : t ≠ a10 := Nat.ne_of_lt (Nat.lt_of_lt_of_le F31.lt (Nat.le_of_eq q10.symm))
  have F33 := (aryO (aryE (aryO (aryE (aryO (aryE (aryO A10 W13 (Ne.symm ne32)) E14) W17 (Ne.symm ne32)) E18) W21 (Ne.symm ne32)) E22) W25 (Ne.symm ne32))
  have F34 := (F12.wr W13)
  have ne35 : t ≠ a14 := Nat.ne_of_lt (Nat.lt_of_lt_of_le F34.lt (Nat.le_of_eq q14.symm))
  have F36 := (aryO (aryE (aryO (aryE (aryO A14 W17 (Ne.symm ne35)) E18) W21 (Ne.symm ne35)) E22) W25 (Ne.symm ne35))
  have F37 := (F16.wr W17)
  have ne38 : t ≠ a18 := Nat.ne_of_lt (Nat.lt_of_lt_of_le F37.lt (Nat.le_of_eq q18.symm))
  have F39 := (aryO (aryE (aryO A18 W21 (Ne.symm ne38)) E22) W25 (Ne.symm ne38))
  have F40 := (F20.wr W21)
  have ne41 : t ≠ a22 := Nat.ne_of_lt (Nat.lt_of_lt_of_le F40.lt (Nat.le_of_eq q22.symm))
  have F42 := (aryO A22 W25 (Ne.symm ne41))
  have F43 := (exaP (B2.wr W5) Pc7)
  have ne44 : a2 ≠ a10 := Nat.ne_of_lt (Nat.lt_of_lt_of_le F43.lt (Nat.le_of_eq q10.symm))
  have F45 := ((F43.ext E10).wr W13)
  have ne46 : a2 ≠ a14 := Nat.ne_of_lt (Nat.lt_of_lt_of_le F45.lt (Nat.le_of_eq q14.symm))
  have F47 := ((F45.ext E14).wr W17)
  have ne48 : a2 ≠ a18 := Nat.ne_of_lt (Nat.lt_of_lt_of_le F47.lt (Nat.le_of_eq q18.symm))
  have F49 := ((F47.ext E18).wr W21)
  have ne50 : a2 ≠ a22 := Nat.ne_of_lt (Nat.lt_of_lt_of_le F49.lt (Nat.le_of_eq q22.symm))
  have F51 := (B10.wr W13)
  have ne52 : a10 ≠ a14 := Nat.ne_of_lt (Nat.lt_of_lt_of_le F51.lt (Nat.le_of_eq q14.symm))
  have F53 := ((F51.ext E14).wr W17)
  have ne54 : a10 ≠ a18 := Nat.ne_of_lt (Nat.lt_of_lt_of_le F53.lt (Nat.le_of_eq q18.symm))
  have F55 := ((F53.ext E18).wr W21)
  have ne56 : a10 ≠ a22 := Nat.ne_of_lt (Nat.lt_of_lt_of_le F55.lt (Nat.le_of_eq q22.symm))
  have F57 := (B14.wr W17)
  have ne58 : a14 ≠ a18 := Nat.ne_of_lt (Nat.lt_of_lt_of_le F57.lt (Nat.le_of_eq q18.symm))
  have F59 := ((F57.ext E18).wr W21)
  have ne60 : a14 ≠ a22 := Nat.ne_of_lt (Nat.lt_of_lt_of_le F59.lt (Nat.le_of_eq q22.symm))
  have F61 := (B18.wr W21)
  have ne62 : a18 ≠ a22 := Nat.ne_of_lt (Nat.lt_of_lt_of_le F61.lt (Nat.le_of_eq q22.symm))
  exact g_ret0 X25 hx hret hlk (hb hby d0_47) (by decide) (by decide) eh25 hK ⟨a2, a10, a14, a18, a22, k2, k10, k14, k18, k22, rfl, P25, g2, g10, g14, g18, g22, F26, F27, F28, F29, F25, F30, F33, F36, F39, F42, ne44, ne46, ne48, ne50, ne52, ne54, ne56, ne58, ne60, ne62⟩
theorem d3_0 : decode prog_27_method_3_code 0 = .ok (.iconst 3, 1) := by decide +kernel
theorem d3_1 : decode prog_27_method_3_code 1 = .ok (.newarray .int, 2) := by decide +kernel
theorem d3_3 : decode prog_27_method_3_code 3 = .ok (.dup, 1) := by decide +kernel
theorem d3_4 : decode prog_27_method_3_code 4 = .ok (.iconst 0, 1) := by decide +kernel
theorem d3_5 : decode prog_27_method_3_code 5 = .ok (.iload 4, 2) := by decide +kernel
theorem d3_7 : decode prog_27_method_3_code 7 = .ok (.iastore, 1) := by decide +kernel
theorem d3_8 : decode prog_27_method_3_code 8 = .ok (.dup, 1) := by decide +kernel
theorem d3_9 : decode prog_27_method_3_code 9 = .ok (.iconst 1, 1) := by decide +kernel
theorem d3_10 : decode prog_27_method_3_code 10 = .ok (.iload 5, 2) := by decide +kernel
theorem d3_12 : decode prog_27_method_3_code 12 = .ok (.iastore, 1) := by decide +kernel
theorem d3_13 : decode prog_27_method_3_code 13 = .ok (.dup, 1) := by decide +kernel
theorem d3_14 : decode prog_27_method_3_code 14 = .ok (.iconst 2, 1) := by decide +kernel
theorem d3_15 : decode prog_27_method_3_code 15 = .ok (.iload 6, 2) := by decide +kernel
theorem d3_17 : decode prog_27_method_3_code 17 = .ok (.iastore, 1) := by decide +kernel
theorem d3_18 : decode prog_27_method_3_code 18 = .ok (.astore 7, 2) := by decide +kernel
theorem d3_20 : decode prog_27_method_3_code 20 = .ok (.aload 7, 2) := by decide +kernel
theorem d3_22 : decode prog_27_method_3_code 22 = .ok (.arraylength, 1) := by decide +kernel
theorem d3_23 : decode prog_27_method_3_code 23 = .ok (.istore 8, 2) := by decide +kernel
theorem d3_25 : decode prog_27_method_3_code 25 = .ok (.iconst 0, 1) := by decide +kernel
theorem d3_26 : decode prog_27_method_3_code 26 = .ok (.istore 9, 2) := by decide +kernel
theorem d3_28 : decode prog_27_method_3_code 28 = .ok (.iload 9, 2) := by decide +kernel
theorem d3_30 : decode prog_27_method_3_code 30 = .ok (.iload 8, 2) := by decide +kernel
theorem d3_32 : decode prog_27_method_3_code 32 = .ok (.if_icmp .ge 48, 3) := by decide +kernel
theorem d3_35 : decode prog_27_method_3_code 35 = .ok (.aload 7, 2) := by decide +kernel
theorem d3_37 : decode prog_27_method_3_code 37 = .ok (.iload 9, 2) := by decide +kernel
theorem d3_39 : decode prog_27_method_3_code 39 = .ok (.iaload, 1) := by decide +kernel
theorem d3_40 : decode prog_27_method_3_code 40 = .ok (.istore 10, 2) := by decide +kernel
theorem d3_42 : decode prog_27_method_3_code 42 = .ok (.iload 10, 2) := by decide +kernel
theorem d3_44 : decode prog_27_method_3_code 44 = .ok (.iload_n 1, 1) := by decide +kernel
theorem d3_45 : decode prog_27_method_3_code 45 = .ok (.if_icmp .le 13, 3) := by decide +kernel
theorem d3_48 : decode prog_27_method_3_code 48 = .ok (.iload 10, 2) := by decide +kernel
theorem d3_50 : decode prog_27_method_3_code 50 = .ok (.aload_n 0, 1) := by decide +kernel
theorem d3_51 : decode prog_27_method_3_code 51 = .ok (.getfield 7, 3) := by decide +kernel
theorem d3_54 : decode prog_27_method_3_code 54 = .ok (.arraylength, 1) := by decide +kernel
theorem d3_55 : decode prog_27_method_3_code 55 = .ok (.if_icmp .lt 19, 3) := by decide +kernel
theorem d3_74 : decode prog_27_method_3_code 74 = .ok (.iinc 9 1, 3) := by decide +kernel
theorem d3_77 : decode prog_27_method_3_code 77 = .ok (.goto (-49), 3) := by decide +kernel
theorem d3_80 : decode prog_27_method_3_code 80 = .ok (.aload_n 0, 1) := by decide +kernel
theorem d3_81 : decode prog_27_method_3_code 81 = .ok (.getfield 7, 3) := by decide +kernel
theorem d3_84 : decode prog_27_method_3_code 84 = .ok (.iload_n 1, 1) := by decide +kernel
theorem d3_85 : decode prog_27_method_3_code 85 = .ok (.iload_n 2, 1) := by decide +kernel
theorem d3_86 : decode prog_27_method_3_code 86 = .ok (.iastore, 1) := by decide +kernel
theorem d3_87 : decode prog_27_method_3_code 87 = .ok (.aload_n 0, 1) := by decide +kernel
theorem d3_88 : decode prog_27_method_3_code 88 = .ok (.getfield 19, 3) := by decide +kernel
theorem d3_91 : decode prog_27_method_3_code 91 = .ok (.iload_n 1, 1) := by decide +kernel
theorem d3_92 : decode prog_27_method_3_code 92 = .ok (.fload_n 3, 1) := by decide +kernel
theorem d3_93 : decode prog_27_method_3_code 93 = .ok (.fastore, 1) := by decide +kernel
theorem d3_94 : decode prog_27_method_3_code 94 = .ok (.aload_n 0, 1) := by decide +kernel
theorem d3_95 : decode prog_27_method_3_code 95 = .ok (.getfield 23, 3) := by decide +kernel
theorem d3_98 : decode prog_27_method_3_code 98 = .ok (.iload_n 1, 1) := by decide +kernel
theorem d3_99 : decode prog_27_method_3_code 99 = .ok (.iload 4, 2) := by decide +kernel
theorem d3_101 : decode prog_27_method_3_code 101 = .ok (.iastore, 1) := by decide +kernel
theorem d3_102 : decode prog_27_method_3_code 102 = .ok (.aload_n 0, 1) := by decide +kernel
theorem d3_103 : decode prog_27_method_3_code 103 = .ok (.getfield 26, 3) := by decide +kernel
theorem d3_106 : decode prog_27_method_3_code 106 = .ok (.iload_n 1, 1) := by decide +kernel
theorem d3_107 : decode prog_27_method_3_code 107 = .ok (.iload 5, 2) := by decide +kernel
theorem d3_109 : decode prog_27_method_3_code 109 = .ok (.iastore, 1) := by decide +kernel
theorem d3_110 : decode prog_27_method_3_code 110 = .ok (.aload_n 0, 1) := by decide +kernel
theorem d3_111 : decode prog_27_method_3_code 111 = .ok (.getfield 29, 3) := by decide +kernel
theorem d3_114 : decode prog_27_method_3_code 114 = .ok (.iload_n 1, 1) := by decide +kernel
theorem d3_115 : decode prog_27_method_3_code 115 = .ok (.iload 6, 2) := by decide +kernel
theorem d3_117 : decode prog_27_method_3_code 117 = .ok (.iastore, 1) := by decide +kernel
theorem d3_118 : decode prog_27_method_3_code 118 = .ok (.return_, 1) := by decide +kernel
theorem pn_rm_split : plainFor (⟨"com/example/twofold/twofold/ltr/DecisionTree", "split", "(IIFIII)V"⟩ : MethodName) = true := by first | exact plainFor_of_name (by first | (simp [plainName, overriddenIn]; done) | decide +kernel) | decide +kernel
set_option maxRecDepth 65536 in
set_option maxHeartbeats 40000000 in
theorem rm_split {l : Launch} {Z : State} {a0 : Array Value} (hw : ∀ d ∈ tables_1, d.before a0 Z = true) (t : Addr) (fe : Addr) (va : Addr) (be : Addr) (nb : Addr) (mi : Addr) (kfe : ClassId) (kva : ClassId) (kbe : ClassId) (knb : ClassId) (kmi : ClassId) {h0 : Heap} (I0 : Fld Z h0 t "com/example/twofold/twofold/ltr/DecisionTree" "feature" "[I" (.ref fe)) (I1 : Fld Z h0 t "com/example/twofold/twofold/ltr/DecisionTree" "value" "[F" (.ref va)) (I2 : Fld Z h0 t "com/example/twofold/twofold/ltr/DecisionTree" "below" "[I" (.ref be)) (I3 : Fld Z h0 t "com/example/twofold/twofold/ltr/DecisionTree" "notBelow" "[I" (.ref nb)) (I4 : Fld Z h0 t "com/example/twofold/twofold/ltr/DecisionTree" "missing" "[I" (.ref mi)) (I5 : OAry Z h0 fe kfe .int [(.int (-1 : Int32)), (.int (-1 : Int32)), (.int (-1 : Int32))]) (I6 : OAry Z h0 va kva .float [(.float (0 : UInt32)), (.float (0 : UInt32)), (.float (0 : UInt32))]) (I7 : OAry Z h0 be kbe .int [(.int (0 : Int32)), (.int (0 : Int32)), (.int (0 : Int32))]) (I8 : OAry Z h0 nb knb .int [(.int (0 : Int32)), (.int (0 : Int32)), (.int (0 : Int32))]) (I9 : OAry Z h0 mi kmi .int [(.int (0 : Int32)), (.int (0 : Int32)), (.int (0 : Int32))]) (n_fe_va : fe ≠ va) (n_fe_be : fe ≠ be) (n_fe_nb : fe ≠ nb) (n_fe_mi : fe ≠ mi) (n_va_be : va ≠ be) (n_va_nb : va ≠ nb) (n_va_mi : va ≠ mi) (n_be_nb : be ≠ nb) (n_be_mi : be ≠ mi) (n_nb_mi : nb ≠ mi) (nt_fe : t ≠ fe) (nt_va : t ≠ va) (nt_be : t ≠ be) (nt_nb : t ≠ nb) (nt_mi : t ≠ mi) :
    OMet l (⟨"com/example/twofold/twofold/ltr/DecisionTree", "split", "(IIFIII)V"⟩ : MethodName) prog_27_method_3_code 11 (Option.none : Option Jvm.ClassFile.FieldType) ({ frames := 0, cells := 1, slots := 3, locals := 0 } : Room) #[(.ref t), (.int (0 : Int32)), (.int (0 : Int32)), (.float FP.fconst0), (.int (1 : Int32)), (.int (2 : Int32)), (.int (2 : Int32))] Z h0 (fun v h L => v = none ∧ OPr h0 [fe, va, be, nb, mi] h L ∧ OAry Z h fe kfe .int [(.int (0 : Int32)), (.int (-1 : Int32)), (.int (-1 : Int32))] ∧ OAry Z h va kva .float [(.float FP.fconst0), (.float (0 : UInt32)), (.float (0 : UInt32))] ∧ OAry Z h be kbe .int [(.int (1 : Int32)), (.int (0 : Int32)), (.int (0 : Int32))] ∧ OAry Z h nb knb .int [(.int (2 : Int32)), (.int (0 : Int32)), (.int (0 : Int32))] ∧ OAry Z h mi kmi .int [(.int (2 : Int32)), (.int (0 : Int32)), (.int (0 : Int32))]) := by
  refine OMet.body pn_rm_split (Ls := #[.val (.ref t), .val (.int (0 : Int32)), .val (.int (0 : Int32)), .val (.float FP.fconst0), .val (.int (1 : Int32)), .val (.int (2 : Int32)), .val (.int (2 : Int32)), .unset, .unset, .unset, .unset]) (fun m => by first | (simp [entryFrame, mkF, argsToLocals, Value.category]; done) | rfl) ?_
  intro p e s m below meth c T0 K hK X0 hx hby hml hown hnm hret hlk hZ eh0
  have P0 := OPr.refl h0 [fe, va, be, nb, mi]
  refine g_iconst X0 hx (3 : Int32) (hb hby d3_0) (rfl : 0 + 1 = 1) (by decide) ?_
  refine g_newarray X0 hx hZ (ad := "[I") (by decide) (wd hw 10 rfl) eh0 (vs := [(.int (0 : Int32)), (.int (0 : Int32)), (.int (0 : Int32))]) (by decide) (by rfl) (cap := 3) (by decide) (by decide) P0 (hb hby d3_1) (rfl : 1 + 2 = 3) (by decide) (by decide) fun T1 hh1 a1 k1 q1 g1 X1 eh1 E1 P1 A1 B1 => ?_
  refine g_dup X1 hx (hb hby d3_3) (rfl : 3 + 1 = 4) rfl ?_
  refine g_iconst X1 hx (0 : Int32) (hb hby d3_4) (rfl : 4 + 1 = 5) (by decide) ?_
  refine g_iload X1 hx (hb hby d3_5) (rfl : 5 + 2 = 7) rfl ?_
  refine g_iastore X1 hx hZ eh1 A1 (by decide) (by rfl) (vs' := [(.int (1 : Int32)), (.int (0 : Int32)), (.int (0 : Int32))]) (by rfl) P1 (Or.inr g1) (hb hby d3_7) (rfl : 7 + 1 = 8) fun T2 hh2 X2 eh2 W2 P2 A2 => ?_
  refine g_dup X2 hx (hb hby d3_8) (rfl : 8 + 1 = 9) rfl ?_
  refine g_iconst X2 hx (1 : Int32) (hb hby d3_9) (rfl : 9 + 1 = 10) (by decide) ?_
  refine g_iload X2 hx (hb hby d3_10) (rfl : 10 + 2 = 12) rfl ?_
  refine g_iastore X2 hx hZ eh2 A2 (by decide) (by rfl) (vs' := [(.int (1 : Int32)), (.int (2 : Int32)), (.int (0 : Int32))]) (by rfl) P2 (Or.inr g1) (hb hby d3_12) (rfl : 12 + 1 = 13) fun T3 hh3 X3 eh3 W3 P3 A3 => ?_
  refine g_dup X3 hx (hb hby d3_13) (rfl : 13 + 1 = 14) rfl ?_
  refine g_iconst X3 hx (2 : Int32) (hb hby d3_14) (rfl : 14 + 1 = 15) (by decide) ?_
  refine g_iload X3 hx (hb hby d3_15) (rfl : 15 + 2 = 17) rfl ?_
  refine g_iastore X3 hx hZ eh3 A3 (by decide) (by rfl) (vs' := [(.int (1 : Int32)), (.int (2 : Int32)), (.int (2 : Int32))]) (by rfl) P3 (Or.inr g1) (hb hby d3_17) (rfl : 17 + 1 = 18) fun T4 hh4 X4 eh4 W4 P4 A4 => ?_
  refine g_astore X4 hx (hb hby d3_18) (rfl : 18 + 2 = 20) rfl (Ls' := #[.val (.ref t), .val (.int (0 : Int32)), .val (.int (0 : Int32)), .val (.float FP.fconst0), .val (.int (1 : Int32)), .val (.int (2 : Int32)), .val (.int (2 : Int32)), .val (.ref a1), .unset, .unset, .unset]) rfl ?_
  refine g_aload X4 hx (hb hby d3_20) (rfl : 20 + 2 = 22) rfl rfl ?_
  refine g_len X4 hx hZ eh4 A4 (z := (3 : Int32)) rfl (hb hby d3_22) (rfl : 22 + 1 = 23) ?_
  refine g_istore X4 hx (hb hby d3_23) (rfl : 23 + 2 = 25) (Ls' := #[.val (.ref t), .val (.int (0 : Int32)), .val (.int (0 : Int32)), .val (.float FP.fconst0), .val (.int (1 : Int32)), .val (.int (2 : Int32)), .val (.int (2 : Int32)), .val (.ref a1), .val (.int (3 : Int32)), .unset, .unset]) rfl ?_
  refine g_iconst X4 hx (0 : Int32) (hb hby d3_25) (rfl : 25 + 1 = 26) (by decide) ?_
  refine g_istore X4 hx (hb hby d3_26) (rfl : 26 + 2 = 28) (Ls' := #[.val (.ref t), .val (.int (0 : Int32)), .val (.int (0 : Int32)), .val (.float FP.fconst0), .val (.int (1 : Int32)), .val (.int (2 : Int32)), .val (.int (2 : Int32)), .val (.ref a1), .val (.int (3 : Int32)), .val (.int (0 : Int32)), .unset]) rfl ?_
  refine g_iload X4 hx (hb hby d3_28) (rfl : 28 + 2 = 30) rfl ?_
  refine g_iload X4 hx (hb hby d3_30) (rfl : 30 + 2 = 32) rfl ?_
  refine g_icmpN X4 hx (hb hby d3_32) (XT.ii_ge_f (by decide)) (rfl : 32 + 3 = 35) ?_
  refine g_aload X4 hx (hb hby d3_35) (rfl : 35 + 2 = 37) rfl rfl ?_
  refine g_iload X4 hx (hb hby d3_37) (rfl : 37 + 2 = 39) rfl ?_
  refine g_iaload X4 hx hZ eh4 A4 (v := (.int (1 : Int32))) (by decide) (by rfl) (hb hby d3_39) (rfl : 39 + 1 = 40) ?_
  refine g_istore X4 hx (hb hby d3_40) (rfl : 40 + 2 = 42) (Ls' := #[.val (.ref t), .val (.int (0 : Int32)), .val (.int (0 : Int32)), .val (.float FP.fconst0), .val (.int (1 : Int32)), .val (.int (2 : Int32)), .val (.int (2 : Int32)), .val (.ref a1), .val (.int (3 : Int32)), .val (.int (0 : Int32)), .val (.int (1 : Int32))]) rfl ?_
  refine g_iload X4 hx (hb hby d3_42) (rfl : 42 + 2 = 44) rfl ?_
  refine g_iloadN X4 hx (hb hby d3_44) (rfl : 44 + 1 = 45) rfl ?_
  refine g_icmpN X4 hx (hb hby d3_45) (XT.ii_le_f (by decide)) (rfl : 45 + 3 = 48) ?_
  refine g_iload X4 hx (hb hby d3_48) (rfl : 48 + 2 = 50) rfl ?_
  refine g_aloadN X4 hx (hb hby d3_50) (rfl : 50 + 1 = 51) rfl rfl ?_
  have F5 := (fldP I0 P4 (ninS nt_fe (ninS nt_va (ninS nt_be (ninS nt_nb (ninS nt_mi nin0))))))
  refine g_getf X4 hx hZ hown (host := "") (Or.inl (wd hw 11 rfl)) Via.refl eh4 F5 (hb hby d3_51) (rfl : 51 + 3 = 54) fun T6 X6 eh6 => ?_
  have ne7 : fe ≠ a1 := Nat.ne_of_lt (Nat.lt_of_lt_of_le (aryLt I5) (Nat.le_of_eq q1.symm))
  have F8 := (aryO (aryO (aryO (aryE I5 E1) W2 ne7) W3 ne7) W4 ne7)
  refine g_len X6 hx hZ eh6 F8 (z := (3 : Int32)) rfl (hb hby d3_54) (rfl : 54 + 1 = 55) ?_
  refine g_icmpY X6 hx (hb hby d3_55) (XT.ii_lt_t (by decide)) (by decide) (pc' := 74) (by decide) ?_
  refine g_iinc X6 hx (1 : Int32) (hb hby d3_74) (rfl : 74 + 3 = 77) (by decide) rfl (z := (1 : Int32)) (by decide) (Ls' := #[.val (.ref t), .val (.int (0 : Int32)), .val (.int (0 : Int32)), .val (.float FP.fconst0), .val (.int (1 : Int32)), .val (.int (2 : Int32)), .val (.int (2 : Int32)), .val (.ref a1), .val (.int (3 : Int32)), .val (.int (1 : Int32)), .val (.int (1 : Int32))]) rfl ?_
  refine g_goto X6 hx (hb hby d3_77) (by decide) (pc' := 28) (by decide) ?_
  refine g_iload X6 hx (hb hby d3_28) (rfl : 28 + 2 = 30) rfl ?_
  refine g_iload X6 hx (hb hby d3_30) (rfl : 30 + 2 = 32) rfl ?_
  refine g_icmpN X6 hx (hb hby d3_32) (XT.ii_ge_f (by decide)) (rfl : 32 + 3 = 35) ?_
  refine g_aload X6 hx (hb hby d3_35) (rfl : 35 + 2 = 37) rfl rfl ?_
  refine g_iload X6 hx (hb hby d3_37) (rfl : 37 + 2 = 39) rfl ?_
  refine g_iaload X6 hx hZ eh6 A4 (v := (.int (2 : Int32))) (by decide) (by rfl) (hb hby d3_39) (rfl : 39 + 1 = 40) ?_
  refine g_istore X6 hx (hb hby d3_40) (rfl : 40 + 2 = 42) (Ls' := #[.val (.ref t), .val (.int (0 : Int32)), .val (.int (0 : Int32)), .val (.float FP.fconst0), .val (.int (1 : Int32)), .val (.int (2 : Int32)), .val (.int (2 : Int32)), .val (.ref a1), .val (.int (3 : Int32)), .val (.int (1 : Int32)), .val (.int (2 : Int32))]) rfl ?_
  refine g_iload X6 hx (hb hby d3_42) (rfl : 42 + 2 = 44) rfl ?_
  refine g_iloadN X6 hx (hb hby d3_44) (rfl : 44 + 1 = 45) rfl ?_
  refine g_icmpN X6 hx (hb hby d3_45) (XT.ii_le_f (by decide)) (rfl : 45 + 3 = 48) ?_
  refine g_iload X6 hx (hb hby d3_48) (rfl : 48 + 2 = 50) rfl ?_
  refine g_aloadN X6 hx (hb hby d3_50) (rfl : 50 + 1 = 51) rfl rfl ?_
  refine g_getf X6 hx hZ hown (host := "") (Or.inl (wd hw 11 rfl)) Via.refl eh6 F5 (hb hby d3_51) (rfl : 51 + 3 = 54) fun T9 X9 eh9 => ?_
  refine g_len X9 hx hZ eh9 F8 (z := (3 : Int32)) rfl (hb hby d3_54) (rfl : 54 + 1 = 55) ?_
  refine g_icmpY X9 hx (hb hby d3_55) (XT.ii_lt_t (by decide)) (by decide) (pc' := 74) (by decide) ?_
  refine g_iinc X9 hx (1 : Int32) (hb hby d3_74) (rfl : 74 + 3 = 77) (by decide) rfl (z := (2 : Int32)) (by decide) (Ls' := #[.val (.ref t), .val (.int (0 : Int32)), .val (.int (0 : Int32)), .val (.float FP.fconst0), .val (.int (1 : Int32)), .val (.int (2 : Int32)), .val (.int (2 : Int32)), .val (.ref a1), .val (.int (3 : Int32)), .val (.int (2 : Int32)), .val (.int (2 : Int32))]) rfl ?_
  refine g_goto X9 hx (hb hby d3_77) (by decide) (pc' := 28) (by decide) ?_
  refine g_iload X9 hx (hb hby d3_28) (rfl : 28 + 2 = 30) rfl ?_
  refine g_iload X9 hx (hb hby d3_30) (rfl : 30 + 2 = 32) rfl ?_
  refine g_icmpN X9 hx (hb hby d3_32) (XT.ii_ge_f (by decide)) (rfl : 32 + 3 = 35) ?_
  refine g_aload X9 hx (hb hby d3_35) (rfl : 35 + 2 = 37) rfl rfl ?_
  refine g_iload X9 hx (hb hby d3_37) (rfl : 37 + 2 = 39) rfl ?_
  refine g_iaload X9 hx hZ eh9 A4 (v := (.int (2 : Int32))) (by decide) (by rfl) (hb hby d3_39) (rfl : 39 + 1 = 40) ?_
  refine g_istore X9 hx (hb hby d3_40) (rfl : 40 + 2 = 42) (Ls' := #[.val (.ref t), .val (.int (0 : Int32)), .val (.int (0 : Int32)), .val (.float FP.fconst0), .val (.int (1 : Int32)), .val (.int (2 : Int32)), .val (.int (2 : Int32)), .val (.ref a1), .val (.int (3 : Int32)), .val (.int (2 : Int32)), .val (.int (2 : Int32))]) rfl ?_
  refine g_iload X9 hx (hb hby d3_42) (rfl : 42 + 2 = 44) rfl ?_
  refine g_iloadN X9 hx (hb hby d3_44) (rfl : 44 + 1 = 45) rfl ?_
  refine g_icmpN X9 hx (hb hby d3_45) (XT.ii_le_f (by decide)) (rfl : 45 + 3 = 48) ?_
  refine g_iload X9 hx (hb hby d3_48) (rfl : 48 + 2 = 50) rfl ?_
  refine g_aloadN X9 hx (hb hby d3_50) (rfl : 50 + 1 = 51) rfl rfl ?_
  refine g_getf X9 hx hZ hown (host := "") (Or.inl (wd hw 11 rfl)) Via.refl eh9 F5 (hb hby d3_51) (rfl : 51 + 3 = 54) fun T10 X10 eh10 => ?_
  refine g_len X10 hx hZ eh10 F8 (z := (3 : Int32)) rfl (hb hby d3_54) (rfl : 54 + 1 = 55) ?_
  refine g_icmpY X10 hx (hb hby d3_55) (XT.ii_lt_t (by decide)) (by decide) (pc' := 74) (by decide) ?_
  refine g_iinc X10 hx (1 : Int32) (hb hby d3_74) (rfl : 74 + 3 = 77) (by decide) rfl (z := (3 : Int32)) (by decide) (Ls' := #[.val (.ref t), .val (.int (0 : Int32)), .val (.int (0 : Int32)), .val (.float FP.fconst0), .val (.int (1 : Int32)), .val (.int (2 : Int32)), .val (.int (2 : Int32)), .val (.ref a1), .val (.int (3 : Int32)), .val (.int (3 : Int32)), .val (.int (2 : Int32))]) rfl ?_
  refine g_goto X10 hx (hb hby d3_77) (by decide) (pc' := 28) (by decide) ?_
  refine g_iload X10 hx (hb hby d3_28) (rfl : 28 + 2 = 30) rfl ?_
  refine g_iload X10 hx (hb hby d3_30) (rfl : 30 + 2 = 32) rfl ?_
  refine g_icmpY X10 hx (hb hby d3_32) (XT.ii_ge_t (by decide)) (by decide) (pc' := 80) (by decide) ?_
  refine g_aloadN X10 hx (hb hby d3_80) (rfl : 80 + 1 = 81) rfl rfl ?_
  refine g_getf X10 hx hZ hown (host := "") (Or.inl (wd hw 11 rfl)) Via.refl eh10 F5 (hb hby d3_81) (rfl : 81 + 3 = 84) fun T11 X11 eh11 => ?_
  refine g_iloadN X11 hx (hb hby d3_84) (rfl : 84 + 1 = 85) rfl ?_
  refine g_iloadN X11 hx (hb hby d3_85) (rfl : 85 + 1 = 86) rfl ?_
  refine g_iastore X11 hx hZ eh11 F8 (by decide) (by rfl) (vs' := [(.int (0 : Int32)), (.int (-1 : Int32)), (.int (-1 : Int32))]) (by rfl) P4 (Or.inl (List.mem_of_getElem? (i := 0) rfl)) (hb hby d3_86) (rfl : 86 + 1 = 87) fun T12 hh12 X12 eh12 W12 P12 A12 => ?_
  refine g_aloadN X12 hx (hb hby d3_87) (rfl : 87 + 1 = 88) rfl rfl ?_
  have F13 := (fldP I1 P12 (ninS nt_fe (ninS nt_va (ninS nt_be (ninS nt_nb (ninS nt_mi nin0))))))
  refine g_getf X12 hx hZ hown (host := "") (Or.inl (wd hw 17 rfl)) Via.refl eh12 F13 (hb hby d3_88) (rfl : 88 + 3 = 91) fun T14 X14 eh14 => ?_
  refine g_iloadN X14 hx (hb hby d3_91) (rfl : 91 + 1 = 92) rfl ?_
  refine g_floadN X14 hx (hb hby d3_92) (rfl : 92 + 1 = 93) rfl ?_
  have ne15 : va ≠ a1 := Nat.ne_of_lt (Nat.lt_of_lt_of_le (aryLt I6) (Nat.le_of_eq q1.symm))
  have F16 := (aryO (aryO (aryO (aryO (aryE I6 E1) W2 ne15) W3 ne15) W4 ne15) W12 (Ne.symm n_fe_va))
  refine g_fastore X14 hx hZ eh14 F16 (by decide) (by rfl) (vs' := [(.float FP.fconst0), (.float (0 : UInt32)), (.float (0 : UInt32))]) (by rfl) P12 (Or.inl (List.mem_of_getElem? (i := 1) rfl)) (hb hby d3_93) (rfl : 93 + 1 = 94) fun T17 hh17 X17 eh17 W17 P17 A17 => ?_
  refine g_aloadN X17 hx (hb hby d3_94) (rfl : 94 + 1 = 95) rfl rfl ?_
  have F18 := (fldP I2 P17 (ninS nt_fe (ninS nt_va (ninS nt_be (ninS nt_nb (ninS nt_mi nin0))))))
  refine g_getf X17 hx hZ hown (host := "") (Or.inl (wd hw 19 rfl)) Via.refl eh17 F18 (hb hby d3_95) (rfl : 95 + 3 = 98) fun T19 X19 eh19 => ?_
  refine g_iloadN X19 hx (hb hby d3_98) (rfl : 98 + 1 = 99) rfl ?_
  refine g_iload X19 hx (hb hby d3_99) (rfl : 99 + 2 = 101) rfl ?_
  have ne20 : be ≠ a1 := Nat.ne_of_lt (Nat.lt_of_lt_of_le (aryLt I7) (Nat.le_of_eq q1.symm))
  have F21 := (aryO (aryO (aryO (aryO (aryO (aryE I7 E1) W2 ne20) W3 ne20) W4 ne20) W12 (Ne.symm n_fe_be)) W17 (Ne.symm n_va_be))
  refine g_iastore X19 hx hZ eh19 F21 (by decide) (by rfl) (vs' := [(.int (1 : Int32)), (.int (0 : Int32)), (.int (0 : Int32))]) (by rfl) P17 (Or.inl (List.mem_of_getElem? (i := 2) rfl)) (hb hby d3_101) (rfl : 101 + 1 = 102) fun T22 hh22 X22 eh22 W22 P22 A22 => ?_
  refine g_aloadN X22 hx (hb hby d3_102) (rfl : 102 + 1 = 103) rfl rfl ?_
  have F23 := (fldP I3 P22 (ninS nt_fe (ninS nt_va (ninS nt_be (ninS nt_nb (ninS nt_mi nin0))))))
  refine g_getf X22 hx hZ hown (host := "") (Or.inl (wd hw 21 rfl)) Via.refl eh22 F23 (hb hby d3_103) (rfl : 103 + 3 = 106) fun T24 X24 eh24 => ?_
  refine g_iloadN X24 hx (hb hby d3_106) (rfl : 106 + 1 = 107) rfl ?_
  refine g_iload X24 hx (hb hby d3_107) (rfl : 107 + 2 = 109) rfl ?_
  have ne25 : nb ≠ a1 := Nat.ne_of_lt (Nat.lt_of_lt_of_le (aryLt I8) (Nat.le_of_eq q1.symm))
  have F26 := (aryO (aryO (aryO (aryO (aryO (aryO (aryE I8 E1) W2 ne25) W3 ne25) W4 ne25) W12 (Ne.symm n_fe_nb)) W17 (Ne.symm n_va_nb)) W22 (Ne.symm n_be_nb))
  refine g_iastore X24 hx hZ eh24 F26 (by decide) (by rfl) (vs' := [(.int (2 : Int32)), (.int (0 : Int32)), (.int (0 : Int32))]) (by rfl) P22 (Or.inl (List.mem_of_getElem? (i := 3) rfl)) (hb hby d3_109) (rfl : 109 + 1 = 110) fun T27 hh27 X27 eh27 W27 P27 A27 => ?_
  refine g_aloadN X27 hx (hb hby d3_110) (rfl : 110 + 1 = 111) rfl rfl ?_
  have F28 := (fldP I4 P27 (ninS nt_fe (ninS nt_va (ninS nt_be (ninS nt_nb (ninS nt_mi nin0))))))
  refine g_getf X27 hx hZ hown (host := "") (Or.inl (wd hw 23 rfl)) Via.refl eh27 F28 (hb hby d3_111) (rfl : 111 + 3 = 114) fun T29 X29 eh29 => ?_
  refine g_iloadN X29 hx (hb hby d3_114) (rfl : 114 + 1 = 115) rfl ?_
  refine g_iload X29 hx (hb hby d3_115) (rfl : 115 + 2 = 117) rfl ?_
  have ne30 : mi ≠ a1 := Nat.ne_of_lt (Nat.lt_of_lt_of_le (aryLt I9) (Nat.le_of_eq q1.symm))
  have F31 := (aryO (aryO (aryO (aryO (aryO (aryO (aryO (aryE I9 E1) W2 ne30) W3 ne30) W4 ne30) W12 (Ne.symm n_fe_mi)) W17 (Ne.symm n_va_mi)) W22 (Ne.symm n_be_mi)) W27 (Ne.symm n_nb_mi))
  refine g_iastore X29 hx hZ eh29 F31 (by decide) (by rfl) (vs' := [(.int (2 : Int32)), (.int (0 : Int32)), (.int (0 : Int32))]) (by rfl) P27 (Or.inl (List.mem_of_getElem? (i := 4) rfl)) (hb hby d3_117) (rfl : 117 + 1 = 118) fun T32 hh32 X32 eh32 W32 P32 A32 => ?_
  have F33 := (aryO (aryO (aryO (aryO A12 W17 n_fe_va) W22 n_fe_be) W27 n_fe_nb) W32 n_fe_mi)
  have F34 := (aryO (aryO (aryO A17 W22 n_va_be) W27 n_va_nb) W32 n_va_mi)
  have F35 := (aryO (aryO A22 W27 n_be_nb) W32 n_be_mi)
  have F36 := (aryO A27 W32 n_nb_mi)
  exact g_ret0 X32 hx hret hlk (hb hby d3_118) (by decide) (by decide) eh32 hK ⟨rfl, P32, F33, F34, F35, F36, A32⟩
theorem d4_0 : decode prog_27_method_2_code 0 = .ok (.aload_n 0, 1) := by decide +kernel
theorem d4_1 : decode prog_27_method_2_code 1 = .ok (.getfield 7, 3) := by decide +kernel
theorem d4_4 : decode prog_27_method_2_code 4 = .ok (.iload_n 1, 1) := by decide +kernel
theorem d4_5 : decode prog_27_method_2_code 5 = .ok (.iconst (-1), 1) := by decide +kernel
theorem d4_6 : decode prog_27_method_2_code 6 = .ok (.iastore, 1) := by decide +kernel
theorem d4_7 : decode prog_27_method_2_code 7 = .ok (.aload_n 0, 1) := by decide +kernel
theorem d4_8 : decode prog_27_method_2_code 8 = .ok (.getfield 19, 3) := by decide +kernel
theorem d4_11 : decode prog_27_method_2_code 11 = .ok (.iload_n 1, 1) := by decide +kernel
theorem d4_12 : decode prog_27_method_2_code 12 = .ok (.fload_n 2, 1) := by decide +kernel
theorem d4_13 : decode prog_27_method_2_code 13 = .ok (.fastore, 1) := by decide +kernel
theorem d4_14 : decode prog_27_method_2_code 14 = .ok (.return_, 1) := by decide +kernel
theorem pn_rm_leaf0 : plainFor (⟨"com/example/twofold/twofold/ltr/DecisionTree", "leaf", "(IF)V"⟩ : MethodName) = true := by first | exact plainFor_of_name (by first | (simp [plainName, overriddenIn]; done) | decide +kernel) | decide +kernel
set_option maxRecDepth 65536 in
set_option maxHeartbeats 40000000 in
theorem rm_leaf0 {l : Launch} {Z : State} {a0 : Array Value} (hw : ∀ d ∈ tables_1, d.before a0 Z = true) (t : Addr) (fe : Addr) (va : Addr) (kfe : ClassId) (kva : ClassId) (out : UInt32) (f0 : Int32) (f1 : Int32) (f2 : Int32) (v0 : UInt32) (v1 : UInt32) (v2 : UInt32) {h0 : Heap} (I0 : Fld Z h0 t "com/example/twofold/twofold/ltr/DecisionTree" "feature" "[I" (.ref fe)) (I1 : Fld Z h0 t "com/example/twofold/twofold/ltr/DecisionTree" "value" "[F" (.ref va)) (I2 : OAry Z h0 fe kfe .int [(.int f0), (.int f1), (.int f2)]) (I3 : OAry Z h0 va kva .float [(.float v0), (.float v1), (.float v2)]) (n_fe_va : fe ≠ va) (nt_fe : t ≠ fe) (nt_va : t ≠ va) :
    OMet l (⟨"com/example/twofold/twofold/ltr/DecisionTree", "leaf", "(IF)V"⟩ : MethodName) prog_27_method_2_code 3 (Option.none : Option Jvm.ClassFile.FieldType) ({ frames := 0, cells := 0, slots := 0, locals := 0 } : Room) #[(.ref t), (.int (0 : Int32)), (.float out)] Z h0 (fun v h L => v = none ∧ OPr h0 [fe, va] h L ∧ OAry Z h fe kfe .int [(.int (-1 : Int32)), (.int f1), (.int f2)] ∧ OAry Z h va kva .float [(.float out), (.float v1), (.float v2)]) := by
  refine OMet.body pn_rm_leaf0 (Ls := #[.val (.ref t), .val (.int (0 : Int32)), .val (.float out)]) (fun m => by first | (simp [entryFrame, mkF, argsToLocals, Value.category]; done) | rfl) ?_
  intro p e s m below meth c T0 K hK X0 hx hby hml hown hnm hret hlk hZ eh0
  have P0 := OPr.refl h0 [fe, va]
  refine g_aloadN X0 hx (hb hby d4_0) (rfl : 0 + 1 = 1) rfl rfl ?_
  refine g_getf X0 hx hZ hown (host := "") (Or.inl (wd hw 11 rfl)) Via.refl eh0 I0 (hb hby d4_1) (rfl : 1 + 3 = 4) fun T1 X1 eh1 => ?_
  refine g_iloadN X1 hx (hb hby d4_4) (rfl : 4 + 1 = 5) rfl ?_
  refine g_iconst X1 hx (-1 : Int32) (hb hby d4_5) (rfl : 5 + 1 = 6) (by decide) ?_
  refine g_iastore X1 hx hZ eh1 I2 (by decide) (by rfl) (vs' := [(.int (-1 : Int32)), (.int f1), (.int f2)]) (by rfl) P0 (Or.inl (List.mem_of_getElem? (i := 0) rfl)) (hb hby d4_6) (rfl : 6 + 1 = 7) fun T2 hh2 X2 eh2 W2 P2 A2 => ?_
  refine g_aloadN X2 hx (hb hby d4_7) (rfl : 7 + 1 = 8) rfl rfl ?_
  have F3 := (I1.other W2 (Or.inl nt_fe))
  refine g_getf X2 hx hZ hown (host := "") (Or.inl (wd hw 17 rfl)) Via.refl eh2 F3 (hb hby d4_8) (rfl : 8 + 3 = 11) fun T4 X4 eh4 => ?_
  refine g_iloadN X4 hx (hb hby d4_11) (rfl : 11 + 1 = 12) rfl ?_
  refine g_floadN X4 hx (hb hby d4_12) (rfl : 12 + 1 = 13) rfl ?_
  have F5 := (aryO I3 W2 (Ne.symm n_fe_va))
  refine g_fastore X4 hx hZ eh4 F5 (by decide) (by rfl) (vs' := [(.float out), (.float v1), (.float v2)]) (by rfl) P2 (Or.inl (List.mem_of_getElem? (i := 1) rfl)) (hb hby d4_13) (rfl : 13 + 1 = 14) fun T6 hh6 X6 eh6 W6 P6 A6 => ?_
  have F7 := (aryO A2 W6 n_fe_va)
  exact g_ret0 X6 hx hret hlk (hb hby d4_14) (by decide) (by decide) eh6 hK ⟨rfl, P6, F7, A6⟩
theorem pn_rm_leaf1 : plainFor (⟨"com/example/twofold/twofold/ltr/DecisionTree", "leaf", "(IF)V"⟩ : MethodName) = true := by first | exact plainFor_of_name (by first | (simp [plainName, overriddenIn]; done) | decide +kernel) | decide +kernel
set_option maxRecDepth 65536 in
set_option maxHeartbeats 40000000 in
theorem rm_leaf1 {l : Launch} {Z : State} {a0 : Array Value} (hw : ∀ d ∈ tables_1, d.before a0 Z = true) (t : Addr) (fe : Addr) (va : Addr) (kfe : ClassId) (kva : ClassId) (out : UInt32) (f0 : Int32) (f1 : Int32) (f2 : Int32) (v0 : UInt32) (v1 : UInt32) (v2 : UInt32) {h0 : Heap} (I0 : Fld Z h0 t "com/example/twofold/twofold/ltr/DecisionTree" "feature" "[I" (.ref fe)) (I1 : Fld Z h0 t "com/example/twofold/twofold/ltr/DecisionTree" "value" "[F" (.ref va)) (I2 : OAry Z h0 fe kfe .int [(.int f0), (.int f1), (.int f2)]) (I3 : OAry Z h0 va kva .float [(.float v0), (.float v1), (.float v2)]) (n_fe_va : fe ≠ va) (nt_fe : t ≠ fe) (nt_va : t ≠ va) :
    OMet l (⟨"com/example/twofold/twofold/ltr/DecisionTree", "leaf", "(IF)V"⟩ : MethodName) prog_27_method_2_code 3 (Option.none : Option Jvm.ClassFile.FieldType) ({ frames := 0, cells := 0, slots := 0, locals := 0 } : Room) #[(.ref t), (.int (1 : Int32)), (.float out)] Z h0 (fun v h L => v = none ∧ OPr h0 [fe, va] h L ∧ OAry Z h fe kfe .int [(.int f0), (.int (-1 : Int32)), (.int f2)] ∧ OAry Z h va kva .float [(.float v0), (.float out), (.float v2)]) := by
  refine OMet.body pn_rm_leaf1 (Ls := #[.val (.ref t), .val (.int (1 : Int32)), .val (.float out)]) (fun m => by first | (simp [entryFrame, mkF, argsToLocals, Value.category]; done) | rfl) ?_
  intro p e s m below meth c T0 K hK X0 hx hby hml hown hnm hret hlk hZ eh0
  have P0 := OPr.refl h0 [fe, va]
  refine g_aloadN X0 hx (hb hby d4_0) (rfl : 0 + 1 = 1) rfl rfl ?_
  refine g_getf X0 hx hZ hown (host := "") (Or.inl (wd hw 11 rfl)) Via.refl eh0 I0 (hb hby d4_1) (rfl : 1 + 3 = 4) fun T1 X1 eh1 => ?_
  refine g_iloadN X1 hx (hb hby d4_4) (rfl : 4 + 1 = 5) rfl ?_
  refine g_iconst X1 hx (-1 : Int32) (hb hby d4_5) (rfl : 5 + 1 = 6) (by decide) ?_
  refine g_iastore X1 hx hZ eh1 I2 (by decide) (by rfl) (vs' := [(.int f0), (.int (-1 : Int32)), (.int f2)]) (by rfl) P0 (Or.inl (List.mem_of_getElem? (i := 0) rfl)) (hb hby d4_6) (rfl : 6 + 1 = 7) fun T2 hh2 X2 eh2 W2 P2 A2 => ?_
  refine g_aloadN X2 hx (hb hby d4_7) (rfl : 7 + 1 = 8) rfl rfl ?_
  have F3 := (I1.other W2 (Or.inl nt_fe))
  refine g_getf X2 hx hZ hown (host := "") (Or.inl (wd hw 17 rfl)) Via.refl eh2 F3 (hb hby d4_8) (rfl : 8 + 3 = 11) fun T4 X4 eh4 => ?_
  refine g_iloadN X4 hx (hb hby d4_11) (rfl : 11 + 1 = 12) rfl ?_
  refine g_floadN X4 hx (hb hby d4_12) (rfl : 12 + 1 = 13) rfl ?_
  have F5 := (aryO I3 W2 (Ne.symm n_fe_va))
  refine g_fastore X4 hx hZ eh4 F5 (by decide) (by rfl) (vs' := [(.float v0), (.float out), (.float v2)]) (by rfl) P2 (Or.inl (List.mem_of_getElem? (i := 1) rfl)) (hb hby d4_13) (rfl : 13 + 1 = 14) fun T6 hh6 X6 eh6 W6 P6 A6 => ?_
  have F7 := (aryO A2 W6 n_fe_va)
  exact g_ret0 X6 hx hret hlk (hb hby d4_14) (by decide) (by decide) eh6 hK ⟨rfl, P6, F7, A6⟩
theorem pn_rm_leaf2 : plainFor (⟨"com/example/twofold/twofold/ltr/DecisionTree", "leaf", "(IF)V"⟩ : MethodName) = true := by first | exact plainFor_of_name (by first | (simp [plainName, overriddenIn]; done) | decide +kernel) | decide +kernel
set_option maxRecDepth 65536 in
set_option maxHeartbeats 40000000 in
theorem rm_leaf2 {l : Launch} {Z : State} {a0 : Array Value} (hw : ∀ d ∈ tables_1, d.before a0 Z = true) (t : Addr) (fe : Addr) (va : Addr) (kfe : ClassId) (kva : ClassId) (out : UInt32) (f0 : Int32) (f1 : Int32) (f2 : Int32) (v0 : UInt32) (v1 : UInt32) (v2 : UInt32) {h0 : Heap} (I0 : Fld Z h0 t "com/example/twofold/twofold/ltr/DecisionTree" "feature" "[I" (.ref fe)) (I1 : Fld Z h0 t "com/example/twofold/twofold/ltr/DecisionTree" "value" "[F" (.ref va)) (I2 : OAry Z h0 fe kfe .int [(.int f0), (.int f1), (.int f2)]) (I3 : OAry Z h0 va kva .float [(.float v0), (.float v1), (.float v2)]) (n_fe_va : fe ≠ va) (nt_fe : t ≠ fe) (nt_va : t ≠ va) :
    OMet l (⟨"com/example/twofold/twofold/ltr/DecisionTree", "leaf", "(IF)V"⟩ : MethodName) prog_27_method_2_code 3 (Option.none : Option Jvm.ClassFile.FieldType) ({ frames := 0, cells := 0, slots := 0, locals := 0 } : Room) #[(.ref t), (.int (2 : Int32)), (.float out)] Z h0 (fun v h L => v = none ∧ OPr h0 [fe, va] h L ∧ OAry Z h fe kfe .int [(.int f0), (.int f1), (.int (-1 : Int32))] ∧ OAry Z h va kva .float [(.float v0), (.float v1), (.float out)]) := by
  refine OMet.body pn_rm_leaf2 (Ls := #[.val (.ref t), .val (.int (2 : Int32)), .val (.float out)]) (fun m => by first | (simp [entryFrame, mkF, argsToLocals, Value.category]; done) | rfl) ?_
  intro p e s m below meth c T0 K hK X0 hx hby hml hown hnm hret hlk hZ eh0
  have P0 := OPr.refl h0 [fe, va]
  refine g_aloadN X0 hx (hb hby d4_0) (rfl : 0 + 1 = 1) rfl rfl ?_
  refine g_getf X0 hx hZ hown (host := "") (Or.inl (wd hw 11 rfl)) Via.refl eh0 I0 (hb hby d4_1) (rfl : 1 + 3 = 4) fun T1 X1 eh1 => ?_
  refine g_iloadN X1 hx (hb hby d4_4) (rfl : 4 + 1 = 5) rfl ?_
  refine g_iconst X1 hx (-1 : Int32) (hb hby d4_5) (rfl : 5 + 1 = 6) (by decide) ?_
  refine g_iastore X1 hx hZ eh1 I2 (by decide) (by rfl) (vs' := [(.int f0), (.int f1), (.int (-1 : Int32))]) (by rfl) P0 (Or.inl (List.mem_of_getElem? (i := 0) rfl)) (hb hby d4_6) (rfl : 6 + 1 = 7) fun T2 hh2 X2 eh2 W2 P2 A2 => ?_
  refine g_aloadN X2 hx (hb hby d4_7) (rfl : 7 + 1 = 8) rfl rfl ?_
  have F3 := (I1.other W2 (Or.inl nt_fe))
  refine g_getf X2 hx hZ hown (host := "") (Or.inl (wd hw 17 rfl)) Via.refl eh2 F3 (hb hby d4_8) (rfl : 8 + 3 = 11) fun T4 X4 eh4 => ?_
  refine g_iloadN X4 hx (hb hby d4_11) (rfl : 11 + 1 = 12) rfl ?_
  refine g_floadN X4 hx (hb hby d4_12) (rfl : 12 + 1 = 13) rfl ?_
  have F5 := (aryO I3 W2 (Ne.symm n_fe_va))
  refine g_fastore X4 hx hZ eh4 F5 (by decide) (by rfl) (vs' := [(.float v0), (.float v1), (.float out)]) (by rfl) P2 (Or.inl (List.mem_of_getElem? (i := 1) rfl)) (hb hby d4_13) (rfl : 13 + 1 = 14) fun T6 hh6 X6 eh6 W6 P6 A6 => ?_
  have F7 := (aryO A2 W6 n_fe_va)
  exact g_ret0 X6 hx hret hlk (hb hby d4_14) (by decide) (by decide) eh6 hK ⟨rfl, P6, F7, A6⟩
theorem d6_0 : decode jdk_118_method_6_code 0 = .ok (.fload_n 0, 1) := by decide +kernel
theorem d6_1 : decode jdk_118_method_6_code 1 = .ok (.fload_n 0, 1) := by decide +kernel
theorem d6_2 : decode jdk_118_method_6_code 2 = .ok (.fcmp .l, 1) := by decide +kernel
theorem d6_3 : decode jdk_118_method_6_code 3 = .ok (.ifCond .eq 7, 3) := by decide +kernel
theorem d6_10 : decode jdk_118_method_6_code 10 = .ok (.iconst 0, 1) := by decide +kernel
theorem d6_11 : decode jdk_118_method_6_code 11 = .ok (.ireturn, 1) := by decide +kernel
theorem pn_rm_nan : plainFor (⟨"java/lang/Float", "isNaN", "(F)Z"⟩ : MethodName) = true := by first | exact plainFor_of_name (by first | (simp [plainName, overriddenIn]; done) | decide +kernel) | decide +kernel
set_option maxRecDepth 65536 in
set_option maxHeartbeats 40000000 in
theorem rm_nan {l : Launch} {Z : State} {a0 : Array Value} (hw : ∀ d ∈ tables_1, d.before a0 Z = true) (x : UInt32) {h0 : Heap}  (hn : cmpValue (FP.fcmp x x) .l = 0) :
    OMet l (⟨"java/lang/Float", "isNaN", "(F)Z"⟩ : MethodName) jdk_118_method_6_code 1 (Option.some Jvm.ClassFile.FieldType.boolean) ({ frames := 0, cells := 0, slots := 0, locals := 0 } : Room) #[(.float x)] Z h0 (fun v h L => v = some (.int (0 : Int32)) ∧ OPr h0 [] h L) := by
  refine OMet.body pn_rm_nan (Ls := #[.val (.float x)]) (fun m => by first | (simp [entryFrame, mkF, argsToLocals, Value.category]; done) | rfl) ?_
  intro p e s m below meth c T0 K hK X0 hx hby hml hown hnm hret hlk hZ eh0
  have P0 := OPr.refl h0 []
  refine g_floadN X0 hx (hb hby d6_0) (rfl : 0 + 1 = 1) rfl ?_
  refine g_floadN X0 hx (hb hby d6_1) (rfl : 1 + 1 = 2) rfl ?_
  refine g_fcmp X0 hx (hb hby d6_2) (rfl : 2 + 1 = 3) ?_
  refine g_ifY X0 hx (hb hby d6_3) (XT.i0_eq_t hn) (by decide) (pc' := 10) (by decide) ?_
  refine g_iconst X0 hx (0 : Int32) (hb hby d6_10) (rfl : 10 + 1 = 11) (by decide) ?_
  exact g_ret X0 hx hret hlk rfl (Or.inl ⟨rfl, Or.inr (Or.inl rfl), _, rfl⟩) (hb hby d6_11) (by decide) (by decide) eh0 hK ⟨rfl, P0⟩
theorem d5_0 : decode prog_27_method_5_code 0 = .ok (.iconst 0, 1) := by decide +kernel
theorem d5_1 : decode prog_27_method_5_code 1 = .ok (.istore_n 2, 1) := by decide +kernel
theorem d5_2 : decode prog_27_method_5_code 2 = .ok (.aload_n 0, 1) := by decide +kernel
theorem d5_3 : decode prog_27_method_5_code 3 = .ok (.getfield 7, 3) := by decide +kernel
theorem d5_6 : decode prog_27_method_5_code 6 = .ok (.iload_n 2, 1) := by decide +kernel
theorem d5_7 : decode prog_27_method_5_code 7 = .ok (.iaload, 1) := by decide +kernel
theorem d5_8 : decode prog_27_method_5_code 8 = .ok (.ifCond .lt 58, 3) := by decide +kernel
theorem d5_66 : decode prog_27_method_5_code 66 = .ok (.aload_n 0, 1) := by decide +kernel
theorem d5_67 : decode prog_27_method_5_code 67 = .ok (.getfield 19, 3) := by decide +kernel
theorem d5_70 : decode prog_27_method_5_code 70 = .ok (.iload_n 2, 1) := by decide +kernel
theorem d5_71 : decode prog_27_method_5_code 71 = .ok (.faload, 1) := by decide +kernel
theorem d5_72 : decode prog_27_method_5_code 72 = .ok (.freturn, 1) := by decide +kernel
theorem pn_rm_out_reset : plainFor (⟨"com/example/twofold/twofold/ltr/DecisionTree", "output", "([F)F"⟩ : MethodName) = true := by first | exact plainFor_of_name (by first | (simp [plainName, overriddenIn]; done) | decide +kernel) | decide +kernel
set_option maxRecDepth 65536 in
set_option maxHeartbeats 40000000 in
theorem rm_out_reset {l : Launch} {Z : State} {a0 : Array Value} (hw : ∀ d ∈ tables_1, d.before a0 Z = true) (t : Addr) (fe : Addr) (va : Addr) (be : Addr) (nb : Addr) (mi : Addr) (kfe : ClassId) (kva : ClassId) (kbe : ClassId) (knb : ClassId) (kmi : ClassId) (fs : Addr) (kfs : ClassId) (x : UInt32) (v0 : UInt32) (v1 : UInt32) (v2 : UInt32) {h0 : Heap} (I0 : Fld Z h0 t "com/example/twofold/twofold/ltr/DecisionTree" "feature" "[I" (.ref fe)) (I1 : Fld Z h0 t "com/example/twofold/twofold/ltr/DecisionTree" "value" "[F" (.ref va)) (I2 : Fld Z h0 t "com/example/twofold/twofold/ltr/DecisionTree" "below" "[I" (.ref be)) (I3 : Fld Z h0 t "com/example/twofold/twofold/ltr/DecisionTree" "notBelow" "[I" (.ref nb)) (I4 : Fld Z h0 t "com/example/twofold/twofold/ltr/DecisionTree" "missing" "[I" (.ref mi)) (I5 : OAry Z h0 fe kfe .int [(.int (-1 : Int32)), (.int (-1 : Int32)), (.int (-1 : Int32))]) (I6 : OAry Z h0 va kva .float [(.float v0), (.float v1), (.float v2)]) (I7 : OAry Z h0 be kbe .int [(.int (1 : Int32)), (.int (0 : Int32)), (.int (0 : Int32))]) (I8 : OAry Z h0 nb knb .int [(.int (2 : Int32)), (.int (0 : Int32)), (.int (0 : Int32))]) (I9 : OAry Z h0 mi kmi .int [(.int (2 : Int32)), (.int (0 : Int32)), (.int (0 : Int32))]) (I10 : OAry Z h0 fs kfs .float [(.float x)])  :
    OMet l (⟨"com/example/twofold/twofold/ltr/DecisionTree", "output", "([F)F"⟩ : MethodName) prog_27_method_5_code 4 (Option.some Jvm.ClassFile.FieldType.float) ({ frames := 0, cells := 0, slots := 0, locals := 0 } : Room) #[(.ref t), (.ref fs)] Z h0 (fun v h L => v = some (.float v0) ∧ OPr h0 [] h L) := by
  refine OMet.body pn_rm_out_reset (Ls := #[.val (.ref t), .val (.ref fs), .unset, .unset]) (fun m => by first | (simp [entryFrame, mkF, argsToLocals, Value.category]; done) | rfl) ?_
  intro p e s m below meth c T0 K hK X0 hx hby hml hown hnm hret hlk hZ eh0
  have P0 := OPr.refl h0 []
  refine g_iconst X0 hx (0 : Int32) (hb hby d5_0) (rfl : 0 + 1 = 1) (by decide) ?_
  refine g_istoreN X0 hx (hb hby d5_1) (rfl : 1 + 1 = 2) (Ls' := #[.val (.ref t), .val (.ref fs), .val (.int (0 : Int32)), .unset]) rfl ?_
  refine g_aloadN X0 hx (hb hby d5_2) (rfl : 2 + 1 = 3) rfl rfl ?_
  refine g_getf X0 hx hZ hown (host := "") (Or.inl (wd hw 11 rfl)) Via.refl eh0 I0 (hb hby d5_3) (rfl : 3 + 3 = 6) fun T1 X1 eh1 => ?_
  refine g_iloadN X1 hx (hb hby d5_6) (rfl : 6 + 1 = 7) rfl ?_
  refine g_iaload X1 hx hZ eh1 I5 (v := (.int (-1 : Int32))) (by decide) (by rfl) (hb hby d5_7) (rfl : 7 + 1 = 8) ?_
  refine g_ifY X1 hx (hb hby d5_8) (XT.i0_lt_t (by decide)) (by decide) (pc' := 66) (by decide) ?_
  refine g_aloadN X1 hx (hb hby d5_66) (rfl : 66 + 1 = 67) rfl rfl ?_
  refine g_getf X1 hx hZ hown (host := "") (Or.inl (wd hw 17 rfl)) Via.refl eh1 I1 (hb hby d5_67) (rfl : 67 + 3 = 70) fun T2 X2 eh2 => ?_
  refine g_iloadN X2 hx (hb hby d5_70) (rfl : 70 + 1 = 71) rfl ?_
  refine g_faload X2 hx hZ eh2 I6 (v := (.float v0)) (by decide) (by rfl) (hb hby d5_71) (rfl : 71 + 1 = 72) ?_
  exact g_ret X2 hx hret hlk rfl (Or.inr (Or.inr (Or.inr (Or.inl ⟨rfl, rfl, _, rfl⟩)))) (hb hby d5_72) (by decide) (by decide) eh2 hK ⟨rfl, P0⟩
theorem d5_11 : decode prog_27_method_5_code 11 = .ok (.aload_n 1, 1) := by decide +kernel
theorem d5_12 : decode prog_27_method_5_code 12 = .ok (.aload_n 0, 1) := by decide +kernel
theorem d5_13 : decode prog_27_method_5_code 13 = .ok (.getfield 7, 3) := by decide +kernel
theorem d5_16 : decode prog_27_method_5_code 16 = .ok (.iload_n 2, 1) := by decide +kernel
theorem d5_17 : decode prog_27_method_5_code 17 = .ok (.iaload, 1) := by decide +kernel
theorem d5_18 : decode prog_27_method_5_code 18 = .ok (.faload, 1) := by decide +kernel
theorem d5_19 : decode prog_27_method_5_code 19 = .ok (.fstore_n 3, 1) := by decide +kernel
theorem d5_20 : decode prog_27_method_5_code 20 = .ok (.fload_n 3, 1) := by decide +kernel
theorem d5_21 : decode prog_27_method_5_code 21 = .ok (.invokestatic 47, 3) := by decide +kernel
theorem d5_24 : decode prog_27_method_5_code 24 = .ok (.ifCond .eq 12, 3) := by decide +kernel
theorem d5_36 : decode prog_27_method_5_code 36 = .ok (.fload_n 3, 1) := by decide +kernel
theorem d5_37 : decode prog_27_method_5_code 37 = .ok (.aload_n 0, 1) := by decide +kernel
theorem d5_38 : decode prog_27_method_5_code 38 = .ok (.getfield 19, 3) := by decide +kernel
theorem d5_41 : decode prog_27_method_5_code 41 = .ok (.iload_n 2, 1) := by decide +kernel
theorem d5_42 : decode prog_27_method_5_code 42 = .ok (.faload, 1) := by decide +kernel
theorem d5_43 : decode prog_27_method_5_code 43 = .ok (.fcmp .g, 1) := by decide +kernel
theorem d5_44 : decode prog_27_method_5_code 44 = .ok (.ifCond .ge 12, 3) := by decide +kernel
theorem d5_47 : decode prog_27_method_5_code 47 = .ok (.aload_n 0, 1) := by decide +kernel
theorem d5_48 : decode prog_27_method_5_code 48 = .ok (.getfield 23, 3) := by decide +kernel
theorem d5_51 : decode prog_27_method_5_code 51 = .ok (.iload_n 2, 1) := by decide +kernel
theorem d5_52 : decode prog_27_method_5_code 52 = .ok (.iaload, 1) := by decide +kernel
theorem d5_53 : decode prog_27_method_5_code 53 = .ok (.goto 9, 3) := by decide +kernel
theorem d5_62 : decode prog_27_method_5_code 62 = .ok (.istore_n 2, 1) := by decide +kernel
theorem d5_63 : decode prog_27_method_5_code 63 = .ok (.goto (-61), 3) := by decide +kernel
theorem pn_rm_out_lt : plainFor (⟨"com/example/twofold/twofold/ltr/DecisionTree", "output", "([F)F"⟩ : MethodName) = true := by first | exact plainFor_of_name (by first | (simp [plainName, overriddenIn]; done) | decide +kernel) | decide +kernel
set_option maxRecDepth 65536 in
set_option maxHeartbeats 40000000 in
theorem rm_out_lt {l : Launch} {Z : State} {a0 : Array Value} (hw : ∀ d ∈ tables_1, d.before a0 Z = true) (t : Addr) (fe : Addr) (va : Addr) (be : Addr) (nb : Addr) (mi : Addr) (kfe : ClassId) (kva : ClassId) (kbe : ClassId) (knb : ClassId) (kmi : ClassId) (fs : Addr) (kfs : ClassId) (x : UInt32) (v1 : UInt32) (v2 : UInt32) {h0 : Heap} (I0 : Fld Z h0 t "com/example/twofold/twofold/ltr/DecisionTree" "feature" "[I" (.ref fe)) (I1 : Fld Z h0 t "com/example/twofold/twofold/ltr/DecisionTree" "value" "[F" (.ref va)) (I2 : Fld Z h0 t "com/example/twofold/twofold/ltr/DecisionTree" "below" "[I" (.ref be)) (I3 : Fld Z h0 t "com/example/twofold/twofold/ltr/DecisionTree" "notBelow" "[I" (.ref nb)) (I4 : Fld Z h0 t "com/example/twofold/twofold/ltr/DecisionTree" "missing" "[I" (.ref mi)) (I5 : OAry Z h0 fe kfe .int [(.int (0 : Int32)), (.int (-1 : Int32)), (.int (-1 : Int32))]) (I6 : OAry Z h0 va kva .float [(.float FP.fconst0), (.float v1), (.float v2)]) (I7 : OAry Z h0 be kbe .int [(.int (1 : Int32)), (.int (0 : Int32)), (.int (0 : Int32))]) (I8 : OAry Z h0 nb knb .int [(.int (2 : Int32)), (.int (0 : Int32)), (.int (0 : Int32))]) (I9 : OAry Z h0 mi kmi .int [(.int (2 : Int32)), (.int (0 : Int32)), (.int (0 : Int32))]) (I10 : OAry Z h0 fs kfs .float [(.float x)]) (hn : cmpValue (FP.fcmp x x) .l = 0) (hc : cmpValue (FP.fcmp x FP.fconst0) .g < 0) :
    OMet l (⟨"com/example/twofold/twofold/ltr/DecisionTree", "output", "([F)F"⟩ : MethodName) prog_27_method_5_code 4 (Option.some Jvm.ClassFile.FieldType.float) ({ frames := 1, cells := 0, slots := 0, locals := 12 } : Room) #[(.ref t), (.ref fs)] Z h0 (fun v h L => v = some (.float v1) ∧ OPr h0 [] h L) := by
  refine OMet.body pn_rm_out_lt (Ls := #[.val (.ref t), .val (.ref fs), .unset, .unset]) (fun m => by first | (simp [entryFrame, mkF, argsToLocals, Value.category]; done) | rfl) ?_
  intro p e s m below meth c T0 K hK X0 hx hby hml hown hnm hret hlk hZ eh0
  have P0 := OPr.refl h0 []
  refine g_iconst X0 hx (0 : Int32) (hb hby d5_0) (rfl : 0 + 1 = 1) (by decide) ?_
  refine g_istoreN X0 hx (hb hby d5_1) (rfl : 1 + 1 = 2) (Ls' := #[.val (.ref t), .val (.ref fs), .val (.int (0 : Int32)), .unset]) rfl ?_
  refine g_aloadN X0 hx (hb hby d5_2) (rfl : 2 + 1 = 3) rfl rfl ?_
  refine g_getf X0 hx hZ hown (host := "") (Or.inl (wd hw 11 rfl)) Via.refl eh0 I0 (hb hby d5_3) (rfl : 3 + 3 = 6) fun T1 X1 eh1 => ?_
  refine g_iloadN X1 hx (hb hby d5_6) (rfl : 6 + 1 = 7) rfl ?_
  refine g_iaload X1 hx hZ eh1 I5 (v := (.int (0 : Int32))) (by decide) (by rfl) (hb hby d5_7) (rfl : 7 + 1 = 8) ?_
  refine g_ifN X1 hx (hb hby d5_8) (XT.i0_lt_f (by decide)) (rfl : 8 + 3 = 11) ?_
  refine g_aloadN X1 hx (hb hby d5_11) (rfl : 11 + 1 = 12) rfl rfl ?_
  refine g_aloadN X1 hx (hb hby d5_12) (rfl : 12 + 1 = 13) rfl rfl ?_
  refine g_getf X1 hx hZ hown (host := "") (Or.inl (wd hw 11 rfl)) Via.refl eh1 I0 (hb hby d5_13) (rfl : 13 + 3 = 16) fun T2 X2 eh2 => ?_
  refine g_iloadN X2 hx (hb hby d5_16) (rfl : 16 + 1 = 17) rfl ?_
  refine g_iaload X2 hx hZ eh2 I5 (v := (.int (0 : Int32))) (by decide) (by rfl) (hb hby d5_17) (rfl : 17 + 1 = 18) ?_
  refine g_faload X2 hx hZ eh2 I10 (v := (.float x)) (by decide) (by rfl) (hb hby d5_18) (rfl : 18 + 1 = 19) ?_
  refine g_fstoreN X2 hx (hb hby d5_19) (rfl : 19 + 1 = 20) (Ls' := #[.val (.ref t), .val (.ref fs), .val (.int (0 : Int32)), .val (.float x)]) rfl ?_
  refine g_floadN X2 hx (hb hby d5_20) (rfl : 20 + 1 = 21) rfl ?_
  refine g_static X2 hx hZ hown eh2 (rm_nan hw x hn) (wd hw 40 rfl) (wd hw 41 rfl) (wd hw 43 rfl) (wd hw 42 rfl) (by decide) (argsL := [(.float x)]) (rest := []) rfl rfl (ps := [.float]) (rt := (some .boolean)) (by decide) rfl (W := 0) (Nat.le_of_eq rfl) (by decide) (by decide) (by decide) (by decide) (by rw [hml]; rfl) (hb hby d5_21) (rfl : 21 + 3 = 24) fun v3 T3 hh3 L3 X3 eh3 Q3 => ?_
  obtain ⟨rfl, Pc3⟩ := Q3
  have P3 := P0.call Pc3 all0
  show OGo p e below K T3 (mkF m 24 #[.val (.ref t), .val (.ref fs), .val (.int (0 : Int32)), .val (.float x)] [(.int (0 : Int32))])
  refine g_ifY X3 hx (hb hby d5_24) (XT.i0_eq_t (by decide)) (by decide) (pc' := 36) (by decide) ?_
  refine g_floadN X3 hx (hb hby d5_36) (rfl : 36 + 1 = 37) rfl ?_
  refine g_aloadN X3 hx (hb hby d5_37) (rfl : 37 + 1 = 38) rfl rfl ?_
  have F4 := (fldP I1 Pc3 nin0)
  refine g_getf X3 hx hZ hown (host := "") (Or.inl (wd hw 17 rfl)) Via.refl eh3 F4 (hb hby d5_38) (rfl : 38 + 3 = 41) fun T5 X5 eh5 => ?_
  refine g_iloadN X5 hx (hb hby d5_41) (rfl : 41 + 1 = 42) rfl ?_
  have F6 := (aryP I6 Pc3 nin0)
  refine g_faload X5 hx hZ eh5 F6 (v := (.float FP.fconst0)) (by decide) (by rfl) (hb hby d5_42) (rfl : 42 + 1 = 43) ?_
  refine g_fcmp X5 hx (hb hby d5_43) (rfl : 43 + 1 = 44) ?_
  refine g_ifN X5 hx (hb hby d5_44) (XT.i0_ge_f hc) (rfl : 44 + 3 = 47) ?_
  refine g_aloadN X5 hx (hb hby d5_47) (rfl : 47 + 1 = 48) rfl rfl ?_
  have F7 := (fldP I2 Pc3 nin0)
  refine g_getf X5 hx hZ hown (host := "") (Or.inl (wd hw 19 rfl)) Via.refl eh5 F7 (hb hby d5_48) (rfl : 48 + 3 = 51) fun T8 X8 eh8 => ?_
  refine g_iloadN X8 hx (hb hby d5_51) (rfl : 51 + 1 = 52) rfl ?_
  have F9 := (aryP I7 Pc3 nin0)
  refine g_iaload X8 hx hZ eh8 F9 (v := (.int (1 : Int32))) (by decide) (by rfl) (hb hby d5_52) (rfl : 52 + 1 = 53) ?_
  refine g_goto X8 hx (hb hby d5_53) (by decide) (pc' := 62) (by decide) ?_
  refine g_istoreN X8 hx (hb hby d5_62) (rfl : 62 + 1 = 63) (Ls' := #[.val (.ref t), .val (.ref fs), .val (.int (1 : Int32)), .val (.float x)]) rfl ?_
  refine g_goto X8 hx (hb hby d5_63) (by decide) (pc' := 2) (by decide) ?_
  refine g_aloadN X8 hx (hb hby d5_2) (rfl : 2 + 1 = 3) rfl rfl ?_
  have F10 := (fldP I0 Pc3 nin0)
  refine g_getf X8 hx hZ hown (host := "") (Or.inl (wd hw 11 rfl)) Via.refl eh8 F10 (hb hby d5_3) (rfl : 3 + 3 = 6) fun T11 X11 eh11 => ?_
  refine g_iloadN X11 hx (hb hby d5_6) (rfl : 6 + 1 = 7) rfl ?_
  have F12 := (aryP I5 Pc3 nin0)
  refine g_iaload X11 hx hZ eh11 F12 (v := (.int (-1 : Int32))) (by decide) (by rfl) (hb hby d5_7) (rfl : 7 + 1 = 8) ?_
  refine g_ifY X11 hx (hb hby d5_8) (XT.i0_lt_t (by decide)) (by decide) (pc' := 66) (by decide) ?_
  refine g_aloadN X11 hx (hb hby d5_66) (rfl : 66 + 1 = 67) rfl rfl ?_
  refine g_getf X11 hx hZ hown (host := "") (Or.inl (wd hw 17 rfl)) Via.refl eh11 F4 (hb hby d5_67) (rfl : 67 + 3 = 70) fun T13 X13 eh13 => ?_
  refine g_iloadN X13 hx (hb hby d5_70) (rfl : 70 + 1 = 71) rfl ?_
  refine g_faload X13 hx hZ eh13 F6 (v := (.float v1)) (by decide) (by rfl) (hb hby d5_71) (rfl : 71 + 1 = 72) ?_
  exact g_ret X13 hx hret hlk rfl (Or.inr (Or.inr (Or.inr (Or.inl ⟨rfl, rfl, _, rfl⟩)))) (hb hby d5_72) (by decide) (by decide) eh13 hK ⟨rfl, P3⟩
theorem d5_56 : decode prog_27_method_5_code 56 = .ok (.aload_n 0, 1) := by decide +kernel
theorem d5_57 : decode prog_27_method_5_code 57 = .ok (.getfield 26, 3) := by decide +kernel
theorem d5_60 : decode prog_27_method_5_code 60 = .ok (.iload_n 2, 1) := by decide +kernel
theorem d5_61 : decode prog_27_method_5_code 61 = .ok (.iaload, 1) := by decide +kernel
theorem pn_rm_out_ge : plainFor (⟨"com/example/twofold/twofold/ltr/DecisionTree", "output", "([F)F"⟩ : MethodName) = true := by first | exact plainFor_of_name (by first | (simp [plainName, overriddenIn]; done) | decide +kernel) | decide +kernel
set_option maxRecDepth 65536 in
set_option maxHeartbeats 40000000 in
theorem rm_out_ge {l : Launch} {Z : State} {a0 : Array Value} (hw : ∀ d ∈ tables_1, d.before a0 Z = true) (t : Addr) (fe : Addr) (va : Addr) (be : Addr) (nb : Addr) (mi : Addr) (kfe : ClassId) (kva : ClassId) (kbe : ClassId) (knb : ClassId) (kmi : ClassId) (fs : Addr) (kfs : ClassId) (x : UInt32) (v1 : UInt32) (v2 : UInt32) {h0 : Heap} (I0 : Fld Z h0 t "com/example/twofold/twofold/ltr/DecisionTree" "feature" "[I" (.ref fe)) (I1 : Fld Z h0 t "com/example/twofold/twofold/ltr/DecisionTree" "value" "[F" (.ref va)) (I2 : Fld Z h0 t "com/example/twofold/twofold/ltr/DecisionTree" "below" "[I" (.ref be)) (I3 : Fld Z h0 t "com/example/twofold/twofold/ltr/DecisionTree" "notBelow" "[I" (.ref nb)) (I4 : Fld Z h0 t "com/example/twofold/twofold/ltr/DecisionTree" "missing" "[I" (.ref mi)) (I5 : OAry Z h0 fe kfe .int [(.int (0 : Int32)), (.int (-1 : Int32)), (.int (-1 : Int32))]) (I6 : OAry Z h0 va kva .float [(.float FP.fconst0), (.float v1), (.float v2)]) (I7 : OAry Z h0 be kbe .int [(.int (1 : Int32)), (.int (0 : Int32)), (.int (0 : Int32))]) (I8 : OAry Z h0 nb knb .int [(.int (2 : Int32)), (.int (0 : Int32)), (.int (0 : Int32))]) (I9 : OAry Z h0 mi kmi .int [(.int (2 : Int32)), (.int (0 : Int32)), (.int (0 : Int32))]) (I10 : OAry Z h0 fs kfs .float [(.float x)]) (hn : cmpValue (FP.fcmp x x) .l = 0) (hc : ¬ cmpValue (FP.fcmp x FP.fconst0) .g < 0) :
    OMet l (⟨"com/example/twofold/twofold/ltr/DecisionTree", "output", "([F)F"⟩ : MethodName) prog_27_method_5_code 4 (Option.some Jvm.ClassFile.FieldType.float) ({ frames := 1, cells := 0, slots := 0, locals := 12 } : Room) #[(.ref t), (.ref fs)] Z h0 (fun v h L => v = some (.float v2) ∧ OPr h0 [] h L) := by
  refine OMet.body pn_rm_out_ge (Ls := #[.val (.ref t), .val (.ref fs), .unset, .unset]) (fun m => by first | (simp [entryFrame, mkF, argsToLocals, Value.category]; done) | rfl) ?_
  intro p e s m below meth c T0 K hK X0 hx hby hml hown hnm hret hlk hZ eh0
  have P0 := OPr.refl h0 []
  refine g_iconst X0 hx (0 : Int32) (hb hby d5_0) (rfl : 0 + 1 = 1) (by decide) ?_
  refine g_istoreN X0 hx (hb hby d5_1) (rfl : 1 + 1 = 2) (Ls' := #[.val (.ref t), .val (.ref fs), .val (.int (0 : Int32)), .unset]) rfl ?_
  refine g_aloadN X0 hx (hb hby d5_2) (rfl : 2 + 1 = 3) rfl rfl ?_
  refine g_getf X0 hx hZ hown (host := "") (Or.inl (wd hw 11 rfl)) Via.refl eh0 I0 (hb hby d5_3) (rfl : 3 + 3 = 6) fun T1 X1 eh1 => ?_
  refine g_iloadN X1 hx (hb hby d5_6) (rfl : 6 + 1 = 7) rfl ?_
  refine g_iaload X1 hx hZ eh1 I5 (v := (.int (0 : Int32))) (by decide) (by rfl) (hb hby d5_7) (rfl : 7 + 1 = 8) ?_
  refine g_ifN X1 hx (hb hby d5_8) (XT.i0_lt_f (by decide)) (rfl : 8 + 3 = 11) ?_
  refine g_aloadN X1 hx (hb hby d5_11) (rfl : 11 + 1 = 12) rfl rfl ?_
  refine g_aloadN X1 hx (hb hby d5_12) (rfl : 12 + 1 = 13) rfl rfl ?_
  refine g_getf X1 hx hZ hown (host := "") (Or.inl (wd hw 11 rfl)) Via.refl eh1 I0 (hb hby d5_13) (rfl : 13 + 3 = 16) fun T2 X2 eh2 => ?_
  refine g_iloadN X2 hx (hb hby d5_16) (rfl : 16 + 1 = 17) rfl ?_
  refine g_iaload X2 hx hZ eh2 I5 (v := (.int (0 : Int32))) (by decide) (by rfl) (hb hby d5_17) (rfl : 17 + 1 = 18) ?_
  refine g_faload X2 hx hZ eh2 I10 (v := (.float x)) (by decide) (by rfl) (hb hby d5_18) (rfl : 18 + 1 = 19) ?_
  refine g_fstoreN X2 hx (hb hby d5_19) (rfl : 19 + 1 = 20) (Ls' := #[.val (.ref t), .val (.ref fs), .val (.int (0 : Int32)), .val (.float x)]) rfl ?_
  refine g_floadN X2 hx (hb hby d5_20) (rfl : 20 + 1 = 21) rfl ?_
  refine g_static X2 hx hZ hown eh2 (rm_nan hw x hn) (wd hw 40 rfl) (wd hw 41 rfl) (wd hw 43 rfl) (wd hw 42 rfl) (by decide) (argsL := [(.float x)]) (rest := []) rfl rfl (ps := [.float]) (rt := (some .boolean)) (by decide) rfl (W := 0) (Nat.le_of_eq rfl) (by decide) (by decide) (by decide) (by decide) (by rw [hml]; rfl) (hb hby d5_21) (rfl : 21 + 3 = 24) fun v3 T3 hh3 L3 X3 eh3 Q3 => ?_
  obtain ⟨rfl, Pc3⟩ := Q3
  have P3 := P0.call Pc3 all0
  show OGo p e below K T3 (mkF m 24 #[.val (.ref t), .val (.ref fs), .val (.int (0 : Int32)), .val (.float x)] [(.int (0 : Int32))])
  refine g_ifY X3 hx (hb hby d5_24) (XT.i0_eq_t (by decide)) (by decide) (pc' := 36) (by decide) ?_
  refine g_floadN X3 hx (hb hby d5_36) (rfl : 36 + 1 = 37) rfl ?_
  refine g_aloadN X3 hx (hb hby d5_37) (rfl : 37 + 1 = 38) rfl rfl ?_
  have F4 := (fldP I1 Pc3 nin0)
  refine g_getf X3 hx hZ hown (host := "") (Or.inl (wd hw 17 rfl)) Via.refl eh3 F4 (hb hby d5_38) (rfl : 38 + 3 = 41) fun T5 X5 eh5 => ?_
  refine g_iloadN X5 hx (hb hby d5_41) (rfl : 41 + 1 = 42) rfl ?_
  have F6 := (aryP I6 Pc3 nin0)
  refine g_faload X5 hx hZ eh5 F6 (v := (.float FP.fconst0)) (by decide) (by rfl) (hb hby d5_42) (rfl : 42 + 1 = 43) ?_
  refine g_fcmp X5 hx (hb hby d5_43) (rfl : 43 + 1 = 44) ?_
  refine g_ifY X5 hx (hb hby d5_44) (XT.i0_ge_t hc) (by decide) (pc' := 56) (by decide) ?_
  refine g_aloadN X5 hx (hb hby d5_56) (rfl : 56 + 1 = 57) rfl rfl ?_
  have F7 := (fldP I3 Pc3 nin0)
  refine g_getf X5 hx hZ hown (host := "") (Or.inl (wd hw 21 rfl)) Via.refl eh5 F7 (hb hby d5_57) (rfl : 57 + 3 = 60) fun T8 X8 eh8 => ?_
  refine g_iloadN X8 hx (hb hby d5_60) (rfl : 60 + 1 = 61) rfl ?_
  have F9 := (aryP I8 Pc3 nin0)
  refine g_iaload X8 hx hZ eh8 F9 (v := (.int (2 : Int32))) (by decide) (by rfl) (hb hby d5_61) (rfl : 61 + 1 = 62) ?_
  refine g_istoreN X8 hx (hb hby d5_62) (rfl : 62 + 1 = 63) (Ls' := #[.val (.ref t), .val (.ref fs), .val (.int (2 : Int32)), .val (.float x)]) rfl ?_
  refine g_goto X8 hx (hb hby d5_63) (by decide) (pc' := 2) (by decide) ?_
  refine g_aloadN X8 hx (hb hby d5_2) (rfl : 2 + 1 = 3) rfl rfl ?_
  have F10 := (fldP I0 Pc3 nin0)
  refine g_getf X8 hx hZ hown (host := "") (Or.inl (wd hw 11 rfl)) Via.refl eh8 F10 (hb hby d5_3) (rfl : 3 + 3 = 6) fun T11 X11 eh11 => ?_
  refine g_iloadN X11 hx (hb hby d5_6) (rfl : 6 + 1 = 7) rfl ?_
  have F12 := (aryP I5 Pc3 nin0)
  refine g_iaload X11 hx hZ eh11 F12 (v := (.int (-1 : Int32))) (by decide) (by rfl) (hb hby d5_7) (rfl : 7 + 1 = 8) ?_
  refine g_ifY X11 hx (hb hby d5_8) (XT.i0_lt_t (by decide)) (by decide) (pc' := 66) (by decide) ?_
  refine g_aloadN X11 hx (hb hby d5_66) (rfl : 66 + 1 = 67) rfl rfl ?_
  refine g_getf X11 hx hZ hown (host := "") (Or.inl (wd hw 17 rfl)) Via.refl eh11 F4 (hb hby d5_67) (rfl : 67 + 3 = 70) fun T13 X13 eh13 => ?_
  refine g_iloadN X13 hx (hb hby d5_70) (rfl : 70 + 1 = 71) rfl ?_
  refine g_faload X13 hx hZ eh13 F6 (v := (.float v2)) (by decide) (by rfl) (hb hby d5_71) (rfl : 71 + 1 = 72) ?_
  exact g_ret X13 hx hret hlk rfl (Or.inr (Or.inr (Or.inr (Or.inl ⟨rfl, rfl, _, rfl⟩)))) (hb hby d5_72) (by decide) (by decide) eh13 hK ⟨rfl, P3⟩
theorem d8_0 : decode jdk_29_method_65_code 0 = .ok (.iload_n 0, 1) := by decide +kernel
theorem d8_1 : decode jdk_29_method_65_code 1 = .ok (.iload_n 1, 1) := by decide +kernel
theorem d8_2 : decode jdk_29_method_65_code 2 = .ok (.if_icmp .lt 7, 3) := by decide +kernel
theorem d8_5 : decode jdk_29_method_65_code 5 = .ok (.iload_n 0, 1) := by decide +kernel
theorem d8_6 : decode jdk_29_method_65_code 6 = .ok (.goto 4, 3) := by decide +kernel
theorem d8_9 : decode jdk_29_method_65_code 9 = .ok (.iload_n 1, 1) := by decide +kernel
theorem d8_10 : decode jdk_29_method_65_code 10 = .ok (.ireturn, 1) := by decide +kernel
theorem pn_rm_max : plainFor (⟨"java/lang/Math", "max", "(II)I"⟩ : MethodName) = true := by first | exact plainFor_of_name (by first | (simp [plainName, overriddenIn]; done) | decide +kernel) | exact Jvm.Free.JP.mathPlain rfl (by decide) | decide +kernel
set_option maxRecDepth 65536 in
set_option maxHeartbeats 40000000 in
theorem rm_max {l : Launch} {Z : State} {a0 : Array Value} (hw : ∀ d ∈ tables_1, d.before a0 Z = true) (x : Int32) (y : Int32) (z : Int32) {h0 : Heap}  (hz : (if x < y then y else x : Int32) = z) :
    OMet l (⟨"java/lang/Math", "max", "(II)I"⟩ : MethodName) jdk_29_method_65_code 2 (Option.some Jvm.ClassFile.FieldType.int) ({ frames := 0, cells := 0, slots := 0, locals := 0 } : Room) #[(.int x), (.int y)] Z h0 (fun v h L => v = some (.int z) ∧ OPr h0 [] h L) := by
  refine OMet.body pn_rm_max (Ls := #[.val (.int x), .val (.int y)]) (fun m => by first | (simp [entryFrame, mkF, argsToLocals, Value.category]; done) | rfl) ?_
  intro p e s m below meth c T0 K hK X0 hx hby hml hown hnm hret hlk hZ eh0
  have P0 := OPr.refl h0 []
  refine g_iloadN X0 hx (hb hby d8_0) (rfl : 0 + 1 = 1) rfl ?_
  refine g_iloadN X0 hx (hb hby d8_1) (rfl : 1 + 1 = 2) rfl ?_
  by_cases h : x < y
  · refine g_icmpY X0 hx (hb hby d8_2) (XT.ii_lt_t h) (by decide) (pc' := 9) (by decide) ?_
    refine g_iloadN X0 hx (hb hby d8_9) (rfl : 9 + 1 = 10) rfl ?_
    exact g_ret X0 hx hret hlk rfl (Or.inl ⟨rfl, Or.inl rfl, _, rfl⟩) (hb hby d8_10) (by decide) (by decide) eh0 hK ⟨(by rw [← hz, if_pos h]), P0⟩
  · refine g_icmpN X0 hx (hb hby d8_2) (XT.ii_lt_f h) (rfl : 2 + 3 = 5) ?_
    refine g_iloadN X0 hx (hb hby d8_5) (rfl : 5 + 1 = 6) rfl ?_
    refine g_goto X0 hx (hb hby d8_6) (by decide) (pc' := 10) (by decide) ?_
    exact g_ret X0 hx hret hlk rfl (Or.inl ⟨rfl, Or.inl rfl, _, rfl⟩) (hb hby d8_10) (by decide) (by decide) eh0 hK ⟨(by rw [← hz, if_neg h]), P0⟩
theorem d7_0 : decode prog_27_method_4_code 0 = .ok (.aload_n 0, 1) := by decide +kernel
theorem d7_1 : decode prog_27_method_4_code 1 = .ok (.getfield 7, 3) := by decide +kernel
theorem d7_4 : decode prog_27_method_4_code 4 = .ok (.arraylength, 1) := by decide +kernel
theorem d7_5 : decode prog_27_method_4_code 5 = .ok (.newarray .int, 2) := by decide +kernel
theorem d7_7 : decode prog_27_method_4_code 7 = .ok (.astore_n 1, 1) := by decide +kernel
theorem d7_8 : decode prog_27_method_4_code 8 = .ok (.aload_n 1, 1) := by decide +kernel
theorem d7_9 : decode prog_27_method_4_code 9 = .ok (.arraylength, 1) := by decide +kernel
theorem d7_10 : decode prog_27_method_4_code 10 = .ok (.iconst 1, 1) := by decide +kernel
theorem d7_11 : decode prog_27_method_4_code 11 = .ok (.isub, 1) := by decide +kernel
theorem d7_12 : decode prog_27_method_4_code 12 = .ok (.istore_n 2, 1) := by decide +kernel
theorem d7_13 : decode prog_27_method_4_code 13 = .ok (.iload_n 2, 1) := by decide +kernel
theorem d7_14 : decode prog_27_method_4_code 14 = .ok (.ifCond .lt 60, 3) := by decide +kernel
theorem d7_17 : decode prog_27_method_4_code 17 = .ok (.aload_n 1, 1) := by decide +kernel
theorem d7_18 : decode prog_27_method_4_code 18 = .ok (.iload_n 2, 1) := by decide +kernel
theorem d7_19 : decode prog_27_method_4_code 19 = .ok (.iconst 1, 1) := by decide +kernel
theorem d7_20 : decode prog_27_method_4_code 20 = .ok (.iastore, 1) := by decide +kernel
theorem d7_21 : decode prog_27_method_4_code 21 = .ok (.aload_n 0, 1) := by decide +kernel
theorem d7_22 : decode prog_27_method_4_code 22 = .ok (.getfield 7, 3) := by decide +kernel
theorem d7_25 : decode prog_27_method_4_code 25 = .ok (.iload_n 2, 1) := by decide +kernel
theorem d7_26 : decode prog_27_method_4_code 26 = .ok (.iaload, 1) := by decide +kernel
theorem d7_27 : decode prog_27_method_4_code 27 = .ok (.ifCond .lt 41, 3) := by decide +kernel
theorem d7_68 : decode prog_27_method_4_code 68 = .ok (.iinc 2 (-1), 3) := by decide +kernel
theorem d7_71 : decode prog_27_method_4_code 71 = .ok (.goto (-58), 3) := by decide +kernel
theorem d7_74 : decode prog_27_method_4_code 74 = .ok (.iconst 1, 1) := by decide +kernel
theorem d7_75 : decode prog_27_method_4_code 75 = .ok (.aload_n 1, 1) := by decide +kernel
theorem d7_76 : decode prog_27_method_4_code 76 = .ok (.iconst 0, 1) := by decide +kernel
theorem d7_77 : decode prog_27_method_4_code 77 = .ok (.iaload, 1) := by decide +kernel
theorem d7_78 : decode prog_27_method_4_code 78 = .ok (.iadd, 1) := by decide +kernel
theorem d7_79 : decode prog_27_method_4_code 79 = .ok (.ireturn, 1) := by decide +kernel
theorem pn_rm_stepsr : plainFor (⟨"com/example/twofold/twofold/ltr/DecisionTree", "steps", "()I"⟩ : MethodName) = true := by first | exact plainFor_of_name (by first | (simp [plainName, overriddenIn]; done) | decide +kernel) | decide +kernel
set_option maxRecDepth 65536 in
set_option maxHeartbeats 40000000 in
theorem rm_stepsr {l : Launch} {Z : State} {a0 : Array Value} (hw : ∀ d ∈ tables_1, d.before a0 Z = true) (t : Addr) (fe : Addr) (va : Addr) (be : Addr) (nb : Addr) (mi : Addr) (kfe : ClassId) (kva : ClassId) (kbe : ClassId) (knb : ClassId) (kmi : ClassId) (v0 : UInt32) (v1 : UInt32) (v2 : UInt32) {h0 : Heap} (I0 : Fld Z h0 t "com/example/twofold/twofold/ltr/DecisionTree" "feature" "[I" (.ref fe)) (I1 : Fld Z h0 t "com/example/twofold/twofold/ltr/DecisionTree" "value" "[F" (.ref va)) (I2 : Fld Z h0 t "com/example/twofold/twofold/ltr/DecisionTree" "below" "[I" (.ref be)) (I3 : Fld Z h0 t "com/example/twofold/twofold/ltr/DecisionTree" "notBelow" "[I" (.ref nb)) (I4 : Fld Z h0 t "com/example/twofold/twofold/ltr/DecisionTree" "missing" "[I" (.ref mi)) (I5 : OAry Z h0 fe kfe .int [(.int (-1 : Int32)), (.int (-1 : Int32)), (.int (-1 : Int32))]) (I6 : OAry Z h0 va kva .float [(.float v0), (.float v1), (.float v2)]) (I7 : OAry Z h0 be kbe .int [(.int (1 : Int32)), (.int (0 : Int32)), (.int (0 : Int32))]) (I8 : OAry Z h0 nb knb .int [(.int (2 : Int32)), (.int (0 : Int32)), (.int (0 : Int32))]) (I9 : OAry Z h0 mi kmi .int [(.int (2 : Int32)), (.int (0 : Int32)), (.int (0 : Int32))])  :
    OMet l (⟨"com/example/twofold/twofold/ltr/DecisionTree", "steps", "()I"⟩ : MethodName) prog_27_method_4_code 4 (Option.some Jvm.ClassFile.FieldType.int) ({ frames := 0, cells := 1, slots := 3, locals := 0 } : Room) #[(.ref t)] Z h0 (fun v h L => v = some (.int (2 : Int32)) ∧ OPr h0 [] h L) := by
  refine OMet.body pn_rm_stepsr (Ls := #[.val (.ref t), .unset, .unset, .unset]) (fun m => by first | (simp [entryFrame, mkF, argsToLocals, Value.category]; done) | rfl) ?_
  intro p e s m below meth c T0 K hK X0 hx hby hml hown hnm hret hlk hZ eh0
  have P0 := OPr.refl h0 []
  refine g_aloadN X0 hx (hb hby d7_0) (rfl : 0 + 1 = 1) rfl rfl ?_
  refine g_getf X0 hx hZ hown (host := "") (Or.inl (wd hw 11 rfl)) Via.refl eh0 I0 (hb hby d7_1) (rfl : 1 + 3 = 4) fun T1 X1 eh1 => ?_
  refine g_len X1 hx hZ eh1 I5 (z := (3 : Int32)) rfl (hb hby d7_4) (rfl : 4 + 1 = 5) ?_
  refine g_newarray X1 hx hZ (ad := "[I") (by decide) (wd hw 10 rfl) eh1 (vs := [(.int (0 : Int32)), (.int (0 : Int32)), (.int (0 : Int32))]) (by decide) (by rfl) (cap := 3) (by decide) (by decide) P0 (hb hby d7_5) (rfl : 5 + 2 = 7) (by decide) (by decide) fun T2 hh2 a2 k2 q2 g2 X2 eh2 E2 P2 A2 B2 => ?_
  refine g_astoreN X2 hx (hb hby d7_7) (rfl : 7 + 1 = 8) rfl (Ls' := #[.val (.ref t), .val (.ref a2), .unset, .unset]) rfl ?_
  refine g_aloadN X2 hx (hb hby d7_8) (rfl : 8 + 1 = 9) rfl rfl ?_
  refine g_len X2 hx hZ eh2 A2 (z := (3 : Int32)) rfl (hb hby d7_9) (rfl : 9 + 1 = 10) ?_
  refine g_iconst X2 hx (1 : Int32) (hb hby d7_10) (rfl : 10 + 1 = 11) (by decide) ?_
  refine g_isub X2 hx (hb hby d7_11) (rfl : 11 + 1 = 12) (z := (2 : Int32)) (by decide) ?_
  refine g_istoreN X2 hx (hb hby d7_12) (rfl : 12 + 1 = 13) (Ls' := #[.val (.ref t), .val (.ref a2), .val (.int (2 : Int32)), .unset]) rfl ?_
  refine g_iloadN X2 hx (hb hby d7_13) (rfl : 13 + 1 = 14) rfl ?_
  show OGo p e below K T2 (mkF m 14 #[.val (.ref t), .val (.ref a2), .val (.int (2 : Int32)), .unset] [(.int (2 : Int32))])
  refine g_ifN X2 hx (hb hby d7_14) (XT.i0_lt_f (by decide)) (rfl : 14 + 3 = 17) ?_
  refine g_aloadN X2 hx (hb hby d7_17) (rfl : 17 + 1 = 18) rfl rfl ?_
  refine g_iloadN X2 hx (hb hby d7_18) (rfl : 18 + 1 = 19) rfl ?_
  refine g_iconst X2 hx (1 : Int32) (hb hby d7_19) (rfl : 19 + 1 = 20) (by decide) ?_
  refine g_iastore X2 hx hZ eh2 A2 (by decide) (by rfl) (vs' := [(.int (0 : Int32)), (.int (0 : Int32)), (.int (1 : Int32))]) (by rfl) P2 (Or.inr g2) (hb hby d7_20) (rfl : 20 + 1 = 21) fun T3 hh3 X3 eh3 W3 P3 A3 => ?_
  refine g_aloadN X3 hx (hb hby d7_21) (rfl : 21 + 1 = 22) rfl rfl ?_
  have F4 := (fldP I0 P3 nin0)
  refine g_getf X3 hx hZ hown (host := "") (Or.inl (wd hw 11 rfl)) Via.refl eh3 F4 (hb hby d7_22) (rfl : 22 + 3 = 25) fun T5 X5 eh5 => ?_
  refine g_iloadN X5 hx (hb hby d7_25) (rfl : 25 + 1 = 26) rfl ?_
  have F6 := (aryP I5 P3 nin0)
  refine g_iaload X5 hx hZ eh5 F6 (v := (.int (-1 : Int32))) (by decide) (by rfl) (hb hby d7_26) (rfl : 26 + 1 = 27) ?_
  refine g_ifY X5 hx (hb hby d7_27) (XT.i0_lt_t (by decide)) (by decide) (pc' := 68) (by decide) ?_
  refine g_iinc X5 hx (-1 : Int32) (hb hby d7_68) (rfl : 68 + 3 = 71) (by decide) rfl (z := (1 : Int32)) (by decide) (Ls' := #[.val (.ref t), .val (.ref a2), .val (.int (1 : Int32)), .unset]) rfl ?_
  refine g_goto X5 hx (hb hby d7_71) (by decide) (pc' := 13) (by decide) ?_
  refine g_iloadN X5 hx (hb hby d7_13) (rfl : 13 + 1 = 14) rfl ?_
  refine g_ifN X5 hx (hb hby d7_14) (XT.i0_lt_f (by decide)) (rfl : 14 + 3 = 17) ?_
  refine g_aloadN X5 hx (hb hby d7_17) (rfl : 17 + 1 = 18) rfl rfl ?_
  refine g_iloadN X5 hx (hb hby d7_18) (rfl : 18 + 1 = 19) rfl ?_
  refine g_iconst X5 hx (1 : Int32) (hb hby d7_19) (rfl : 19 + 1 = 20) (by decide) ?_
  refine g_iastore X5 hx hZ eh5 A3 (by decide) (by rfl) (vs' := [(.int (0 : Int32)), (.int (1 : Int32)), (.int (1 : Int32))]) (by rfl) P3 (Or.inr g2) (hb hby d7_20) (rfl : 20 + 1 = 21) fun T7 hh7 X7 eh7 W7 P7 A7 => ?_
  refine g_aloadN X7 hx (hb hby d7_21) (rfl : 21 + 1 = 22) rfl rfl ?_
  have ne8 : t ≠ a2 := Nat.ne_of_lt (Nat.lt_of_lt_of_le I0.lt (Nat.le_of_eq q2.symm))
  have F9 := (F4.other W7 (Or.inl ne8))
  refine g_getf X7 hx hZ hown (host := "") (Or.inl (wd hw 11 rfl)) Via.refl eh7 F9 (hb hby d7_22) (rfl : 22 + 3 = 25) fun T10 X10 eh10 => ?_
  refine g_iloadN X10 hx (hb hby d7_25) (rfl : 25 + 1 = 26) rfl ?_
  have ne11 : fe ≠ a2 := Nat.ne_of_lt (Nat.lt_of_lt_of_le (aryLt I5) (Nat.le_of_eq q2.symm))
  have F12 := (aryO F6 W7 ne11)
  refine g_iaload X10 hx hZ eh10 F12 (v := (.int (-1 : Int32))) (by decide) (by rfl) (hb hby d7_26) (rfl : 26 + 1 = 27) ?_
  refine g_ifY X10 hx (hb hby d7_27) (XT.i0_lt_t (by decide)) (by decide) (pc' := 68) (by decide) ?_
  refine g_iinc X10 hx (-1 : Int32) (hb hby d7_68) (rfl : 68 + 3 = 71) (by decide) rfl (z := (0 : Int32)) (by decide) (Ls' := #[.val (.ref t), .val (.ref a2), .val (.int (0 : Int32)), .unset]) rfl ?_
  refine g_goto X10 hx (hb hby d7_71) (by decide) (pc' := 13) (by decide) ?_
  refine g_iloadN X10 hx (hb hby d7_13) (rfl : 13 + 1 = 14) rfl ?_
  refine g_ifN X10 hx (hb hby d7_14) (XT.i0_lt_f (by decide)) (rfl : 14 + 3 = 17) ?_
  refine g_aloadN X10 hx (hb hby d7_17) (rfl : 17 + 1 = 18) rfl rfl ?_
  refine g_iloadN X10 hx (hb hby d7_18) (rfl : 18 + 1 = 19) rfl ?_
  refine g_iconst X10 hx (1 : Int32) (hb hby d7_19) (rfl : 19 + 1 = 20) (by decide) ?_
  refine g_iastore X10 hx hZ eh10 A7 (by decide) (by rfl) (vs' := [(.int (1 : Int32)), (.int (1 : Int32)), (.int (1 : Int32))]) (by rfl) P7 (Or.inr g2) (hb hby d7_20) (rfl : 20 + 1 = 21) fun T13 hh13 X13 eh13 W13 P13 A13 => ?_
  refine g_aloadN X13 hx (hb hby d7_21) (rfl : 21 + 1 = 22) rfl rfl ?_
  have F14 := (F9.other W13 (Or.inl ne8))
  refine g_getf X13 hx hZ hown (host := "") (Or.inl (wd hw 11 rfl)) Via.refl eh13 F14 (hb hby d7_22) (rfl : 22 + 3 = 25) fun T15 X15 eh15 => ?_
  refine g_iloadN X15 hx (hb hby d7_25) (rfl : 25 + 1 = 26) rfl ?_
  have F16 := (aryO F12 W13 ne11)
  refine g_iaload X15 hx hZ eh15 F16 (v := (.int (-1 : Int32))) (by decide) (by rfl) (hb hby d7_26) (rfl : 26 + 1 = 27) ?_
  refine g_ifY X15 hx (hb hby d7_27) (XT.i0_lt_t (by decide)) (by decide) (pc' := 68) (by decide) ?_
  refine g_iinc X15 hx (-1 : Int32) (hb hby d7_68) (rfl : 68 + 3 = 71) (by decide) rfl (z := (-1 : Int32)) (by decide) (Ls' := #[.val (.ref t), .val (.ref a2), .val (.int (-1 : Int32)), .unset]) rfl ?_
  refine g_goto X15 hx (hb hby d7_71) (by decide) (pc' := 13) (by decide) ?_
  refine g_iloadN X15 hx (hb hby d7_13) (rfl : 13 + 1 = 14) rfl ?_
  refine g_ifY X15 hx (hb hby d7_14) (XT.i0_lt_t (by decide)) (by decide) (pc' := 74) (by decide) ?_
  refine g_iconst X15 hx (1 : Int32) (hb hby d7_74) (rfl : 74 + 1 = 75) (by decide) ?_
  refine g_aloadN X15 hx (hb hby d7_75) (rfl : 75 + 1 = 76) rfl rfl ?_
  refine g_iconst X15 hx (0 : Int32) (hb hby d7_76) (rfl : 76 + 1 = 77) (by decide) ?_
  refine g_iaload X15 hx hZ eh15 A13 (v := (.int (1 : Int32))) (by decide) (by rfl) (hb hby d7_77) (rfl : 77 + 1 = 78) ?_
  refine g_iadd X15 hx (hb hby d7_78) (rfl : 78 + 1 = 79) (z := (2 : Int32)) (by decide) ?_
  exact g_ret X15 hx hret hlk rfl (Or.inl ⟨rfl, Or.inl rfl, _, rfl⟩) (hb hby d7_79) (by decide) (by decide) eh15 hK ⟨(by decide), P13⟩
theorem d7_30 : decode prog_27_method_4_code 30 = .ok (.aload_n 1, 1) := by decide +kernel
theorem d7_31 : decode prog_27_method_4_code 31 = .ok (.aload_n 0, 1) := by decide +kernel
theorem d7_32 : decode prog_27_method_4_code 32 = .ok (.getfield 23, 3) := by decide +kernel
theorem d7_35 : decode prog_27_method_4_code 35 = .ok (.iload_n 2, 1) := by decide +kernel
theorem d7_36 : decode prog_27_method_4_code 36 = .ok (.iaload, 1) := by decide +kernel
theorem d7_37 : decode prog_27_method_4_code 37 = .ok (.iaload, 1) := by decide +kernel
theorem d7_38 : decode prog_27_method_4_code 38 = .ok (.aload_n 1, 1) := by decide +kernel
theorem d7_39 : decode prog_27_method_4_code 39 = .ok (.aload_n 0, 1) := by decide +kernel
theorem d7_40 : decode prog_27_method_4_code 40 = .ok (.getfield 26, 3) := by decide +kernel
theorem d7_43 : decode prog_27_method_4_code 43 = .ok (.iload_n 2, 1) := by decide +kernel
theorem d7_44 : decode prog_27_method_4_code 44 = .ok (.iaload, 1) := by decide +kernel
theorem d7_45 : decode prog_27_method_4_code 45 = .ok (.iaload, 1) := by decide +kernel
theorem d7_46 : decode prog_27_method_4_code 46 = .ok (.invokestatic 41, 3) := by decide +kernel
theorem d7_49 : decode prog_27_method_4_code 49 = .ok (.istore_n 3, 1) := by decide +kernel
theorem d7_50 : decode prog_27_method_4_code 50 = .ok (.aload_n 1, 1) := by decide +kernel
theorem d7_51 : decode prog_27_method_4_code 51 = .ok (.iload_n 2, 1) := by decide +kernel
theorem d7_52 : decode prog_27_method_4_code 52 = .ok (.dup2, 1) := by decide +kernel
theorem d7_53 : decode prog_27_method_4_code 53 = .ok (.iaload, 1) := by decide +kernel
theorem d7_54 : decode prog_27_method_4_code 54 = .ok (.iload_n 3, 1) := by decide +kernel
theorem d7_55 : decode prog_27_method_4_code 55 = .ok (.aload_n 1, 1) := by decide +kernel
theorem d7_56 : decode prog_27_method_4_code 56 = .ok (.aload_n 0, 1) := by decide +kernel
theorem d7_57 : decode prog_27_method_4_code 57 = .ok (.getfield 29, 3) := by decide +kernel
theorem d7_60 : decode prog_27_method_4_code 60 = .ok (.iload_n 2, 1) := by decide +kernel
theorem d7_61 : decode prog_27_method_4_code 61 = .ok (.iaload, 1) := by decide +kernel
theorem d7_62 : decode prog_27_method_4_code 62 = .ok (.iaload, 1) := by decide +kernel
theorem d7_63 : decode prog_27_method_4_code 63 = .ok (.invokestatic 41, 3) := by decide +kernel
theorem d7_66 : decode prog_27_method_4_code 66 = .ok (.iadd, 1) := by decide +kernel
theorem d7_67 : decode prog_27_method_4_code 67 = .ok (.iastore, 1) := by decide +kernel
theorem pn_rm_stepss : plainFor (⟨"com/example/twofold/twofold/ltr/DecisionTree", "steps", "()I"⟩ : MethodName) = true := by first | exact plainFor_of_name (by first | (simp [plainName, overriddenIn]; done) | decide +kernel) | decide +kernel
set_option maxRecDepth 65536 in
set_option maxHeartbeats 40000000 in
theorem rm_stepss {l : Launch} {Z : State} {a0 : Array Value} (hw : ∀ d ∈ tables_1, d.before a0 Z = true) (t : Addr) (fe : Addr) (va : Addr) (be : Addr) (nb : Addr) (mi : Addr) (kfe : ClassId) (kva : ClassId) (kbe : ClassId) (knb : ClassId) (kmi : ClassId) (v0 : UInt32) (v1 : UInt32) (v2 : UInt32) {h0 : Heap} (I0 : Fld Z h0 t "com/example/twofold/twofold/ltr/DecisionTree" "feature" "[I" (.ref fe)) (I1 : Fld Z h0 t "com/example/twofold/twofold/ltr/DecisionTree" "value" "[F" (.ref va)) (I2 : Fld Z h0 t "com/example/twofold/twofold/ltr/DecisionTree" "below" "[I" (.ref be)) (I3 : Fld Z h0 t "com/example/twofold/twofold/ltr/DecisionTree" "notBelow" "[I" (.ref nb)) (I4 : Fld Z h0 t "com/example/twofold/twofold/ltr/DecisionTree" "missing" "[I" (.ref mi)) (I5 : OAry Z h0 fe kfe .int [(.int (0 : Int32)), (.int (-1 : Int32)), (.int (-1 : Int32))]) (I6 : OAry Z h0 va kva .float [(.float v0), (.float v1), (.float v2)]) (I7 : OAry Z h0 be kbe .int [(.int (1 : Int32)), (.int (0 : Int32)), (.int (0 : Int32))]) (I8 : OAry Z h0 nb knb .int [(.int (2 : Int32)), (.int (0 : Int32)), (.int (0 : Int32))]) (I9 : OAry Z h0 mi kmi .int [(.int (2 : Int32)), (.int (0 : Int32)), (.int (0 : Int32))])  :
    OMet l (⟨"com/example/twofold/twofold/ltr/DecisionTree", "steps", "()I"⟩ : MethodName) prog_27_method_4_code 4 (Option.some Jvm.ClassFile.FieldType.int) ({ frames := 1, cells := 1, slots := 3, locals := 16 } : Room) #[(.ref t)] Z h0 (fun v h L => v = some (.int (3 : Int32)) ∧ OPr h0 [] h L) := by
  refine OMet.body pn_rm_stepss (Ls := #[.val (.ref t), .unset, .unset, .unset]) (fun m => by first | (simp [entryFrame, mkF, argsToLocals, Value.category]; done) | rfl) ?_
  intro p e s m below meth c T0 K hK X0 hx hby hml hown hnm hret hlk hZ eh0
  have P0 := OPr.refl h0 []
  refine g_aloadN X0 hx (hb hby d7_0) (rfl : 0 + 1 = 1) rfl rfl ?_
  refine g_getf X0 hx hZ hown (host := "") (Or.inl (wd hw 11 rfl)) Via.refl eh0 I0 (hb hby d7_1) (rfl : 1 + 3 = 4) fun T1 X1 eh1 => ?_
  refine g_len X1 hx hZ eh1 I5 (z := (3 : Int32)) rfl (hb hby d7_4) (rfl : 4 + 1 = 5) ?_
  refine g_newarray X1 hx hZ (ad := "[I") (by decide) (wd hw 10 rfl) eh1 (vs := [(.int (0 : Int32)), (.int (0 : Int32)), (.int (0 : Int32))]) (by decide) (by rfl) (cap := 3) (by decide) (by decide) P0 (hb hby d7_5) (rfl : 5 + 2 = 7) (by decide) (by decide) fun T2 hh2 a2 k2 q2 g2 X2 eh2 E2 P2 A2 B2 => ?_
  refine g_astoreN X2 hx (hb hby d7_7) (rfl : 7 + 1 = 8) rfl (Ls' := #[.val (.ref t), .val (.ref a2), .unset, .unset]) rfl ?_
  refine g_aloadN X2 hx (hb hby d7_8) (rfl : 8 + 1 = 9) rfl rfl ?_
  refine g_len X2 hx hZ eh2 A2 (z := (3 : Int32)) rfl (hb hby d7_9) (rfl : 9 + 1 = 10) ?_
  refine g_iconst X2 hx (1 : Int32) (hb hby d7_10) (rfl : 10 + 1 = 11) (by decide) ?_
  refine g_isub X2 hx (hb hby d7_11) (rfl : 11 + 1 = 12) (z := (2 : Int32)) (by decide) ?_
  refine g_istoreN X2 hx (hb hby d7_12) (rfl : 12 + 1 = 13) (Ls' := #[.val (.ref t), .val (.ref a2), .val (.int (2 : Int32)), .unset]) rfl ?_
  refine g_iloadN X2 hx (hb hby d7_13) (rfl : 13 + 1 = 14) rfl ?_
  show OGo p e below K T2 (mkF m 14 #[.val (.ref t), .val (.ref a2), .val (.int (2 : Int32)), .unset] [(.int (2 : Int32))])
  refine g_ifN X2 hx (hb hby d7_14) (XT.i0_lt_f (by decide)) (rfl : 14 + 3 = 17) ?_
  refine g_aloadN X2 hx (hb hby d7_17) (rfl : 17 + 1 = 18) rfl rfl ?_
  refine g_iloadN X2 hx (hb hby d7_18) (rfl : 18 + 1 = 19) rfl ?_
  refine g_iconst X2 hx (1 : Int32) (hb hby d7_19) (rfl : 19 + 1 = 20) (by decide) ?_
  refine g_iastore X2 hx hZ eh2 A2 (by decide) (by rfl) (vs' := [(.int (0 : Int32)), (.int (0 : Int32)), (.int (1 : Int32))]) (by rfl) P2 (Or.inr g2) (hb hby d7_20) (rfl : 20 + 1 = 21) fun T3 hh3 X3 eh3 W3 P3 A3 => ?_
  refine g_aloadN X3 hx (hb hby d7_21) (rfl : 21 + 1 = 22) rfl rfl ?_
  have F4 := (fldP I0 P3 nin0)
  refine g_getf X3 hx hZ hown (host := "") (Or.inl (wd hw 11 rfl)) Via.refl eh3 F4 (hb hby d7_22) (rfl : 22 + 3 = 25) fun T5 X5 eh5 => ?_
  refine g_iloadN X5 hx (hb hby d7_25) (rfl : 25 + 1 = 26) rfl ?_
  have F6 := (aryP I5 P3 nin0)
  refine g_iaload X5 hx hZ eh5 F6 (v := (.int (-1 : Int32))) (by decide) (by rfl) (hb hby d7_26) (rfl : 26 + 1 = 27) ?_
  refine g_ifY X5 hx (hb hby d7_27) (XT.i0_lt_t (by decide)) (by decide) (pc' := 68) (by decide) ?_
  refine g_iinc X5 hx (-1 : Int32) (hb hby d7_68) (rfl : 68 + 3 = 71) (by decide) rfl (z := (1 : Int32)) (by decide) (Ls' := #[.val (.ref t), .val (.ref a2), .val (.int (1 : Int32)), .unset]) rfl ?_
  refine g_goto X5 hx (hb hby d7_71) (by decide) (pc' := 13) (by decide) ?_
  refine g_iloadN X5 hx (hb hby d7_13) (rfl : 13 + 1 = 14) rfl ?_
  refine g_ifN X5 hx (hb hby d7_14) (XT.i0_lt_f (by decide)) (rfl : 14 + 3 = 17) ?_
  refine g_aloadN X5 hx (hb hby d7_17) (rfl : 17 + 1 = 18) rfl rfl ?_
  refine g_iloadN X5 hx (hb hby d7_18) (rfl : 18 + 1 = 19) rfl ?_
  refine g_iconst X5 hx (1 : Int32) (hb hby d7_19) (rfl : 19 + 1 = 20) (by decide) ?_
  refine g_iastore X5 hx hZ eh5 A3 (by decide) (by rfl) (vs' := [(.int (0 : Int32)), (.int (1 : Int32)), (.int (1 : Int32))]) (by rfl) P3 (Or.inr g2) (hb hby d7_20) (rfl : 20 + 1 = 21) fun T7 hh7 X7 eh7 W7 P7 A7 => ?_
  refine g_aloadN X7 hx (hb hby d7_21) (rfl : 21 + 1 = 22) rfl rfl ?_
  have ne8 : t ≠ a2 := Nat.ne_of_lt (Nat.lt_of_lt_of_le I0.lt (Nat.le_of_eq q2.symm))
  have F9 := (F4.other W7 (Or.inl ne8))
  refine g_getf X7 hx hZ hown (host := "") (Or.inl (wd hw 11 rfl)) Via.refl eh7 F9 (hb hby d7_22) (rfl : 22 + 3 = 25) fun T10 X10 eh10 => ?_
  refine g_iloadN X10 hx (hb hby d7_25) (rfl : 25 + 1 = 26) rfl ?_
  have ne11 : fe ≠ a2 := Nat.ne_of_lt (Nat.lt_of_lt_of_le (aryLt I5) (Nat.le_of_eq q2.symm))
  have F12 := (aryO F6 W7 ne11)
  refine g_iaload X10 hx hZ eh10 F12 (v := (.int (-1 : Int32))) (by decide) (by rfl) (hb hby d7_26) (rfl : 26 + 1 = 27) ?_
  refine g_ifY X10 hx (hb hby d7_27) (XT.i0_lt_t (by decide)) (by decide) (pc' := 68) (by decide) ?_
  refine g_iinc X10 hx (-1 : Int32) (hb hby d7_68) (rfl : 68 + 3 = 71) (by decide) rfl (z := (0 : Int32)) (by decide) (Ls' := #[.val (.ref t), .val (.ref a2), .val (.int (0 : Int32)), .unset]) rfl ?_
  refine g_goto X10 hx (hb hby d7_71) (by decide) (pc' := 13) (by decide) ?_
  refine g_iloadN X10 hx (hb hby d7_13) (rfl : 13 + 1 = 14) rfl ?_
  refine g_ifN X10 hx (hb hby d7_14) (XT.i0_lt_f (by decide)) (rfl : 14 + 3 = 17) ?_
  refine g_aloadN X10 hx (hb hby d7_17) (rfl : 17 + 1 = 18) rfl rfl ?_
  refine g_iloadN X10 hx (hb hby d7_18) (rfl : 18 + 1 = 19) rfl ?_
  refine g_iconst X10 hx (1 : Int32) (hb hby d7_19) (rfl : 19 + 1 = 20) (by decide) ?_
  refine g_iastore X10 hx hZ eh10 A7 (by decide) (by rfl) (vs' := [(.int (1 : Int32)), (.int (1 : Int32)), (.int (1 : Int32))]) (by rfl) P7 (Or.inr g2) (hb hby d7_20) (rfl : 20 + 1 = 21) fun T13 hh13 X13 eh13 W13 P13 A13 => ?_
  refine g_aloadN X13 hx (hb hby d7_21) (rfl : 21 + 1 = 22) rfl rfl ?_
  have F14 := (F9.other W13 (Or.inl ne8))
  refine g_getf X13 hx hZ hown (host := "") (Or.inl (wd hw 11 rfl)) Via.refl eh13 F14 (hb hby d7_22) (rfl : 22 + 3 = 25) fun T15 X15 eh15 => ?_
  refine g_iloadN X15 hx (hb hby d7_25) (rfl : 25 + 1 = 26) rfl ?_
  have F16 := (aryO F12 W13 ne11)
  refine g_iaload X15 hx hZ eh15 F16 (v := (.int (0 : Int32))) (by decide) (by rfl) (hb hby d7_26) (rfl : 26 + 1 = 27) ?_
  refine g_ifN X15 hx (hb hby d7_27) (XT.i0_lt_f (by decide)) (rfl : 27 + 3 = 30) ?_
  refine g_aloadN X15 hx (hb hby d7_30) (rfl : 30 + 1 = 31) rfl rfl ?_
  refine g_aloadN X15 hx (hb hby d7_31) (rfl : 31 + 1 = 32) rfl rfl ?_
  have F17 := (fldP I2 P13 nin0)
  refine g_getf X15 hx hZ hown (host := "") (Or.inl (wd hw 19 rfl)) Via.refl eh15 F17 (hb hby d7_32) (rfl : 32 + 3 = 35) fun T18 X18 eh18 => ?_
  refine g_iloadN X18 hx (hb hby d7_35) (rfl : 35 + 1 = 36) rfl ?_
  have F19 := (aryP I7 P13 nin0)
  refine g_iaload X18 hx hZ eh18 F19 (v := (.int (1 : Int32))) (by decide) (by rfl) (hb hby d7_36) (rfl : 36 + 1 = 37) ?_
  refine g_iaload X18 hx hZ eh18 A13 (v := (.int (1 : Int32))) (by decide) (by rfl) (hb hby d7_37) (rfl : 37 + 1 = 38) ?_
  refine g_aloadN X18 hx (hb hby d7_38) (rfl : 38 + 1 = 39) rfl rfl ?_
  refine g_aloadN X18 hx (hb hby d7_39) (rfl : 39 + 1 = 40) rfl rfl ?_
  have F20 := (fldP I3 P13 nin0)
  refine g_getf X18 hx hZ hown (host := "") (Or.inl (wd hw 21 rfl)) Via.refl eh18 F20 (hb hby d7_40) (rfl : 40 + 3 = 43) fun T21 X21 eh21 => ?_
  refine g_iloadN X21 hx (hb hby d7_43) (rfl : 43 + 1 = 44) rfl ?_
  have F22 := (aryP I8 P13 nin0)
  refine g_iaload X21 hx hZ eh21 F22 (v := (.int (2 : Int32))) (by decide) (by rfl) (hb hby d7_44) (rfl : 44 + 1 = 45) ?_
  refine g_iaload X21 hx hZ eh21 A13 (v := (.int (1 : Int32))) (by decide) (by rfl) (hb hby d7_45) (rfl : 45 + 1 = 46) ?_
  refine g_static X21 hx hZ hown eh21 (rm_max hw (1 : Int32) (1 : Int32) (1 : Int32) (by decide)) (wd hw 49 rfl) (wd hw 50 rfl) (wd hw 52 rfl) (wd hw 51 rfl) (by decide) (argsL := [(.int (1 : Int32)), (.int (1 : Int32))]) (rest := []) rfl rfl (ps := [.int, .int]) (rt := (some .int)) (by decide) rfl (W := 0) (Nat.le_of_eq rfl) (by decide) (by decide) (by decide) (by decide) (by rw [hml]; rfl) (hb hby d7_46) (rfl : 46 + 3 = 49) fun v23 T23 hh23 L23 X23 eh23 Q23 => ?_
  obtain ⟨rfl, Pc23⟩ := Q23
  have P23 := P13.call Pc23 all0
  show OGo p e below K T23 (mkF m 49 #[.val (.ref t), .val (.ref a2), .val (.int (0 : Int32)), .unset] [(.int (1 : Int32))])
  refine g_istoreN X23 hx (hb hby d7_49) (rfl : 49 + 1 = 50) (Ls' := #[.val (.ref t), .val (.ref a2), .val (.int (0 : Int32)), .val (.int (1 : Int32))]) rfl ?_
  refine g_aloadN X23 hx (hb hby d7_50) (rfl : 50 + 1 = 51) rfl rfl ?_
  refine g_iloadN X23 hx (hb hby d7_51) (rfl : 51 + 1 = 52) rfl ?_
  refine g_dup2 X23 hx (hb hby d7_52) (rfl : 52 + 1 = 53) rfl rfl ?_
  have F24 := (aryP A13 Pc23 nin0)
  refine g_iaload X23 hx hZ eh23 F24 (v := (.int (1 : Int32))) (by decide) (by rfl) (hb hby d7_53) (rfl : 53 + 1 = 54) ?_
  refine g_iloadN X23 hx (hb hby d7_54) (rfl : 54 + 1 = 55) rfl ?_
  refine g_aloadN X23 hx (hb hby d7_55) (rfl : 55 + 1 = 56) rfl rfl ?_
  refine g_aloadN X23 hx (hb hby d7_56) (rfl : 56 + 1 = 57) rfl rfl ?_
  have F25 := (fldP I4 P23 nin0)
  refine g_getf X23 hx hZ hown (host := "") (Or.inl (wd hw 23 rfl)) Via.refl eh23 F25 (hb hby d7_57) (rfl : 57 + 3 = 60) fun T26 X26 eh26 => ?_
  refine g_iloadN X26 hx (hb hby d7_60) (rfl : 60 + 1 = 61) rfl ?_
  have F27 := (aryP I9 P23 nin0)
  refine g_iaload X26 hx hZ eh26 F27 (v := (.int (2 : Int32))) (by decide) (by rfl) (hb hby d7_61) (rfl : 61 + 1 = 62) ?_
  refine g_iaload X26 hx hZ eh26 F24 (v := (.int (1 : Int32))) (by decide) (by rfl) (hb hby d7_62) (rfl : 62 + 1 = 63) ?_
  refine g_static X26 hx hZ hown eh26 (rm_max hw (1 : Int32) (1 : Int32) (1 : Int32) (by decide)) (wd hw 49 rfl) (wd hw 50 rfl) (wd hw 52 rfl) (wd hw 51 rfl) (by decide) (argsL := [(.int (1 : Int32)), (.int (1 : Int32))]) (rest := [(.int (1 : Int32)), (.int (0 : Int32)), (.ref a2)]) rfl rfl (ps := [.int, .int]) (rt := (some .int)) (by decide) rfl (W := 3) (Nat.le_of_eq rfl) (by decide) (by decide) (by decide) (by decide) (by rw [hml]; rfl) (hb hby d7_63) (rfl : 63 + 3 = 66) fun v28 T28 hh28 L28 X28 eh28 Q28 => ?_
  obtain ⟨rfl, Pc28⟩ := Q28
  have P28 := P23.call Pc28 all0
  show OGo p e below K T28 (mkF m 66 #[.val (.ref t), .val (.ref a2), .val (.int (0 : Int32)), .val (.int (1 : Int32))] [(.int (1 : Int32)), (.int (1 : Int32)), (.int (0 : Int32)), (.ref a2)])
  refine g_iadd X28 hx (hb hby d7_66) (rfl : 66 + 1 = 67) (z := (2 : Int32)) (by decide) ?_
  have F29 := (aryP F24 Pc28 nin0)
  refine g_iastore X28 hx hZ eh28 F29 (by decide) (by rfl) (vs' := [(.int (2 : Int32)), (.int (1 : Int32)), (.int (1 : Int32))]) (by rfl) P28 (Or.inr g2) (hb hby d7_67) (rfl : 67 + 1 = 68) fun T30 hh30 X30 eh30 W30 P30 A30 => ?_
  refine g_iinc X30 hx (-1 : Int32) (hb hby d7_68) (rfl : 68 + 3 = 71) (by decide) rfl (z := (-1 : Int32)) (by decide) (Ls' := #[.val (.ref t), .val (.ref a2), .val (.int (-1 : Int32)), .val (.int (1 : Int32))]) rfl ?_
  refine g_goto X30 hx (hb hby d7_71) (by decide) (pc' := 13) (by decide) ?_
  refine g_iloadN X30 hx (hb hby d7_13) (rfl : 13 + 1 = 14) rfl ?_
  refine g_ifY X30 hx (hb hby d7_14) (XT.i0_lt_t (by decide)) (by decide) (pc' := 74) (by decide) ?_
  refine g_iconst X30 hx (1 : Int32) (hb hby d7_74) (rfl : 74 + 1 = 75) (by decide) ?_
  refine g_aloadN X30 hx (hb hby d7_75) (rfl : 75 + 1 = 76) rfl rfl ?_
  refine g_iconst X30 hx (0 : Int32) (hb hby d7_76) (rfl : 76 + 1 = 77) (by decide) ?_
  refine g_iaload X30 hx hZ eh30 A30 (v := (.int (2 : Int32))) (by decide) (by rfl) (hb hby d7_77) (rfl : 77 + 1 = 78) ?_
  refine g_iadd X30 hx (hb hby d7_78) (rfl : 78 + 1 = 79) (z := (3 : Int32)) (by decide) ?_
  exact g_ret X30 hx hret hlk rfl (Or.inl ⟨rfl, Or.inl rfl, _, rfl⟩) (hb hby d7_79) (by decide) (by decide) eh30 hK ⟨(by decide), P30⟩
theorem pn_rm0 : plainFor x = true := by first | exact plainFor_of_name (by first | (simp [plainName, overriddenIn]; done) | decide +kernel) | decide +kernel
set_option maxRecDepth 65536 in
set_option maxHeartbeats 40000000 in
theorem rm0 {l : Launch} {Z : State} {a0 : Array Value} (hw : ∀ d ∈ tables_1, d.before a0 Z = true) (p1 : Int32) (p2 : Int32) (p3 : Int32) (p4 : Int32) (p5 : Int32) {h0 : Heap}   :
    OMet l x code maxLocals ret room_1 #[(.int p1), (.int p2), (.int p3), (.int p4), (.int p5)] Z h0 (fun v h L => v = some (.int (1 : Int32)) ∧ OPr h0 [] h L) := by
  refine OMet.body pn_rm0 (Ls := #[.val (.int p1), .val (.int p2), .val (.int p3), .val (.int p4), .val (.int p5), .unset, .unset, .unset, .unset, .unset, .unset, .unset, .unset, .unset, .unset]) (fun m => by first | (simp [entryFrame, mkF, argsToLocals, Value.category, maxLocals]; done) | rfl) ?_
  intro p e s m below meth c T0 K hK X0 hx hby hml hown hnm hret hlk hZ eh0
  have P0 := OPr.refl h0 []
  refine g_iloadN X0 hx (hb hby at_0) (rfl : 0 + 1 = 1) rfl ?_
  refine g_i2f X0 hx (hb hby at_1) (rfl : 1 + 1 = 2) ?_
  refine g_fstore X0 hx (hb hby at_2) (rfl : 2 + 2 = 4) (Ls' := #[.val (.int p1), .val (.int p2), .val (.int p3), .val (.int p4), .val (.int p5), .val (.float (FP.i2f p1)), .unset, .unset, .unset, .unset, .unset, .unset, .unset, .unset, .unset]) rfl ?_
  refine g_iloadN X0 hx (hb hby at_4) (rfl : 4 + 1 = 5) rfl ?_
  refine g_i2f X0 hx (hb hby at_5) (rfl : 5 + 1 = 6) ?_
  refine g_fstore X0 hx (hb hby at_6) (rfl : 6 + 2 = 8) (Ls' := #[.val (.int p1), .val (.int p2), .val (.int p3), .val (.int p4), .val (.int p5), .val (.float (FP.i2f p1)), .val (.float (FP.i2f p2)), .unset, .unset, .unset, .unset, .unset, .unset, .unset, .unset]) rfl ?_
  refine g_iloadN X0 hx (hb hby at_8) (rfl : 8 + 1 = 9) rfl ?_
  refine g_i2f X0 hx (hb hby at_9) (rfl : 9 + 1 = 10) ?_
  refine g_fstore X0 hx (hb hby at_10) (rfl : 10 + 2 = 12) (Ls' := #[.val (.int p1), .val (.int p2), .val (.int p3), .val (.int p4), .val (.int p5), .val (.float (FP.i2f p1)), .val (.float (FP.i2f p2)), .val (.float (FP.i2f p3)), .unset, .unset, .unset, .unset, .unset, .unset, .unset]) rfl ?_
  refine g_iloadN X0 hx (hb hby at_12) (rfl : 12 + 1 = 13) rfl ?_
  refine g_i2f X0 hx (hb hby at_13) (rfl : 13 + 1 = 14) ?_
  refine g_fstore X0 hx (hb hby at_14) (rfl : 14 + 2 = 16) (Ls' := #[.val (.int p1), .val (.int p2), .val (.int p3), .val (.int p4), .val (.int p5), .val (.float (FP.i2f p1)), .val (.float (FP.i2f p2)), .val (.float (FP.i2f p3)), .val (.float (FP.i2f p4)), .unset, .unset, .unset, .unset, .unset, .unset]) rfl ?_
  refine g_iconst X0 hx (1 : Int32) (hb hby at_16) (rfl : 16 + 1 = 17) (by decide) ?_
  refine g_newarray X0 hx hZ (ad := "[F") (by decide) (wd hw 0 rfl) eh0 (vs := [(.float (0 : UInt32))]) (by decide) (by rfl) (cap := 1) (by decide) (by decide) P0 (hb hby at_17) (rfl : 17 + 2 = 19) (by decide) (by decide) fun T1 hh1 a1 k1 q1 g1 X1 eh1 E1 P1 A1 B1 => ?_
  refine g_dup X1 hx (hb hby at_19) (rfl : 19 + 1 = 20) rfl ?_
  refine g_iconst X1 hx (0 : Int32) (hb hby at_20) (rfl : 20 + 1 = 21) (by decide) ?_
  refine g_fload X1 hx (hb hby at_21) (rfl : 21 + 2 = 23) rfl ?_
  refine g_fastore X1 hx hZ eh1 A1 (by decide) (by rfl) (vs' := [(.float (FP.i2f p4))]) (by rfl) P1 (Or.inr g1) (hb hby at_23) (rfl : 23 + 1 = 24) fun T2 hh2 X2 eh2 W2 P2 A2 => ?_
  refine g_astore X2 hx (hb hby at_24) (rfl : 24 + 2 = 26) rfl (Ls' := #[.val (.int p1), .val (.int p2), .val (.int p3), .val (.int p4), .val (.int p5), .val (.float (FP.i2f p1)), .val (.float (FP.i2f p2)), .val (.float (FP.i2f p3)), .val (.float (FP.i2f p4)), .val (.ref a1), .unset, .unset, .unset, .unset, .unset]) rfl ?_
  refine g_new X2 hx hZ hown (wd hw 1 rfl) (wd hw 2 rfl) (wd hw 3 rfl) eh2 P2 (hb hby at_26) (rfl : 26 + 3 = 29) (by decide) (by decide) fun T3 hh3 a3 q3 g3 X3 eh3 E3 P3 A3 D3 => ?_
  have f4 : Fld Z hh3 a3 "com/example/twofold/twofold/ltr/DecisionTree" "feature" "[I" .null := D3 (Or.inr (wd hw 12 rfl)) (ty := (.array .int)) (by decide)
  have f5 : Fld Z hh3 a3 "com/example/twofold/twofold/ltr/DecisionTree" "value" "[F" .null := D3 (Or.inr (wd hw 18 rfl)) (ty := (.array .float)) (by decide)
  have f6 : Fld Z hh3 a3 "com/example/twofold/twofold/ltr/DecisionTree" "below" "[I" .null := D3 (Or.inr (wd hw 20 rfl)) (ty := (.array .int)) (by decide)
  have f7 : Fld Z hh3 a3 "com/example/twofold/twofold/ltr/DecisionTree" "notBelow" "[I" .null := D3 (Or.inr (wd hw 22 rfl)) (ty := (.array .int)) (by decide)
  have f8 : Fld Z hh3 a3 "com/example/twofold/twofold/ltr/DecisionTree" "missing" "[I" .null := D3 (Or.inr (wd hw 24 rfl)) (ty := (.array .int)) (by decide)
  refine g_dup X3 hx (hb hby at_29) (rfl : 29 + 1 = 30) rfl ?_
  refine g_iconst X3 hx (3 : Int32) (hb hby at_30) (rfl : 30 + 1 = 31) (by decide) ?_
  refine g_special X3 hx hZ hown eh3 (rm_init hw a3 A3 f4 f5 f6 f7 f8) rfl (wd hw 4 rfl) (wd hw 5 rfl) (wd hw 6 rfl) (wd hw 3 rfl) (by decide) (a := a3) (argsL := [(.int (3 : Int32))]) (rest := [(.ref a3)]) rfl rfl (ps := [.int]) (by decide) rfl (W := 1) (Nat.le_of_eq rfl) (by decide) (by decide) (by decide) (by decide) (by rw [hml]; rfl) (hb hby at_31) (rfl : 31 + 3 = 34) fun v9 T9 hh9 L9 X9 eh9 Q9 => ?_
  obtain ⟨fe_9, va_9, be_9, nb_9, mi_9, kfe_9, kva_9, kbe_9, knb_9, kmi_9, rfl, Pc9, G9_0, G9_1, G9_2, G9_3, G9_4, G9_5, G9_6, G9_7, G9_8, G9_9, G9_10, G9_11, G9_12, G9_13, G9_14, G9_15, G9_16, G9_17, G9_18, G9_19, G9_20, G9_21, G9_22, G9_23, G9_24⟩ := Q9
  have P9 := P3.call Pc9 (allS (Or.inr g3) all0)
  show OGo p e below K T9 (mkF m 34 #[.val (.int p1), .val (.int p2), .val (.int p3), .val (.int p4), .val (.int p5), .val (.float (FP.i2f p1)), .val (.float (FP.i2f p2)), .val (.float (FP.i2f p3)), .val (.float (FP.i2f p4)), .val (.ref a1), .unset, .unset, .unset, .unset, .unset] [(.ref a3)])
  refine g_astore X9 hx (hb hby at_34) (rfl : 34 + 2 = 36) rfl (Ls' := #[.val (.int p1), .val (.int p2), .val (.int p3), .val (.int p4), .val (.int p5), .val (.float (FP.i2f p1)), .val (.float (FP.i2f p2)), .val (.float (FP.i2f p3)), .val (.float (FP.i2f p4)), .val (.ref a1), .val (.ref a3), .unset, .unset, .unset, .unset]) rfl ?_
  refine g_aload X9 hx (hb hby at_36) (rfl : 36 + 2 = 38) rfl rfl ?_
  refine g_iconst X9 hx (0 : Int32) (hb hby at_38) (rfl : 38 + 1 = 39) (by decide) ?_
  refine g_iconst X9 hx (0 : Int32) (hb hby at_39) (rfl : 39 + 1 = 40) (by decide) ?_
  refine g_fconst0 X9 hx (hb hby at_40) (rfl : 40 + 1 = 41) ?_
  refine g_iconst X9 hx (1 : Int32) (hb hby at_41) (rfl : 41 + 1 = 42) (by decide) ?_
  refine g_iconst X9 hx (2 : Int32) (hb hby at_42) (rfl : 42 + 1 = 43) (by decide) ?_
  refine g_iconst X9 hx (2 : Int32) (hb hby at_43) (rfl : 43 + 1 = 44) (by decide) ?_
  have ne11 : a3 ≠ fe_9 := Nat.ne_of_lt (Nat.lt_of_lt_of_le A3.lt G9_0)
  have ne12 : a3 ≠ va_9 := Nat.ne_of_lt (Nat.lt_of_lt_of_le A3.lt G9_1)
  have ne13 : a3 ≠ be_9 := Nat.ne_of_lt (Nat.lt_of_lt_of_le A3.lt G9_2)
  have ne14 : a3 ≠ nb_9 := Nat.ne_of_lt (Nat.lt_of_lt_of_le A3.lt G9_3)
  have ne15 : a3 ≠ mi_9 := Nat.ne_of_lt (Nat.lt_of_lt_of_le A3.lt G9_4)
  have F16 := (exaP A3 Pc9)
  refine g_virtual X9 hx hZ hown eh9 (rm_split hw a3 fe_9 va_9 be_9 nb_9 mi_9 kfe_9 kva_9 kbe_9 knb_9 kmi_9 G9_5 G9_6 G9_7 G9_8 G9_9 G9_10 G9_11 G9_12 G9_13 G9_14 G9_15 G9_16 G9_17 G9_18 G9_19 G9_20 G9_21 G9_22 G9_23 G9_24 ne11 ne12 ne13 ne14 ne15) (C := "com/example/twofold/twofold/ltr/DecisionTree") (wd hw 25 rfl) (wd hw 26 rfl) (notFace_of_selects (args := #[]) (mvT hZ (wd hw 28 rfl))) (wd hw 28 rfl) (wd hw 27 rfl) (wd hw 29 rfl) (wd hw 3 rfl) (by decide) (a := a3) F16 (argsL := [(.int (0 : Int32)), (.int (0 : Int32)), (.float FP.fconst0), (.int (1 : Int32)), (.int (2 : Int32)), (.int (2 : Int32))]) (rest := []) rfl rfl (ps := [.int, .int, .float, .int, .int, .int]) (rt := none) (by decide) rfl (W := 0) (Nat.le_of_eq rfl) (by decide) (by decide) (by decide) (by decide) (by rw [hml]; rfl) (hb hby at_44) (rfl : 44 + 3 = 47) fun v10 T10 hh10 L10 X10 eh10 Q10 => ?_
  obtain ⟨rfl, Pc10, G10_0, G10_1, G10_2, G10_3, G10_4⟩ := Q10
  have P10 := P9.call Pc10 (allS (Or.inr (Nat.le_trans P3.size G9_0)) (allS (Or.inr (Nat.le_trans P3.size G9_1)) (allS (Or.inr (Nat.le_trans P3.size G9_2)) (allS (Or.inr (Nat.le_trans P3.size G9_3)) (allS (Or.inr (Nat.le_trans P3.size G9_4)) all0)))))
  show OGo p e below K T10 (mkF m 47 #[.val (.int p1), .val (.int p2), .val (.int p3), .val (.int p4), .val (.int p5), .val (.float (FP.i2f p1)), .val (.float (FP.i2f p2)), .val (.float (FP.i2f p3)), .val (.float (FP.i2f p4)), .val (.ref a1), .val (.ref a3), .unset, .unset, .unset, .unset] [])
  refine g_aload X10 hx (hb hby at_47) (rfl : 47 + 2 = 49) rfl rfl ?_
  refine g_iconst X10 hx (1 : Int32) (hb hby at_49) (rfl : 49 + 1 = 50) (by decide) ?_
  refine g_fload X10 hx (hb hby at_50) (rfl : 50 + 2 = 52) rfl ?_
  have F18 := (fldP G9_5 Pc10 (ninS ne11 (ninS ne12 (ninS ne13 (ninS ne14 (ninS ne15 nin0))))))
  have F19 := (fldP G9_6 Pc10 (ninS ne11 (ninS ne12 (ninS ne13 (ninS ne14 (ninS ne15 nin0))))))
  have F20 := (exaP F16 Pc10)
  refine g_virtual X10 hx hZ hown eh10 (rm_leaf1 hw a3 fe_9 va_9 kfe_9 kva_9 (FP.i2f p3) (0 : Int32) (-1 : Int32) (-1 : Int32) FP.fconst0 (0 : UInt32) (0 : UInt32) F18 F19 G10_0 G10_1 G9_15 ne11 ne12) (C := "com/example/twofold/twofold/ltr/DecisionTree") (wd hw 30 rfl) (wd hw 31 rfl) (notFace_of_selects (args := #[]) (mvT hZ (wd hw 33 rfl))) (wd hw 33 rfl) (wd hw 32 rfl) (wd hw 34 rfl) (wd hw 3 rfl) (by decide) (a := a3) F20 (argsL := [(.int (1 : Int32)), (.float (FP.i2f p3))]) (rest := []) rfl rfl (ps := [.int, .float]) (rt := none) (by decide) rfl (W := 0) (Nat.le_of_eq rfl) (by decide) (by decide) (by decide) (by decide) (by rw [hml]; rfl) (hb hby at_52) (rfl : 52 + 3 = 55) fun v17 T17 hh17 L17 X17 eh17 Q17 => ?_
  obtain ⟨rfl, Pc17, G17_0, G17_1⟩ := Q17
  have P17 := P10.call Pc17 (allS (Or.inr (Nat.le_trans P3.size G9_0)) (allS (Or.inr (Nat.le_trans P3.size G9_1)) all0))
  show OGo p e below K T17 (mkF m 55 #[.val (.int p1), .val (.int p2), .val (.int p3), .val (.int p4), .val (.int p5), .val (.float (FP.i2f p1)), .val (.float (FP.i2f p2)), .val (.float (FP.i2f p3)), .val (.float (FP.i2f p4)), .val (.ref a1), .val (.ref a3), .unset, .unset, .unset, .unset] [])
  refine g_aload X17 hx (hb hby at_55) (rfl : 55 + 2 = 57) rfl rfl ?_
  refine g_iconst X17 hx (1 : Int32) (hb hby at_57) (rfl : 57 + 1 = 58) (by decide) ?_
  refine g_fload X17 hx (hb hby at_58) (rfl : 58 + 2 = 60) rfl ?_
  have F22 := (fldP F18 Pc17 (ninS ne11 (ninS ne12 nin0)))
  have F23 := (fldP F19 Pc17 (ninS ne11 (ninS ne12 nin0)))
  have F24 := (exaP F20 Pc17)
  refine g_virtual X17 hx hZ hown eh17 (rm_leaf1 hw a3 fe_9 va_9 kfe_9 kva_9 (FP.i2f p1) (0 : Int32) (-1 : Int32) (-1 : Int32) FP.fconst0 (FP.i2f p3) (0 : UInt32) F22 F23 G17_0 G17_1 G9_15 ne11 ne12) (C := "com/example/twofold/twofold/ltr/DecisionTree") (wd hw 30 rfl) (wd hw 31 rfl) (notFace_of_selects (args := #[]) (mvT hZ (wd hw 33 rfl))) (wd hw 33 rfl) (wd hw 32 rfl) (wd hw 34 rfl) (wd hw 3 rfl) (by decide) (a := a3) F24 (argsL := [(.int (1 : Int32)), (.float (FP.i2f p1))]) (rest := []) rfl rfl (ps := [.int, .float]) (rt := none) (by decide) rfl (W := 0) (Nat.le_of_eq rfl) (by decide) (by decide) (by decide) (by decide) (by rw [hml]; rfl) (hb hby at_60) (rfl : 60 + 3 = 63) fun v21 T21 hh21 L21 X21 eh21 Q21 => ?_
  obtain ⟨rfl, Pc21, G21_0, G21_1⟩ := Q21
  have P21 := P17.call Pc21 (allS (Or.inr (Nat.le_trans P3.size G9_0)) (allS (Or.inr (Nat.le_trans P3.size G9_1)) all0))
  show OGo p e below K T21 (mkF m 63 #[.val (.int p1), .val (.int p2), .val (.int p3), .val (.int p4), .val (.int p5), .val (.float (FP.i2f p1)), .val (.float (FP.i2f p2)), .val (.float (FP.i2f p3)), .val (.float (FP.i2f p4)), .val (.ref a1), .val (.ref a3), .unset, .unset, .unset, .unset] [])
  refine g_aload X21 hx (hb hby at_63) (rfl : 63 + 2 = 65) rfl rfl ?_
  refine g_iconst X21 hx (2 : Int32) (hb hby at_65) (rfl : 65 + 1 = 66) (by decide) ?_
  refine g_fload X21 hx (hb hby at_66) (rfl : 66 + 2 = 68) rfl ?_
  have F26 := (fldP F22 Pc21 (ninS ne11 (ninS ne12 nin0)))
  have F27 := (fldP F23 Pc21 (ninS ne11 (ninS ne12 nin0)))
  have F28 := (exaP F24 Pc21)
  refine g_virtual X21 hx hZ hown eh21 (rm_leaf2 hw a3 fe_9 va_9 kfe_9 kva_9 (FP.i2f p2) (0 : Int32) (-1 : Int32) (-1 : Int32) FP.fconst0 (FP.i2f p1) (0 : UInt32) F26 F27 G21_0 G21_1 G9_15 ne11 ne12) (C := "com/example/twofold/twofold/ltr/DecisionTree") (wd hw 30 rfl) (wd hw 31 rfl) (notFace_of_selects (args := #[]) (mvT hZ (wd hw 33 rfl))) (wd hw 33 rfl) (wd hw 32 rfl) (wd hw 34 rfl) (wd hw 3 rfl) (by decide) (a := a3) F28 (argsL := [(.int (2 : Int32)), (.float (FP.i2f p2))]) (rest := []) rfl rfl (ps := [.int, .float]) (rt := none) (by decide) rfl (W := 0) (Nat.le_of_eq rfl) (by decide) (by decide) (by decide) (by decide) (by rw [hml]; rfl) (hb hby at_68) (rfl : 68 + 3 = 71) fun v25 T25 hh25 L25 X25 eh25 Q25 => ?_
  obtain ⟨rfl, Pc25, G25_0, G25_1⟩ := Q25
  have P25 := P21.call Pc25 (allS (Or.inr (Nat.le_trans P3.size G9_0)) (allS (Or.inr (Nat.le_trans P3.size G9_1)) all0))
  show OGo p e below K T25 (mkF m 71 #[.val (.int p1), .val (.int p2), .val (.int p3), .val (.int p4), .val (.int p5), .val (.float (FP.i2f p1)), .val (.float (FP.i2f p2)), .val (.float (FP.i2f p3)), .val (.float (FP.i2f p4)), .val (.ref a1), .val (.ref a3), .unset, .unset, .unset, .unset] [])
  refine g_iload X25 hx (hb hby at_71) (rfl : 71 + 2 = 73) rfl ?_
  refine g_iconst X25 hx (1 : Int32) (hb hby at_73) (rfl : 73 + 1 = 74) (by decide) ?_
  refine g_iand X25 hx (hb hby at_74) (rfl : 74 + 1 = 75) (z := (p5 &&& (1 : Int32))) rfl ?_
  by_cases hr : (p5 &&& (1 : Int32)) = (0 : Int32)
  · refine g_ifY X25 hx (hb hby at_75) (XT.i0_eq_t hr) (by decide) (pc' := 82) (by decide) ?_
    refine g_iconst X25 hx (0 : Int32) (hb hby at_82) (rfl : 82 + 1 = 83) (by decide) ?_
    refine g_istore X25 hx (hb hby at_83) (rfl : 83 + 2 = 85) (Ls' := #[.val (.int p1), .val (.int p2), .val (.int p3), .val (.int p4), .val (.int p5), .val (.float (FP.i2f p1)), .val (.float (FP.i2f p2)), .val (.float (FP.i2f p3)), .val (.float (FP.i2f p4)), .val (.ref a1), .val (.ref a3), .val (.int (0 : Int32)), .unset, .unset, .unset]) rfl ?_
    refine g_iload X25 hx (hb hby at_85) (rfl : 85 + 2 = 87) rfl ?_
    refine g_ifY X25 hx (hb hby at_87) (XT.i0_eq_t (by decide)) (by decide) (pc' := 98) (by decide) ?_
    refine g_aload X25 hx (hb hby at_98) (rfl : 98 + 2 = 100) rfl rfl ?_
    refine g_aload X25 hx (hb hby at_100) (rfl : 100 + 2 = 102) rfl rfl ?_
    by_cases hx0 : p4 < 0
    · have F30 := (fldP F26 Pc25 (ninS ne11 (ninS ne12 nin0)))
      have F31 := (fldP F27 Pc25 (ninS ne11 (ninS ne12 nin0)))
      have F32 := (fldP (fldP (fldP (fldP G9_7 Pc10 (ninS ne11 (ninS ne12 (ninS ne13 (ninS ne14 (ninS ne15 nin0)))))) Pc17 (ninS ne11 (ninS ne12 nin0))) Pc21 (ninS ne11 (ninS ne12 nin0))) Pc25 (ninS ne11 (ninS ne12 nin0)))
      have F33 := (fldP (fldP (fldP (fldP G9_8 Pc10 (ninS ne11 (ninS ne12 (ninS ne13 (ninS ne14 (ninS ne15 nin0)))))) Pc17 (ninS ne11 (ninS ne12 nin0))) Pc21 (ninS ne11 (ninS ne12 nin0))) Pc25 (ninS ne11 (ninS ne12 nin0)))
      have F34 := (fldP (fldP (fldP (fldP G9_9 Pc10 (ninS ne11 (ninS ne12 (ninS ne13 (ninS ne14 (ninS ne15 nin0)))))) Pc17 (ninS ne11 (ninS ne12 nin0))) Pc21 (ninS ne11 (ninS ne12 nin0))) Pc25 (ninS ne11 (ninS ne12 nin0)))
      have F35 := (aryP (aryP (aryP G10_2 Pc17 (ninS (Ne.symm G9_16) (ninS (Ne.symm G9_19) nin0))) Pc21 (ninS (Ne.symm G9_16) (ninS (Ne.symm G9_19) nin0))) Pc25 (ninS (Ne.symm G9_16) (ninS (Ne.symm G9_19) nin0)))
      have F36 := (aryP (aryP (aryP G10_3 Pc17 (ninS (Ne.symm G9_17) (ninS (Ne.symm G9_20) nin0))) Pc21 (ninS (Ne.symm G9_17) (ninS (Ne.symm G9_20) nin0))) Pc25 (ninS (Ne.symm G9_17) (ninS (Ne.symm G9_20) nin0)))
      have F37 := (aryP (aryP (aryP G10_4 Pc17 (ninS (Ne.symm G9_18) (ninS (Ne.symm G9_21) nin0))) Pc21 (ninS (Ne.symm G9_18) (ninS (Ne.symm G9_21) nin0))) Pc25 (ninS (Ne.symm G9_18) (ninS (Ne.symm G9_21) nin0)))
      have F38 := (B1.wr W2)
      have ne39 : a1 ≠ a3 := Nat.ne_of_lt (Nat.lt_of_lt_of_le F38.lt (Nat.le_of_eq q3.symm))
      have F40 := (F38.ext E3)
      have ne41 : a1 ≠ mi_9 := Nat.ne_of_lt (Nat.lt_of_lt_of_le F40.lt G9_4)
      have ne42 : a1 ≠ nb_9 := Nat.ne_of_lt (Nat.lt_of_lt_of_le F40.lt G9_3)
      have ne43 : a1 ≠ be_9 := Nat.ne_of_lt (Nat.lt_of_lt_of_le F40.lt G9_2)
      have ne44 : a1 ≠ va_9 := Nat.ne_of_lt (Nat.lt_of_lt_of_le F40.lt G9_1)
      have ne45 : a1 ≠ fe_9 := Nat.ne_of_lt (Nat.lt_of_lt_of_le F40.lt G9_0)
      have F46 := (aryP (aryP (aryP (aryP (aryP (aryE A2 E3) Pc9 (ninS ne39 nin0)) Pc10 (ninS ne45 (ninS ne44 (ninS ne43 (ninS ne42 (ninS ne41 nin0)))))) Pc17 (ninS ne45 (ninS ne44 nin0))) Pc21 (ninS ne45 (ninS ne44 nin0))) Pc25 (ninS ne45 (ninS ne44 nin0)))
      have F47 := (exaP F28 Pc25)
      refine g_virtual X25 hx hZ hown eh25 (rm_out_lt hw a3 fe_9 va_9 be_9 nb_9 mi_9 kfe_9 kva_9 kbe_9 knb_9 kmi_9 a1 k1 (FP.i2f p4) (FP.i2f p1) (FP.i2f p2) F30 F31 F32 F33 F34 G25_0 G25_1 F35 F36 F37 F46 (selfcmp _ _) (signcmp.mpr hx0)) (C := "com/example/twofold/twofold/ltr/DecisionTree") (wd hw 35 rfl) (wd hw 36 rfl) (notFace_of_selects (args := #[]) (mvT hZ (wd hw 38 rfl))) (wd hw 38 rfl) (wd hw 37 rfl) (wd hw 39 rfl) (wd hw 3 rfl) (by decide) (a := a3) F47 (argsL := [(.ref a1)]) (rest := []) rfl rfl (ps := [(.array .float)]) (rt := (some .float)) (by decide) rfl (W := 0) (Nat.le_of_eq rfl) (by decide) (by decide) (by decide) (by decide) (by rw [hml]; rfl) (hb hby at_102) (rfl : 102 + 3 = 105) fun v29 T29 hh29 L29 X29 eh29 Q29 => ?_
      obtain ⟨rfl, Pc29⟩ := Q29
      have P29 := P25.call Pc29 all0
      show OGo p e below K T29 (mkF m 105 #[.val (.int p1), .val (.int p2), .val (.int p3), .val (.int p4), .val (.int p5), .val (.float (FP.i2f p1)), .val (.float (FP.i2f p2)), .val (.float (FP.i2f p3)), .val (.float (FP.i2f p4)), .val (.ref a1), .val (.ref a3), .val (.int (0 : Int32)), .unset, .unset, .unset] [(.float (FP.i2f p1))])
      refine g_fstore X29 hx (hb hby at_105) (rfl : 105 + 2 = 107) (Ls' := #[.val (.int p1), .val (.int p2), .val (.int p3), .val (.int p4), .val (.int p5), .val (.float (FP.i2f p1)), .val (.float (FP.i2f p2)), .val (.float (FP.i2f p3)), .val (.float (FP.i2f p4)), .val (.ref a1), .val (.ref a3), .val (.int (0 : Int32)), .val (.float (FP.i2f p1)), .unset, .unset]) rfl ?_
      refine g_aload X29 hx (hb hby at_107) (rfl : 107 + 2 = 109) rfl rfl ?_
      have F49 := (fldP F30 Pc29 nin0)
      have F50 := (fldP F31 Pc29 nin0)
      have F51 := (fldP F32 Pc29 nin0)
      have F52 := (fldP F33 Pc29 nin0)
      have F53 := (fldP F34 Pc29 nin0)
      have F54 := (aryP G25_0 Pc29 nin0)
      have F55 := (aryP G25_1 Pc29 nin0)
      have F56 := (aryP F35 Pc29 nin0)
      have F57 := (aryP F36 Pc29 nin0)
      have F58 := (aryP F37 Pc29 nin0)
      have F59 := (exaP F47 Pc29)
      refine g_virtual X29 hx hZ hown eh29 (rm_stepss hw a3 fe_9 va_9 be_9 nb_9 mi_9 kfe_9 kva_9 kbe_9 knb_9 kmi_9 FP.fconst0 (FP.i2f p1) (FP.i2f p2) F49 F50 F51 F52 F53 F54 F55 F56 F57 F58) (C := "com/example/twofold/twofold/ltr/DecisionTree") (wd hw 44 rfl) (wd hw 45 rfl) (notFace_of_selects (args := #[]) (mvT hZ (wd hw 47 rfl))) (wd hw 47 rfl) (wd hw 46 rfl) (wd hw 48 rfl) (wd hw 3 rfl) (by decide) (a := a3) F59 (argsL := []) (rest := []) rfl rfl (ps := []) (rt := (some .int)) (by decide) rfl (W := 0) (Nat.le_of_eq rfl) (by decide) (by decide) (by decide) (by decide) (by rw [hml]; rfl) (hb hby at_109) (rfl : 109 + 3 = 112) fun v48 T48 hh48 L48 X48 eh48 Q48 => ?_
      obtain ⟨rfl, Pc48⟩ := Q48
      have P48 := P29.call Pc48 all0
      show OGo p e below K T48 (mkF m 112 #[.val (.int p1), .val (.int p2), .val (.int p3), .val (.int p4), .val (.int p5), .val (.float (FP.i2f p1)), .val (.float (FP.i2f p2)), .val (.float (FP.i2f p3)), .val (.float (FP.i2f p4)), .val (.ref a1), .val (.ref a3), .val (.int (0 : Int32)), .val (.float (FP.i2f p1)), .unset, .unset] [(.int (3 : Int32))])
      refine g_istore X48 hx (hb hby at_112) (rfl : 112 + 2 = 114) (Ls' := #[.val (.int p1), .val (.int p2), .val (.int p3), .val (.int p4), .val (.int p5), .val (.float (FP.i2f p1)), .val (.float (FP.i2f p2)), .val (.float (FP.i2f p3)), .val (.float (FP.i2f p4)), .val (.ref a1), .val (.ref a3), .val (.int (0 : Int32)), .val (.float (FP.i2f p1)), .val (.int (3 : Int32)), .unset]) rfl ?_
      refine g_iload X48 hx (hb hby at_114) (rfl : 114 + 2 = 116) rfl ?_
      refine g_ifY X48 hx (hb hby at_116) (XT.i0_eq_t (by decide)) (by decide) (pc' := 139) (by decide) ?_
      refine g_iloadN X48 hx (hb hby at_139) (rfl : 139 + 1 = 140) rfl ?_
      refine g_ifN X48 hx (hb hby at_140) (XT.i0_ge_f hx0) (rfl : 140 + 3 = 143) ?_
      refine g_fload X48 hx (hb hby at_143) (rfl : 143 + 2 = 145) rfl ?_
      refine g_goto X48 hx (hb hby at_145) (by decide) (pc' := 150) (by decide) ?_
      refine g_fstore X48 hx (hb hby at_150) (rfl : 150 + 2 = 152) (Ls' := #[.val (.int p1), .val (.int p2), .val (.int p3), .val (.int p4), .val (.int p5), .val (.float (FP.i2f p1)), .val (.float (FP.i2f p2)), .val (.float (FP.i2f p3)), .val (.float (FP.i2f p4)), .val (.ref a1), .val (.ref a3), .val (.int (0 : Int32)), .val (.float (FP.i2f p1)), .val (.int (3 : Int32)), .val (.float (FP.i2f p1))]) rfl ?_
      refine g_fload X48 hx (hb hby at_152) (rfl : 152 + 2 = 154) rfl ?_
      refine g_fload X48 hx (hb hby at_154) (rfl : 154 + 2 = 156) rfl ?_
      refine g_fcmp X48 hx (hb hby at_156) (rfl : 156 + 1 = 157) ?_
      refine g_ifN X48 hx (hb hby at_157) (XT.i0_ne_f (selfcmp _ _)) (rfl : 157 + 3 = 160) ?_
      refine g_iload X48 hx (hb hby at_160) (rfl : 160 + 2 = 162) rfl ?_
      refine g_iconst X48 hx (3 : Int32) (hb hby at_162) (rfl : 162 + 1 = 163) (by decide) ?_
      refine g_icmpN X48 hx (hb hby at_163) (XT.ii_ne_f (by decide)) (rfl : 163 + 3 = 166) ?_
      refine g_iconst X48 hx (1 : Int32) (hb hby at_166) (rfl : 166 + 1 = 167) (by decide) ?_
      refine g_goto X48 hx (hb hby at_167) (by decide) (pc' := 171) (by decide) ?_
      exact g_ret X48 hx hret hlk rfl (Or.inl ⟨rfl, Or.inr (Or.inl rfl), _, rfl⟩) (hb hby at_171) (by decide) (by decide) eh48 hK ⟨rfl, P48⟩
    · have F61 := (fldP F26 Pc25 (ninS ne11 (ninS ne12 nin0)))
      have F62 := (fldP F27 Pc25 (ninS ne11 (ninS ne12 nin0)))
      have F63 := (fldP (fldP (fldP (fldP G9_7 Pc10 (ninS ne11 (ninS ne12 (ninS ne13 (ninS ne14 (ninS ne15 nin0)))))) Pc17 (ninS ne11 (ninS ne12 nin0))) Pc21 (ninS ne11 (ninS ne12 nin0))) Pc25 (ninS ne11 (ninS ne12 nin0)))
      have F64 := (fldP (fldP (fldP (fldP G9_8 Pc10 (ninS ne11 (ninS ne12 (ninS ne13 (ninS ne14 (ninS ne15 nin0)))))) Pc17 (ninS ne11 (ninS ne12 nin0))) Pc21 (ninS ne11 (ninS ne12 nin0))) Pc25 (ninS ne11 (ninS ne12 nin0)))
      have F65 := (fldP (fldP (fldP (fldP G9_9 Pc10 (ninS ne11 (ninS ne12 (ninS ne13 (ninS ne14 (ninS ne15 nin0)))))) Pc17 (ninS ne11 (ninS ne12 nin0))) Pc21 (ninS ne11 (ninS ne12 nin0))) Pc25 (ninS ne11 (ninS ne12 nin0)))
      have F66 := (aryP (aryP (aryP G10_2 Pc17 (ninS (Ne.symm G9_16) (ninS (Ne.symm G9_19) nin0))) Pc21 (ninS (Ne.symm G9_16) (ninS (Ne.symm G9_19) nin0))) Pc25 (ninS (Ne.symm G9_16) (ninS (Ne.symm G9_19) nin0)))
      have F67 := (aryP (aryP (aryP G10_3 Pc17 (ninS (Ne.symm G9_17) (ninS (Ne.symm G9_20) nin0))) Pc21 (ninS (Ne.symm G9_17) (ninS (Ne.symm G9_20) nin0))) Pc25 (ninS (Ne.symm G9_17) (ninS (Ne.symm G9_20) nin0)))
      have F68 := (aryP (aryP (aryP G10_4 Pc17 (ninS (Ne.symm G9_18) (ninS (Ne.symm G9_21) nin0))) Pc21 (ninS (Ne.symm G9_18) (ninS (Ne.symm G9_21) nin0))) Pc25 (ninS (Ne.symm G9_18) (ninS (Ne.symm G9_21) nin0)))
      have F69 := (B1.wr W2)
      have ne70 : a1 ≠ a3 := Nat.ne_of_lt (Nat.lt_of_lt_of_le F69.lt (Nat.le_of_eq q3.symm))
      have F71 := (F69.ext E3)
      have ne72 : a1 ≠ mi_9 := Nat.ne_of_lt (Nat.lt_of_lt_of_le F71.lt G9_4)
      have ne73 : a1 ≠ nb_9 := Nat.ne_of_lt (Nat.lt_of_lt_of_le F71.lt G9_3)
      have ne74 : a1 ≠ be_9 := Nat.ne_of_lt (Nat.lt_of_lt_of_le F71.lt G9_2)
      have ne75 : a1 ≠ va_9 := Nat.ne_of_lt (Nat.lt_of_lt_of_le F71.lt G9_1)
      have ne76 : a1 ≠ fe_9 := Nat.ne_of_lt (Nat.lt_of_lt_of_le F71.lt G9_0)
      have F77 := (aryP (aryP (aryP (aryP (aryP (aryE A2 E3) Pc9 (ninS ne70 nin0)) Pc10 (ninS ne76 (ninS ne75 (ninS ne74 (ninS ne73 (ninS ne72 nin0)))))) Pc17 (ninS ne76 (ninS ne75 nin0))) Pc21 (ninS ne76 (ninS ne75 nin0))) Pc25 (ninS ne76 (ninS ne75 nin0)))
      have F78 := (exaP F28 Pc25)
      refine g_virtual X25 hx hZ hown eh25 (rm_out_ge hw a3 fe_9 va_9 be_9 nb_9 mi_9 kfe_9 kva_9 kbe_9 knb_9 kmi_9 a1 k1 (FP.i2f p4) (FP.i2f p1) (FP.i2f p2) F61 F62 F63 F64 F65 G25_0 G25_1 F66 F67 F68 F77 (selfcmp _ _) (fun q => hx0 (signcmp.mp q))) (C := "com/example/twofold/twofold/ltr/DecisionTree") (wd hw 35 rfl) (wd hw 36 rfl) (notFace_of_selects (args := #[]) (mvT hZ (wd hw 38 rfl))) (wd hw 38 rfl) (wd hw 37 rfl) (wd hw 39 rfl) (wd hw 3 rfl) (by decide) (a := a3) F78 (argsL := [(.ref a1)]) (rest := []) rfl rfl (ps := [(.array .float)]) (rt := (some .float)) (by decide) rfl (W := 0) (Nat.le_of_eq rfl) (by decide) (by decide) (by decide) (by decide) (by rw [hml]; rfl) (hb hby at_102) (rfl : 102 + 3 = 105) fun v60 T60 hh60 L60 X60 eh60 Q60 => ?_
      obtain ⟨rfl, Pc60⟩ := Q60
      have P60 := P25.call Pc60 all0
      show OGo p e below K T60 (mkF m 105 #[.val (.int p1), .val (.int p2), .val (.int p3), .val (.int p4), .val (.int p5), .val (.float (FP.i2f p1)), .val (.float (FP.i2f p2)), .val (.float (FP.i2f p3)), .val (.float (FP.i2f p4)), .val (.ref a1), .val (.ref a3), .val (.int (0 : Int32)), .unset, .unset, .unset] [(.float (FP.i2f p2))])
      refine g_fstore X60 hx (hb hby at_105) (rfl : 105 + 2 = 107) (Ls' := #[.val (.int p1), .val (.int p2), .val (.int p3), .val (.int p4), .val (.int p5), .val (.float (FP.i2f p1)), .val (.float (FP.i2f p2)), .val (.float (FP.i2f p3)), .val (.float (FP.i2f p4)), .val (.ref a1), .val (.ref a3), .val (.int (0 : Int32)), .val (.float (FP.i2f p2)), .unset, .unset]) rfl ?_
      refine g_aload X60 hx (hb hby at_107) (rfl : 107 + 2 = 109) rfl rfl ?_
      have F80 := (fldP F61 Pc60 nin0)
      have F81 := (fldP F62 Pc60 nin0)
      have F82 := (fldP F63 Pc60 nin0)
      have F83 := (fldP F64 Pc60 nin0)
      have F84 := (fldP F65 Pc60 nin0)
      have F85 := (aryP G25_0 Pc60 nin0)
      have F86 := (aryP G25_1 Pc60 nin0)
      have F87 := (aryP F66 Pc60 nin0)
      have F88 := (aryP F67 Pc60 nin0)
      have F89 := (aryP F68 Pc60 nin0)
      have F90 := (exaP F78 Pc60)
      refine g_virtual X60 hx hZ hown eh60 (rm_stepss hw a3 fe_9 va_9 be_9 nb_9 mi_9 kfe_9 kva_9 kbe_9 knb_9 kmi_9 FP.fconst0 (FP.i2f p1) (FP.i2f p2) F80 F81 F82 F83 F84 F85 F86 F87 F88 F89) (C := "com/example/twofold/twofold/ltr/DecisionTree") (wd hw 44 rfl) (wd hw 45 rfl) (notFace_of_selects (args := #[]) (mvT hZ (wd hw 47 rfl))) (wd hw 47 rfl) (wd hw 46 rfl) (wd hw 48 rfl) (wd hw 3 rfl) (by decide) (a := a3) F90 (argsL := []) (rest := []) rfl rfl (ps := []) (rt := (some .int)) (by decide) rfl (W := 0) (Nat.le_of_eq rfl) (by decide) (by decide) (by decide) (by decide) (by rw [hml]; rfl) (hb hby at_109) (rfl : 109 + 3 = 112) fun v79 T79 hh79 L79 X79 eh79 Q79 => ?_
      obtain ⟨rfl, Pc79⟩ := Q79
      have P79 := P60.call Pc79 all0
      show OGo p e below K T79 (mkF m 112 #[.val (.int p1), .val (.int p2), .val (.int p3), .val (.int p4), .val (.int p5), .val (.float (FP.i2f p1)), .val (.float (FP.i2f p2)), .val (.float (FP.i2f p3)), .val (.float (FP.i2f p4)), .val (.ref a1), .val (.ref a3), .val (.int (0 : Int32)), .val (.float (FP.i2f p2)), .unset, .unset] [(.int (3 : Int32))])
      refine g_istore X79 hx (hb hby at_112) (rfl : 112 + 2 = 114) (Ls' := #[.val (.int p1), .val (.int p2), .val (.int p3), .val (.int p4), .val (.int p5), .val (.float (FP.i2f p1)), .val (.float (FP.i2f p2)), .val (.float (FP.i2f p3)), .val (.float (FP.i2f p4)), .val (.ref a1), .val (.ref a3), .val (.int (0 : Int32)), .val (.float (FP.i2f p2)), .val (.int (3 : Int32)), .unset]) rfl ?_
      refine g_iload X79 hx (hb hby at_114) (rfl : 114 + 2 = 116) rfl ?_
      refine g_ifY X79 hx (hb hby at_116) (XT.i0_eq_t (by decide)) (by decide) (pc' := 139) (by decide) ?_
      refine g_iloadN X79 hx (hb hby at_139) (rfl : 139 + 1 = 140) rfl ?_
      refine g_ifY X79 hx (hb hby at_140) (XT.i0_ge_t hx0) (by decide) (pc' := 148) (by decide) ?_
      refine g_fload X79 hx (hb hby at_148) (rfl : 148 + 2 = 150) rfl ?_
      refine g_fstore X79 hx (hb hby at_150) (rfl : 150 + 2 = 152) (Ls' := #[.val (.int p1), .val (.int p2), .val (.int p3), .val (.int p4), .val (.int p5), .val (.float (FP.i2f p1)), .val (.float (FP.i2f p2)), .val (.float (FP.i2f p3)), .val (.float (FP.i2f p4)), .val (.ref a1), .val (.ref a3), .val (.int (0 : Int32)), .val (.float (FP.i2f p2)), .val (.int (3 : Int32)), .val (.float (FP.i2f p2))]) rfl ?_
      refine g_fload X79 hx (hb hby at_152) (rfl : 152 + 2 = 154) rfl ?_
      refine g_fload X79 hx (hb hby at_154) (rfl : 154 + 2 = 156) rfl ?_
      refine g_fcmp X79 hx (hb hby at_156) (rfl : 156 + 1 = 157) ?_
      refine g_ifN X79 hx (hb hby at_157) (XT.i0_ne_f (selfcmp _ _)) (rfl : 157 + 3 = 160) ?_
      refine g_iload X79 hx (hb hby at_160) (rfl : 160 + 2 = 162) rfl ?_
      refine g_iconst X79 hx (3 : Int32) (hb hby at_162) (rfl : 162 + 1 = 163) (by decide) ?_
      refine g_icmpN X79 hx (hb hby at_163) (XT.ii_ne_f (by decide)) (rfl : 163 + 3 = 166) ?_
      refine g_iconst X79 hx (1 : Int32) (hb hby at_166) (rfl : 166 + 1 = 167) (by decide) ?_
      refine g_goto X79 hx (hb hby at_167) (by decide) (pc' := 171) (by decide) ?_
      exact g_ret X79 hx hret hlk rfl (Or.inl ⟨rfl, Or.inr (Or.inl rfl), _, rfl⟩) (hb hby at_171) (by decide) (by decide) eh79 hK ⟨rfl, P79⟩
  · refine g_ifN X25 hx (hb hby at_75) (XT.i0_eq_f hr) (rfl : 75 + 3 = 78) ?_
    refine g_iconst X25 hx (1 : Int32) (hb hby at_78) (rfl : 78 + 1 = 79) (by decide) ?_
    refine g_goto X25 hx (hb hby at_79) (by decide) (pc' := 83) (by decide) ?_
    refine g_istore X25 hx (hb hby at_83) (rfl : 83 + 2 = 85) (Ls' := #[.val (.int p1), .val (.int p2), .val (.int p3), .val (.int p4), .val (.int p5), .val (.float (FP.i2f p1)), .val (.float (FP.i2f p2)), .val (.float (FP.i2f p3)), .val (.float (FP.i2f p4)), .val (.ref a1), .val (.ref a3), .val (.int (1 : Int32)), .unset, .unset, .unset]) rfl ?_
    refine g_iload X25 hx (hb hby at_85) (rfl : 85 + 2 = 87) rfl ?_
    refine g_ifN X25 hx (hb hby at_87) (XT.i0_eq_f (by decide)) (rfl : 87 + 3 = 90) ?_
    refine g_aload X25 hx (hb hby at_90) (rfl : 90 + 2 = 92) rfl rfl ?_
    refine g_iconst X25 hx (0 : Int32) (hb hby at_92) (rfl : 92 + 1 = 93) (by decide) ?_
    refine g_fload X25 hx (hb hby at_93) (rfl : 93 + 2 = 95) rfl ?_
    have F92 := (fldP F26 Pc25 (ninS ne11 (ninS ne12 nin0)))
    have F93 := (fldP F27 Pc25 (ninS ne11 (ninS ne12 nin0)))
    have F94 := (exaP F28 Pc25)
    refine g_virtual X25 hx hZ hown eh25 (rm_leaf0 hw a3 fe_9 va_9 kfe_9 kva_9 (FP.i2f p3) (0 : Int32) (-1 : Int32) (-1 : Int32) FP.fconst0 (FP.i2f p1) (FP.i2f p2) F92 F93 G25_0 G25_1 G9_15 ne11 ne12) (C := "com/example/twofold/twofold/ltr/DecisionTree") (wd hw 30 rfl) (wd hw 31 rfl) (notFace_of_selects (args := #[]) (mvT hZ (wd hw 33 rfl))) (wd hw 33 rfl) (wd hw 32 rfl) (wd hw 34 rfl) (wd hw 3 rfl) (by decide) (a := a3) F94 (argsL := [(.int (0 : Int32)), (.float (FP.i2f p3))]) (rest := []) rfl rfl (ps := [.int, .float]) (rt := none) (by decide) rfl (W := 0) (Nat.le_of_eq rfl) (by decide) (by decide) (by decide) (by decide) (by rw [hml]; rfl) (hb hby at_95) (rfl : 95 + 3 = 98) fun v91 T91 hh91 L91 X91 eh91 Q91 => ?_
    obtain ⟨rfl, Pc91, G91_0, G91_1⟩ := Q91
    have P91 := P25.call Pc91 (allS (Or.inr (Nat.le_trans P3.size G9_0)) (allS (Or.inr (Nat.le_trans P3.size G9_1)) all0))
    show OGo p e below K T91 (mkF m 98 #[.val (.int p1), .val (.int p2), .val (.int p3), .val (.int p4), .val (.int p5), .val (.float (FP.i2f p1)), .val (.float (FP.i2f p2)), .val (.float (FP.i2f p3)), .val (.float (FP.i2f p4)), .val (.ref a1), .val (.ref a3), .val (.int (1 : Int32)), .unset, .unset, .unset] [])
    refine g_aload X91 hx (hb hby at_98) (rfl : 98 + 2 = 100) rfl rfl ?_
    refine g_aload X91 hx (hb hby at_100) (rfl : 100 + 2 = 102) rfl rfl ?_
    have F96 := (fldP F92 Pc91 (ninS ne11 (ninS ne12 nin0)))
    have F97 := (fldP F93 Pc91 (ninS ne11 (ninS ne12 nin0)))
    have F98 := (fldP (fldP (fldP (fldP (fldP G9_7 Pc10 (ninS ne11 (ninS ne12 (ninS ne13 (ninS ne14 (ninS ne15 nin0)))))) Pc17 (ninS ne11 (ninS ne12 nin0))) Pc21 (ninS ne11 (ninS ne12 nin0))) Pc25 (ninS ne11 (ninS ne12 nin0))) Pc91 (ninS ne11 (ninS ne12 nin0)))
    have F99 := (fldP (fldP (fldP (fldP (fldP G9_8 Pc10 (ninS ne11 (ninS ne12 (ninS ne13 (ninS ne14 (ninS ne15 nin0)))))) Pc17 (ninS ne11 (ninS ne12 nin0))) Pc21 (ninS ne11 (ninS ne12 nin0))) Pc25 (ninS ne11 (ninS ne12 nin0))) Pc91 (ninS ne11 (ninS ne12 nin0)))
    have F100 := (fldP (fldP (fldP (fldP (fldP G9_9 Pc10 (ninS ne11 (ninS ne12 (ninS ne13 (ninS ne14 (ninS ne15 nin0)))))) Pc17 (ninS ne11 (ninS ne12 nin0))) Pc21 (ninS ne11 (ninS ne12 nin0))) Pc25 (ninS ne11 (ninS ne12 nin0))) Pc91 (ninS ne11 (ninS ne12 nin0)))
    have F101 := (aryP (aryP (aryP (aryP G10_2 Pc17 (ninS (Ne.symm G9_16) (ninS (Ne.symm G9_19) nin0))) Pc21 (ninS (Ne.symm G9_16) (ninS (Ne.symm G9_19) nin0))) Pc25 (ninS (Ne.symm G9_16) (ninS (Ne.symm G9_19) nin0))) Pc91 (ninS (Ne.symm G9_16) (ninS (Ne.symm G9_19) nin0)))
    have F102 := (aryP (aryP (aryP (aryP G10_3 Pc17 (ninS (Ne.symm G9_17) (ninS (Ne.symm G9_20) nin0))) Pc21 (ninS (Ne.symm G9_17) (ninS (Ne.symm G9_20) nin0))) Pc25 (ninS (Ne.symm G9_17) (ninS (Ne.symm G9_20) nin0))) Pc91 (ninS (Ne.symm G9_17) (ninS (Ne.symm G9_20) nin0)))
    have F103 := (aryP (aryP (aryP (aryP G10_4 Pc17 (ninS (Ne.symm G9_18) (ninS (Ne.symm G9_21) nin0))) Pc21 (ninS (Ne.symm G9_18) (ninS (Ne.symm G9_21) nin0))) Pc25 (ninS (Ne.symm G9_18) (ninS (Ne.symm G9_21) nin0))) Pc91 (ninS (Ne.symm G9_18) (ninS (Ne.symm G9_21) nin0)))
    have F104 := (B1.wr W2)
    have ne105 : a1 ≠ a3 := Nat.ne_of_lt (Nat.lt_of_lt_of_le F104.lt (Nat.le_of_eq q3.symm))
    have F106 := (F104.ext E3)
    have ne107 : a1 ≠ mi_9 := Nat.ne_of_lt (Nat.lt_of_lt_of_le F106.lt G9_4)
    have ne108 : a1 ≠ nb_9 := Nat.ne_of_lt (Nat.lt_of_lt_of_le F106.lt G9_3)
    have ne109 : a1 ≠ be_9 := Nat.ne_of_lt (Nat.lt_of_lt_of_le F106.lt G9_2)
    have ne110 : a1 ≠ va_9 := Nat.ne_of_lt (Nat.lt_of_lt_of_le F106.lt G9_1)
    have ne111 : a1 ≠ fe_9 := Nat.ne_of_lt (Nat.lt_of_lt_of_le F106.lt G9_0)
    have F112 := (aryP (aryP (aryP (aryP (aryP (aryP (aryE A2 E3) Pc9 (ninS ne105 nin0)) Pc10 (ninS ne111 (ninS ne110 (ninS ne109 (ninS ne108 (ninS ne107 nin0)))))) Pc17 (ninS ne111 (ninS ne110 nin0))) Pc21 (ninS ne111 (ninS ne110 nin0))) Pc25 (ninS ne111 (ninS ne110 nin0))) Pc91 (ninS ne111 (ninS ne110 nin0)))
    have F113 := (exaP F94 Pc91)
    refine g_virtual X91 hx hZ hown eh91 (rm_out_reset hw a3 fe_9 va_9 be_9 nb_9 mi_9 kfe_9 kva_9 kbe_9 knb_9 kmi_9 a1 k1 (FP.i2f p4) (FP.i2f p3) (FP.i2f p1) (FP.i2f p2) F96 F97 F98 F99 F100 G91_0 G91_1 F101 F102 F103 F112) (C := "com/example/twofold/twofold/ltr/DecisionTree") (wd hw 35 rfl) (wd hw 36 rfl) (notFace_of_selects (args := #[]) (mvT hZ (wd hw 38 rfl))) (wd hw 38 rfl) (wd hw 37 rfl) (wd hw 39 rfl) (wd hw 3 rfl) (by decide) (a := a3) F113 (argsL := [(.ref a1)]) (rest := []) rfl rfl (ps := [(.array .float)]) (rt := (some .float)) (by decide) rfl (W := 0) (Nat.le_of_eq rfl) (by decide) (by decide) (by decide) (by decide) (by rw [hml]; rfl) (hb hby at_102) (rfl : 102 + 3 = 105) fun v95 T95 hh95 L95 X95 eh95 Q95 => ?_
    obtain ⟨rfl, Pc95⟩ := Q95
    have P95 := P91.call Pc95 all0
    show OGo p e below K T95 (mkF m 105 #[.val (.int p1), .val (.int p2), .val (.int p3), .val (.int p4), .val (.int p5), .val (.float (FP.i2f p1)), .val (.float (FP.i2f p2)), .val (.float (FP.i2f p3)), .val (.float (FP.i2f p4)), .val (.ref a1), .val (.ref a3), .val (.int (1 : Int32)), .unset, .unset, .unset] [(.float (FP.i2f p3))])
    refine g_fstore X95 hx (hb hby at_105) (rfl : 105 + 2 = 107) (Ls' := #[.val (.int p1), .val (.int p2), .val (.int p3), .val (.int p4), .val (.int p5), .val (.float (FP.i2f p1)), .val (.float (FP.i2f p2)), .val (.float (FP.i2f p3)), .val (.float (FP.i2f p4)), .val (.ref a1), .val (.ref a3), .val (.int (1 : Int32)), .val (.float (FP.i2f p3)), .unset, .unset]) rfl ?_
    refine g_aload X95 hx (hb hby at_107) (rfl : 107 + 2 = 109) rfl rfl ?_
    have F115 := (fldP F96 Pc95 nin0)
    have F116 := (fldP F97 Pc95 nin0)
    have F117 := (fldP F98 Pc95 nin0)
    have F118 := (fldP F99 Pc95 nin0)
    have F119 := (fldP F100 Pc95 nin0)
    have F120 := (aryP G91_0 Pc95 nin0)
    have F121 := (aryP G91_1 Pc95 nin0)
    have F122 := (aryP F101 Pc95 nin0)
    have F123 := (aryP F102 Pc95 nin0)
    have F124 := (aryP F103 Pc95 nin0)
    have F125 := (exaP F113 Pc95)
    refine g_virtual X95 hx hZ hown eh95 (rm_stepsr hw a3 fe_9 va_9 be_9 nb_9 mi_9 kfe_9 kva_9 kbe_9 knb_9 kmi_9 (FP.i2f p3) (FP.i2f p1) (FP.i2f p2) F115 F116 F117 F118 F119 F120 F121 F122 F123 F124) (C := "com/example/twofold/twofold/ltr/DecisionTree") (wd hw 44 rfl) (wd hw 45 rfl) (notFace_of_selects (args := #[]) (mvT hZ (wd hw 47 rfl))) (wd hw 47 rfl) (wd hw 46 rfl) (wd hw 48 rfl) (wd hw 3 rfl) (by decide) (a := a3) F125 (argsL := []) (rest := []) rfl rfl (ps := []) (rt := (some .int)) (by decide) rfl (W := 0) (Nat.le_of_eq rfl) (by decide) (by decide) (by decide) (by decide) (by rw [hml]; rfl) (hb hby at_109) (rfl : 109 + 3 = 112) fun v114 T114 hh114 L114 X114 eh114 Q114 => ?_
    obtain ⟨rfl, Pc114⟩ := Q114
    have P114 := P95.call Pc114 all0
    show OGo p e below K T114 (mkF m 112 #[.val (.int p1), .val (.int p2), .val (.int p3), .val (.int p4), .val (.int p5), .val (.float (FP.i2f p1)), .val (.float (FP.i2f p2)), .val (.float (FP.i2f p3)), .val (.float (FP.i2f p4)), .val (.ref a1), .val (.ref a3), .val (.int (1 : Int32)), .val (.float (FP.i2f p3)), .unset, .unset] [(.int (2 : Int32))])
    refine g_istore X114 hx (hb hby at_112) (rfl : 112 + 2 = 114) (Ls' := #[.val (.int p1), .val (.int p2), .val (.int p3), .val (.int p4), .val (.int p5), .val (.float (FP.i2f p1)), .val (.float (FP.i2f p2)), .val (.float (FP.i2f p3)), .val (.float (FP.i2f p4)), .val (.ref a1), .val (.ref a3), .val (.int (1 : Int32)), .val (.float (FP.i2f p3)), .val (.int (2 : Int32)), .unset]) rfl ?_
    refine g_iload X114 hx (hb hby at_114) (rfl : 114 + 2 = 116) rfl ?_
    refine g_ifN X114 hx (hb hby at_116) (XT.i0_eq_f (by decide)) (rfl : 116 + 3 = 119) ?_
    refine g_fload X114 hx (hb hby at_119) (rfl : 119 + 2 = 121) rfl ?_
    refine g_fload X114 hx (hb hby at_121) (rfl : 121 + 2 = 123) rfl ?_
    refine g_fcmp X114 hx (hb hby at_123) (rfl : 123 + 1 = 124) ?_
    refine g_ifN X114 hx (hb hby at_124) (XT.i0_ne_f (selfcmp _ _)) (rfl : 124 + 3 = 127) ?_
    refine g_iload X114 hx (hb hby at_127) (rfl : 127 + 2 = 129) rfl ?_
    refine g_iconst X114 hx (2 : Int32) (hb hby at_129) (rfl : 129 + 1 = 130) (by decide) ?_
    refine g_icmpN X114 hx (hb hby at_130) (XT.ii_ne_f (by decide)) (rfl : 130 + 3 = 133) ?_
    refine g_iconst X114 hx (1 : Int32) (hb hby at_133) (rfl : 133 + 1 = 134) (by decide) ?_
    refine g_goto X114 hx (hb hby at_134) (by decide) (pc' := 138) (by decide) ?_
    exact g_ret X114 hx hret hlk rfl (Or.inl ⟨rfl, Or.inr (Or.inl rfl), _, rfl⟩) (hb hby at_138) (by decide) (by decide) eh114 hK ⟨rfl, P114⟩
set_option maxRecDepth 65536 in
set_option maxHeartbeats 40000000 in
theorem comes_1 {Post : Tables → Env → Array Value → State → Outcome → State → Prop} (hpost : ∀ tb e args s v u, (limb_1_1.after args s (.returned v) u = true ∧ limb_1_2.after args s (.returned v) u = true ∧ True) → Jvm.Pilot.@@N@@.Jvm.D.Framed s (.returned v) u (Jvm.fieldLocs frame_1_writes args s ++ Jvm.arrayLocs frame_1_arrays args s ++ Jvm.staticLocs frame_1_statics s) 32 128 → Post tb e args s (.returned v) u) :
    ArmFor flags0 classFile x code maxLocals ret World_1 tables_1 room_1 Calls_1 rest_1 Pre_1 Post := by
  intro l hfl _ _ p e ha hc hk s m args below hf hA hF happ hP
  obtain ⟨hcalls, hrest, hpre⟩ := hP
  obtain ⟨-, -, -, hnamed, -, -, -, hat⟩ := (Spec.applies_iff hf).mp happ
  obtain ⟨hg, hn⟩ := and_e (Cond.before_iff.mp (show (Jvm.Cond.and given_1 narrow_1).before args s = true from hpre))
  obtain ⟨h1, hgg⟩ := and_e hg
  obtain ⟨w0, w1, w2, w3, w4, rfl⟩ : ∃ w0 w1 w2 w3 w4 : Value, args = #[w0, w1, w2, w3, w4] := by
    have hs : args.size = 5 := by simpa [Cond.value, given_1] using h1
    obtain ⟨L⟩ := args
    match L, hs with
    | [w0, w1, w2, w3, w4], _ => exact ⟨w0, w1, w2, w3, w4, rfl⟩
  have hw := fun d (hd : d ∈ tables_1) => atoms_spec (ws := Jvm.Cond.code x code maxLocals ret :: tables_1) hat d (List.mem_cons_of_mem _ hd)
  have hfit : Fit s := fun {y c} hc i hi => by
    obtain ⟨ha, rfl⟩ := Array.getElem?_eq_some_iff.mp hc
    have q := List.all_eq_true.mp ((Array.all_eq_true_iff_forall_mem.mp hF) _ (Array.getElem_mem ha)) i (List.mem_range.mpr hi)
    simpa [Array.getElem?_eq_getElem hi] using q
  obtain ⟨ga0, gb0⟩ := and_e hgg
  obtain ⟨i0, ea0⟩ := is_v ga0
  obtain rfl : w0 = (.int i0) := Option.some.inj ea0
  obtain ⟨ga1, gb1⟩ := and_e gb0
  obtain ⟨i1, ea1⟩ := is_v ga1
  obtain rfl : w1 = (.int i1) := Option.some.inj ea1
  obtain ⟨ga2, gb2⟩ := and_e gb1
  obtain ⟨i2, ea2⟩ := is_v ga2
  obtain rfl : w2 = (.int i2) := Option.some.inj ea2
  obtain ⟨ga3, gb3⟩ := and_e gb2
  obtain ⟨i3, ea3⟩ := is_v ga3
  obtain rfl : w3 = (.int i3) := Option.some.inj ea3
  obtain ⟨i4, ea4⟩ := is_v gb3
  obtain rfl : w4 = (.int i4) := Option.some.inj ea4
  obtain ⟨n, o, r1, r2, r3, _, L, rfl, ⟨rfl, Pf⟩, hq⟩ := (rm0 hw i0 i1 i2 i3 i4) tables_1 p e ha hc hk s m _ below hf ((Spec.applies_iff_loose hf).mp happ).1 ⟨rfl, State.Warmed39.refl s, rfl⟩ trivial
  refine ⟨n, _, r1, r2, r3, hpost _ _ _ _ _ _ ⟨Cond.after_iff.mpr rfl, Cond.after_iff.mpr (eq_i res_at (Term.int_eval (1)) rfl), trivial⟩ ⟨hq.1, hq.2.1, (hq.2.2.sift fun y hy => Or.inr (Pf.fr y hy)).mono (by decide) (by decide)⟩⟩
theorem main_1_1 : Claimed_1_1 := comes_1 fun _ _ _ _ _ _ h hF => ⟨h.1, hF⟩
theorem main_1_2 : Claimed_1_2 := comes_1 fun _ _ _ _ _ _ h hF => ⟨h.2.1, hF⟩
end Jvm.Pilot.@@N@@
namespace Jvm.Pilot.@@N@@
open Jvm Jvm.ClassFile Sem Op Lib Jvm.Free Jvm.Stand Jvm.Pilot.@@N@@.Jvm.D
/-! MADE BY PROGRAM (witnessworld.py) out of the Statement's table words and the real class files: 16 classes; the members and pool entries that the words name. The judged class is class 1, her method 1. -/
namespace start1
open Jvm.ClassFile
def u (s : String) : CpInfo := .utf8 (stringToUtf16 s)
/-- a pool by its gaps: so many unusable entries, then the entry; so many at the end -/
def gap : Nat → List CpInfo → List CpInfo
  | 0, r => r
  | n + 1, r => .unusable :: gap n r
def poolList (es : List (Nat × CpInfo)) (last : Nat) : List CpInfo := es.foldr (fun e r => gap e.1 (e.2 :: r)) (gap last [])
def pool (es : List (Nat × CpInfo)) (last : Nat) : Array CpInfo := ⟨poolList es last⟩
def fileOf (pool : Array CpInfo) (this : Nat) (attrs : Array Attribute := #[]) (ms : Array MethodInfo := #[]) (fl : Nat := 33) (sup : Nat := 0) (ifs : Array Nat := #[]) (fds : Array FieldInfo := #[]) : ClassFile where
  minorVersion := 0
  majorVersion := 65
  constantPool := pool
  accessFlags := fl
  thisClass := this
  superClass := sup
  interfaces := ifs
  fields := fds
  methods := ms
  attributes := attrs
def plain (name : String) (sup : Option ClassId) : Class where
  name := name
  kind := .ordinary
  loader := none
  accessFlags := 33
  super := sup
  interfaces := #[]
  cf := none
  fields := #[]
  methods := #[]
  instanceTypes := #[]
  staticTypes := #[]
  resolved := #[]
  callSites := []
  init := .initialized
  statics := none
  mirror := none

def pool0 : Array CpInfo := pool [(5, u "<init>"), (0, u "()V"), (1, .class_ 10), (1, u "java/lang/Object")] 113

def k0c0 : Code := { maxStack := 0, maxLocals := 1, code := object_method_1_code, exceptionTable := #[], attributes := #[] }
def k0m0 : Method := { name := "<init>", desc := "()V", sig := { parameters := [], returnType := none }, accessFlags := 1, code := some k0c0 }
/-- java/lang/Object -/
def k0 : Class := { plain "java/lang/Object" none with
  accessFlags := 33
  interfaces := #[]
  cf := some (fileOf pool0 8 #[] #[{ accessFlags := 1, nameIndex := 5, descriptorIndex := 6, attributes := #[] }] 33 0 #[] #[])
  fields := #[]
  methods := #[k0m0]
  instanceTypes := #[]
  staticTypes := #[]
  resolved := Array.replicate 124 none
  statics := none }

def pool1 : Array CpInfo := pool [(2, .class_ 4), (1, u "java/lang/Object"), (0, u "<init>"), (0, u "()V"), (0, .class_ 8), (0, u "com/example/twofold/twofold/ltr/DecisionTree"), (0, .methodref 7 10), (0, .nameAndType 5 11), (0, u "(I)V"), (0, .methodref 7 13), (0, .nameAndType 14 15), (0, u "split"), (0, u "(IIFIII)V"), (0, .methodref 7 17), (0, .nameAndType 18 19), (0, u "leaf"), (0, u "(IF)V"), (0, .methodref 7 21), (0, .nameAndType 22 23), (0, u "output"), (0, u "([F)F"), (0, .methodref 7 25), (0, .nameAndType 26 27), (0, u "steps"), (0, u "()I"), (0, .class_ 29), (0, u "com/example/twofold/twofold/ltr/DecisionTreeLeafPinLaw"), (2, u "law"), (0, u "(IIIII)Z")] 5

def k1m0 : Method := { name := "<init>", desc := "()V", sig := { parameters := [], returnType := none }, accessFlags := 1, code := none }
def k1c1 : Code := { maxStack := 7, maxLocals := 15, code := code, exceptionTable := #[], attributes := #[] }
def k1m1 : Method := { name := "law", desc := "(IIIII)Z", sig := { parameters := [.int, .int, .int, .int, .int], returnType := some .boolean }, accessFlags := 9, code := some k1c1 }
/-- com/example/twofold/twofold/ltr/DecisionTreeLeafPinLaw -/
def k1 : Class := { plain "com/example/twofold/twofold/ltr/DecisionTreeLeafPinLaw" (some 0) with
  accessFlags := 49
  interfaces := #[]
  cf := some (fileOf pool1 28 #[] #[{ accessFlags := 1, nameIndex := 5, descriptorIndex := 6, attributes := #[] }, { accessFlags := 9, nameIndex := 32, descriptorIndex := 33, attributes := #[] }] 49 2 #[] #[])
  fields := #[]
  methods := #[k1m0, k1m1]
  instanceTypes := #[]
  staticTypes := #[]
  resolved := Array.replicate 39 none
  statics := none }

def pool2 : Array CpInfo := pool [(1, .methodref 2 3), (0, .class_ 4), (0, .nameAndType 5 6), (0, u "java/lang/Object"), (0, u "<init>"), (0, u "()V"), (0, .fieldref 8 9), (0, .class_ 10), (0, .nameAndType 11 12), (0, u "com/example/twofold/twofold/ltr/DecisionTree"), (0, u "feature"), (0, u "[I"), (0, .methodref 14 15), (0, .class_ 16), (0, .nameAndType 17 18), (0, u "java/util/Arrays"), (0, u "fill"), (0, u "([II)V"), (0, .fieldref 8 20), (0, .nameAndType 21 22), (0, u "value"), (0, u "[F"), (0, .fieldref 8 24), (0, .nameAndType 25 12), (0, u "below"), (0, .fieldref 8 27), (0, .nameAndType 28 12), (0, u "notBelow"), (0, .fieldref 8 30), (0, .nameAndType 31 12), (0, u "missing"), (9, .methodref 42 43), (0, .class_ 44), (0, .nameAndType 45 46), (0, u "java/lang/Math"), (0, u "max"), (0, u "(II)I"), (0, .methodref 48 49), (0, .class_ 50), (0, .nameAndType 51 52), (0, u "java/lang/Float"), (0, u "isNaN"), (0, u "(F)Z"), (0, u "(I)V"), (2, u "leaf"), (0, u "(IF)V"), (0, u "split"), (0, u "(IIFIII)V"), (2, u "steps"), (0, u "()I"), (0, u "output"), (0, u "([F)F")] 17

def k2c0 : Code := { maxStack := 2, maxLocals := 2, code := prog_27_method_1_code, exceptionTable := #[], attributes := #[] }
def k2m0 : Method := { name := "<init>", desc := "(I)V", sig := { parameters := [.int], returnType := none }, accessFlags := 0, code := some k2c0 }
def k2c1 : Code := { maxStack := 3, maxLocals := 3, code := prog_27_method_2_code, exceptionTable := #[], attributes := #[] }
def k2m1 : Method := { name := "leaf", desc := "(IF)V", sig := { parameters := [.int, .float], returnType := none }, accessFlags := 0, code := some k2c1 }
def k2c2 : Code := { maxStack := 4, maxLocals := 11, code := prog_27_method_3_code, exceptionTable := #[], attributes := #[] }
def k2m2 : Method := { name := "split", desc := "(IIFIII)V", sig := { parameters := [.int, .int, .float, .int, .int, .int], returnType := none }, accessFlags := 0, code := some k2c2 }
def k2c3 : Code := { maxStack := 7, maxLocals := 4, code := prog_27_method_4_code, exceptionTable := #[], attributes := #[] }
def k2m3 : Method := { name := "steps", desc := "()I", sig := { parameters := [], returnType := some .int }, accessFlags := 0, code := some k2c3 }
def k2c4 : Code := { maxStack := 3, maxLocals := 4, code := prog_27_method_5_code, exceptionTable := #[], attributes := #[] }
def k2m4 : Method := { name := "output", desc := "([F)F", sig := { parameters := [(.array .float)], returnType := some .float }, accessFlags := 0, code := some k2c4 }
/-- com/example/twofold/twofold/ltr/DecisionTree -/
def k2 : Class := { plain "com/example/twofold/twofold/ltr/DecisionTree" (some 0) with
  accessFlags := 48
  interfaces := #[]
  cf := some (fileOf pool2 8 #[] #[{ accessFlags := 0, nameIndex := 5, descriptorIndex := 53, attributes := #[] }, { accessFlags := 0, nameIndex := 56, descriptorIndex := 57, attributes := #[] }, { accessFlags := 0, nameIndex := 58, descriptorIndex := 59, attributes := #[] }, { accessFlags := 0, nameIndex := 62, descriptorIndex := 63, attributes := #[] }, { accessFlags := 0, nameIndex := 64, descriptorIndex := 65, attributes := #[] }] 48 2 #[] #[{ accessFlags := 18, nameIndex := 11, descriptorIndex := 12, attributes := #[] }, { accessFlags := 18, nameIndex := 21, descriptorIndex := 22, attributes := #[] }, { accessFlags := 18, nameIndex := 25, descriptorIndex := 12, attributes := #[] }, { accessFlags := 18, nameIndex := 28, descriptorIndex := 12, attributes := #[] }, { accessFlags := 18, nameIndex := 31, descriptorIndex := 12, attributes := #[] }])
  fields := #[{ name := "feature", type := (.array .int), accessFlags := 18, slot := 0, constantValue := 0 }, { name := "value", type := (.array .float), accessFlags := 18, slot := 1, constantValue := 0 }, { name := "below", type := (.array .int), accessFlags := 18, slot := 2, constantValue := 0 }, { name := "notBelow", type := (.array .int), accessFlags := 18, slot := 3, constantValue := 0 }, { name := "missing", type := (.array .int), accessFlags := 18, slot := 4, constantValue := 0 }]
  methods := #[k2m0, k2m1, k2m2, k2m3, k2m4]
  instanceTypes := #[(.array .int), (.array .float), (.array .int), (.array .int), (.array .int)]
  staticTypes := #[]
  resolved := Array.replicate 83 none
  statics := none }

def pool3 : Array CpInfo := pool [(2, .class_ 4), (1, u "java/lang/Object"), (0, u "<init>"), (0, u "()V"), (7, .class_ 16), (1, u "java/util/Arrays"), (57, .class_ 76), (1, u "java/util/Arrays$NaturalOrder"), (36, .class_ 115), (1, u "java/util/Arrays$LegacyMergeSort"), (1, u "Z"), (257, .class_ 376), (0, u "java/util/Arrays$ArrayList"), (68, u "$assertionsDisabled"), (269, u "MIN_ARRAY_SORT_GRAN"), (0, u "I"), (2, u "INSERTIONSORT_THRESHOLD"), (120, u "fill"), (4, u "([II)V"), (129, .class_ 976), (0, u "java/util/Arrays$ArrayItr")] 52

def k3m0 : Method := { name := "<init>", desc := "()V", sig := { parameters := [], returnType := none }, accessFlags := 2, code := none }
def k3c1 : Code := { maxStack := 3, maxLocals := 4, code := jdk_65_method_103_code, exceptionTable := #[], attributes := #[] }
def k3m1 : Method := { name := "fill", desc := "([II)V", sig := { parameters := [(.array .int), .int], returnType := none }, accessFlags := 9, code := some k3c1 }
/-- java/util/Arrays -/
def k3 : Class := { plain "java/util/Arrays" (some 0) with
  accessFlags := 49
  interfaces := #[]
  cf := some (fileOf pool3 14 #[.nestMembers #[975, 375, 113, 74]] #[{ accessFlags := 2, nameIndex := 5, descriptorIndex := 6, attributes := #[] }, { accessFlags := 9, nameIndex := 840, descriptorIndex := 845, attributes := #[] }] 49 2 #[] #[{ accessFlags := 26, nameIndex := 715, descriptorIndex := 716, attributes := #[] }, { accessFlags := 26, nameIndex := 719, descriptorIndex := 716, attributes := #[] }, { accessFlags := 4120, nameIndex := 445, descriptorIndex := 117, attributes := #[] }])
  fields := #[{ name := "MIN_ARRAY_SORT_GRAN", type := .int, accessFlags := 26, slot := 0, constantValue := 0 }, { name := "INSERTIONSORT_THRESHOLD", type := .int, accessFlags := 26, slot := 1, constantValue := 0 }, { name := "$assertionsDisabled", type := .boolean, accessFlags := 4120, slot := 2, constantValue := 0 }]
  methods := #[k3m0, k3m1]
  instanceTypes := #[]
  staticTypes := #[.int, .int, .boolean]
  resolved := Array.replicate 1029 none
  statics := none }

def pool4 : Array CpInfo := pool [(1, .class_ 2), (0, u "java/io/Serializable"), (0, .class_ 4), (0, u "java/lang/Object")] 2

/-- java/io/Serializable -/
def k4 : Class := { plain "java/io/Serializable" (some 0) with
  accessFlags := 1537
  interfaces := #[]
  cf := some (fileOf pool4 1 #[] #[] 1537 3 #[] #[])
  fields := #[]
  methods := #[]
  instanceTypes := #[]
  staticTypes := #[]
  resolved := Array.replicate 7 none
  statics := none }

def pool5 : Array CpInfo := pool [(2, .class_ 4), (1, u "java/lang/Object"), (0, u "<init>"), (0, u "()V"), (1, .class_ 10), (1, u "java/lang/Number"), (2, .class_ 14), (0, u "java/io/Serializable"), (0, u "serialVersionUID"), (0, u "J")] 20

def k5m0 : Method := { name := "<init>", desc := "()V", sig := { parameters := [], returnType := none }, accessFlags := 1, code := none }
/-- java/lang/Number -/
def k5 : Class := { plain "java/lang/Number" (some 0) with
  accessFlags := 1057
  interfaces := #[4]
  cf := some (fileOf pool5 8 #[] #[{ accessFlags := 1, nameIndex := 5, descriptorIndex := 6, attributes := #[] }] 1057 2 #[13] #[{ accessFlags := 26, nameIndex := 15, descriptorIndex := 16, attributes := #[] }])
  fields := #[{ name := "serialVersionUID", type := .long, accessFlags := 26, slot := 0, constantValue := 0 }]
  methods := #[k5m0]
  instanceTypes := #[]
  staticTypes := #[.long]
  resolved := Array.replicate 37 none
  statics := none }

def pool6 : Array CpInfo := pool [(1, .class_ 2), (0, u "java/lang/Comparable"), (0, .class_ 4), (0, u "java/lang/Object")] 7

/-- java/lang/Comparable -/
def k6 : Class := { plain "java/lang/Comparable" (some 0) with
  accessFlags := 1537
  interfaces := #[]
  cf := some (fileOf pool6 1 #[] #[] 1537 3 #[] #[])
  fields := #[]
  methods := #[]
  instanceTypes := #[]
  staticTypes := #[]
  resolved := Array.replicate 12 none
  statics := none }

def pool7 : Array CpInfo := pool [(1, .class_ 2), (0, u "java/lang/constant/Constable"), (0, .class_ 4), (0, u "java/lang/Object")] 6

/-- java/lang/constant/Constable -/
def k7 : Class := { plain "java/lang/constant/Constable" (some 0) with
  accessFlags := 1537
  interfaces := #[]
  cf := some (fileOf pool7 1 #[] #[] 1537 3 #[] #[])
  fields := #[]
  methods := #[]
  instanceTypes := #[]
  staticTypes := #[]
  resolved := Array.replicate 11 none
  statics := none }

def pool8 : Array CpInfo := pool [(1, .class_ 2), (0, u "java/lang/constant/ConstantDesc"), (0, .class_ 4), (0, u "java/lang/Object")] 32

/-- java/lang/constant/ConstantDesc -/
def k8 : Class := { plain "java/lang/constant/ConstantDesc" (some 0) with
  accessFlags := 1537
  interfaces := #[]
  cf := some (fileOf pool8 1 #[] #[] 1537 3 #[] #[])
  fields := #[]
  methods := #[]
  instanceTypes := #[]
  staticTypes := #[]
  resolved := Array.replicate 37 none
  statics := none }

def pool9 : Array CpInfo := pool [(1, .class_ 2), (0, u "java/lang/Float"), (48, .class_ 53), (1, u "java/lang/Number"), (3, u "value"), (0, u "F"), (2, u "isNaN"), (0, u "(F)Z"), (28, u "$assertionsDisabled"), (0, u "Z"), (52, u "TYPE"), (0, u "Ljava/lang/Class;"), (0, .class_ 148), (0, u "java/lang/Comparable"), (0, .class_ 150), (0, u "java/lang/constant/Constable"), (0, .class_ 152), (0, u "java/lang/constant/ConstantDesc"), (0, u "POSITIVE_INFINITY"), (1, u "NEGATIVE_INFINITY"), (1, u "NaN"), (1, u "MAX_VALUE"), (0, u "MIN_NORMAL"), (0, u "MIN_VALUE"), (1, u "SIZE"), (0, u "I"), (1, u "PRECISION"), (1, u "MAX_EXPONENT"), (1, u "MIN_EXPONENT"), (1, u "BYTES"), (3, u "serialVersionUID"), (0, u "J")] 101

def k9c0 : Code := { maxStack := 2, maxLocals := 1, code := jdk_118_method_6_code, exceptionTable := #[], attributes := #[] }
def k9m0 : Method := { name := "isNaN", desc := "(F)Z", sig := { parameters := [.float], returnType := some .boolean }, accessFlags := 9, code := some k9c0 }
/-- java/lang/Float -/
def k9 : Class := { plain "java/lang/Float" (some 5) with
  accessFlags := 49
  interfaces := #[6, 7, 8]
  cf := some (fileOf pool9 1 #[] #[{ accessFlags := 9, nameIndex := 61, descriptorIndex := 62, attributes := #[] }] 49 51 #[147, 149, 151] #[{ accessFlags := 25, nameIndex := 153, descriptorIndex := 58, attributes := #[] }, { accessFlags := 25, nameIndex := 155, descriptorIndex := 58, attributes := #[] }, { accessFlags := 25, nameIndex := 157, descriptorIndex := 58, attributes := #[] }, { accessFlags := 25, nameIndex := 159, descriptorIndex := 58, attributes := #[] }, { accessFlags := 25, nameIndex := 160, descriptorIndex := 58, attributes := #[] }, { accessFlags := 25, nameIndex := 161, descriptorIndex := 58, attributes := #[] }, { accessFlags := 25, nameIndex := 163, descriptorIndex := 164, attributes := #[] }, { accessFlags := 25, nameIndex := 166, descriptorIndex := 164, attributes := #[] }, { accessFlags := 25, nameIndex := 168, descriptorIndex := 164, attributes := #[] }, { accessFlags := 25, nameIndex := 170, descriptorIndex := 164, attributes := #[] }, { accessFlags := 25, nameIndex := 172, descriptorIndex := 164, attributes := #[] }, { accessFlags := 25, nameIndex := 145, descriptorIndex := 146, attributes := #[] }, { accessFlags := 18, nameIndex := 57, descriptorIndex := 58, attributes := #[] }, { accessFlags := 26, nameIndex := 176, descriptorIndex := 177, attributes := #[] }, { accessFlags := 4120, nameIndex := 91, descriptorIndex := 92, attributes := #[] }])
  fields := #[{ name := "POSITIVE_INFINITY", type := .float, accessFlags := 25, slot := 0, constantValue := 0 }, { name := "NEGATIVE_INFINITY", type := .float, accessFlags := 25, slot := 1, constantValue := 0 }, { name := "NaN", type := .float, accessFlags := 25, slot := 2, constantValue := 0 }, { name := "MAX_VALUE", type := .float, accessFlags := 25, slot := 3, constantValue := 0 }, { name := "MIN_NORMAL", type := .float, accessFlags := 25, slot := 4, constantValue := 0 }, { name := "MIN_VALUE", type := .float, accessFlags := 25, slot := 5, constantValue := 0 }, { name := "SIZE", type := .int, accessFlags := 25, slot := 6, constantValue := 0 }, { name := "PRECISION", type := .int, accessFlags := 25, slot := 7, constantValue := 0 }, { name := "MAX_EXPONENT", type := .int, accessFlags := 25, slot := 8, constantValue := 0 }, { name := "MIN_EXPONENT", type := .int, accessFlags := 25, slot := 9, constantValue := 0 }, { name := "BYTES", type := .int, accessFlags := 25, slot := 10, constantValue := 0 }, { name := "TYPE", type := (.object "java/lang/Class"), accessFlags := 25, slot := 11, constantValue := 0 }, { name := "value", type := .float, accessFlags := 18, slot := 0, constantValue := 0 }, { name := "serialVersionUID", type := .long, accessFlags := 26, slot := 12, constantValue := 0 }, { name := "$assertionsDisabled", type := .boolean, accessFlags := 4120, slot := 13, constantValue := 0 }]
  methods := #[k9m0]
  instanceTypes := #[.float]
  staticTypes := #[.float, .float, .float, .float, .float, .float, .int, .int, .int, .int, .int, (.object "java/lang/Class"), .long, .boolean]
  resolved := Array.replicate 279 none
  statics := none }

def pool10 : Array CpInfo := pool [(1, .class_ 2), (0, u "java/lang/Math"), (1, .class_ 6), (1, u "java/lang/Object"), (0, u "<init>"), (0, u "()V"), (89, .class_ 100), (1, u "java/lang/Math$RandomNumberGeneratorHolder"), (71, u "negativeZeroFloatBits"), (0, u "J"), (2, u "negativeZeroDoubleBits"), (21, u "max"), (46, u "$assertionsDisabled"), (0, u "Z"), (88, u "(II)I"), (2, u "twoToTheDoubleScaleDown"), (0, u "D"), (4, u "twoToTheDoubleScaleUp"), (9, u "E"), (3, u "PI"), (2, u "TAU"), (2, u "DEGREES_TO_RADIANS"), (0, u "RADIANS_TO_DEGREES")] 94

def k10m0 : Method := { name := "<init>", desc := "()V", sig := { parameters := [], returnType := none }, accessFlags := 2, code := none }
def k10c1 : Code := { maxStack := 2, maxLocals := 2, code := jdk_29_method_65_code, exceptionTable := #[], attributes := #[] }
def k10m1 : Method := { name := "max", desc := "(II)I", sig := { parameters := [.int, .int], returnType := some .int }, accessFlags := 9, code := some k10c1 }
/-- java/lang/Math -/
def k10 : Class := { plain "java/lang/Math" (some 0) with
  accessFlags := 49
  interfaces := #[]
  cf := some (fileOf pool10 1 #[.nestMembers #[98]] #[{ accessFlags := 2, nameIndex := 7, descriptorIndex := 8, attributes := #[] }, { accessFlags := 9, nameIndex := 198, descriptorIndex := 335, attributes := #[] }] 49 4 #[] #[{ accessFlags := 25, nameIndex := 354, descriptorIndex := 339, attributes := #[] }, { accessFlags := 25, nameIndex := 358, descriptorIndex := 339, attributes := #[] }, { accessFlags := 25, nameIndex := 361, descriptorIndex := 339, attributes := #[] }, { accessFlags := 26, nameIndex := 364, descriptorIndex := 339, attributes := #[] }, { accessFlags := 26, nameIndex := 365, descriptorIndex := 339, attributes := #[] }, { accessFlags := 26, nameIndex := 172, descriptorIndex := 173, attributes := #[] }, { accessFlags := 26, nameIndex := 176, descriptorIndex := 173, attributes := #[] }, { accessFlags := 8, nameIndex := 344, descriptorIndex := 339, attributes := #[] }, { accessFlags := 8, nameIndex := 338, descriptorIndex := 339, attributes := #[] }, { accessFlags := 4120, nameIndex := 245, descriptorIndex := 246, attributes := #[] }])
  fields := #[{ name := "E", type := .double, accessFlags := 25, slot := 0, constantValue := 0 }, { name := "PI", type := .double, accessFlags := 25, slot := 1, constantValue := 0 }, { name := "TAU", type := .double, accessFlags := 25, slot := 2, constantValue := 0 }, { name := "DEGREES_TO_RADIANS", type := .double, accessFlags := 26, slot := 3, constantValue := 0 }, { name := "RADIANS_TO_DEGREES", type := .double, accessFlags := 26, slot := 4, constantValue := 0 }, { name := "negativeZeroFloatBits", type := .long, accessFlags := 26, slot := 5, constantValue := 0 }, { name := "negativeZeroDoubleBits", type := .long, accessFlags := 26, slot := 6, constantValue := 0 }, { name := "twoToTheDoubleScaleUp", type := .double, accessFlags := 8, slot := 7, constantValue := 0 }, { name := "twoToTheDoubleScaleDown", type := .double, accessFlags := 8, slot := 8, constantValue := 0 }, { name := "$assertionsDisabled", type := .boolean, accessFlags := 4120, slot := 9, constantValue := 0 }]
  methods := #[k10m0, k10m1]
  instanceTypes := #[]
  staticTypes := #[.double, .double, .double, .double, .double, .long, .long, .double, .double, .boolean]
  resolved := Array.replicate 460 none
  statics := none }

def pool11 : Array CpInfo := pool [(1, u "java/lang/Cloneable"), (0, .class_ 1), (0, u "java/lang/Object"), (0, .class_ 3)] 3

/-- java/lang/Cloneable -/
def k11 : Class := { plain "java/lang/Cloneable" (some 0) with
  accessFlags := 1537
  interfaces := #[]
  cf := some (fileOf pool11 2 #[] #[] 1537 4 #[] #[])
  fields := #[]
  methods := #[]
  instanceTypes := #[]
  staticTypes := #[]
  resolved := Array.replicate 8 none
  statics := none }

/-- the primitive byte -/
def k12 : Class := { plain "byte" none with kind := .primitive 'B', accessFlags := 0x411 }
/-- [B -/
def k13 : Class := { plain "[B" (some 0) with kind := .array 12 .byte, interfaces := #[11, 4], accessFlags := 1041 }

/-- the primitive int -/
def k14 : Class := { plain "int" none with kind := .primitive 'I', accessFlags := 0x411 }
/-- [I -/
def k15 : Class := { plain "[I" (some 0) with kind := .array 14 .int, interfaces := #[11, 4], accessFlags := 1041 }

def heap : Heap := #[]
def k16 : Class := { plain "float" none with kind := .primitive 'F', accessFlags := 0x411 }
def k17 : Class := { plain "[F" (some 0) with kind := .array 16 .float, interfaces := #[11, 4], accessFlags := 1041 }
def classes : Array Class := #[k0, k1, k2, k3, k4, k5, k6, k7, k8, k9, k10, k11, k12, k13, k14, k15, k16, k17]
def interned : List (Array UInt16 × Addr) := []
def slotsUsed : Nat := 0
def theMethod : MethodId := ⟨1, 1⟩
def args0 : Array Value := #[.int 5, .int 3, .int 4, .int 1, .int 1]
def aboutOver (below : List Frame) : State where
  vm := { classes := classes, interned := interned.toArray }
  heap := heap
  slotsUsed := slotsUsed
  threads := #[{ frames := .invoking theMethod args0 :: below }]
def below0 : List Frame := [.native { method := ⟨0, 0⟩, args := #[] }]
def about1 : State := aboutOver below0
def p0 : Program := .bare "" "" ""
def e0 : Env := launch0.env 0 0 0
theorem w_frames : about1.frames = Frame.invoking theMethod args0 :: below0 := rfl
set_option maxRecDepth 65536 in
theorem w_args : argsFit about1.vm theMethod args0 = true := by decide +kernel
set_option maxRecDepth 65536 in
theorem w_heap : heapFits about1 = true := by decide +kernel
set_option maxRecDepth 65536 in
theorem w_runnable : about1.curStatus? = some .runnable := by decide +kernel
set_option maxRecDepth 65536 in
theorem w_alone : about1.alone = true := by decide +kernel
set_option maxRecDepth 65536 in
theorem w_named : about1.methodNamed? x = some theMethod := by decide +kernel
set_option maxRecDepth 65536 in
theorem w_hears : about1.hears theMethod below0 = true := by decide +kernel
set_option maxRecDepth 65536 in
theorem w_ripe : about1.ripe theMethod args0 below0 = true := by decide +kernel
theorem w_running : about1.status = .running := rfl
set_option maxRecDepth 65536 in
theorem w_room : about1.hasRoom e0.platform room_1 = true :=
  launch0.hasRoom_least _ room_1 (by decide +kernel) (by decide +kernel) (by decide +kernel) (by decide +kernel) (by decide +kernel) (by decide +kernel)
theorem allAtoms_all (ts : List Jvm.Cond) (a : Array Jvm.Value) (st : Jvm.State) : (allAtoms ts).before a st = ts.all (fun c => c.before a st) := by
  induction ts with
  | nil => rfl
  | cons c t ih =>
    show (Jvm.Cond.and c (allAtoms t)).before a st = _
    rw [Jvm.Cond.before_and, ih, List.all_cons]
def words1 : List Jvm.Cond := Jvm.Cond.code x code maxLocals ret :: tables_1
/-- a 'code' word, met by the world's own term for the bytes: nothing is compared byte by byte -/
theorem code_word {y : MethodName} {bytes : ByteArray} {mx : Nat} {rt : Option FieldType} {a : Array Value} {s : State} {m : MethodId} {meth : Method} {c : Code} (h1 : s.methodNamed? y = some m) (h2 : s.vm.method? m = some meth) (h3 : meth.code = some c) (h4 : c.code = bytes)
    (h5 : (c.maxLocals == mx && c.exceptionTable.isEmpty && decide (c.maxStack ≤ mostOperands) && decide (meth.sig.returnType = rt) && !meth.locks && decide (parseMethodDescriptor y.desc = some meth.sig)) = true) : (Jvm.Cond.code y bytes mx rt).before a s = true := by
  simp only [Bool.and_eq_true, beq_iff_eq, Bool.not_eq_true', decide_eq_true_eq] at h5
  obtain ⟨⟨⟨⟨⟨g1, g2⟩, g3⟩, g4⟩, g5⟩, g6⟩ := h5
  simp [Cond.before, Cond.holds, Cond.value, h1, h2, h3, h4, g1, g2, g3, g4, g5, g6]
def isCode : Jvm.Cond → Bool
  | .code _ _ _ _ => true
  | _ => false
theorem all_split {L : List Jvm.Cond} {P : Jvm.Cond → Bool} (h1 : L.all (fun c => isCode c || P c) = true) (h2 : ∀ c ∈ L.filter isCode, P c = true) : L.all P = true := by
  refine List.all_eq_true.mpr fun c hc => ?_
  have h := List.all_eq_true.mp h1 c hc
  rcases Bool.eq_false_or_eq_true (isCode c) with hi | hi
  · exact h2 c (List.mem_filter.mpr ⟨hc, hi⟩)
  · simpa [hi] using h
set_option maxRecDepth 65536 in
theorem w_c0 : (Jvm.Cond.code x code maxLocals ret).before args0 about1 = true := code_word (m := ⟨1, 1⟩) (meth := k1m1) (c := k1c1) (by decide +kernel) rfl rfl rfl (by decide +kernel)
set_option maxRecDepth 65536 in
theorem w_c1 : (Jvm.Cond.code ({ cls := "com/example/twofold/twofold/ltr/DecisionTree", name := "<init>", desc := "(I)V" } : Jvm.MethodName) prog_27_method_1_code (2 : Nat) (Option.none : Option Jvm.ClassFile.FieldType)).before args0 about1 = true := code_word (m := ⟨2, 0⟩) (meth := k2m0) (c := k2c0) (by decide +kernel) rfl rfl rfl (by decide +kernel)
set_option maxRecDepth 65536 in
theorem w_c2 : (Jvm.Cond.code ({ cls := "java/lang/Object", name := "<init>", desc := "()V" } : Jvm.MethodName) object_method_1_code (1 : Nat) (Option.none : Option Jvm.ClassFile.FieldType)).before args0 about1 = true := code_word (m := ⟨0, 0⟩) (meth := k0m0) (c := k0c0) (by decide +kernel) rfl rfl rfl (by decide +kernel)
set_option maxRecDepth 65536 in
theorem w_c3 : (Jvm.Cond.code ({ cls := "java/util/Arrays", name := "fill", desc := "([II)V" } : Jvm.MethodName) jdk_65_method_103_code (4 : Nat) (Option.none : Option Jvm.ClassFile.FieldType)).before args0 about1 = true := code_word (m := ⟨3, 1⟩) (meth := k3m1) (c := k3c1) (by decide +kernel) rfl rfl rfl (by decide +kernel)
set_option maxRecDepth 65536 in
theorem w_c4 : (Jvm.Cond.code ({ cls := "com/example/twofold/twofold/ltr/DecisionTree", name := "split", desc := "(IIFIII)V" } : Jvm.MethodName) prog_27_method_3_code (11 : Nat) (Option.none : Option Jvm.ClassFile.FieldType)).before args0 about1 = true := code_word (m := ⟨2, 2⟩) (meth := k2m2) (c := k2c2) (by decide +kernel) rfl rfl rfl (by decide +kernel)
set_option maxRecDepth 65536 in
theorem w_c5 : (Jvm.Cond.code ({ cls := "com/example/twofold/twofold/ltr/DecisionTree", name := "leaf", desc := "(IF)V" } : Jvm.MethodName) prog_27_method_2_code (3 : Nat) (Option.none : Option Jvm.ClassFile.FieldType)).before args0 about1 = true := code_word (m := ⟨2, 1⟩) (meth := k2m1) (c := k2c1) (by decide +kernel) rfl rfl rfl (by decide +kernel)
set_option maxRecDepth 65536 in
theorem w_c6 : (Jvm.Cond.code ({ cls := "com/example/twofold/twofold/ltr/DecisionTree", name := "output", desc := "([F)F" } : Jvm.MethodName) prog_27_method_5_code (4 : Nat) (Option.some Jvm.ClassFile.FieldType.float)).before args0 about1 = true := code_word (m := ⟨2, 4⟩) (meth := k2m4) (c := k2c4) (by decide +kernel) rfl rfl rfl (by decide +kernel)
set_option maxRecDepth 65536 in
theorem w_c7 : (Jvm.Cond.code ({ cls := "java/lang/Float", name := "isNaN", desc := "(F)Z" } : Jvm.MethodName) jdk_118_method_6_code (1 : Nat) (Option.some Jvm.ClassFile.FieldType.boolean)).before args0 about1 = true := code_word (m := ⟨9, 0⟩) (meth := k9m0) (c := k9c0) (by decide +kernel) rfl rfl rfl (by decide +kernel)
set_option maxRecDepth 65536 in
theorem w_c8 : (Jvm.Cond.code ({ cls := "com/example/twofold/twofold/ltr/DecisionTree", name := "steps", desc := "()I" } : Jvm.MethodName) prog_27_method_4_code (4 : Nat) (Option.some Jvm.ClassFile.FieldType.int)).before args0 about1 = true := code_word (m := ⟨2, 3⟩) (meth := k2m3) (c := k2c3) (by decide +kernel) rfl rfl rfl (by decide +kernel)
set_option maxRecDepth 65536 in
theorem w_c9 : (Jvm.Cond.code ({ cls := "java/lang/Math", name := "max", desc := "(II)I" } : Jvm.MethodName) jdk_29_method_65_code (2 : Nat) (Option.some Jvm.ClassFile.FieldType.int)).before args0 about1 = true := code_word (m := ⟨10, 1⟩) (meth := k10m1) (c := k10c1) (by decide +kernel) rfl rfl rfl (by decide +kernel)
def codes1 : List Jvm.Cond := [Jvm.Cond.code x code maxLocals ret, Jvm.Cond.code ({ cls := "com/example/twofold/twofold/ltr/DecisionTree", name := "<init>", desc := "(I)V" } : Jvm.MethodName) prog_27_method_1_code (2 : Nat) (Option.none : Option Jvm.ClassFile.FieldType), Jvm.Cond.code ({ cls := "java/lang/Object", name := "<init>", desc := "()V" } : Jvm.MethodName) object_method_1_code (1 : Nat) (Option.none : Option Jvm.ClassFile.FieldType), Jvm.Cond.code ({ cls := "java/util/Arrays", name := "fill", desc := "([II)V" } : Jvm.MethodName) jdk_65_method_103_code (4 : Nat) (Option.none : Option Jvm.ClassFile.FieldType), Jvm.Cond.code ({ cls := "com/example/twofold/twofold/ltr/DecisionTree", name := "split", desc := "(IIFIII)V" } : Jvm.MethodName) prog_27_method_3_code (11 : Nat) (Option.none : Option Jvm.ClassFile.FieldType), Jvm.Cond.code ({ cls := "com/example/twofold/twofold/ltr/DecisionTree", name := "leaf", desc := "(IF)V" } : Jvm.MethodName) prog_27_method_2_code (3 : Nat) (Option.none : Option Jvm.ClassFile.FieldType), Jvm.Cond.code ({ cls := "com/example/twofold/twofold/ltr/DecisionTree", name := "output", desc := "([F)F" } : Jvm.MethodName) prog_27_method_5_code (4 : Nat) (Option.some Jvm.ClassFile.FieldType.float), Jvm.Cond.code ({ cls := "java/lang/Float", name := "isNaN", desc := "(F)Z" } : Jvm.MethodName) jdk_118_method_6_code (1 : Nat) (Option.some Jvm.ClassFile.FieldType.boolean), Jvm.Cond.code ({ cls := "com/example/twofold/twofold/ltr/DecisionTree", name := "steps", desc := "()I" } : Jvm.MethodName) prog_27_method_4_code (4 : Nat) (Option.some Jvm.ClassFile.FieldType.int), Jvm.Cond.code ({ cls := "java/lang/Math", name := "max", desc := "(II)I" } : Jvm.MethodName) jdk_29_method_65_code (2 : Nat) (Option.some Jvm.ClassFile.FieldType.int)]
set_option maxRecDepth 65536 in
theorem codes_eq : words1.filter isCode = codes1 := rfl
theorem w_codes : ∀ c ∈ words1.filter isCode, c.before args0 about1 = true := by
  rw [codes_eq]
  intro c hc
  simp only [codes1, List.mem_cons, List.not_mem_nil, or_false] at hc
  rcases hc with rfl | rfl | rfl | rfl | rfl | rfl | rfl | rfl | rfl | rfl
  · exact w_c0
  · exact w_c1
  · exact w_c2
  · exact w_c3
  · exact w_c4
  · exact w_c5
  · exact w_c6
  · exact w_c7
  · exact w_c8
  · exact w_c9
set_option maxRecDepth 65536 in
theorem w_t1 : (words1.take 24).all (fun c => isCode c || c.before args0 about1) = true := by decide +kernel
set_option maxRecDepth 65536 in
theorem w_t2 : ((words1.drop 24).take 24).all (fun c => isCode c || c.before args0 about1) = true := by decide +kernel
set_option maxRecDepth 65536 in
theorem w_t3 : ((words1.drop 24).drop 24).all (fun c => isCode c || c.before args0 about1) = true := by decide +kernel
theorem w_tables : (allAtoms (Jvm.Cond.code x code maxLocals ret :: tables_1)).before args0 about1 = true := by
  rw [allAtoms_all]
  show words1.all (fun c => c.before args0 about1) = true
  refine all_split ?_ w_codes
  rw [← List.take_append_drop 24 words1, List.all_append, w_t1, ← List.take_append_drop 24 (words1.drop 24), List.all_append, w_t2, w_t3]
  rfl
set_option maxRecDepth 65536 in
theorem w_case : (Jvm.Cond.and given_1 narrow_1).before args0 about1 = true := by decide +kernel
theorem w_applies : (headSpec (Jvm.Cond.code x code maxLocals ret :: tables_1) room_1).applies x e0.platform about1 = true :=
  (Spec.applies_iff w_frames).mpr ⟨w_running, w_runnable, w_alone, w_named, w_hears, w_ripe, w_room, w_tables⟩
theorem atStart : AtStart classFile x code maxLocals ret World_1 tables_1 room_1 Calls_1 rest_1 Pre_1 launch0 p0 e0 about1 theMethod args0 below0 :=
  ⟨lists_1, trivial, launch0.admits_env _ _ _, launch0.least_env, fairChoices_fair.cas, fairChoices_fair.clock, w_frames, w_args, w_heap, w_applies, trivial, trivial, w_case⟩
end start1
theorem witness_1 : WitnessClaimed_1 := ⟨start1.p0, start1.e0, start1.about1, start1.theMethod, start1.args0, start1.below0, start1.atStart⟩
end Jvm.Pilot.@@N@@
