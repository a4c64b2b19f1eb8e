import JvmDerived
import JvmDerived.Pilot.@@N@@Statement
import JvmDerived.Pilot.@@N@@Code
set_option linter.unusedVariables false
set_option linter.unusedSimpArgs false
namespace Jvm.Pilot.@@N@@
open Jvm Jvm.ClassFile Sem Op Lib Jvm.Free Jvm.Stand Jvm.LawKit Jvm.RoadKit Bundle Jvm.Pilot.@@N@@.Jvm.D

section Own
variable {p : Program} {l : Launch} {e : Env} {R : Room} {s : State} {m : MethodId} {args : Array Value} {below : List Frame} {meth : Method} {c : Code} {T : State} {locs : List Loc} {cells slots : Nat} {Z : State} {a0 : Array Value} {h h' h0 : Heap} {K : Outcome → State → Prop} {pc pc' : Nat} {Ls : Array Slot} {st : List Value} {own : String} {ws ws' : List Addr} {L L' : List Loc}
/-- what is left to show at a point of a walk -/
def OGo (p : Program) (e : Env) (below : List Frame) (K : Outcome → State → Prop) (T : State) (g : JFrame) : Prop :=
  ∃ s₂ o, Steps p.tables e below (T.setTop g) s₂ ∧ s₂.status = .running ∧ Ended s₂ below o ∧ K o s₂
theorem OGo.via {T' : State} {g g' : JFrame} (k : OGo p e below K T' g') (q : ∀ t, Steps p.tables e below (T'.setTop g') t → Steps p.tables e below (T.setTop g) t) : OGo p e below K T g := by
  obtain ⟨s₂, o, h1, h2⟩ := k; exact ⟨s₂, o, q _ h1, h2⟩
theorem OGo.tr {T' : State} {g g' : JFrame} (k : OGo p e below K T' g') (q : Steps p.tables e below (T.setTop g) (T'.setTop g')) : OGo p e below K T g := k.via fun _ r => q.trans r
/-- the cells of h0 stand in h but for those at ws; cells of statics stand; what was written is at ws or new -/
def OPr (h0 : Heap) (ws : List Addr) (h : Heap) (L : List Loc) : Prop := Keep h0 h ws ∧ (∀ (x : Addr) (c : Cell), h0[x]? = some c → c.vm.isStatics = true → h[x]? = some c) ∧ ∀ y ∈ L, y.base ∈ ws ∨ h0.size ≤ y.base
theorem OPr.refl (h : Heap) (ws : List Addr) : OPr h ws h [] := ⟨Keep.refl h ws, fun _ _ q _ => q, fun _ q => nomatch q⟩
theorem OPr.size (P : OPr h0 ws h L) : h0.size ≤ h.size := P.1.1
theorem OPr.ge (P : OPr h0 ws h L) {a : Addr} (q : a = h.size) : h0.size ≤ a := q ▸ P.1.1
theorem OPr.ext (P : OPr h0 ws h L) (E : Ext h h') : OPr h0 ws h' L := ⟨P.1.ext E, fun x c q r => E.2 _ _ (P.2.1 x c q r), P.2.2⟩
theorem OPr.wr {a : Addr} {sl : Nat} {v : Value} (P : OPr h0 ws h L) (W : Wr h h' a sl v) (q : a ∈ ws ∨ h0.size ≤ a) : OPr h0 ws h' (L ++ [⟨a, sl⟩]) := by
  refine ⟨P.1.wr W q, fun x c r1 r2 => ?_, fun y hy => ?_⟩
  · obtain ⟨c', e1, -, -, -, e5, -, e7⟩ := wr_at W (P.2.1 x c r1 r2)
    have ne : x ≠ a := fun u => by rw [(e7 u).2.2] at r2; cases r2
    rw [← e5 ne]; exact e1
  · rcases List.mem_append.mp hy with u | u
    · exact P.2.2 y u
    · cases List.mem_singleton.mp u; exact q
theorem OPr.call (P : OPr h0 ws h L) (P' : OPr h ws' h' L') (q : ∀ x ∈ ws', x ∈ ws ∨ h0.size ≤ x) : OPr h0 ws h' (L ++ L') := by
  refine ⟨P.1.trans P'.1 q, fun x c r1 r2 => P'.2.1 x c (P.2.1 x c r1 r2) r2, fun y hy => ?_⟩
  rcases List.mem_append.mp hy with u | u
  · exact P.2.2 y u
  · rcases P'.2.2 y u with v | v
    · exact q _ v
    · exact Or.inr (Nat.le_trans P.1.1 v)
theorem OPr.fr (P : OPr h0 [] h L) : Fr h0.size L := fun y hy => (P.2.2 y hy).elim (fun q => nomatch q) id
theorem fldP {a : Addr} {C n d : String} {v : Value} (F : Fld Z h0 a C n d v) (P : OPr h0 ws h L) (q : a ∉ ws) : Fld Z h a C n d v := F.keep P.1 q
theorem exaP {a : Addr} {C : String} (F : Exa Z h0 a C) (P : OPr h0 ws h L) : Exa Z h a C := F.keep P.1
theorem staP {C n d : String} {v : Value} (F : Sta Z h0 C n d v) (P : OPr h0 ws h L) : Sta Z h C n d v := by
  obtain ⟨cf, i, k, f, sa, cell, h1, h2, h3, h4, h5, h6, h7⟩ := F
  exact ⟨cf, i, k, f, sa, cell, h1, h2, h3, h4, P.2.1 _ _ h5 h6, h6, h7⟩
/-- an array, told whole -/
def OAry (Z : State) (h : Heap) (a : Addr) (k : ClassId) (ty : FieldType) (vs : List Value) : Prop := ∃ c : Cell, Arr Z h a c ty ∧ c.cls = k ∧ c.slots.toList = vs ∧ vs.length < 2 ^ 31 ∧ ∀ v ∈ vs, fits ty v = true
theorem aryP {a : Addr} {k : ClassId} {ty : FieldType} {vs : List Value} (F : OAry Z h0 a k ty vs) (P : OPr h0 ws h L) (q : a ∉ ws) : OAry Z h a k ty vs := by
  obtain ⟨c, A, r⟩ := F; exact ⟨c, ⟨P.1.2.1 a c A.1 q, A.2⟩, r⟩
theorem aryE {a : Addr} {k : ClassId} {ty : FieldType} {vs : List Value} (F : OAry Z h a k ty vs) (E : Ext h h') : OAry Z h' a k ty vs := by
  obtain ⟨c, A, r⟩ := F; exact ⟨c, A.ext E, r⟩
theorem aryO {a b : Addr} {k : ClassId} {ty : FieldType} {vs : List Value} {sl : Nat} {v : Value} (F : OAry Z h b k ty vs) (W : Wr h h' a sl v) (q : b ≠ a) : OAry Z h' b k ty vs := by
  obtain ⟨c, A, r⟩ := F; exact ⟨c, A.other W q, r⟩
theorem aryLt {a : Addr} {k : ClassId} {ty : FieldType} {vs : List Value} (F : OAry Z h a k ty vs) : a < h.size := by obtain ⟨c, A, -⟩ := F; exact A.lt
theorem arySet {a : Addr} {k : ClassId} {ty : FieldType} {vs vs' : List Value} {j : Nat} {v : Value} (F : OAry Z h a k ty vs) (W : Wr h h' a j v) (hf : fits ty v = true) (e : vs.set j v = vs') : OAry Z h' a k ty vs' := by
  obtain ⟨c, A, r1, rfl, r3, r4⟩ := F
  subst e
  refine ⟨_, A.same W, r1, ?_, by simpa using r3, fun u hu => ?_⟩
  · show (c.slots.setIfInBounds j v).toList = _
    simp
  · rcases List.mem_or_eq_of_mem_set hu with z | rfl
    · exact r4 u z
    · exact hf
theorem aryIn {c : Cell} {vs : List Value} {j : Int32} {v : Value} (q : c.slots.toList = vs) (hj : ¬ j < 0) (hv : vs[j.toNatClampNeg]? = some v) : ¬ (j < 0 ∨ c.slots.size ≤ j.toNatClampNeg) ∧ c.slots[j.toNatClampNeg]? = some v := by
  subst q
  have hv' : c.slots[j.toNatClampNeg]? = some v := by simpa using hv
  exact ⟨fun u => u.elim hj fun u => by have := (Array.getElem?_eq_some_iff.mp hv').1; omega, hv'⟩
theorem aryFit {a : Addr} {k : ClassId} {ty : FieldType} {vs : List Value} {c : Cell} (A : Arr Z h a c ty) (q : c.slots.toList = vs) (r : ∀ v ∈ vs, fits ty v = true) : FitC Z c := fun i v hv => by
  subst q
  obtain ⟨hs, k, hk, comp, hkind⟩ := A.2.1
  have e : Z.slotType? c.cls .none i = some ty := by simp [State.slotType?, hk, hkind]
  have m : v ∈ c.slots.toList := by obtain ⟨hi, rfl⟩ := Array.getElem?_eq_some_iff.mp hv; simp
  simp [State.fitsSlot, e, r v m]
/-- what a method that returned has left -/
def OFin (s : State) (rm : Room) (Q : Option Value → Heap → List Loc → Prop) (o : Outcome) (U' : State) : Prop := ∃ v L, o = .returned v ∧ Q v U'.heap L ∧ FrameEnd s o U' L rm.cells rm.slots
/-- a method's contract, at given arguments and a given heap -/
def OMet (l : Launch) (y : MethodName) (bytes : ByteArray) (maxL : Nat) (ret : Option FieldType) (rm : Room) (as : Array Value) (Z : State) (h0 : Heap) (Q : Option Value → Heap → List Loc → Prop) : Prop :=
  ∀ ws : List Jvm.Cond, MetFree l y (head1 (Jvm.Cond.code y bytes maxL ret :: ws) rm) (fun a U => a = as ∧ Z.Warmed39 U.vm ∧ U.heap = h0) (fun _ _ _ _ _ => True) (fun _ U o U' => OFin U rm Q o U')
theorem OMet.body {y : MethodName} {bytes : ByteArray} {maxL : Nat} {ret : Option FieldType} {rm : Room} {as : Array Value} {Q : Option Value → Heap → List Loc → Prop} {Ls : Array Slot} (hpl : plainFor y = true) (hef : ∀ m, entryFrame m as maxL = mkF m 0 Ls [])
    (H : ∀ (p : Program) (e : Env) (s : State) (m : MethodId) (below : List Frame) (meth : Method) (c : Code) (T : State) (K : Outcome → State → Prop), K = OFin s rm Q → Stand p l e rm s m as below meth c T [] 0 0 → p.tables.exec = Jvm.exec → c.code = bytes → c.maxLocals = maxL → s.vm.findClass y.cls = some m.cls → meth.name = y.name → meth.sig.returnType = ret → meth.locks = false → Z.Warmed39 s.vm → T.heap = h0 → OGo p e below K T (mkF m 0 Ls [])) :
    OMet l y bytes maxL ret rm as Z h0 Q := fun ws => by
  refine MetFree.of_bodySF hpl hisR ?_
  intro p e s m args below meth c s₁ Bd hml0 hP hK
  obtain ⟨rfl, hZ, hh⟩ := hP
  have e0 : s₁.heap = h0 := by rw [← hh, Bd.state]; rfl
  have k := H p e s m below meth c s₁ _ rfl (Stand.of_body Bd) Bd.exec Bd.bytes hml0 (findClass_of_methodNamed Bd.named) (name_of_methodNamed Bd.named Bd.method).1 Bd.returns Bd.notSynchronized hZ e0
  rw [← hef m] at k
  exact k
theorem g_ret {rm : Room} {Q : Option Value → Heap → List Loc → Prop} {t : FieldType} {w : Value} {i : Instr} (X : Stand p l e rm s m args below meth c T locs cells slots) (hx : p.tables.exec = Jvm.exec) (hret : meth.sig.returnType = some t) (hlk : meth.locks = false) (hn : narrow t w = w)
    (hi : (i = .ireturn ∧ (t = .int ∨ t = .boolean ∨ t = .byte ∨ t = .char ∨ t = .short) ∧ ∃ z, w = .int z) ∨ (i = .lreturn ∧ t = .long ∧ ∃ z, w = .long z) ∨ (i = .dreturn ∧ t = .double ∧ ∃ z, w = .double z) ∨ (i = .freturn ∧ t = .float ∧ ∃ z, w = .float z) ∨ (i = .areturn ∧ t.isReference = true ∧ w.isRef = true))
    (hd : decode c.code pc = .ok (i, 1)) (hc : cells ≤ rm.cells) (hs : slots ≤ rm.slots) (eT : T.heap = h) (hK : K = OFin s rm Q) (hQ : Q (some w) h locs) : OGo p e below K T (mkF m pc Ls (w :: st)) := by
  subst hK
  obtain ⟨fs, hr, hrun, hended, hW, hsame⟩ := X.leave (v := some w) (fun h => by rw [hret] at h; cases h) hlk
  exact ⟨_, _, retOut X hx hret hn hi hd hr, hrun, hended, _, _, rfl, by show Q _ T.heap _; rw [eT]; exact hQ, ⟨_, rfl⟩, hW, hsame.mono hc hs⟩
theorem g_ret0 {rm : Room} {Q : Option Value → Heap → List Loc → Prop} (X : Stand p l e rm s m args below meth c T locs cells slots) (hx : p.tables.exec = Jvm.exec) (hret : meth.sig.returnType = none) (hlk : meth.locks = false)
    (hd : decode c.code pc = .ok (.return_, 1)) (hc : cells ≤ rm.cells) (hs : slots ≤ rm.slots) (eT : T.heap = h) (hK : K = OFin s rm Q) (hQ : Q none h locs) : OGo p e below K T (mkF m pc Ls []) := by
  subst hK
  obtain ⟨fs, hr, hrun, hended, hW, hsame⟩ := X.leave (v := none) (fun _ => rfl) hlk
  exact ⟨_, _, X.returnOut hx hret hd hr, hrun, hended, _, _, rfl, by show Q _ T.heap _; rw [eT]; exact hQ, ⟨_, rfl⟩, hW, hsame.mono hc hs⟩
theorem g_getf (X : Stand p l e R s m args below meth c T locs cells slots) (hx : p.tables.exec = Jvm.exec) (hZ : Z.Warmed39 s.vm) (hown : s.vm.findClass own = some m.cls) {R0 O n d host : String} {index : Nat} (w : (Jvm.Cond.fieldLink own index R0 n d).before a0 Z = true ∨ (Jvm.Cond.fieldLinkNest own index R0 n d host).before a0 Z = true) (via : Via Z R0 O n d)
    (eT : T.heap = h) {a : Addr} {v : Value} (F : Fld Z h a O n d v) (hd : decode c.code pc = .ok (.getfield index, 3)) (hp : pc + 3 = pc')
    (k : ∀ T', Stand p l e R s m args below meth c T' locs cells slots → T'.heap = h → OGo p e below K T' (mkF m pc' Ls (v :: st))) : OGo p e below K T (mkF m pc Ls (.ref a :: st)) := by
  subst hp
  obtain ⟨T', X', e', q⟩ := getF X hx hZ hown w via eT F (g := mkF m pc Ls (.ref a :: st)) rfl rfl hd
  exact (k T' X' e').via q
theorem g_gets (X : Stand p l e R s m args below meth c T locs cells slots) (hx : p.tables.exec = Jvm.exec) (hZ : Z.Warmed39 s.vm) (hown : s.vm.findClass own = some m.cls) {R0 O n d host : String} {index : Nat} (w : (Jvm.Cond.fieldLink own index R0 n d).before a0 Z = true ∨ (Jvm.Cond.fieldLinkNest own index R0 n d host).before a0 Z = true) (via : Via Z R0 O n d)
    (eT : T.heap = h) {v : Value} (F : Sta Z h O n d v) (hd : decode c.code pc = .ok (.getstatic index, 3)) (hp : pc + 3 = pc')
    (k : ∀ T', Stand p l e R s m args below meth c T' locs cells slots → T'.heap = h → OGo p e below K T' (mkF m pc' Ls (v :: st))) : OGo p e below K T (mkF m pc Ls st) := by
  subst hp
  obtain ⟨T', X', e', q⟩ := getS2 X hx hZ hown w via eT F (g := mkF m pc Ls st) rfl hd
  exact (k T' X' e').via q
theorem g_putf (X : Stand p l e R s m args below meth c T locs cells slots) (hx : p.tables.exec = Jvm.exec) (hZ : Z.Warmed39 s.vm) (hown : s.vm.findClass own = some m.cls) {R0 O n d host C : String} {index kk : Nat} {ty : FieldType} (w : (Jvm.Cond.fieldLink own index R0 n d).before a0 Z = true ∨ (Jvm.Cond.fieldLinkNest own index R0 n d host).before a0 Z = true) (via : Via Z R0 O n d)
    (eT : T.heap = h) {a : Addr} {v old : Value} (F : Fld Z h a O n d old) (E : Exa Z h a C) (L : (Jvm.Cond.lays C O n d).before a0 Z = true ∨ ((Jvm.Cond.laysFinal C O n d).before a0 Z = true ∧ own = O ∧ meth.name = "<init>")) (wi : (Jvm.Cond.instantiable C kk).before a0 Z = true)
    (hty : parseFieldDescriptor d = some ty) (hn : narrow ty v = v) (hf : fits ty v = true) (P : OPr h0 ws h locs) (q : a ∈ ws ∨ h0.size ≤ a) (hd : decode c.code pc = .ok (.putfield index, 3)) (hp : pc + 3 = pc')
    (k : ∀ T' h', Stand p l e R s m args below meth c T' (locs ++ [⟨a, RoadKit.slotOf Z O n d⟩]) cells slots → T'.heap = h' → Wr h h' a (RoadKit.slotOf Z O n d) v → OPr h0 ws h' (locs ++ [⟨a, RoadKit.slotOf Z O n d⟩]) → Fld Z h' a O n d v → OGo p e below K T' (mkF m pc' Ls st)) : OGo p e below K T (mkF m pc Ls (v :: .ref a :: st)) := by
  subst hp
  obtain ⟨T', h', X', e', W', r⟩ := putF X hx hZ hown w via eT F E L wi hty hn hf (g := mkF m pc Ls (v :: .ref a :: st)) rfl rfl hd
  exact (k T' h' X' e' W' (P.wr W' q) (F.same W')).via r
theorem g_new (X : Stand p l e R s m args below meth c T locs cells slots) (hx : p.tables.exec = Jvm.exec) (hZ : Z.Warmed39 s.vm) (hown : s.vm.findClass own = some m.cls) {C : String} {index n : Nat} (w : (Jvm.Cond.classLink own index C).before a0 Z = true) (wi : (Jvm.Cond.instantiable C n).before a0 Z = true) (wz : (Jvm.Cond.initialized C).before a0 Z = true) (eT : T.heap = h)
    (P : OPr h0 ws h locs) (hd : decode c.code pc = .ok (.new index, 3)) (hp : pc + 3 = pc') (hc : cells + 1 ≤ R.cells) (hl : slots + n ≤ R.slots)
    (k : ∀ T' h' a, a = h.size → h0.size ≤ a → Stand p l e R s m args below meth c T' locs (cells + 1) (slots + n) → T'.heap = h' → Ext h h' → OPr h0 ws h' locs → Exa Z h' a C → (∀ {O nm d : String} {ty : FieldType}, Laid Z a0 C O nm d → parseFieldDescriptor d = some ty → Fld Z h' a O nm d (defaultValue ty)) → OGo p e below K T' (mkF m pc' Ls (.ref a :: st))) : OGo p e below K T (mkF m pc Ls st) := by
  subst hp
  obtain ⟨T', h', X', e', E', A', D', -, r⟩ := newO X hx hZ hown w wi wz eT (g := mkF m pc Ls st) rfl hd hc hl
  exact (k T' h' h.size rfl P.1.1 X' e' E' (P.ext E') A' D').via r
theorem g_inito (X : Stand p l e R s m args below meth c T locs cells slots) (hx : p.tables.exec = Jvm.exec) (hZ : Z.Warmed39 s.vm) (hown : s.vm.findClass own = some m.cls) {idx : Nat} (w1 : (Jvm.Cond.methodLink own idx Lib.objectInit).before a0 Z = true) (w2 : (Jvm.Cond.instanceMethod Lib.objectInit).before a0 Z = true)
    (w3 : (Jvm.Cond.code Lib.objectInit ⟨#[0xb1]⟩ 1 none).before a0 Z = true) (eT : T.heap = h) (hsize : Ls.size = c.maxLocals) {a : Addr} (hd : decode c.code pc = .ok (.invokespecial idx, 3)) (hp : pc + 3 = pc')
    (hf : 1 ≤ R.frames) {W : Nat} (hW : (st.map fun v => v.category).sum ≤ W) (hl : W + 12 ≤ R.locals)
    (k : ∀ T', Stand p l e R s m args below meth c T' locs cells slots → T'.heap = h → OGo p e below K T' (mkF m pc' Ls st)) : OGo p e below K T (mkF m pc Ls (.ref a :: st)) := by
  subst hp
  obtain ⟨T', X', e', q⟩ := initO X hx hZ hown w1 w2 w3 eT (g := mkF m pc Ls (.ref a :: st)) rfl hsize rfl hd hf (W := W) (by show 2 * 0 + _ ≤ _; omega) hl
  exact (k T' X' e').via q
theorem OMet.back {y : MethodName} {bytes : ByteArray} {maxL : Nat} {ret : Option FieldType} {rm : Room} {as : Array Value} {Q : Option Value → Heap → List Loc → Prop} {len W : Nat} (hM : OMet l y bytes maxL ret rm as Z h Q) (hZ : Z.Warmed39 s.vm) (wc : (Jvm.Cond.code y bytes maxL ret).before a0 Z = true) (wz : (Jvm.Cond.initialized y.cls).before a0 Z = true) (hf : rm.frames + 1 ≤ R.frames) (hl : W + (maxL + 11) + rm.locals ≤ R.locals) :
    Back l R p e below s args y len W (fun A a => a = as ∧ A.U.heap = h ∧ A.cells + rm.cells ≤ R.cells ∧ A.slots + rm.slots ≤ R.slots)
      (fun A _ v B => ∃ L, Q v B.U.heap L ∧ B.locs = A.locs ++ L ∧ B.cells = A.cells + rm.cells ∧ B.slots = A.slots + rm.slots) := backOf (hM []) hZ wc wz hf hl
theorem g_special (X : Stand p l e R s m args below meth c T locs cells slots) (hx : p.tables.exec = Jvm.exec) (hZ : Z.Warmed39 s.vm) (hown : s.vm.findClass own = some m.cls) (eT : T.heap = h) {y : MethodName} {bytes : ByteArray} {maxL index : Nat} {rm : Room} {as : Array Value} {Q : Option Value → Heap → List Loc → Prop} (hM : OMet l y bytes maxL none rm as Z h Q) (hy1 : y.name = "<init>")
    (w1 : (Jvm.Cond.methodLink own index y).before a0 Z = true) (w2 : (Jvm.Cond.instanceMethod y).before a0 Z = true) (w3 : (Jvm.Cond.code y bytes maxL none).before a0 Z = true) (wz : (Jvm.Cond.initialized y.cls).before a0 Z = true) (hy : y.cls ≠ "java/lang/invoke/MethodHandle" ∧ y.cls ≠ "java/lang/invoke/VarHandle")
    {a : Addr} {argsL rest : List Value} (has : (.ref a :: argsL).toArray = as) (hst : st = argsL.reverse ++ .ref a :: rest) {W : Nat} {ps : List FieldType} (hde : parseMethodDescriptor y.desc = some ⟨ps, none⟩) (hlen : argsL.length = ps.length) (hW : (rest.map fun v => v.category).sum ≤ W) (hf : rm.frames + 1 ≤ R.frames) (hl : W + (maxL + 11) + rm.locals ≤ R.locals) (hc : cells + rm.cells ≤ R.cells) (hs : slots + rm.slots ≤ R.slots)
    (hsize : Ls.size = c.maxLocals) (hd : decode c.code pc = .ok (.invokespecial index, 3)) (hp : pc + 3 = pc')
    (k : ∀ v T' h' L, Stand p l e R s m args below meth c T' (locs ++ L) (cells + rm.cells) (slots + rm.slots) → T'.heap = h' → Q v h' L → OGo p e below K T' (mkF m pc' Ls (v.toList ++ rest))) : OGo p e below K T (mkF m pc Ls st) := by
  subst hp has
  obtain ⟨v, vm₁, ⟨T', L', c', n'⟩, -, X', ⟨Lc, hQ, l1, y1, z1⟩, r⟩ := X.specialBack hx (y := y) hy1 hown (mvT hZ w1) (mvT hZ w2) (mvT hZ w3) hy (hM.back (W := W) hZ w3 wz hf hl) (g := mkF m pc Ls st) rfl hsize (Steps.refl _) (a := a) (argsL := argsL) (rest := rest) (lenOf hde hlen) hst (by show 2 * 0 + _ ≤ _; omega) hd (fun _ _ => ⟨rfl, eT, hc, hs⟩)
  dsimp only [Pt.U, Pt.locs, Pt.cells, Pt.slots] at X' l1 y1 z1 r hQ
  subst l1 y1 z1
  exact (k v T' _ Lc X' rfl hQ).tr r
theorem g_virtual (X : Stand p l e R s m args below meth c T locs cells slots) (hx : p.tables.exec = Jvm.exec) (hZ : Z.Warmed39 s.vm) (hown : s.vm.findClass own = some m.cls) (eT : T.heap = h) {y z : MethodName} {bytes : ByteArray} {maxL index : Nat} {ret : Option FieldType} {rm : Room} {as : Array Value} {Q : Option Value → Heap → List Loc → Prop} (hM : OMet l z bytes maxL ret rm as Z h Q) {C : String}
    (w1 : (Jvm.Cond.methodLink own index y).before a0 Z = true) (w2 : (Jvm.Cond.declares y).before a0 Z = true) (nf : NotFace s y) (w3 : (Jvm.Cond.selects C y z).before a0 Z = true) (w4 : (Jvm.Cond.instanceMethod z).before a0 Z = true) (w5 : (Jvm.Cond.code z bytes maxL ret).before a0 Z = true) (wz : (Jvm.Cond.initialized z.cls).before a0 Z = true) (hy : y.cls ≠ "java/lang/invoke/MethodHandle" ∧ y.cls ≠ "java/lang/invoke/VarHandle")
    {a : Addr} (E : Exa Z h a C) {argsL rest : List Value} (has : (.ref a :: argsL).toArray = as) (hst : st = argsL.reverse ++ .ref a :: rest) {W : Nat} {ps : List FieldType} {rt : Option FieldType} (hde : parseMethodDescriptor y.desc = some ⟨ps, rt⟩) (hlen : argsL.length = ps.length) (hW : (rest.map fun v => v.category).sum ≤ W) (hf : rm.frames + 1 ≤ R.frames) (hl : W + (maxL + 11) + rm.locals ≤ R.locals) (hc : cells + rm.cells ≤ R.cells) (hs : slots + rm.slots ≤ R.slots)
    (hsize : Ls.size = c.maxLocals) (hd : decode c.code pc = .ok (.invokevirtual index, 3)) (hp : pc + 3 = pc')
    (k : ∀ v T' h' L, Stand p l e R s m args below meth c T' (locs ++ L) (cells + rm.cells) (slots + rm.slots) → T'.heap = h' → Q v h' L → OGo p e below K T' (mkF m pc' Ls (v.toList ++ rest))) : OGo p e below K T (mkF m pc Ls st) := by
  subst hp has
  obtain ⟨cB, kB, q1, q2, q3⟩ := isOf (T := T) hZ eT E
  obtain ⟨v, vm₁, ⟨T', L', c', n'⟩, -, X', ⟨Lc, hQ, l1, y1, z1⟩, r⟩ := X.virtualBack hx (y := y) (z := z) hown (mvT hZ w1) (mvT hZ w2) nf (mvT hZ w3) (mvT hZ w4) hy (hM.back (W := W) hZ w5 wz hf hl) q1 q3 (g := mkF m pc Ls st) rfl hsize (Steps.refl _) (argsL := argsL) (rest := rest) (lenOf hde hlen) hst (by show 2 * 0 + _ ≤ _; omega) hd (fun _ _ => ⟨rfl, eT, hc, hs⟩)
  dsimp only [Pt.U, Pt.locs, Pt.cells, Pt.slots] at X' l1 y1 z1 r hQ
  subst l1 y1 z1
  exact (k v T' _ Lc X' rfl hQ).tr r
theorem g_virtualUp (X : Stand p l e R s m args below meth c T locs cells slots) (hx : p.tables.exec = Jvm.exec) (hZ : Z.Warmed39 s.vm) (hown : s.vm.findClass own = some m.cls) (eT : T.heap = h) {y z : MethodName} {bytes : ByteArray} {maxL index : Nat} {ret : Option FieldType} {rm : Room} {as : Array Value} {Q : Option Value → Heap → List Loc → Prop} (hM : OMet l z bytes maxL ret rm as Z h Q) {C owner : String}
    (w1 : (Jvm.Cond.methodLink own index y).before a0 Z = true) (w0 : (Jvm.Cond.sameMethod y.cls owner y.name y.desc).before a0 Z = true) (w2 : (Jvm.Cond.declares ⟨owner, y.name, y.desc⟩).before a0 Z = true) (nf : NotFace s ⟨owner, y.name, y.desc⟩) (w3 : (Jvm.Cond.selects C y z).before a0 Z = true) (w4 : (Jvm.Cond.instanceMethod z).before a0 Z = true) (w5 : (Jvm.Cond.code z bytes maxL ret).before a0 Z = true) (wz : (Jvm.Cond.initialized z.cls).before a0 Z = true) (hy : owner ≠ "java/lang/invoke/MethodHandle" ∧ owner ≠ "java/lang/invoke/VarHandle")
    {a : Addr} (E : Exa Z h a C) {argsL rest : List Value} (has : (.ref a :: argsL).toArray = as) (hst : st = argsL.reverse ++ .ref a :: rest) {W : Nat} {ps : List FieldType} {rt : Option FieldType} (hde : parseMethodDescriptor y.desc = some ⟨ps, rt⟩) (hlen : argsL.length = ps.length) (hW : (rest.map fun v => v.category).sum ≤ W) (hf : rm.frames + 1 ≤ R.frames) (hl : W + (maxL + 11) + rm.locals ≤ R.locals) (hc : cells + rm.cells ≤ R.cells) (hs : slots + rm.slots ≤ R.slots)
    (hsize : Ls.size = c.maxLocals) (hd : decode c.code pc = .ok (.invokevirtual index, 3)) (hp : pc + 3 = pc')
    (k : ∀ v T' h' L, Stand p l e R s m args below meth c T' (locs ++ L) (cells + rm.cells) (slots + rm.slots) → T'.heap = h' → Q v h' L → OGo p e below K T' (mkF m pc' Ls (v.toList ++ rest))) : OGo p e below K T (mkF m pc Ls st) := by
  subst hp has
  obtain ⟨cB, kB, q1, q2, q3⟩ := isOf (T := T) hZ eT E
  obtain ⟨v, vm₁, ⟨T', L', c', n'⟩, -, X', ⟨Lc, hQ, l1, y1, z1⟩, r⟩ := X.virtualBackUp hx (x := y) (y := z) (owner := owner) hown (mvT hZ w1) (mvT hZ w0) (mvT hZ w2) hy (mvT hZ w3) (mvT hZ w4) (hM.back (W := W) hZ w5 wz hf hl) q1 q3 (g := mkF m pc Ls st) rfl hsize (Steps.refl _) (argsL := argsL) (rest := rest) (lenOf hde hlen) hst (by show 2 * 0 + _ ≤ _; omega) hd (fun _ _ => ⟨rfl, eT, hc, hs⟩)
  dsimp only [Pt.U, Pt.locs, Pt.cells, Pt.slots] at X' l1 y1 z1 r hQ
  subst l1 y1 z1
  exact (k v T' _ Lc X' rfl hQ).tr r
theorem g_static (X : Stand p l e R s m args below meth c T locs cells slots) (hx : p.tables.exec = Jvm.exec) (hZ : Z.Warmed39 s.vm) (hown : s.vm.findClass own = some m.cls) (eT : T.heap = h) {y : MethodName} {bytes : ByteArray} {maxL index : Nat} {ret : Option FieldType} {rm : Room} {as : Array Value} {Q : Option Value → Heap → List Loc → Prop} (hM : OMet l y bytes maxL ret rm as Z h Q)
    (w1 : (Jvm.Cond.methodLink own index y).before a0 Z = true) (w2 : (Jvm.Cond.static y).before a0 Z = true) (w3 : (Jvm.Cond.code y bytes maxL ret).before a0 Z = true) (wz : (Jvm.Cond.initialized y.cls).before a0 Z = true) (hy : y.cls ≠ "java/lang/invoke/MethodHandle" ∧ y.cls ≠ "java/lang/invoke/VarHandle")
    {argsL rest : List Value} (has : argsL.toArray = as) (hst : st = argsL.reverse ++ rest) {W : Nat} {ps : List FieldType} {rt : Option FieldType} (hde : parseMethodDescriptor y.desc = some ⟨ps, rt⟩) (hlen : argsL.length = ps.length) (hW : (rest.map fun v => v.category).sum ≤ W) (hf : rm.frames + 1 ≤ R.frames) (hl : W + (maxL + 11) + rm.locals ≤ R.locals) (hc : cells + rm.cells ≤ R.cells) (hs : slots + rm.slots ≤ R.slots)
    (hsize : Ls.size = c.maxLocals) (hd : decode c.code pc = .ok (.invokestatic index, 3)) (hp : pc + 3 = pc')
    (k : ∀ v T' h' L, Stand p l e R s m args below meth c T' (locs ++ L) (cells + rm.cells) (slots + rm.slots) → T'.heap = h' → Q v h' L → OGo p e below K T' (mkF m pc' Ls (v.toList ++ rest))) : OGo p e below K T (mkF m pc Ls st) := by
  subst hp has
  obtain ⟨v, vm₁, ⟨T', L', c', n'⟩, -, X', ⟨Lc, hQ, l1, y1, z1⟩, r⟩ := Jvm.LawKit.callS X hx (y := y) hown (mvT hZ w1) (mvT hZ w2) (mvT hZ wz) (mvT hZ w3) hy (hM.back (W := W) hZ w3 wz hf hl) (g := mkF m pc Ls st) rfl hsize (argsL := argsL) (rest := rest) (lenOf hde hlen) hst (by show 2 * 0 + _ ≤ _; omega) hd (fun _ _ => ⟨rfl, eT, hc, hs⟩)
  dsimp only [Pt.U, Pt.locs, Pt.cells, Pt.slots] at X' l1 y1 z1 r hQ
  subst l1 y1 z1
  exact (k v T' _ Lc X' rfl hQ).via r
theorem g_face (X : Stand p l e R s m args below meth c T locs cells slots) (hx : p.tables.exec = Jvm.exec) (hZ : Z.Warmed39 s.vm) (hown : s.vm.findClass own = some m.cls) (eT : T.heap = h) {y z : MethodName} {bytes : ByteArray} {maxL index count : Nat} {ret : Option FieldType} {rm : Room} {as : Array Value} {Q : Option Value → Heap → List Loc → Prop} (hM : OMet l z bytes maxL ret rm as Z h Q) {C : String}
    (w1 : (Jvm.Cond.methodLink own index y).before a0 Z = true) (w2 : (Jvm.Cond.declares y).before a0 Z = true) (w6 : (Jvm.Cond.interfaceMethod y.cls y.cls y.name y.desc).before a0 Z = true) (w3 : (Jvm.Cond.selects C y z).before a0 Z = true) (w4 : (Jvm.Cond.instanceMethod z).before a0 Z = true) (w7 : (Jvm.Cond.publicMethod z).before a0 Z = true) (w8 : (Jvm.Cond.unhidden C y.name y.desc).before a0 Z = true) (w9 : (Jvm.Cond.castable C y.cls).before a0 Z = true) (w5 : (Jvm.Cond.code z bytes maxL ret).before a0 Z = true) (wz : (Jvm.Cond.initialized z.cls).before a0 Z = true) (hy : y.cls ≠ "java/lang/invoke/MethodHandle" ∧ y.cls ≠ "java/lang/invoke/VarHandle")
    {a : Addr} (E : Exa Z h a C) {argsL rest : List Value} (has : (.ref a :: argsL).toArray = as) (hst : st = argsL.reverse ++ .ref a :: rest) {W : Nat} {ps : List FieldType} {rt : Option FieldType} (hde : parseMethodDescriptor y.desc = some ⟨ps, rt⟩) (hlen : argsL.length = ps.length) (hW : (rest.map fun v => v.category).sum ≤ W) (hf : rm.frames + 1 ≤ R.frames) (hl : W + (maxL + 11) + rm.locals ≤ R.locals) (hc : cells + rm.cells ≤ R.cells) (hs : slots + rm.slots ≤ R.slots)
    (hsize : Ls.size = c.maxLocals) (hd : decode c.code pc = .ok (.invokeinterface index count, 5)) (hp : pc + 5 = pc')
    (k : ∀ v T' h' L, Stand p l e R s m args below meth c T' (locs ++ L) (cells + rm.cells) (slots + rm.slots) → T'.heap = h' → Q v h' L → OGo p e below K T' (mkF m pc' Ls (v.toList ++ rest))) : OGo p e below K T (mkF m pc Ls st) := by
  subst hp has
  obtain ⟨cB, kB, q1, q2, q3⟩ := isOf (T := T) hZ eT E
  obtain ⟨v, vm₁, ⟨T', L', c', n'⟩, -, X', ⟨Lc, hQ, l1, y1, z1⟩, r⟩ := X.interfaceBack hx (xi := y) (y := z) hown (mvT hZ w1) (mvT hZ w2) (mvT hZ w6 (by simp [Jvm.Cond.onTables, Jvm.Cond.keepsFace, Jvm.Cond.keeps, Jvm.Cond.steady, Jvm.Cond.faceAtom, hy.1, hy.2])) (mvT hZ w3) (mvT hZ w4) (mvT hZ w7) (mvT hZ w8) (mvT hZ w9) hy (hM.back (W := W) hZ w5 wz hf hl) q1 q2 q3 (g := mkF m pc Ls st) rfl hsize (Steps.refl _) (argsL := argsL) (rest := rest) (lenOf hde hlen) hst (by show 2 * 0 + _ ≤ _; omega) hd (fun _ _ => ⟨rfl, eT, hc, hs⟩)
  dsimp only [Pt.U, Pt.locs, Pt.cells, Pt.slots] at X' l1 y1 z1 r hQ
  subst l1 y1 z1
  exact (k v T' _ Lc X' rfl hQ).tr r
theorem g_aloadN (X : Stand p l e R s m args below meth c T locs cells slots) (hx : p.tables.exec = Jvm.exec) {k : Fin 4} {v : Value} (hd : decode c.code pc = .ok (.aload_n k, 1)) (hp : pc + 1 = pc') (hl : Ls[k.val]? = some (.val v)) (hv : v.isRef = true)
    (k : OGo p e below K T (mkF m pc' Ls (v :: st))) : OGo p e below K T (mkF m pc Ls (st)) := by
  subst hp; exact k.via fun _ q => XS.aloadN X.here hx rfl hd hl hv q
theorem g_aload (X : Stand p l e R s m args below meth c T locs cells slots) (hx : p.tables.exec = Jvm.exec) {k : Nat} {v : Value} (hd : decode c.code pc = .ok (.aload k, 2)) (hp : pc + 2 = pc') (hl : Ls[k]? = some (.val v)) (hv : v.isRef = true)
    (k : OGo p e below K T (mkF m pc' Ls (v :: st))) : OGo p e below K T (mkF m pc Ls (st)) := by
  subst hp; exact k.via fun _ q => XS.aload X.here hx rfl hd hl hv q
theorem g_iloadN (X : Stand p l e R s m args below meth c T locs cells slots) (hx : p.tables.exec = Jvm.exec) {k : Fin 4} {v : Int32} (hd : decode c.code pc = .ok (.iload_n k, 1)) (hp : pc + 1 = pc') (hl : Ls[k.val]? = some (.val (.int v)))
    (k : OGo p e below K T (mkF m pc' Ls (.int v :: st))) : OGo p e below K T (mkF m pc Ls (st)) := by
  subst hp; exact k.via fun _ q => XS.iloadN X.here hx rfl hd hl q
theorem g_iload (X : Stand p l e R s m args below meth c T locs cells slots) (hx : p.tables.exec = Jvm.exec) {k : Nat} {v : Int32} (hd : decode c.code pc = .ok (.iload k, 2)) (hp : pc + 2 = pc') (hl : Ls[k]? = some (.val (.int v)))
    (k : OGo p e below K T (mkF m pc' Ls (.int v :: st))) : OGo p e below K T (mkF m pc Ls (st)) := by
  subst hp; exact k.via fun _ q => XS.iload X.here hx rfl hd hl q
theorem g_lloadN (X : Stand p l e R s m args below meth c T locs cells slots) (hx : p.tables.exec = Jvm.exec) {k : Fin 4} {v : Int64} (hd : decode c.code pc = .ok (.lload_n k, 1)) (hp : pc + 1 = pc') (hl : Ls[k.val]? = some (.val (.long v)))
    (k : OGo p e below K T (mkF m pc' Ls (.long v :: st))) : OGo p e below K T (mkF m pc Ls (st)) := by
  subst hp; exact k.via fun _ q => XT.lloadN X.here hx rfl hd hl q
theorem g_lload (X : Stand p l e R s m args below meth c T locs cells slots) (hx : p.tables.exec = Jvm.exec) {k : Nat} {v : Int64} (hd : decode c.code pc = .ok (.lload k, 2)) (hp : pc + 2 = pc') (hl : Ls[k]? = some (.val (.long v)))
    (k : OGo p e below K T (mkF m pc' Ls (.long v :: st))) : OGo p e below K T (mkF m pc Ls (st)) := by
  subst hp; exact k.via fun _ q => XT.lload X.here hx rfl hd hl q
theorem g_istoreN (X : Stand p l e R s m args below meth c T locs cells slots) (hx : p.tables.exec = Jvm.exec) {k : Fin 4} {x : Int32} {Ls' : Array Slot} (hd : decode c.code pc = .ok (.istore_n k, 1)) (hp : pc + 1 = pc') (hl : storeLocals Ls k.val (.int x) = some Ls')
    (k : OGo p e below K T (mkF m pc' Ls' (st))) : OGo p e below K T (mkF m pc Ls (.int x :: st)) := by
  subst hp; exact k.via fun _ q => XS.istoreN X.here hx rfl hd rfl hl q
theorem g_istore (X : Stand p l e R s m args below meth c T locs cells slots) (hx : p.tables.exec = Jvm.exec) {k : Nat} {x : Int32} {Ls' : Array Slot} (hd : decode c.code pc = .ok (.istore k, 2)) (hp : pc + 2 = pc') (hl : storeLocals Ls k (.int x) = some Ls')
    (k : OGo p e below K T (mkF m pc' Ls' (st))) : OGo p e below K T (mkF m pc Ls (.int x :: st)) := by
  subst hp; exact k.via fun _ q => XS.istore X.here hx rfl hd rfl hl q
theorem g_lstoreN (X : Stand p l e R s m args below meth c T locs cells slots) (hx : p.tables.exec = Jvm.exec) {k : Fin 4} {x : Int64} {Ls' : Array Slot} (hd : decode c.code pc = .ok (.lstore_n k, 1)) (hp : pc + 1 = pc') (hl : storeLocals Ls k.val (.long x) = some Ls')
    (k : OGo p e below K T (mkF m pc' Ls' (st))) : OGo p e below K T (mkF m pc Ls (.long x :: st)) := by
  subst hp; exact k.via fun _ q => XT.lstoreN X.here hx rfl hd rfl hl q
theorem g_lstore (X : Stand p l e R s m args below meth c T locs cells slots) (hx : p.tables.exec = Jvm.exec) {k : Nat} {x : Int64} {Ls' : Array Slot} (hd : decode c.code pc = .ok (.lstore k, 2)) (hp : pc + 2 = pc') (hl : storeLocals Ls k (.long x) = some Ls')
    (k : OGo p e below K T (mkF m pc' Ls' (st))) : OGo p e below K T (mkF m pc Ls (.long x :: st)) := by
  subst hp; exact k.via fun _ q => XT.lstore X.here hx rfl hd rfl hl q
theorem g_astoreN (X : Stand p l e R s m args below meth c T locs cells slots) (hx : p.tables.exec = Jvm.exec) {k : Fin 4} {x : Value} {Ls' : Array Slot} (hd : decode c.code pc = .ok (.astore_n k, 1)) (hp : pc + 1 = pc') (hv : x.isRef = true) (hl : storeLocals Ls k.val x = some Ls')
    (k : OGo p e below K T (mkF m pc' Ls' (st))) : OGo p e below K T (mkF m pc Ls (x :: st)) := by
  subst hp; exact k.via fun _ q => XS.astoreN X.here hx rfl hd rfl hv hl q
theorem g_astore (X : Stand p l e R s m args below meth c T locs cells slots) (hx : p.tables.exec = Jvm.exec) {k : Nat} {x : Value} {Ls' : Array Slot} (hd : decode c.code pc = .ok (.astore k, 2)) (hp : pc + 2 = pc') (hv : x.isRef = true) (hl : storeLocals Ls k x = some Ls')
    (k : OGo p e below K T (mkF m pc' Ls' (st))) : OGo p e below K T (mkF m pc Ls (x :: st)) := by
  subst hp; exact k.via fun _ q => XS.astore X.here hx rfl hd rfl hv hl q
theorem g_iconst (X : Stand p l e R s m args below meth c T locs cells slots) (hx : p.tables.exec = Jvm.exec) {i : Int} (v : Int32) (hd : decode c.code pc = .ok (.iconst i, 1)) (hp : pc + 1 = pc') (hv : Int32.ofInt i = v)
    (k : OGo p e below K T (mkF m pc' Ls (.int v :: st))) : OGo p e below K T (mkF m pc Ls st) := by
  subst hp; exact k.via fun _ q => XT.iconstV X.here hx rfl v hd hv q
theorem g_bipush (X : Stand p l e R s m args below meth c T locs cells slots) (hx : p.tables.exec = Jvm.exec) {i : Int} (v : Int32) (hd : decode c.code pc = .ok (.bipush i, 2)) (hp : pc + 2 = pc') (hv : (Int8.ofInt i).toInt32 = v)
    (k : OGo p e below K T (mkF m pc' Ls (.int v :: st))) : OGo p e below K T (mkF m pc Ls st) := by
  subst hp; exact k.via fun _ q => XT.bipushV X.here hx rfl v hd hv q
theorem g_sipush (X : Stand p l e R s m args below meth c T locs cells slots) (hx : p.tables.exec = Jvm.exec) {i : Int} (v : Int32) (hd : decode c.code pc = .ok (.sipush i, 3)) (hp : pc + 3 = pc') (hv : (Int16.ofInt i).toInt32 = v)
    (k : OGo p e below K T (mkF m pc' Ls (.int v :: st))) : OGo p e below K T (mkF m pc Ls st) := by
  subst hp; exact k.via fun _ q => XT.sipushV X.here hx rfl v hd hv q
theorem g_lconst (X : Stand p l e R s m args below meth c T locs cells slots) (hx : p.tables.exec = Jvm.exec) {i : Fin 2} (v : Int64) (hd : decode c.code pc = .ok (.lconst i, 1)) (hp : pc + 1 = pc') (hv : Int64.ofNat i = v)
    (k : OGo p e below K T (mkF m pc' Ls (.long v :: st))) : OGo p e below K T (mkF m pc Ls st) := by
  subst hp; exact k.via fun _ q => XT.lconstV X.here hx rfl v hd hv q
theorem g_anull (X : Stand p l e R s m args below meth c T locs cells slots) (hx : p.tables.exec = Jvm.exec)  (hd : decode c.code pc = .ok (.aconst_null, 1)) (hp : pc + 1 = pc')
    (k : OGo p e below K T (mkF m pc' Ls (.null :: st))) : OGo p e below K T (mkF m pc Ls (st)) := by
  subst hp; exact k.via fun _ q => XS.aconstNull X.here hx rfl hd  q
theorem g_ldcI (X : Stand p l e R s m args below meth c T locs cells slots) (hx : p.tables.exec = Jvm.exec) (hZ : Z.Warmed39 s.vm) (hown : s.vm.findClass own = some m.cls) {index : Nat} {v : Int32} (w : (Jvm.Cond.constant own index v).before a0 Z = true) (hd : decode c.code pc = .ok (.ldc index, 2)) (hp : pc + 2 = pc')
    (k : OGo p e below K T (mkF m pc' Ls (.int v :: st))) : OGo p e below K T (mkF m pc Ls st) := by
  subst hp; exact k.via fun _ q => X.ldcI hx hown (mvT hZ w) rfl hd q
theorem g_ldc2J (X : Stand p l e R s m args below meth c T locs cells slots) (hx : p.tables.exec = Jvm.exec) (hZ : Z.Warmed39 s.vm) (hown : s.vm.findClass own = some m.cls) {index : Nat} {v : Int64} (w : (Jvm.Cond.constantLong own index v).before a0 Z = true) (hd : decode c.code pc = .ok (.ldc2_w index, 3)) (hp : pc + 3 = pc')
    (k : OGo p e below K T (mkF m pc' Ls (.long v :: st))) : OGo p e below K T (mkF m pc Ls st) := by
  subst hp; exact k.via fun _ q => X.ldc2J hx hown (mvT hZ w) rfl hd q
theorem g_iadd (X : Stand p l e R s m args below meth c T locs cells slots) (hx : p.tables.exec = Jvm.exec) {x y z : Int32} (hd : decode c.code pc = .ok (.iadd, 1)) (hp : pc + 1 = pc') (hz : x + y = z)
    (k : OGo p e below K T (mkF m pc' Ls (.int z :: st))) : OGo p e below K T (mkF m pc Ls (.int y :: .int x :: st)) := by
  subst hp hz; exact k.via fun _ q => XS.iadd X.here hx rfl hd rfl q
theorem g_isub (X : Stand p l e R s m args below meth c T locs cells slots) (hx : p.tables.exec = Jvm.exec) {x y z : Int32} (hd : decode c.code pc = .ok (.isub, 1)) (hp : pc + 1 = pc') (hz : x - y = z)
    (k : OGo p e below K T (mkF m pc' Ls (.int z :: st))) : OGo p e below K T (mkF m pc Ls (.int y :: .int x :: st)) := by
  subst hp hz; exact k.via fun _ q => XS.isub X.here hx rfl hd rfl q
theorem g_iand (X : Stand p l e R s m args below meth c T locs cells slots) (hx : p.tables.exec = Jvm.exec) {x y z : Int32} (hd : decode c.code pc = .ok (.iand, 1)) (hp : pc + 1 = pc') (hz : x &&& y = z)
    (k : OGo p e below K T (mkF m pc' Ls (.int z :: st))) : OGo p e below K T (mkF m pc Ls (.int y :: .int x :: st)) := by
  subst hp hz; exact k.via fun _ q => XS.iand X.here hx rfl hd rfl q
theorem g_imul (X : Stand p l e R s m args below meth c T locs cells slots) (hx : p.tables.exec = Jvm.exec) {x y z : Int32} (hd : decode c.code pc = .ok (.imul, 1)) (hp : pc + 1 = pc') (hz : x * y = z)
    (k : OGo p e below K T (mkF m pc' Ls (.int z :: st))) : OGo p e below K T (mkF m pc Ls (.int y :: .int x :: st)) := by
  subst hp hz; exact k.via fun _ q => XS.imul X.here hx rfl hd rfl q
theorem g_ixor (X : Stand p l e R s m args below meth c T locs cells slots) (hx : p.tables.exec = Jvm.exec) {x y z : Int32} (hd : decode c.code pc = .ok (.ixor, 1)) (hp : pc + 1 = pc') (hz : x ^^^ y = z)
    (k : OGo p e below K T (mkF m pc' Ls (.int z :: st))) : OGo p e below K T (mkF m pc Ls (.int y :: .int x :: st)) := by
  subst hp hz; exact k.via fun _ q => XT.ixor X.here hx rfl hd rfl q
theorem g_ior (X : Stand p l e R s m args below meth c T locs cells slots) (hx : p.tables.exec = Jvm.exec) {x y z : Int32} (hd : decode c.code pc = .ok (.ior, 1)) (hp : pc + 1 = pc') (hz : x ||| y = z)
    (k : OGo p e below K T (mkF m pc' Ls (.int z :: st))) : OGo p e below K T (mkF m pc Ls (.int y :: .int x :: st)) := by
  subst hp hz; exact k.via fun _ q => XT.ior X.here hx rfl hd rfl q
theorem g_ishl (X : Stand p l e R s m args below meth c T locs cells slots) (hx : p.tables.exec = Jvm.exec) {x y z : Int32} (hd : decode c.code pc = .ok (.ishl, 1)) (hp : pc + 1 = pc') (hz : x <<< (y &&& 31) = z)
    (k : OGo p e below K T (mkF m pc' Ls (.int z :: st))) : OGo p e below K T (mkF m pc Ls (.int y :: .int x :: st)) := by
  subst hp hz; exact k.via fun _ q => XT.ishl X.here hx rfl hd rfl q
theorem g_ishr (X : Stand p l e R s m args below meth c T locs cells slots) (hx : p.tables.exec = Jvm.exec) {x y z : Int32} (hd : decode c.code pc = .ok (.ishr, 1)) (hp : pc + 1 = pc') (hz : x >>> (y &&& 31) = z)
    (k : OGo p e below K T (mkF m pc' Ls (.int z :: st))) : OGo p e below K T (mkF m pc Ls (.int y :: .int x :: st)) := by
  subst hp hz; exact k.via fun _ q => XT.ishr X.here hx rfl hd rfl q
theorem g_iushr (X : Stand p l e R s m args below meth c T locs cells slots) (hx : p.tables.exec = Jvm.exec) {x y z : Int32} (hd : decode c.code pc = .ok (.iushr, 1)) (hp : pc + 1 = pc') (hz : XT.ushr x y = z)
    (k : OGo p e below K T (mkF m pc' Ls (.int z :: st))) : OGo p e below K T (mkF m pc Ls (.int y :: .int x :: st)) := by
  subst hp hz; exact k.via fun _ q => XT.iushr X.here hx rfl hd rfl q
theorem g_ladd (X : Stand p l e R s m args below meth c T locs cells slots) (hx : p.tables.exec = Jvm.exec) {x y z : Int64} (hd : decode c.code pc = .ok (.ladd, 1)) (hp : pc + 1 = pc') (hz : x + y = z)
    (k : OGo p e below K T (mkF m pc' Ls (.long z :: st))) : OGo p e below K T (mkF m pc Ls (.long y :: .long x :: st)) := by
  subst hp hz; exact k.via fun _ q => XT.ladd X.here hx rfl hd rfl q
theorem g_lsub (X : Stand p l e R s m args below meth c T locs cells slots) (hx : p.tables.exec = Jvm.exec) {x y z : Int64} (hd : decode c.code pc = .ok (.lsub, 1)) (hp : pc + 1 = pc') (hz : x - y = z)
    (k : OGo p e below K T (mkF m pc' Ls (.long z :: st))) : OGo p e below K T (mkF m pc Ls (.long y :: .long x :: st)) := by
  subst hp hz; exact k.via fun _ q => XT.lsub X.here hx rfl hd rfl q
theorem g_lmul (X : Stand p l e R s m args below meth c T locs cells slots) (hx : p.tables.exec = Jvm.exec) {x y z : Int64} (hd : decode c.code pc = .ok (.lmul, 1)) (hp : pc + 1 = pc') (hz : x * y = z)
    (k : OGo p e below K T (mkF m pc' Ls (.long z :: st))) : OGo p e below K T (mkF m pc Ls (.long y :: .long x :: st)) := by
  subst hp hz; exact k.via fun _ q => XT.lmul X.here hx rfl hd rfl q
theorem g_land (X : Stand p l e R s m args below meth c T locs cells slots) (hx : p.tables.exec = Jvm.exec) {x y z : Int64} (hd : decode c.code pc = .ok (.land, 1)) (hp : pc + 1 = pc') (hz : x &&& y = z)
    (k : OGo p e below K T (mkF m pc' Ls (.long z :: st))) : OGo p e below K T (mkF m pc Ls (.long y :: .long x :: st)) := by
  subst hp hz; exact k.via fun _ q => XT.land X.here hx rfl hd rfl q
theorem g_lor (X : Stand p l e R s m args below meth c T locs cells slots) (hx : p.tables.exec = Jvm.exec) {x y z : Int64} (hd : decode c.code pc = .ok (.lor, 1)) (hp : pc + 1 = pc') (hz : x ||| y = z)
    (k : OGo p e below K T (mkF m pc' Ls (.long z :: st))) : OGo p e below K T (mkF m pc Ls (.long y :: .long x :: st)) := by
  subst hp hz; exact k.via fun _ q => XT.lor X.here hx rfl hd rfl q
theorem g_lxor (X : Stand p l e R s m args below meth c T locs cells slots) (hx : p.tables.exec = Jvm.exec) {x y z : Int64} (hd : decode c.code pc = .ok (.lxor, 1)) (hp : pc + 1 = pc') (hz : x ^^^ y = z)
    (k : OGo p e below K T (mkF m pc' Ls (.long z :: st))) : OGo p e below K T (mkF m pc Ls (.long y :: .long x :: st)) := by
  subst hp hz; exact k.via fun _ q => XT.lxor X.here hx rfl hd rfl q
theorem g_lshl (X : Stand p l e R s m args below meth c T locs cells slots) (hx : p.tables.exec = Jvm.exec) {x : Int64} {y : Int32} (hd : decode c.code pc = .ok (.lshl, 1)) (hp : pc + 1 = pc')
    (k : OGo p e below K T (mkF m pc' Ls (.long (x <<< (y.toInt64 &&& 63)) :: st))) : OGo p e below K T (mkF m pc Ls (.int y :: .long x :: st)) := by
  subst hp; exact k.via fun _ q => XT.lshl X.here hx rfl hd rfl q
theorem g_lshr (X : Stand p l e R s m args below meth c T locs cells slots) (hx : p.tables.exec = Jvm.exec) {x : Int64} {y : Int32} (hd : decode c.code pc = .ok (.lshr, 1)) (hp : pc + 1 = pc')
    (k : OGo p e below K T (mkF m pc' Ls (.long (x >>> (y.toInt64 &&& 63)) :: st))) : OGo p e below K T (mkF m pc Ls (.int y :: .long x :: st)) := by
  subst hp; exact k.via fun _ q => XT.lshr X.here hx rfl hd rfl q
theorem g_lushr (X : Stand p l e R s m args below meth c T locs cells slots) (hx : p.tables.exec = Jvm.exec) {x : Int64} {y : Int32} (hd : decode c.code pc = .ok (.lushr, 1)) (hp : pc + 1 = pc')
    (k : OGo p e below K T (mkF m pc' Ls (.long (XT.ushrL x y) :: st))) : OGo p e below K T (mkF m pc Ls (.int y :: .long x :: st)) := by
  subst hp; exact k.via fun _ q => XT.lushr X.here hx rfl hd rfl q
theorem g_idiv (X : Stand p l e R s m args below meth c T locs cells slots) (hx : p.tables.exec = Jvm.exec) {x y : Int32} (hd : decode c.code pc = .ok (.idiv, 1)) (hp : pc + 1 = pc') (hy : y ≠ 0)
    (k : OGo p e below K T (mkF m pc' Ls (.int (x / y) :: st))) : OGo p e below K T (mkF m pc Ls (.int y :: .int x :: st)) := by
  subst hp; exact k.via fun _ q => XS.idiv X.here hx rfl hd rfl hy q
theorem g_irem (X : Stand p l e R s m args below meth c T locs cells slots) (hx : p.tables.exec = Jvm.exec) {x y : Int32} (hd : decode c.code pc = .ok (.irem, 1)) (hp : pc + 1 = pc') (hy : y ≠ 0)
    (k : OGo p e below K T (mkF m pc' Ls (.int (x % y) :: st))) : OGo p e below K T (mkF m pc Ls (.int y :: .int x :: st)) := by
  subst hp; exact k.via fun _ q => iremM X hx rfl hd rfl hy q
theorem g_ldiv (X : Stand p l e R s m args below meth c T locs cells slots) (hx : p.tables.exec = Jvm.exec) {x y : Int64} (hd : decode c.code pc = .ok (.ldiv, 1)) (hp : pc + 1 = pc') (hy : y ≠ 0)
    (k : OGo p e below K T (mkF m pc' Ls (.long (x / y) :: st))) : OGo p e below K T (mkF m pc Ls (.long y :: .long x :: st)) := by
  subst hp; exact k.via fun _ q => XT.ldiv X.here hx rfl hd rfl hy q
theorem g_lrem (X : Stand p l e R s m args below meth c T locs cells slots) (hx : p.tables.exec = Jvm.exec) {x y : Int64} (hd : decode c.code pc = .ok (.lrem, 1)) (hp : pc + 1 = pc') (hy : y ≠ 0)
    (k : OGo p e below K T (mkF m pc' Ls (.long (x % y) :: st))) : OGo p e below K T (mkF m pc Ls (.long y :: .long x :: st)) := by
  subst hp; exact k.via fun _ q => XT.lrem X.here hx rfl hd rfl hy (by rw [lrem_mod]; exact q)
theorem g_ineg (X : Stand p l e R s m args below meth c T locs cells slots) (hx : p.tables.exec = Jvm.exec) {x : Int32} (hd : decode c.code pc = .ok (.ineg, 1)) (hp : pc + 1 = pc')
    (k : OGo p e below K T (mkF m pc' Ls (.int (-x) :: st))) : OGo p e below K T (mkF m pc Ls (.int x :: st)) := by
  subst hp; exact k.via fun _ q => XS.ineg X.here hx rfl hd rfl q
theorem g_lneg (X : Stand p l e R s m args below meth c T locs cells slots) (hx : p.tables.exec = Jvm.exec) {x : Int64} (hd : decode c.code pc = .ok (.lneg, 1)) (hp : pc + 1 = pc')
    (k : OGo p e below K T (mkF m pc' Ls (.long (-x) :: st))) : OGo p e below K T (mkF m pc Ls (.long x :: st)) := by
  subst hp; exact k.via fun _ q => XT.lneg X.here hx rfl hd rfl q
theorem g_i2l (X : Stand p l e R s m args below meth c T locs cells slots) (hx : p.tables.exec = Jvm.exec) {x : Int32} (hd : decode c.code pc = .ok (.i2l, 1)) (hp : pc + 1 = pc')
    (k : OGo p e below K T (mkF m pc' Ls (.long x.toInt64 :: st))) : OGo p e below K T (mkF m pc Ls (.int x :: st)) := by
  subst hp; exact k.via fun _ q => XT.i2l X.here hx rfl hd rfl q
theorem g_l2i (X : Stand p l e R s m args below meth c T locs cells slots) (hx : p.tables.exec = Jvm.exec) {x : Int64} (hd : decode c.code pc = .ok (.l2i, 1)) (hp : pc + 1 = pc')
    (k : OGo p e below K T (mkF m pc' Ls (.int x.toInt32 :: st))) : OGo p e below K T (mkF m pc Ls (.long x :: st)) := by
  subst hp; exact k.via fun _ q => XT.l2i X.here hx rfl hd rfl q
theorem g_i2b (X : Stand p l e R s m args below meth c T locs cells slots) (hx : p.tables.exec = Jvm.exec) {x : Int32} (hd : decode c.code pc = .ok (.i2b, 1)) (hp : pc + 1 = pc')
    (k : OGo p e below K T (mkF m pc' Ls (.int x.toInt8.toInt32 :: st))) : OGo p e below K T (mkF m pc Ls (.int x :: st)) := by
  subst hp; exact k.via fun _ q => XT.i2b X.here hx rfl hd rfl q
theorem g_i2c (X : Stand p l e R s m args below meth c T locs cells slots) (hx : p.tables.exec = Jvm.exec) {x : Int32} (hd : decode c.code pc = .ok (.i2c, 1)) (hp : pc + 1 = pc')
    (k : OGo p e below K T (mkF m pc' Ls (.int x.toUInt32.toUInt16.toUInt32.toInt32 :: st))) : OGo p e below K T (mkF m pc Ls (.int x :: st)) := by
  subst hp; exact k.via fun _ q => XT.i2c X.here hx rfl hd rfl q
theorem g_i2s (X : Stand p l e R s m args below meth c T locs cells slots) (hx : p.tables.exec = Jvm.exec) {x : Int32} (hd : decode c.code pc = .ok (.i2s, 1)) (hp : pc + 1 = pc')
    (k : OGo p e below K T (mkF m pc' Ls (.int x.toInt16.toInt32 :: st))) : OGo p e below K T (mkF m pc Ls (.int x :: st)) := by
  subst hp; exact k.via fun _ q => XT.i2s X.here hx rfl hd rfl q
theorem g_lcmp (X : Stand p l e R s m args below meth c T locs cells slots) (hx : p.tables.exec = Jvm.exec) {x y : Int64} (hd : decode c.code pc = .ok (.lcmp, 1)) (hp : pc + 1 = pc')
    (k : OGo p e below K T (mkF m pc' Ls (.int (XT.cmpL x y) :: st))) : OGo p e below K T (mkF m pc Ls (.long y :: .long x :: st)) := by
  subst hp; exact k.via fun _ q => XT.lcmp X.here hx rfl hd rfl q
theorem g_dup (X : Stand p l e R s m args below meth c T locs cells slots) (hx : p.tables.exec = Jvm.exec) {x : Value} (hd : decode c.code pc = .ok (.dup, 1)) (hp : pc + 1 = pc') (hc : x.category = 1)
    (k : OGo p e below K T (mkF m pc' Ls (x :: x :: st))) : OGo p e below K T (mkF m pc Ls (x :: st)) := by
  subst hp; exact k.via fun _ q => XS.dup X.here hx rfl hd rfl hc q
theorem g_pop (X : Stand p l e R s m args below meth c T locs cells slots) (hx : p.tables.exec = Jvm.exec) {x : Value} (hd : decode c.code pc = .ok (.pop, 1)) (hp : pc + 1 = pc') (hc : x.category = 1)
    (k : OGo p e below K T (mkF m pc' Ls (st))) : OGo p e below K T (mkF m pc Ls (x :: st)) := by
  subst hp; exact k.via fun _ q => XT.pop X.here hx rfl hd rfl hc q
theorem g_dupx1 (X : Stand p l e R s m args below meth c T locs cells slots) (hx : p.tables.exec = Jvm.exec) {x y : Value} (hd : decode c.code pc = .ok (.dup_x1, 1)) (hp : pc + 1 = pc') (hc : x.category = 1) (hc' : y.category = 1)
    (k : OGo p e below K T (mkF m pc' Ls (x :: y :: x :: st))) : OGo p e below K T (mkF m pc Ls (x :: y :: st)) := by
  subst hp; exact k.via fun _ q => XT.dupX1 X.here hx rfl hd rfl hc hc' q
theorem g_dup2 (X : Stand p l e R s m args below meth c T locs cells slots) (hx : p.tables.exec = Jvm.exec) {x y : Value} (hd : decode c.code pc = .ok (.dup2, 1)) (hp : pc + 1 = pc') (hc : x.category = 1) (hc' : y.category = 1)
    (k : OGo p e below K T (mkF m pc' Ls (x :: y :: x :: y :: st))) : OGo p e below K T (mkF m pc Ls (x :: y :: st)) := by
  subst hp; exact k.via fun _ q => XT.dup2 X.here hx rfl hd rfl hc hc' q
theorem g_dup2L (X : Stand p l e R s m args below meth c T locs cells slots) (hx : p.tables.exec = Jvm.exec) {x : Int64} (hd : decode c.code pc = .ok (.dup2, 1)) (hp : pc + 1 = pc')
    (k : OGo p e below K T (mkF m pc' Ls (.long x :: .long x :: st))) : OGo p e below K T (mkF m pc Ls (.long x :: st)) := by
  subst hp; exact k.via fun _ q => XT.dup2L X.here hx rfl hd rfl q
theorem g_iinc (X : Stand p l e R s m args below meth c T locs cells slots) (hx : p.tables.exec = Jvm.exec) {k : Nat} {cst : Int} {x z : Int32} {Ls' : Array Slot} (v : Int32) (hd : decode c.code pc = .ok (.iinc k cst, 3)) (hp : pc + 3 = pc') (hv : Int32.ofInt cst = v) (hl : Ls[k]? = some (.val (.int x))) (hs : x + v = z) (hl' : storeLocals Ls k (.int z) = some Ls')
    (k : OGo p e below K T (mkF m pc' Ls' st)) : OGo p e below K T (mkF m pc Ls st) := by
  subst hp hs; exact k.via fun _ q => XT.iincV X.here hx rfl v hd hv hl hl' q
theorem g_ifY (X : Stand p l e R s m args below meth c T locs cells slots) (hx : p.tables.exec = Jvm.exec) {cd : ClassFile.Cond} {x : Int32} {o : Int} (hd : decode c.code pc = .ok (.ifCond cd o, 3)) (hc : ifCond.holds cd x = true) (ho : 0 ≤ (pc : Int) + o) (hp : ((pc : Int) + o).toNat = pc')
    (k : OGo p e below K T (mkF m pc' Ls st)) : OGo p e below K T (mkF m pc Ls (.int x :: st)) := k.via fun _ q => XS.ifYes X.here hx rfl rfl hd rfl hc ho hp q
theorem g_ifN (X : Stand p l e R s m args below meth c T locs cells slots) (hx : p.tables.exec = Jvm.exec) {cd : ClassFile.Cond} {x : Int32} {o : Int} (hd : decode c.code pc = .ok (.ifCond cd o, 3)) (hc : ifCond.holds cd x = false) (hp : pc + 3 = pc')
    (k : OGo p e below K T (mkF m pc' Ls st)) : OGo p e below K T (mkF m pc Ls (.int x :: st)) := by
  subst hp; exact k.via fun _ q => XS.ifNo X.here hx rfl hd rfl hc q
theorem g_icmpY (X : Stand p l e R s m args below meth c T locs cells slots) (hx : p.tables.exec = Jvm.exec) {cd : ClassFile.Cond} {x y : Int32} {o : Int} (hd : decode c.code pc = .ok (.if_icmp cd o, 3)) (hc : if_icmp.holds cd x y = true) (ho : 0 ≤ (pc : Int) + o) (hp : ((pc : Int) + o).toNat = pc')
    (k : OGo p e below K T (mkF m pc' Ls st)) : OGo p e below K T (mkF m pc Ls (.int y :: .int x :: st)) := k.via fun _ q => XS.icmpYes X.here hx rfl rfl hd rfl hc ho hp q
theorem g_icmpN (X : Stand p l e R s m args below meth c T locs cells slots) (hx : p.tables.exec = Jvm.exec) {cd : ClassFile.Cond} {x y : Int32} {o : Int} (hd : decode c.code pc = .ok (.if_icmp cd o, 3)) (hc : if_icmp.holds cd x y = false) (hp : pc + 3 = pc')
    (k : OGo p e below K T (mkF m pc' Ls st)) : OGo p e below K T (mkF m pc Ls (.int y :: .int x :: st)) := by
  subst hp; exact k.via fun _ q => XS.icmpNo X.here hx rfl hd rfl hc q
theorem g_acmpY (X : Stand p l e R s m args below meth c T locs cells slots) (hx : p.tables.exec = Jvm.exec) {cd : ClassFile.ACond} {x y : Value} {o : Int} (hd : decode c.code pc = .ok (.if_acmp cd o, 3)) (hx1 : x.isRef = true) (hy1 : y.isRef = true) (hc : XT.acmp cd x y = true) (ho : 0 ≤ (pc : Int) + o) (hp : ((pc : Int) + o).toNat = pc')
    (k : OGo p e below K T (mkF m pc' Ls st)) : OGo p e below K T (mkF m pc Ls (y :: x :: st)) := k.via fun _ q => XT.acmpYes X.here hx rfl rfl hd rfl hx1 hy1 hc ho hp q
theorem g_acmpN (X : Stand p l e R s m args below meth c T locs cells slots) (hx : p.tables.exec = Jvm.exec) {cd : ClassFile.ACond} {x y : Value} {o : Int} (hd : decode c.code pc = .ok (.if_acmp cd o, 3)) (hx1 : x.isRef = true) (hy1 : y.isRef = true) (hc : XT.acmp cd x y = false) (hp : pc + 3 = pc')
    (k : OGo p e below K T (mkF m pc' Ls st)) : OGo p e below K T (mkF m pc Ls (y :: x :: st)) := by
  subst hp; exact k.via fun _ q => XT.acmpNo X.here hx rfl hd rfl hx1 hy1 hc q
theorem g_nullY (X : Stand p l e R s m args below meth c T locs cells slots) (hx : p.tables.exec = Jvm.exec) {o : Int} (hd : decode c.code pc = .ok (.ifnull o, 3)) (ho : 0 ≤ (pc : Int) + o) (hp : ((pc : Int) + o).toNat = pc')
    (k : OGo p e below K T (mkF m pc' Ls st)) : OGo p e below K T (mkF m pc Ls (.null :: st)) := k.via fun _ q => XS.ifnullYes X.here hx rfl rfl hd rfl ho hp q
theorem g_nullN (X : Stand p l e R s m args below meth c T locs cells slots) (hx : p.tables.exec = Jvm.exec) {o : Int} {a : Addr} (hd : decode c.code pc = .ok (.ifnull o, 3)) (hp : pc + 3 = pc')
    (k : OGo p e below K T (mkF m pc' Ls st)) : OGo p e below K T (mkF m pc Ls (.ref a :: st)) := by
  subst hp; exact k.via fun _ q => XS.ifnullNo X.here hx rfl hd rfl q
theorem g_nonnullY (X : Stand p l e R s m args below meth c T locs cells slots) (hx : p.tables.exec = Jvm.exec) {o : Int} {a : Addr} (hd : decode c.code pc = .ok (.ifnonnull o, 3)) (ho : 0 ≤ (pc : Int) + o) (hp : ((pc : Int) + o).toNat = pc')
    (k : OGo p e below K T (mkF m pc' Ls st)) : OGo p e below K T (mkF m pc Ls (.ref a :: st)) := k.via fun _ q => XT.ifnonnullYes X.here hx rfl rfl hd rfl ho hp q
theorem g_nonnullN (X : Stand p l e R s m args below meth c T locs cells slots) (hx : p.tables.exec = Jvm.exec) {o : Int} (hd : decode c.code pc = .ok (.ifnonnull o, 3)) (hp : pc + 3 = pc')
    (k : OGo p e below K T (mkF m pc' Ls st)) : OGo p e below K T (mkF m pc Ls (.null :: st)) := by
  subst hp; exact k.via fun _ q => XT.ifnonnullNo X.here hx rfl hd rfl q
theorem g_goto (X : Stand p l e R s m args below meth c T locs cells slots) (hx : p.tables.exec = Jvm.exec) {o : Int} (hd : decode c.code pc = .ok (.goto o, 3)) (ho : 0 ≤ (pc : Int) + o) (hp : ((pc : Int) + o).toNat = pc')
    (k : OGo p e below K T (mkF m pc' Ls st)) : OGo p e below K T (mkF m pc Ls st) := k.via fun _ q => XS.goto X.here hx rfl rfl hd ho hp q
theorem g_len (X : Stand p l e R s m args below meth c T locs cells slots) (hx : p.tables.exec = Jvm.exec) (hZ : Z.Warmed39 s.vm) (eT : T.heap = h) {a : Addr} {kk : ClassId} {ty : FieldType} {vs : List Value} (F : OAry Z h a kk ty vs) {z : Int32} (hz : vs.length.toInt32 = z) (hd : decode c.code pc = .ok (.arraylength, 1)) (hp : pc + 1 = pc')
    (k : OGo p e below K T (mkF m pc' Ls (.int z :: st))) : OGo p e below K T (mkF m pc Ls (.ref a :: st)) := by
  subst hp hz
  obtain ⟨cl, A, r1, rfl, -⟩ := F
  refine k.via fun t q => X.arraylength hx (cell := cl) (a := a) (by rw [eT]; exact A.1) (State.isArrayOf_alike hZ.alike A.2.1) (g := mkF m pc Ls (.ref a :: st)) rfl (rest := st) rfl hd t ?_
  simpa using q
theorem g_iaload (X : Stand p l e R s m args below meth c T locs cells slots) (hx : p.tables.exec = Jvm.exec) (hZ : Z.Warmed39 s.vm) (eT : T.heap = h) {a : Addr} {kk : ClassId} {vs : List Value} (F : OAry Z h a kk .int vs) {j : Int32} {v : Value} (hj : ¬ j < 0) (hv : vs[j.toNatClampNeg]? = some v) (hd : decode c.code pc = .ok (.iaload, 1)) (hp : pc + 1 = pc')
    (k : OGo p e below K T (mkF m pc' Ls (v :: st))) : OGo p e below K T (mkF m pc Ls (.int j :: .ref a :: st)) := by
  subst hp
  obtain ⟨cl, A, r1, r2, -⟩ := F
  exact k.via fun t q => X.iaload hx (cell := cl) (a := a) (j := j) (v := v) (by rw [eT]; exact A.1) (State.isArrayOf_alike hZ.alike A.2.1) A.2.2 (aryIn r2 hj hv).1 (aryIn r2 hj hv).2 (g := mkF m pc Ls (.int j :: .ref a :: st)) rfl (rest := st) rfl hd t q
theorem g_laload (X : Stand p l e R s m args below meth c T locs cells slots) (hx : p.tables.exec = Jvm.exec) (hZ : Z.Warmed39 s.vm) (eT : T.heap = h) {a : Addr} {kk : ClassId} {vs : List Value} (F : OAry Z h a kk .long vs) {j : Int32} {v : Value} (hj : ¬ j < 0) (hv : vs[j.toNatClampNeg]? = some v) (hd : decode c.code pc = .ok (.laload, 1)) (hp : pc + 1 = pc')
    (k : OGo p e below K T (mkF m pc' Ls (v :: st))) : OGo p e below K T (mkF m pc Ls (.int j :: .ref a :: st)) := by
  subst hp
  obtain ⟨cl, A, r1, r2, -⟩ := F
  exact k.via fun t q => X.laload hx (cell := cl) (a := a) (j := j) (v := v) (by rw [eT]; exact A.1) (State.isArrayOf_alike hZ.alike A.2.1) A.2.2 (aryIn r2 hj hv).1 (aryIn r2 hj hv).2 (g := mkF m pc Ls (.int j :: .ref a :: st)) rfl (rest := st) rfl hd t q
theorem g_caload (X : Stand p l e R s m args below meth c T locs cells slots) (hx : p.tables.exec = Jvm.exec) (hZ : Z.Warmed39 s.vm) (eT : T.heap = h) {a : Addr} {kk : ClassId} {vs : List Value} (F : OAry Z h a kk .char vs) {j : Int32} {v : Value} (hj : ¬ j < 0) (hv : vs[j.toNatClampNeg]? = some v) (hd : decode c.code pc = .ok (.caload, 1)) (hp : pc + 1 = pc')
    (k : OGo p e below K T (mkF m pc' Ls (v :: st))) : OGo p e below K T (mkF m pc Ls (.int j :: .ref a :: st)) := by
  subst hp
  obtain ⟨cl, A, r1, r2, -⟩ := F
  exact k.via fun t q => X.caload hx (cell := cl) (a := a) (j := j) (v := v) (by rw [eT]; exact A.1) (State.isArrayOf_alike hZ.alike A.2.1) A.2.2 (aryIn r2 hj hv).1 (aryIn r2 hj hv).2 (g := mkF m pc Ls (.int j :: .ref a :: st)) rfl (rest := st) rfl hd t q
theorem g_baload (X : Stand p l e R s m args below meth c T locs cells slots) (hx : p.tables.exec = Jvm.exec) (hZ : Z.Warmed39 s.vm) (eT : T.heap = h) {a : Addr} {kk : ClassId} {vs : List Value} (F : OAry Z h a kk .byte vs) {j : Int32} {v : Value} (hj : ¬ j < 0) (hv : vs[j.toNatClampNeg]? = some v) (hd : decode c.code pc = .ok (.baload, 1)) (hp : pc + 1 = pc')
    (k : OGo p e below K T (mkF m pc' Ls (v :: st))) : OGo p e below K T (mkF m pc Ls (.int j :: .ref a :: st)) := by
  subst hp
  obtain ⟨cl, A, r1, r2, -⟩ := F
  exact k.via fun t q => X.baloadBytes hx (cell := cl) (a := a) (j := j) (v := v) (by rw [eT]; exact A.1) (State.isArrayOf_alike hZ.alike A.2.1) A.2.2 (aryIn r2 hj hv).1 (aryIn r2 hj hv).2 (g := mkF m pc Ls (.int j :: .ref a :: st)) rfl (rest := st) rfl hd t q
theorem g_zaload (X : Stand p l e R s m args below meth c T locs cells slots) (hx : p.tables.exec = Jvm.exec) (hZ : Z.Warmed39 s.vm) (eT : T.heap = h) {a : Addr} {kk : ClassId} {vs : List Value} (F : OAry Z h a kk .boolean vs) {j : Int32} {v : Value} (hj : ¬ j < 0) (hv : vs[j.toNatClampNeg]? = some v) (hd : decode c.code pc = .ok (.baload, 1)) (hp : pc + 1 = pc')
    (k : OGo p e below K T (mkF m pc' Ls (v :: st))) : OGo p e below K T (mkF m pc Ls (.int j :: .ref a :: st)) := by
  subst hp
  obtain ⟨cl, A, r1, r2, -⟩ := F
  exact k.via fun t q => X.baloadBooleans hx (cell := cl) (a := a) (j := j) (v := v) (by rw [eT]; exact A.1) (State.isArrayOf_alike hZ.alike A.2.1) A.2.2 (aryIn r2 hj hv).1 (aryIn r2 hj hv).2 (g := mkF m pc Ls (.int j :: .ref a :: st)) rfl (rest := st) rfl hd t q
theorem g_saload (X : Stand p l e R s m args below meth c T locs cells slots) (hx : p.tables.exec = Jvm.exec) (hZ : Z.Warmed39 s.vm) (eT : T.heap = h) {a : Addr} {kk : ClassId} {vs : List Value} (F : OAry Z h a kk .short vs) {j : Int32} {v : Value} (hj : ¬ j < 0) (hv : vs[j.toNatClampNeg]? = some v) (hd : decode c.code pc = .ok (.saload, 1)) (hp : pc + 1 = pc')
    (k : OGo p e below K T (mkF m pc' Ls (v :: st))) : OGo p e below K T (mkF m pc Ls (.int j :: .ref a :: st)) := by
  subst hp
  obtain ⟨cl, A, r1, r2, -⟩ := F
  exact k.via fun t q => X.saload hx (cell := cl) (a := a) (j := j) (v := v) (by rw [eT]; exact A.1) (State.isArrayOf_alike hZ.alike A.2.1) A.2.2 (aryIn r2 hj hv).1 (aryIn r2 hj hv).2 (g := mkF m pc Ls (.int j :: .ref a :: st)) rfl (rest := st) rfl hd t q
theorem g_aaload (X : Stand p l e R s m args below meth c T locs cells slots) (hx : p.tables.exec = Jvm.exec) (hZ : Z.Warmed39 s.vm) (eT : T.heap = h) {a : Addr} {kk : ClassId} {ty : FieldType} {vs : List Value} (F : OAry Z h a kk ty vs) (hty : ty.isReference = true) {j : Int32} {v : Value} (hj : ¬ j < 0) (hv : vs[j.toNatClampNeg]? = some v) (hd : decode c.code pc = .ok (.aaload, 1)) (hp : pc + 1 = pc')
    (k : OGo p e below K T (mkF m pc' Ls (v :: st))) : OGo p e below K T (mkF m pc Ls (.int j :: .ref a :: st)) := by
  subst hp
  obtain ⟨cl, A, r1, r2, -⟩ := F
  exact k.via fun t q => X.aaload hx (cell := cl) (a := a) (j := j) (v := v) (by rw [eT]; exact A.1) (State.isArrayOf_alike hZ.alike A.2.1) hty A.2.2 (aryIn r2 hj hv).1 (aryIn r2 hj hv).2 (g := mkF m pc Ls (.int j :: .ref a :: st)) rfl (rest := st) rfl hd t q
theorem g_iastore (X : Stand p l e R s m args below meth c T locs cells slots) (hx : p.tables.exec = Jvm.exec) (hZ : Z.Warmed39 s.vm) (eT : T.heap = h) {a : Addr} {kk : ClassId} {vs vs' : List Value} (F : OAry Z h a kk .int vs) {j : Int32} {u : Value} {x : Int32} (hj : ¬ j < 0) (hv : vs[j.toNatClampNeg]? = some u) (hvs : vs.set j.toNatClampNeg (.int x) = vs') (P : OPr h0 ws h locs) (q : a ∈ ws ∨ h0.size ≤ a) (hd : decode c.code pc = .ok (.iastore, 1)) (hp : pc + 1 = pc')
    (k : ∀ T' h', Stand p l e R s m args below meth c T' (locs ++ [⟨a, j.toNatClampNeg⟩]) cells slots → T'.heap = h' → Wr h h' a j.toNatClampNeg (.int x) → OPr h0 ws h' (locs ++ [⟨a, j.toNatClampNeg⟩]) → OAry Z h' a kk .int vs' → OGo p e below K T' (mkF m pc' Ls st)) : OGo p e below K T (mkF m pc Ls (.int x :: .int j :: .ref a :: st)) := by
  subst hp
  obtain ⟨cl, A, r1, r2, r3⟩ := F
  obtain ⟨T', h', X', e', W', r⟩ := stI X hx hZ eT A (aryIn r2 hj hv).1 (g := mkF m pc Ls (.int x :: .int j :: .ref a :: st)) rfl rfl hd
  exact (k T' h' X' e' W' (P.wr W' q) (arySet ⟨cl, A, r1, r2, r3⟩ W' rfl hvs)).via r
theorem g_lastore (X : Stand p l e R s m args below meth c T locs cells slots) (hx : p.tables.exec = Jvm.exec) (hZ : Z.Warmed39 s.vm) (eT : T.heap = h) {a : Addr} {kk : ClassId} {vs vs' : List Value} (F : OAry Z h a kk .long vs) {j : Int32} {u : Value} {x : Int64} (hj : ¬ j < 0) (hv : vs[j.toNatClampNeg]? = some u) (hvs : vs.set j.toNatClampNeg (.long x) = vs') (P : OPr h0 ws h locs) (q : a ∈ ws ∨ h0.size ≤ a) (hd : decode c.code pc = .ok (.lastore, 1)) (hp : pc + 1 = pc')
    (k : ∀ T' h', Stand p l e R s m args below meth c T' (locs ++ [⟨a, j.toNatClampNeg⟩]) cells slots → T'.heap = h' → Wr h h' a j.toNatClampNeg (.long x) → OPr h0 ws h' (locs ++ [⟨a, j.toNatClampNeg⟩]) → OAry Z h' a kk .long vs' → OGo p e below K T' (mkF m pc' Ls st)) : OGo p e below K T (mkF m pc Ls (.long x :: .int j :: .ref a :: st)) := by
  subst hp
  obtain ⟨cl, A, r1, r2, r3⟩ := F
  obtain ⟨T', h', X', e', W', r⟩ := stJ X hx hZ eT A (aryIn r2 hj hv).1 (g := mkF m pc Ls (.long x :: .int j :: .ref a :: st)) rfl rfl hd
  exact (k T' h' X' e' W' (P.wr W' q) (arySet ⟨cl, A, r1, r2, r3⟩ W' rfl hvs)).via r
theorem g_aastore (X : Stand p l e R s m args below meth c T locs cells slots) (hx : p.tables.exec = Jvm.exec) (hZ : Z.Warmed39 s.vm) (eT : T.heap = h) {a : Addr} {kk : ClassId} {ty : FieldType} {vs vs' : List Value} (F : OAry Z h a kk ty vs) (hty : ty.isReference = true) {j : Int32} {u x : Value} (hj : ¬ j < 0) (hv : vs[j.toNatClampNeg]? = some u) (hvs : vs.set j.toNatClampNeg x = vs') (hf : fits ty x = true) (S : Sto Z h a x) (P : OPr h0 ws h locs) (q : a ∈ ws ∨ h0.size ≤ a) (hd : decode c.code pc = .ok (.aastore, 1)) (hp : pc + 1 = pc')
    (k : ∀ T' h', Stand p l e R s m args below meth c T' (locs ++ [⟨a, j.toNatClampNeg⟩]) cells slots → T'.heap = h' → Wr h h' a j.toNatClampNeg x → OPr h0 ws h' (locs ++ [⟨a, j.toNatClampNeg⟩]) → OAry Z h' a kk ty vs' → OGo p e below K T' (mkF m pc' Ls st)) : OGo p e below K T (mkF m pc Ls (x :: .int j :: .ref a :: st)) := by
  subst hp
  obtain ⟨cl, A, r1, r2, r3⟩ := F
  obtain ⟨T', h', X', e', W', r⟩ := stR X hx hZ eT A (aryIn r2 hj hv).1 hty S (g := mkF m pc Ls (x :: .int j :: .ref a :: st)) rfl rfl hd
  exact (k T' h' X' e' W' (P.wr W' q) (arySet ⟨cl, A, r1, r2, r3⟩ W' hf hvs)).via r
theorem fit0 (ty : FieldType) : fits ty (defaultValue ty) = true := by cases ty <;> rfl
theorem stoOf {a y : Addr} {kk : ClassId} {ty : FieldType} {vs : List Value} {C : String} (F : OAry Z h a kk ty vs) (O : Ovr Z kk C) (I : Ins Z h y C true) : Sto Z h a (.ref y) := by
  obtain ⟨cl, A, r1, -⟩ := F; exact Sto.ofV A r1 O I
theorem g_newarray (X : Stand p l e R s m args below meth c T locs cells slots) (hx : p.tables.exec = Jvm.exec) (hZ : Z.Warmed39 s.vm) {aty : ArrayType} {ad : String} (had : "[" ++ (newarray.typeOf aty).toString = ad) (w : (Jvm.Cond.arrayClass (newarray.typeOf aty)).before a0 Z = true) (eT : T.heap = h) {n : Int32} {vs : List Value} (hn : ¬ n < 0) (hvs : List.replicate n.toNatClampNeg (defaultValue (newarray.typeOf aty)) = vs) {cap : Nat} (hcap : n.toNatClampNeg ≤ cap) (hb : cap * 8 ≤ 536870912) (P : OPr h0 ws h locs)  (hd : decode c.code pc = .ok (.newarray aty, 2)) (hp : pc + 2 = pc') (hc : cells + 1 ≤ R.cells) (hl : slots + cap ≤ R.slots)
    (k : ∀ T' h' a kk, a = h.size → h0.size ≤ a → Stand p l e R s m args below meth c T' locs (cells + 1) (slots + cap) → T'.heap = h' → Ext h h' → OPr h0 ws h' locs → OAry Z h' a kk (newarray.typeOf aty) vs → Exa Z h' a ad → OGo p e below K T' (mkF m pc' Ls (.ref a :: st))) : OGo p e below K T (mkF m pc Ls (.int n :: st)) := by
  subst hp hvs had
  have hcb : componentBytes (newarray.typeOf aty) ≤ 8 := by cases aty <;> decide
  obtain ⟨cA, kA, comp, h1, h2, h3, X', r⟩ := X.newarrayPrim hx (mvA hZ w) (g := mkF m pc Ls (.int n :: st)) rfl hd rfl hn (Nat.le_trans (Nat.mul_le_mul hcap hcb) hb) hc (by omega)
  subst eT
  rw [hZ.alike.findClass] at h1
  obtain ⟨kZ, z1, -⟩ := Vm.findClass_spec h1
  obtain ⟨k', z2, z3⟩ := hZ.alike.2.2 _ _ z1
  cases h2.symm.trans z2
  have kk : kZ.kind = .array comp (newarray.typeOf aty) := by rw [← h3, z3]
  have hN : (T.heap.push (newA cA (newarray.typeOf aty) n))[T.heap.size]? = some (newA cA (newarray.typeOf aty) n) := by simp
  have A' : Arr Z (T.heap.push (newA cA (newarray.typeOf aty) n)) T.heap.size (newA cA (newarray.typeOf aty) n) (newarray.typeOf aty) := ⟨hN, ⟨by simp [newA], kZ, z1, comp, kk⟩, by simp [newA]⟩
  have E' : Ext T.heap (T.heap.push (newA cA (newarray.typeOf aty) n)) := ext_of fun a q => Array.getElem?_push_lt q |>.trans (Array.getElem?_eq_getElem q).symm
  refine (k _ _ T.heap.size cA rfl P.1.1 (X'.more (Nat.le_refl _) (by omega)) rfl E' (P.ext E') ⟨_, A', rfl, by simp [newA], by have := (back32 hn).2; simpa using this, fun v hv => ?_⟩ (exa_arr A' h1 rfl)).via r
  rw [(List.mem_replicate.mp hv).2]; exact fit0 _
theorem g_anewarray (X : Stand p l e R s m args below meth c T locs cells slots) (hx : p.tables.exec = Jvm.exec) (hZ : Z.Warmed39 s.vm) (hown : s.vm.findClass own = some m.cls) {C : String} {index : Nat} (w1 : (Jvm.Cond.classLink own index C).before a0 Z = true) (w2 : (Jvm.Cond.arrayOver (.object C)).before a0 Z = true) {ad : String} (had : "[" ++ (FieldType.object C).toString = ad) (eT : T.heap = h) {n : Int32} {vs : List Value} (hn : ¬ n < 0) (hvs : List.replicate n.toNatClampNeg Value.null = vs) {cap : Nat} (hcap : n.toNatClampNeg ≤ cap) (hb : cap * 8 ≤ 536870912) (P : OPr h0 ws h locs) (hd : decode c.code pc = .ok (.anewarray index, 3)) (hp : pc + 3 = pc') (hc : cells + 1 ≤ R.cells) (hl : slots + cap ≤ R.slots)
    (k : ∀ T' h' a kk, a = h.size → h0.size ≤ a → Stand p l e R s m args below meth c T' locs (cells + 1) (slots + cap) → T'.heap = h' → Ext h h' → OPr h0 ws h' locs → OAry Z h' a kk (.object C) vs → Ovr Z kk C → Exa Z h' a ad → OGo p e below K T' (mkF m pc' Ls (.ref a :: st))) : OGo p e below K T (mkF m pc Ls (.int n :: st)) := by
  subst hp hvs
  obtain ⟨T', h', cA, X', e', E', A', B', O', r⟩ := newRE X hx hZ hown w1 w2 eT (g := mkF m pc Ls (.int n :: st)) rfl hd rfl hn hcap hb hc hl had
  refine (k T' h' h.size cA rfl P.1.1 X' e' E' (P.ext E') ⟨_, A', rfl, by simp [newA, defaultValue], by have := (back32 hn).2; simpa using this, fun v hv => ?_⟩ O' B').via r
  rw [(List.mem_replicate.mp hv).2]; rfl
theorem g_anewarrayA (X : Stand p l e R s m args below meth c T locs cells slots) (hx : p.tables.exec = Jvm.exec) (hZ : Z.Warmed39 s.vm) (hown : s.vm.findClass own = some m.cls) {C : String} {ty : FieldType} {index : Nat} (hC : (FieldType.array ty).toString = C) (w1 : (Jvm.Cond.classLink own index C).before a0 Z = true) (w2 : (Jvm.Cond.arrayOver (.array ty)).before a0 Z = true) {ad : String} (had : "[" ++ C = ad) (eT : T.heap = h) {n : Int32} {vs : List Value} (hn : ¬ n < 0) (hvs : List.replicate n.toNatClampNeg Value.null = vs) {cap : Nat} (hcap : n.toNatClampNeg ≤ cap) (hb : cap * 8 ≤ 536870912) (P : OPr h0 ws h locs) (hd : decode c.code pc = .ok (.anewarray index, 3)) (hp : pc + 3 = pc') (hc : cells + 1 ≤ R.cells) (hl : slots + cap ≤ R.slots)
    (k : ∀ T' h' a kk, a = h.size → h0.size ≤ a → Stand p l e R s m args below meth c T' locs (cells + 1) (slots + cap) → T'.heap = h' → Ext h h' → OPr h0 ws h' locs → OAry Z h' a kk (.array ty) vs → OvrA Z kk ty C → OGo p e below K T' (mkF m pc' Ls (.ref a :: st))) : OGo p e below K T (mkF m pc Ls (.int n :: st)) := by
  subst hp hvs
  obtain ⟨T', h', cA, X', e', E', A', -, O', r⟩ := newRA X hx hZ hown hC w1 w2 eT (g := mkF m pc Ls (.int n :: st)) rfl hd rfl hn hcap hb hc hl had
  refine (k T' h' h.size cA rfl P.1.1 X' e' E' (P.ext E') ⟨_, A', rfl, by simp [newA, defaultValue], by have := (back32 hn).2; simpa using this, fun v hv => ?_⟩ O').via r
  rw [(List.mem_replicate.mp hv).2]; rfl
theorem stoOfA {a y : Addr} {kk : ClassId} {t0 ty : FieldType} {vs : List Value} {C : String} (F : OAry Z h a kk t0 vs) (O : OvrA Z kk ty C) (I : Ins Z h y C true) : Sto Z h a (.ref y) := by
  obtain ⟨cl, A, r1, -⟩ := F; exact Sto.ofVA A r1 O I
theorem g_castN (X : Stand p l e R s m args below meth c T locs cells slots) (hx : p.tables.exec = Jvm.exec) {index : Nat} (hd : decode c.code pc = .ok (.checkcast index, 3)) (hp : pc + 3 = pc')
    (k : OGo p e below K T (mkF m pc' Ls (.null :: st))) : OGo p e below K T (mkF m pc Ls (.null :: st)) := by
  subst hp; exact k.via fun t q => X.checkcastNull hx (g := mkF m pc Ls (.null :: st)) rfl rfl hd t q
theorem g_instN0 (X : Stand p l e R s m args below meth c T locs cells slots) (hx : p.tables.exec = Jvm.exec) {index : Nat} (hd : decode c.code pc = .ok (.instanceof index, 3)) (hp : pc + 3 = pc')
    (k : OGo p e below K T (mkF m pc' Ls (.int 0 :: st))) : OGo p e below K T (mkF m pc Ls (.null :: st)) := by
  subst hp; exact k.via fun t q => X.instanceofNull hx (g := mkF m pc Ls (.null :: st)) rfl rfl hd t q
theorem g_cast (X : Stand p l e R s m args below meth c T locs cells slots) (hx : p.tables.exec = Jvm.exec) (hZ : Z.Warmed39 s.vm) (hown : s.vm.findClass own = some m.cls) {Kc : String} {index : Nat} (w : (Jvm.Cond.classLink own index Kc).before a0 Z = true) (eT : T.heap = h) {a : Addr} (F : Ins Z h a Kc true) (hd : decode c.code pc = .ok (.checkcast index, 3)) (hp : pc + 3 = pc')
    (k : ∀ T', Stand p l e R s m args below meth c T' locs cells slots → T'.heap = h → OGo p e below K T' (mkF m pc' Ls (.ref a :: st))) : OGo p e below K T (mkF m pc Ls (.ref a :: st)) := by
  subst hp
  obtain ⟨T', X', e', q⟩ := castY X hx hZ hown w eT F (g := mkF m pc Ls (.ref a :: st)) rfl rfl hd
  exact (k T' X' e').via q
theorem g_instY (X : Stand p l e R s m args below meth c T locs cells slots) (hx : p.tables.exec = Jvm.exec) (hZ : Z.Warmed39 s.vm) (hown : s.vm.findClass own = some m.cls) {Kc : String} {index : Nat} (w : (Jvm.Cond.classLink own index Kc).before a0 Z = true) (eT : T.heap = h) {a : Addr} (F : Ins Z h a Kc true) (hd : decode c.code pc = .ok (.instanceof index, 3)) (hp : pc + 3 = pc')
    (k : ∀ T', Stand p l e R s m args below meth c T' locs cells slots → T'.heap = h → OGo p e below K T' (mkF m pc' Ls (.int 1 :: st))) : OGo p e below K T (mkF m pc Ls (.ref a :: st)) := by
  subst hp
  obtain ⟨T', X', e', q⟩ := instY X hx hZ hown w eT F (g := mkF m pc Ls (.ref a :: st)) rfl rfl hd
  exact (k T' X' e').via q

theorem g_clone (X : Stand p l e R s m args below meth c T locs cells slots) (hx : p.tables.exec = Jvm.exec) (hZ : Z.Warmed39 s.vm) (hown : s.vm.findClass own = some m.cls) {ad : String} {index : Nat}
    (w1 : (Jvm.Cond.methodLink own index ⟨ad, "clone", "()Ljava/lang/Object;"⟩).before a0 Z = true) (w2 : (Jvm.Cond.sameMethod ad "java/lang/Object" "clone" "()Ljava/lang/Object;").before a0 Z = true) (w3 : (Jvm.Cond.native ⟨"java/lang/Object", "clone", "()Ljava/lang/Object;"⟩).before a0 Z = true)
    (w4 : (Jvm.Cond.instanceMethod ⟨"java/lang/Object", "clone", "()Ljava/lang/Object;"⟩).before a0 Z = true) (w5 : (Jvm.Cond.selects ad ⟨ad, "clone", "()Ljava/lang/Object;"⟩ ⟨"java/lang/Object", "clone", "()Ljava/lang/Object;"⟩).before a0 Z = true) (w6 : (Jvm.Cond.castable ad "java/lang/Cloneable").before a0 Z = true)
    (eT : T.heap = h) {a : Addr} {kk : ClassId} {ty : FieldType} {vs : List Value} (F : OAry Z h a kk ty vs) (E : Exa Z h a ad) (P : OPr h0 ws h locs) (hsize : Ls.size = c.maxLocals) (hd : decode c.code pc = .ok (.invokevirtual index, 3)) (hp : pc + 3 = pc')
    (hf : 1 ≤ R.frames) {W cap : Nat} (hW : (st.map fun v => v.category).sum ≤ W) (hl : W + 14 ≤ R.locals) (hcap : vs.length ≤ cap) (hc : cells + 1 ≤ R.cells) (hsl : slots + cap ≤ R.slots)
    (k : ∀ T' h' a', a' = h.size → h0.size ≤ a' → Stand p l e R s m args below meth c T' locs (cells + 1) (slots + cap) → T'.heap = h' → Ext h h' → OPr h0 ws h' locs → OAry Z h' a' kk ty vs → Exa Z h' a' ad → OGo p e below K T' (mkF m pc' Ls (.ref a' :: st))) : OGo p e below K T (mkF m pc Ls (.ref a :: st)) := by
  subst hp
  obtain ⟨cl, A, r1, r2, r3, r4⟩ := F
  obtain ⟨T', h', X', e', E', A', B', r⟩ := cloneA X hx hZ hown w1 w2 w3 w4 w5 w6 eT A E (aryFit (k := kk) A r2 r4) (g := mkF m pc Ls (.ref a :: st)) rfl hsize rfl hd hf (W := W) (by show 2 * 0 + _ ≤ _; omega) hl (cap := cap) (by rw [← r2] at hcap; simpa using hcap) hc hsl
  exact (k T' h' h.size rfl P.1.1 X' e' E' (P.ext E') ⟨_, A', r1, r2, r3, r4⟩ B').via r
theorem eqI {first : State} {o : Option Outcome} {idx : List Nat} {t u : Term} {x y : Int32} (ha : t.eval args first o idx s = some (.int x)) (hb : u.eval args first o idx s = some (.int y)) : (Jvm.Cond.eq t u).value args first o s idx = some (decide (x = y)) := by simp [Cond.value, ha, hb]
theorem lenSt {t : Term} {a : Addr} {cl : Cell} {ty : FieldType} {n : Int32} (ev : t.eval args s none [] s = some (.ref a)) (A : Arr s s.heap a cl ty) (q : (Jvm.Cond.eq (.length t) (.int n)).value args s none s [] = some true) : cl.slots.size = n.toInt ∧ cl.slots.size < 2 ^ 31 := by
  have ha : s.arrayAt? a = some cl := A.fin (Vm.Alike.refl _)
  by_cases hl : cl.slots.size < 2 ^ 31
  · have e1 := len_f (idx := []) (first := s) (o := none) ev ha hl
    have e2 : cl.slots.size.toInt32 = n := by rw [eqI e1 (Term.int_eval n)] at q; simpa using q
    exact ⟨by rw [← e2, len_toInt hl], hl⟩
  · have e1 : (Term.length t).eval args s none [] s = none := by simp [Term.eval, ev, ha, hl]
    simp [Cond.value, e1] at q
theorem elemSt {t u : Term} {a : Addr} {cl : Cell} {ty : FieldType} {i : Int32} {v : Value} (ev : t.eval args s none [] s = some (.ref a)) (A : Arr s s.heap a cl ty) (eu : u.eval args s none [] s = some v) (hv : v.isRef = true) (q : (Jvm.Cond.eq (.elem t (.int i)) u).value args s none s [] = some true) : cl.slots[i.toNatClampNeg]? = some v := by
  obtain ⟨x, y, e1, e2, k1, k2⟩ := cmp_v (Or.inl q)
  cases eu.symm.trans e2
  have hx : x.isRef = true := by rcases ref_cases hv with rfl | ⟨b, rfl⟩ <;> exact k2.2
  have r : x = v := by rw [eq_R e1 e2 hx hv] at q; simpa using q
  subst r
  exact (elem_in e1 ev (Term.int_eval i) A.1).2
theorem aryStart {a : Addr} {cl : Cell} {ty : FieldType} {vs : List Value} (hf : Fit s) (A : Arr s s.heap a cl ty) (hs : cl.slots.size < 2 ^ 31) (hl : cl.slots.size = vs.length) (hv : ∀ i, i < vs.length → cl.slots[i]? = vs[i]?) : OAry s s.heap a cl.cls ty vs := by
  have e : cl.slots.toList = vs := by
    apply List.ext_getElem?
    intro i
    by_cases hi : i < vs.length
    · rw [← hv i hi]; simp
    · rw [List.getElem?_eq_none (by simp; omega), List.getElem?_eq_none (by omega)]
  refine ⟨cl, A, rfl, e, by omega, fun v hm => ?_⟩
  rw [← e] at hm
  obtain ⟨i, hi, rfl⟩ := List.getElem_of_mem hm
  have hi' : i < cl.slots.size := by simpa using hi
  have q := hf A.1 hi'
  obtain ⟨hs', k, hk, comp, hkind⟩ := A.2.1
  have e2 : s.slotType? cl.cls cl.vm i = some ty := by
    cases hq : cl.vm <;> first | exact absurd hq (hs' _) | simp [State.slotType?, hk, hkind]
  simp [State.fitsSlot, e2] at q
  simpa using q

theorem wd (hw : ∀ d ∈ tables_1, d.before a0 Z = true) (k : Nat) {d : Jvm.Cond} (q : tables_1[k]? = some d) : d.before a0 Z = true := hw d (List.mem_of_getElem? q)
theorem narR {t : FieldType} {v : Value} (q : v.isRef = true) : narrow t v = v := by rcases ref_cases q with rfl | ⟨a, rfl⟩ <;> cases t <;> rfl
theorem fitR {t : FieldType} {v : Value} (q : v.isRef = true) (r : t.isReference = true) : fits t v = true := by
  rcases ref_cases q with rfl | ⟨a, rfl⟩ <;> cases t <;> first | rfl | cases r
theorem insP {a : Addr} {C : String} {b : Bool} (F : Ins Z h0 a C b) (P : OPr h0 ws h L) : Ins Z h a C b := by
  obtain ⟨cell, cT, h1, h2, h3⟩ := F
  obtain ⟨c', e1, e2, e3, -⟩ := P.1.2.2 _ _ h1
  exact ⟨c', cT, e1, h2, by rw [e2, e3]; exact h3⟩
theorem neAry {a b : Addr} {kk : ClassId} {ty : FieldType} {vs : List Value} {C : String} {n : Nat} (E : Exa Z h b C) (wi : (Jvm.Cond.instantiable C n).before a0 Z = true) (F : OAry Z h a kk ty vs) : b ≠ a := by
  obtain ⟨c, A, -⟩ := F; exact ne_arr E wi A
theorem exSta {C n d Kc : String} (q : (Jvm.Cond.exactly (.static C n d) Kc).value args s none s [] = some true) (hi : (Jvm.Cond.initializedFor C n d).before args s = true ∨ ((Jvm.Cond.initialized C).before args s = true ∧ (Jvm.Cond.laysStatic C n d).before args s = true)) :
    ∃ a, (Term.static C n d).eval args s none [] s = some (.ref a) ∧ Sta s s.heap C n d (.ref a) ∧ Exa s s.heap a Kc := by
  obtain ⟨a, ev⟩ := exa_v q
  exact ⟨a, ev, Sta.start ev hi, Exa.start ev q⟩
theorem eqFld {t : Term} {a : Addr} {C n d : String} {k : Int32} (ev : t.eval args s none [] s = some (.ref a)) (q : (Jvm.Cond.eq (.field t C n d) (.int k)).value args s none s [] = some true) : Fld s s.heap a C n d (.int k) := by
  obtain ⟨x, y, e1, e2, -, k2⟩ := cmp_v (Or.inl q)
  cases e2
  obtain ⟨z, rfl⟩ := k2
  have r : z = k := by rw [eqI e1 (Term.int_eval k)] at q; simpa using q
  subst r
  exact Fld.start ((fld_at ev).symm.trans e1)
theorem eqFldR {t u : Term} {a : Addr} {v : Value} {C n d : String} (ev : t.eval args s none [] s = some (.ref a)) (eu : u.eval args s none [] s = some v) (hv : v.isRef = true) (q : (Jvm.Cond.eq (.field t C n d) u).value args s none s [] = some true) : Fld s s.heap a C n d v := by
  obtain ⟨x, y, e1, e2, k1, k2⟩ := cmp_v (Or.inl q)
  cases eu.symm.trans e2
  have hx : x.isRef = true := by rcases ref_cases hv with rfl | ⟨b, rfl⟩ <;> exact k2.2
  have r : x = v := by rw [eq_R e1 e2 hx hv] at q; simpa using q
  subst r
  exact Fld.start ((fld_at ev).symm.trans e1)
theorem g_dloadN (X : Stand p l e R s m args below meth c T locs cells slots) (hx : p.tables.exec = Jvm.exec) {k : Fin 4} {v : UInt64} (hd : decode c.code pc = .ok (.dload_n k, 1)) (hp : pc + 1 = pc') (hl : Ls[k.val]? = some (.val (.double v)))
    (k : OGo p e below K T (mkF m pc' Ls (.double v :: st))) : OGo p e below K T (mkF m pc Ls (st)) := by
  subst hp; exact k.via fun _ q => XS.dloadN X.here hx rfl hd hl q
theorem g_dload (X : Stand p l e R s m args below meth c T locs cells slots) (hx : p.tables.exec = Jvm.exec) {k : Nat} {v : UInt64} (hd : decode c.code pc = .ok (.dload k, 2)) (hp : pc + 2 = pc') (hl : Ls[k]? = some (.val (.double v)))
    (k : OGo p e below K T (mkF m pc' Ls (.double v :: st))) : OGo p e below K T (mkF m pc Ls (st)) := by
  subst hp; exact k.via fun _ q => XS.dload X.here hx rfl hd hl q
theorem g_floadN (X : Stand p l e R s m args below meth c T locs cells slots) (hx : p.tables.exec = Jvm.exec) {k : Fin 4} {v : UInt32} (hd : decode c.code pc = .ok (.fload_n k, 1)) (hp : pc + 1 = pc') (hl : Ls[k.val]? = some (.val (.float v)))
    (k : OGo p e below K T (mkF m pc' Ls (.float v :: st))) : OGo p e below K T (mkF m pc Ls (st)) := by
  subst hp; exact k.via fun _ q => XS.floadN X.here hx rfl hd hl q
theorem g_fload (X : Stand p l e R s m args below meth c T locs cells slots) (hx : p.tables.exec = Jvm.exec) {k : Nat} {v : UInt32} (hd : decode c.code pc = .ok (.fload k, 2)) (hp : pc + 2 = pc') (hl : Ls[k]? = some (.val (.float v)))
    (k : OGo p e below K T (mkF m pc' Ls (.float v :: st))) : OGo p e below K T (mkF m pc Ls (st)) := by
  subst hp; exact k.via fun _ q => XS.fload X.here hx rfl hd hl q
theorem g_dstoreN (X : Stand p l e R s m args below meth c T locs cells slots) (hx : p.tables.exec = Jvm.exec) {k : Fin 4} {x : UInt64} {Ls' : Array Slot} (hd : decode c.code pc = .ok (.dstore_n k, 1)) (hp : pc + 1 = pc') (hl : storeLocals Ls k.val (.double x) = some Ls')
    (k : OGo p e below K T (mkF m pc' Ls' (st))) : OGo p e below K T (mkF m pc Ls (.double x :: st)) := by
  subst hp; exact k.via fun _ q => XS.dstoreN X.here hx rfl hd rfl hl q
theorem g_dstore (X : Stand p l e R s m args below meth c T locs cells slots) (hx : p.tables.exec = Jvm.exec) {k : Nat} {x : UInt64} {Ls' : Array Slot} (hd : decode c.code pc = .ok (.dstore k, 2)) (hp : pc + 2 = pc') (hl : storeLocals Ls k (.double x) = some Ls')
    (k : OGo p e below K T (mkF m pc' Ls' (st))) : OGo p e below K T (mkF m pc Ls (.double x :: st)) := by
  subst hp; exact k.via fun _ q => XS.dstore X.here hx rfl hd rfl hl q
theorem g_fstoreN (X : Stand p l e R s m args below meth c T locs cells slots) (hx : p.tables.exec = Jvm.exec) {k : Fin 4} {x : UInt32} {Ls' : Array Slot} (hd : decode c.code pc = .ok (.fstore_n k, 1)) (hp : pc + 1 = pc') (hl : storeLocals Ls k.val (.float x) = some Ls')
    (k : OGo p e below K T (mkF m pc' Ls' (st))) : OGo p e below K T (mkF m pc Ls (.float x :: st)) := by
  subst hp; exact k.via fun _ q => XS.fstoreN X.here hx rfl hd rfl hl q
theorem g_fstore (X : Stand p l e R s m args below meth c T locs cells slots) (hx : p.tables.exec = Jvm.exec) {k : Nat} {x : UInt32} {Ls' : Array Slot} (hd : decode c.code pc = .ok (.fstore k, 2)) (hp : pc + 2 = pc') (hl : storeLocals Ls k (.float x) = some Ls')
    (k : OGo p e below K T (mkF m pc' Ls' (st))) : OGo p e below K T (mkF m pc Ls (.float x :: st)) := by
  subst hp; exact k.via fun _ q => XS.fstore X.here hx rfl hd rfl hl q
theorem g_i2d (X : Stand p l e R s m args below meth c T locs cells slots) (hx : p.tables.exec = Jvm.exec) {x : Int32} (hd : decode c.code pc = .ok (.i2d, 1)) (hp : pc + 1 = pc')
    (k : OGo p e below K T (mkF m pc' Ls (.double (FP.i2d x) :: st))) : OGo p e below K T (mkF m pc Ls (.int x :: st)) := by
  subst hp; exact k.via fun _ q => XS.i2dS X.here hx rfl hd rfl rfl q
theorem g_i2f (X : Stand p l e R s m args below meth c T locs cells slots) (hx : p.tables.exec = Jvm.exec) {x : Int32} (hd : decode c.code pc = .ok (.i2f, 1)) (hp : pc + 1 = pc')
    (k : OGo p e below K T (mkF m pc' Ls (.float (FP.i2f x) :: st))) : OGo p e below K T (mkF m pc Ls (.int x :: st)) := by
  subst hp; exact k.via fun _ q => XS.i2fS X.here hx rfl hd rfl rfl q
theorem g_dcmp (X : Stand p l e R s m args below meth c T locs cells slots) (hx : p.tables.exec = Jvm.exec) {o : CmpOp} {x y : UInt64} (hd : decode c.code pc = .ok (.dcmp o, 1)) (hp : pc + 1 = pc')
    (k : OGo p e below K T (mkF m pc' Ls (.int (cmpValue (FP.dcmp x y) o) :: st))) : OGo p e below K T (mkF m pc Ls (.double y :: .double x :: st)) := by
  subst hp; exact k.via fun _ q => XS.dcmpS X.here hx rfl hd rfl rfl q
theorem g_fcmp (X : Stand p l e R s m args below meth c T locs cells slots) (hx : p.tables.exec = Jvm.exec) {o : CmpOp} {x y : UInt32} (hd : decode c.code pc = .ok (.fcmp o, 1)) (hp : pc + 1 = pc')
    (k : OGo p e below K T (mkF m pc' Ls (.int (cmpValue (FP.fcmp x y) o) :: st))) : OGo p e below K T (mkF m pc Ls (.float y :: .float x :: st)) := by
  subst hp; exact k.via fun _ q => XS.fcmpS X.here hx rfl hd rfl rfl q
theorem g_fconst0 (X : Stand p l e R s m args below meth c T locs cells slots) (hx : p.tables.exec = Jvm.exec)  (hd : decode c.code pc = .ok (.fconst 0, 1)) (hp : pc + 1 = pc')
    (k : OGo p e below K T (mkF m pc' Ls (.float FP.fconst0 :: st))) : OGo p e below K T (mkF m pc Ls (st)) := by
  subst hp; exact k.via fun _ q => XS.fconst0 X.here hx rfl hd rfl q
theorem g_ldc2D (X : Stand p l e R s m args below meth c T locs cells slots) (hx : p.tables.exec = Jvm.exec) (hZ : Z.Warmed39 s.vm) (hown : s.vm.findClass own = some m.cls) {index : Nat} {v : UInt64} (w : (Jvm.Cond.constantDouble own index v).before a0 Z = true) (hd : decode c.code pc = .ok (.ldc2_w index, 3)) (hp : pc + 3 = pc')
    (k : OGo p e below K T (mkF m pc' Ls (.double v :: st))) : OGo p e below K T (mkF m pc Ls st) := by
  subst hp; exact k.via fun t q => X.ldc2DoubleC hx hown (mvT hZ w) (g := mkF m pc Ls st) rfl hd t q
theorem g_faload (X : Stand p l e R s m args below meth c T locs cells slots) (hx : p.tables.exec = Jvm.exec) (hZ : Z.Warmed39 s.vm) (eT : T.heap = h) {a : Addr} {kk : ClassId} {vs : List Value} (F : OAry Z h a kk .float vs) {j : Int32} {v : Value} (hj : ¬ j < 0) (hv : vs[j.toNatClampNeg]? = some v) (hd : decode c.code pc = .ok (.faload, 1)) (hp : pc + 1 = pc')
    (k : OGo p e below K T (mkF m pc' Ls (v :: st))) : OGo p e below K T (mkF m pc Ls (.int j :: .ref a :: st)) := by
  subst hp
  obtain ⟨cl, A, r1, r2, -⟩ := F
  exact k.via fun t q => X.faload hx (cell := cl) (a := a) (j := j) (v := v) (by rw [eT]; exact A.1) (State.isArrayOf_alike hZ.alike A.2.1) A.2.2 (aryIn r2 hj hv).1 (aryIn r2 hj hv).2 (g := mkF m pc Ls (.int j :: .ref a :: st)) rfl (rest := st) rfl hd t q
theorem g_fastore (X : Stand p l e R s m args below meth c T locs cells slots) (hx : p.tables.exec = Jvm.exec) (hZ : Z.Warmed39 s.vm) (eT : T.heap = h) {a : Addr} {kk : ClassId} {vs vs' : List Value} (F : OAry Z h a kk .float vs) {j : Int32} {u : Value} {x : UInt32} (hj : ¬ j < 0) (hv : vs[j.toNatClampNeg]? = some u) (hvs : vs.set j.toNatClampNeg (.float x) = vs') (P : OPr h0 ws h locs) (q : a ∈ ws ∨ h0.size ≤ a) (hd : decode c.code pc = .ok (.fastore, 1)) (hp : pc + 1 = pc')
    (k : ∀ T' h', Stand p l e R s m args below meth c T' (locs ++ [⟨a, j.toNatClampNeg⟩]) cells slots → T'.heap = h' → Wr h h' a j.toNatClampNeg (.float x) → OPr h0 ws h' (locs ++ [⟨a, j.toNatClampNeg⟩]) → OAry Z h' a kk .float vs' → OGo p e below K T' (mkF m pc' Ls st)) : OGo p e below K T (mkF m pc Ls (.float x :: .int j :: .ref a :: st)) := by
  subst hp
  obtain ⟨cl, A, r1, r2, r3⟩ := F
  obtain ⟨T', h', X', e', W', r⟩ := stF X hx hZ eT A (aryIn r2 hj hv).1 (g := mkF m pc Ls (.float x :: .int j :: .ref a :: st)) rfl rfl hd
  exact (k T' h' X' e' W' (P.wr W' q) (arySet ⟨cl, A, r1, r2, r3⟩ W' rfl hvs)).via r
end Own
theorem d0_0 : decode prog_7_method_1_code 0 = .ok (.aload_n 0, 1) := by decide +kernel
theorem d0_1 : decode prog_7_method_1_code 1 = .ok (.invokespecial 1, 3) := by decide +kernel
theorem d0_4 : decode prog_7_method_1_code 4 = .ok (.aload_n 0, 1) := by decide +kernel
theorem d0_5 : decode prog_7_method_1_code 5 = .ok (.dload_n 1, 1) := by decide +kernel
theorem d0_6 : decode prog_7_method_1_code 6 = .ok (.putfield 7, 3) := by decide +kernel
theorem d0_9 : decode prog_7_method_1_code 9 = .ok (.aload_n 0, 1) := by decide +kernel
theorem d0_10 : decode prog_7_method_1_code 10 = .ok (.dload_n 3, 1) := by decide +kernel
theorem d0_11 : decode prog_7_method_1_code 11 = .ok (.putfield 13, 3) := by decide +kernel
theorem d0_14 : decode prog_7_method_1_code 14 = .ok (.aload_n 0, 1) := by decide +kernel
theorem d0_15 : decode prog_7_method_1_code 15 = .ok (.dload_n 3, 1) := by decide +kernel
theorem d0_16 : decode prog_7_method_1_code 16 = .ok (.ldc2_w 18, 3) := by decide +kernel
theorem d0_19 : decode prog_7_method_1_code 19 = .ok (.dcmp .g, 1) := by decide +kernel
theorem d0_20 : decode prog_7_method_1_code 20 = .ok (.ifCond .ge 7, 3) := by decide +kernel
theorem d0_23 : decode prog_7_method_1_code 23 = .ok (.iconst 1, 1) := by decide +kernel
theorem d0_24 : decode prog_7_method_1_code 24 = .ok (.goto 4, 3) := by decide +kernel
theorem d0_27 : decode prog_7_method_1_code 27 = .ok (.iconst 0, 1) := by decide +kernel
theorem d0_28 : decode prog_7_method_1_code 28 = .ok (.putfield 20, 3) := by decide +kernel
theorem d0_31 : decode prog_7_method_1_code 31 = .ok (.return_, 1) := by decide +kernel
theorem pn_rm_init : plainFor (⟨"com/example/ledger_of_rewards/ledgerofrewards/check/Pace", "<init>", "(DD)V"⟩ : MethodName) = true := by first | exact plainFor_of_name (by first | (simp [plainName, overriddenIn]; done) | decide +kernel) | decide +kernel
set_option maxRecDepth 65536 in
set_option maxHeartbeats 40000000 in
theorem rm_init {l : Launch} {Z : State} {a0 : Array Value} (hw : ∀ d ∈ tables_1, d.before a0 Z = true) (a : Addr) (x : UInt64) (y : UInt64) (sw : Int64) (cp : Int64) (mk : Int64) (mm : UInt64) {h0 : Heap} (I0 : Exa Z h0 a "com/example/ledger_of_rewards/ledgerofrewards/check/Pace") (I1 : Fld Z h0 a "com/example/ledger_of_rewards/ledgerofrewards/check/Pace" "sweepCost" "D" (.double (0 : UInt64))) (I2 : Fld Z h0 a "com/example/ledger_of_rewards/ledgerofrewards/check/Pace" "certificateCost" "D" (.double (0 : UInt64))) (I3 : Fld Z h0 a "com/example/ledger_of_rewards/ledgerofrewards/check/Pace" "certifiable" "Z" (.int (0 : Int32))) (I4 : Fld Z h0 a "com/example/ledger_of_rewards/ledgerofrewards/check/Pace" "swept" "J" (.long sw)) (I5 : Fld Z h0 a "com/example/ledger_of_rewards/ledgerofrewards/check/Pace" "checkpoint" "J" (.long cp)) (I6 : Fld Z h0 a "com/example/ledger_of_rewards/ledgerofrewards/check/Pace" "marked" "J" (.long mk)) (I7 : Fld Z h0 a "com/example/ledger_of_rewards/ledgerofrewards/check/Pace" "markedMeasure" "D" (.double mm))  :
    OMet l (⟨"com/example/ledger_of_rewards/ledgerofrewards/check/Pace", "<init>", "(DD)V"⟩ : MethodName) prog_7_method_1_code 5 (Option.none : Option Jvm.ClassFile.FieldType) ({ frames := 1, cells := 0, slots := 0, locals := 12 } : Room) #[(.ref a), (.double x), (.double y)] Z h0 (fun v h L => v = none ∧ OPr h0 [a] h L ∧ Fld Z h a "com/example/ledger_of_rewards/ledgerofrewards/check/Pace" "swept" "J" (.long sw) ∧ Fld Z h a "com/example/ledger_of_rewards/ledgerofrewards/check/Pace" "checkpoint" "J" (.long cp) ∧ Fld Z h a "com/example/ledger_of_rewards/ledgerofrewards/check/Pace" "marked" "J" (.long mk) ∧ Fld Z h a "com/example/ledger_of_rewards/ledgerofrewards/check/Pace" "markedMeasure" "D" (.double mm)) := by
  refine OMet.body pn_rm_init (Ls := #[.val (.ref a), .val (.double x), .second, .val (.double y), .second]) (fun m => by first | (simp [entryFrame, mkF, argsToLocals, Value.category]; done) | rfl) ?_
  intro p e s m below meth c T0 K hK X0 hx hby hml hown hnm hret hlk hZ eh0
  have P0 := OPr.refl h0 [a]
  refine g_aloadN X0 hx (hb hby d0_0) (rfl : 0 + 1 = 1) rfl rfl ?_
  refine g_inito X0 hx hZ hown (wd hw 6 rfl) (wd hw 7 rfl) (wd hw 8 rfl) eh0 (by rw [hml]; rfl) (hb hby d0_1) (rfl : 1 + 3 = 4) (by decide) (W := 0) (Nat.le_of_eq rfl) (by decide) fun T1 X1 eh1 => ?_
  refine g_aloadN X1 hx (hb hby d0_4) (rfl : 4 + 1 = 5) rfl rfl ?_
  refine g_dloadN X1 hx (hb hby d0_5) (rfl : 5 + 1 = 6) rfl ?_
  refine g_putf X1 hx hZ hown (host := "") (Or.inl (wd hw 9 rfl)) Via.refl eh1 I1 I0 (Or.inr ⟨(wd hw 10 rfl), rfl, hnm⟩) (wd hw 1 rfl) (ty := .double) (by decide) rfl rfl P0 (Or.inl (List.mem_of_getElem? (i := 0) rfl)) (hb hby d0_6) (rfl : 6 + 3 = 9) fun T2 hh2 X2 eh2 W2 P2 F2 => ?_
  refine g_aloadN X2 hx (hb hby d0_9) (rfl : 9 + 1 = 10) rfl rfl ?_
  refine g_dloadN X2 hx (hb hby d0_10) (rfl : 10 + 1 = 11) rfl ?_
  have F3 := (I2.other W2 (Or.inr (slot_ne (Or.inr (wd hw 12 rfl)) (Or.inr (wd hw 10 rfl)) (by decide) (t := .double) (by decide) (t' := .double) (by decide))))
  have F4 := (I0.wr W2)
  refine g_putf X2 hx hZ hown (host := "") (Or.inl (wd hw 11 rfl)) Via.refl eh2 F3 F4 (Or.inr ⟨(wd hw 12 rfl), rfl, hnm⟩) (wd hw 1 rfl) (ty := .double) (by decide) rfl rfl P2 (Or.inl (List.mem_of_getElem? (i := 0) rfl)) (hb hby d0_11) (rfl : 11 + 3 = 14) fun T5 hh5 X5 eh5 W5 P5 F5 => ?_
  refine g_aloadN X5 hx (hb hby d0_14) (rfl : 14 + 1 = 15) rfl rfl ?_
  refine g_dloadN X5 hx (hb hby d0_15) (rfl : 15 + 1 = 16) rfl ?_
  refine g_ldc2D X5 hx hZ hown (wd hw 13 rfl) (hb hby d0_16) (rfl : 16 + 3 = 19) ?_
  refine g_dcmp X5 hx (hb hby d0_19) (rfl : 19 + 1 = 20) ?_
  by_cases hc : (cmpValue (FP.dcmp y (9218868437227405312 : UInt64)) .g) < (0 : Int32)
  · refine g_ifN X5 hx (hb hby d0_20) (XT.i0_ge_f hc) (rfl : 20 + 3 = 23) ?_
    refine g_iconst X5 hx (1 : Int32) (hb hby d0_23) (rfl : 23 + 1 = 24) (by decide) ?_
    refine g_goto X5 hx (hb hby d0_24) (by decide) (pc' := 28) (by decide) ?_
    have F6 := ((I3.other W2 (Or.inr (slot_ne (Or.inl (wd hw 15 rfl)) (Or.inr (wd hw 10 rfl)) (by decide) (t := .boolean) (by decide) (t' := .double) (by decide)))).other W5 (Or.inr (slot_ne (Or.inl (wd hw 15 rfl)) (Or.inr (wd hw 12 rfl)) (by decide) (t := .boolean) (by decide) (t' := .double) (by decide))))
    have F7 := (F4.wr W5)
    refine g_putf X5 hx hZ hown (host := "") (Or.inl (wd hw 14 rfl)) Via.refl eh5 F6 F7 (Or.inl (wd hw 15 rfl)) (wd hw 1 rfl) (ty := .boolean) (by decide) (by decide) (by decide) P5 (Or.inl (List.mem_of_getElem? (i := 0) rfl)) (hb hby d0_28) (rfl : 28 + 3 = 31) fun T8 hh8 X8 eh8 W8 P8 F8 => ?_
    have F9 := (((I4.other W2 (Or.inr (slot_ne (Or.inl (wd hw 22 rfl)) (Or.inr (wd hw 10 rfl)) (by decide) (t := .long) (by decide) (t' := .double) (by decide)))).other W5 (Or.inr (slot_ne (Or.inl (wd hw 22 rfl)) (Or.inr (wd hw 12 rfl)) (by decide) (t := .long) (by decide) (t' := .double) (by decide)))).other W8 (Or.inr (slot_ne (Or.inl (wd hw 22 rfl)) (Or.inl (wd hw 15 rfl)) (by decide) (t := .long) (by decide) (t' := .boolean) (by decide))))
    have F10 := (((I5.other W2 (Or.inr (slot_ne (Or.inl (wd hw 24 rfl)) (Or.inr (wd hw 10 rfl)) (by decide) (t := .long) (by decide) (t' := .double) (by decide)))).other W5 (Or.inr (slot_ne (Or.inl (wd hw 24 rfl)) (Or.inr (wd hw 12 rfl)) (by decide) (t := .long) (by decide) (t' := .double) (by decide)))).other W8 (Or.inr (slot_ne (Or.inl (wd hw 24 rfl)) (Or.inl (wd hw 15 rfl)) (by decide) (t := .long) (by decide) (t' := .boolean) (by decide))))
    have F11 := (((I6.other W2 (Or.inr (slot_ne (Or.inl (wd hw 31 rfl)) (Or.inr (wd hw 10 rfl)) (by decide) (t := .long) (by decide) (t' := .double) (by decide)))).other W5 (Or.inr (slot_ne (Or.inl (wd hw 31 rfl)) (Or.inr (wd hw 12 rfl)) (by decide) (t := .long) (by decide) (t' := .double) (by decide)))).other W8 (Or.inr (slot_ne (Or.inl (wd hw 31 rfl)) (Or.inl (wd hw 15 rfl)) (by decide) (t := .long) (by decide) (t' := .boolean) (by decide))))
    have F12 := (((I7.other W2 (Or.inr (slot_ne (Or.inl (wd hw 39 rfl)) (Or.inr (wd hw 10 rfl)) (by decide) (t := .double) (by decide) (t' := .double) (by decide)))).other W5 (Or.inr (slot_ne (Or.inl (wd hw 39 rfl)) (Or.inr (wd hw 12 rfl)) (by decide) (t := .double) (by decide) (t' := .double) (by decide)))).other W8 (Or.inr (slot_ne (Or.inl (wd hw 39 rfl)) (Or.inl (wd hw 15 rfl)) (by decide) (t := .double) (by decide) (t' := .boolean) (by decide))))
    exact g_ret0 X8 hx hret hlk (hb hby d0_31) (by decide) (by decide) eh8 hK ⟨rfl, P8, F9, F10, F11, F12⟩
  · refine g_ifY X5 hx (hb hby d0_20) (XT.i0_ge_t hc) (by decide) (pc' := 27) (by decide) ?_
    refine g_iconst X5 hx (0 : Int32) (hb hby d0_27) (rfl : 27 + 1 = 28) (by decide) ?_
    have F13 := ((I3.other W2 (Or.inr (slot_ne (Or.inl (wd hw 15 rfl)) (Or.inr (wd hw 10 rfl)) (by decide) (t := .boolean) (by decide) (t' := .double) (by decide)))).other W5 (Or.inr (slot_ne (Or.inl (wd hw 15 rfl)) (Or.inr (wd hw 12 rfl)) (by decide) (t := .boolean) (by decide) (t' := .double) (by decide))))
    have F14 := (F4.wr W5)
    refine g_putf X5 hx hZ hown (host := "") (Or.inl (wd hw 14 rfl)) Via.refl eh5 F13 F14 (Or.inl (wd hw 15 rfl)) (wd hw 1 rfl) (ty := .boolean) (by decide) (by decide) (by decide) P5 (Or.inl (List.mem_of_getElem? (i := 0) rfl)) (hb hby d0_28) (rfl : 28 + 3 = 31) fun T15 hh15 X15 eh15 W15 P15 F15 => ?_
    have F16 := (((I4.other W2 (Or.inr (slot_ne (Or.inl (wd hw 22 rfl)) (Or.inr (wd hw 10 rfl)) (by decide) (t := .long) (by decide) (t' := .double) (by decide)))).other W5 (Or.inr (slot_ne (Or.inl (wd hw 22 rfl)) (Or.inr (wd hw 12 rfl)) (by decide) (t := .long) (by decide) (t' := .double) (by decide)))).other W15 (Or.inr (slot_ne (Or.inl (wd hw 22 rfl)) (Or.inl (wd hw 15 rfl)) (by decide) (t := .long) (by decide) (t' := .boolean) (by decide))))
    have F17 := (((I5.other W2 (Or.inr (slot_ne (Or.inl (wd hw 24 rfl)) (Or.inr (wd hw 10 rfl)) (by decide) (t := .long) (by decide) (t' := .double) (by decide)))).other W5 (Or.inr (slot_ne (Or.inl (wd hw 24 rfl)) (Or.inr (wd hw 12 rfl)) (by decide) (t := .long) (by decide) (t' := .double) (by decide)))).other W15 (Or.inr (slot_ne (Or.inl (wd hw 24 rfl)) (Or.inl (wd hw 15 rfl)) (by decide) (t := .long) (by decide) (t' := .boolean) (by decide))))
    have F18 := (((I6.other W2 (Or.inr (slot_ne (Or.inl (wd hw 31 rfl)) (Or.inr (wd hw 10 rfl)) (by decide) (t := .long) (by decide) (t' := .double) (by decide)))).other W5 (Or.inr (slot_ne (Or.inl (wd hw 31 rfl)) (Or.inr (wd hw 12 rfl)) (by decide) (t := .long) (by decide) (t' := .double) (by decide)))).other W15 (Or.inr (slot_ne (Or.inl (wd hw 31 rfl)) (Or.inl (wd hw 15 rfl)) (by decide) (t := .long) (by decide) (t' := .boolean) (by decide))))
    have F19 := (((I7.other W2 (Or.inr (slot_ne (Or.inl (wd hw 39 rfl)) (Or.inr (wd hw 10 rfl)) (by decide) (t := .double) (by decide) (t' := .double) (by decide)))).other W5 (Or.inr (slot_ne (Or.inl (wd hw 39 rfl)) (Or.inr (wd hw 12 rfl)) (by decide) (t := .double) (by decide) (t' := .double) (by decide)))).other W15 (Or.inr (slot_ne (Or.inl (wd hw 39 rfl)) (Or.inl (wd hw 15 rfl)) (by decide) (t := .double) (by decide) (t' := .boolean) (by decide))))
    exact g_ret0 X15 hx hret hlk (hb hby d0_31) (by decide) (by decide) eh15 hK ⟨rfl, P15, F16, F17, F18, F19⟩
theorem d2_0 : decode prog_7_method_3_code 0 = .ok (.aload_n 0, 1) := by decide +kernel
theorem d2_1 : decode prog_7_method_3_code 1 = .ok (.dup, 1) := by decide +kernel
theorem d2_2 : decode prog_7_method_3_code 2 = .ok (.getfield 24, 3) := by decide +kernel
theorem d2_5 : decode prog_7_method_3_code 5 = .ok (.lconst 1, 1) := by decide +kernel
theorem d2_6 : decode prog_7_method_3_code 6 = .ok (.ladd, 1) := by decide +kernel
theorem d2_7 : decode prog_7_method_3_code 7 = .ok (.putfield 24, 3) := by decide +kernel
theorem d2_10 : decode prog_7_method_3_code 10 = .ok (.aload_n 0, 1) := by decide +kernel
theorem d2_11 : decode prog_7_method_3_code 11 = .ok (.getfield 24, 3) := by decide +kernel
theorem d2_14 : decode prog_7_method_3_code 14 = .ok (.aload_n 0, 1) := by decide +kernel
theorem d2_15 : decode prog_7_method_3_code 15 = .ok (.getfield 30, 3) := by decide +kernel
theorem d2_18 : decode prog_7_method_3_code 18 = .ok (.lcmp, 1) := by decide +kernel
theorem d2_19 : decode prog_7_method_3_code 19 = .ok (.ifCond .ne 7, 3) := by decide +kernel
theorem d2_22 : decode prog_7_method_3_code 22 = .ok (.iconst 1, 1) := by decide +kernel
theorem d2_23 : decode prog_7_method_3_code 23 = .ok (.goto 4, 3) := by decide +kernel
theorem d2_26 : decode prog_7_method_3_code 26 = .ok (.iconst 0, 1) := by decide +kernel
theorem d2_27 : decode prog_7_method_3_code 27 = .ok (.ireturn, 1) := by decide +kernel
theorem pn_rm_due : plainFor (⟨"com/example/ledger_of_rewards/ledgerofrewards/check/Pace", "due", "()Z"⟩ : MethodName) = true := by first | exact plainFor_of_name (by first | (simp [plainName, overriddenIn]; done) | decide +kernel) | decide +kernel
set_option maxRecDepth 65536 in
set_option maxHeartbeats 40000000 in
theorem rm_due {l : Launch} {Z : State} {a0 : Array Value} (hw : ∀ d ∈ tables_1, d.before a0 Z = true) (a : Addr) (sw : Int64) (s2 : Int64) (cp : Int64) (mk : Int64) (mm : UInt64) (z : Int32) {h0 : Heap} (I0 : Exa Z h0 a "com/example/ledger_of_rewards/ledgerofrewards/check/Pace") (I1 : Fld Z h0 a "com/example/ledger_of_rewards/ledgerofrewards/check/Pace" "swept" "J" (.long sw)) (I2 : Fld Z h0 a "com/example/ledger_of_rewards/ledgerofrewards/check/Pace" "checkpoint" "J" (.long cp)) (I3 : Fld Z h0 a "com/example/ledger_of_rewards/ledgerofrewards/check/Pace" "marked" "J" (.long mk)) (I4 : Fld Z h0 a "com/example/ledger_of_rewards/ledgerofrewards/check/Pace" "markedMeasure" "D" (.double mm)) (hs : sw + 1 = s2) (hz : (if s2 = cp then 1 else 0 : Int32) = z) :
    OMet l (⟨"com/example/ledger_of_rewards/ledgerofrewards/check/Pace", "due", "()Z"⟩ : MethodName) prog_7_method_3_code 1 (Option.some Jvm.ClassFile.FieldType.boolean) ({ frames := 0, cells := 0, slots := 0, locals := 0 } : Room) #[(.ref a)] Z h0 (fun v h L => v = some (.int z) ∧ OPr h0 [a] h L ∧ Fld Z h a "com/example/ledger_of_rewards/ledgerofrewards/check/Pace" "swept" "J" (.long s2) ∧ Fld Z h a "com/example/ledger_of_rewards/ledgerofrewards/check/Pace" "checkpoint" "J" (.long cp) ∧ Fld Z h a "com/example/ledger_of_rewards/ledgerofrewards/check/Pace" "marked" "J" (.long mk) ∧ Fld Z h a "com/example/ledger_of_rewards/ledgerofrewards/check/Pace" "markedMeasure" "D" (.double mm)) := by
  refine OMet.body pn_rm_due (Ls := #[.val (.ref a)]) (fun m => by first | (simp [entryFrame, mkF, argsToLocals, Value.category]; done) | rfl) ?_
  intro p e s m below meth c T0 K hK X0 hx hby hml hown hnm hret hlk hZ eh0
  have P0 := OPr.refl h0 [a]
  refine g_aloadN X0 hx (hb hby d2_0) (rfl : 0 + 1 = 1) rfl rfl ?_
  refine g_dup X0 hx (hb hby d2_1) (rfl : 1 + 1 = 2) rfl ?_
  refine g_getf X0 hx hZ hown (host := "") (Or.inl (wd hw 21 rfl)) Via.refl eh0 I1 (hb hby d2_2) (rfl : 2 + 3 = 5) fun T1 X1 eh1 => ?_
  refine g_lconst X1 hx (1 : Int64) (hb hby d2_5) (rfl : 5 + 1 = 6) (by decide) ?_
  refine g_ladd X1 hx (hb hby d2_6) (rfl : 6 + 1 = 7) (z := (sw + (1 : Int64))) rfl ?_
  refine g_putf X1 hx hZ hown (host := "") (Or.inl (wd hw 21 rfl)) Via.refl eh1 I1 I0 (Or.inl (wd hw 22 rfl)) (wd hw 1 rfl) (ty := .long) (by decide) rfl rfl P0 (Or.inl (List.mem_of_getElem? (i := 0) rfl)) (hb hby d2_7) (rfl : 7 + 3 = 10) fun T2 hh2 X2 eh2 W2 P2 F2 => ?_
  refine g_aloadN X2 hx (hb hby d2_10) (rfl : 10 + 1 = 11) rfl rfl ?_
  refine g_getf X2 hx hZ hown (host := "") (Or.inl (wd hw 21 rfl)) Via.refl eh2 F2 (hb hby d2_11) (rfl : 11 + 3 = 14) fun T3 X3 eh3 => ?_
  refine g_aloadN X3 hx (hb hby d2_14) (rfl : 14 + 1 = 15) rfl rfl ?_
  have F4 := (I2.other W2 (Or.inr (slot_ne (Or.inl (wd hw 24 rfl)) (Or.inl (wd hw 22 rfl)) (by decide) (t := .long) (by decide) (t' := .long) (by decide))))
  refine g_getf X3 hx hZ hown (host := "") (Or.inl (wd hw 23 rfl)) Via.refl eh3 F4 (hb hby d2_15) (rfl : 15 + 3 = 18) fun T5 X5 eh5 => ?_
  refine g_lcmp X5 hx (hb hby d2_18) (rfl : 18 + 1 = 19) ?_
  by_cases h : (sw + (1 : Int64)) = cp
  · refine g_ifN X5 hx (hb hby d2_19) (XT.ll_ne_f h) (rfl : 19 + 3 = 22) ?_
    refine g_iconst X5 hx (1 : Int32) (hb hby d2_22) (rfl : 22 + 1 = 23) (by decide) ?_
    refine g_goto X5 hx (hb hby d2_23) (by decide) (pc' := 27) (by decide) ?_
    have F6 := (I3.other W2 (Or.inr (slot_ne (Or.inl (wd hw 31 rfl)) (Or.inl (wd hw 22 rfl)) (by decide) (t := .long) (by decide) (t' := .long) (by decide))))
    have F7 := (I4.other W2 (Or.inr (slot_ne (Or.inl (wd hw 39 rfl)) (Or.inl (wd hw 22 rfl)) (by decide) (t := .double) (by decide) (t' := .long) (by decide))))
    exact g_ret X5 hx hret hlk rfl (Or.inl ⟨rfl, Or.inr (Or.inl rfl), _, rfl⟩) (hb hby d2_27) (by decide) (by decide) eh5 hK ⟨(by rw [← hz, ← hs, if_pos h]), P2, (by rw [← hs]; exact F2), F4, F6, F7⟩
  · refine g_ifY X5 hx (hb hby d2_19) (XT.ll_ne_t h) (by decide) (pc' := 26) (by decide) ?_
    refine g_iconst X5 hx (0 : Int32) (hb hby d2_26) (rfl : 26 + 1 = 27) (by decide) ?_
    have F8 := (I3.other W2 (Or.inr (slot_ne (Or.inl (wd hw 31 rfl)) (Or.inl (wd hw 22 rfl)) (by decide) (t := .long) (by decide) (t' := .long) (by decide))))
    have F9 := (I4.other W2 (Or.inr (slot_ne (Or.inl (wd hw 39 rfl)) (Or.inl (wd hw 22 rfl)) (by decide) (t := .double) (by decide) (t' := .long) (by decide))))
    exact g_ret X5 hx hret hlk rfl (Or.inl ⟨rfl, Or.inr (Or.inl rfl), _, rfl⟩) (hb hby d2_27) (by decide) (by decide) eh5 hK ⟨(by rw [← hz, ← hs, if_neg h]), P2, (by rw [← hs]; exact F2), F4, F8, F9⟩
theorem d3_0 : decode prog_7_method_4_code 0 = .ok (.aload_n 0, 1) := by decide +kernel
theorem d3_1 : decode prog_7_method_4_code 1 = .ok (.getfield 24, 3) := by decide +kernel
theorem d3_4 : decode prog_7_method_4_code 4 = .ok (.aload_n 0, 1) := by decide +kernel
theorem d3_5 : decode prog_7_method_4_code 5 = .ok (.getfield 33, 3) := by decide +kernel
theorem d3_8 : decode prog_7_method_4_code 8 = .ok (.lsub, 1) := by decide +kernel
theorem d3_9 : decode prog_7_method_4_code 9 = .ok (.lreturn, 1) := by decide +kernel
theorem pn_rm_since : plainFor (⟨"com/example/ledger_of_rewards/ledgerofrewards/check/Pace", "sinceMark", "()J"⟩ : MethodName) = true := by first | exact plainFor_of_name (by first | (simp [plainName, overriddenIn]; done) | decide +kernel) | decide +kernel
set_option maxRecDepth 65536 in
set_option maxHeartbeats 40000000 in
theorem rm_since {l : Launch} {Z : State} {a0 : Array Value} (hw : ∀ d ∈ tables_1, d.before a0 Z = true) (a : Addr) (sw : Int64) (mk : Int64) {h0 : Heap} (I0 : Fld Z h0 a "com/example/ledger_of_rewards/ledgerofrewards/check/Pace" "swept" "J" (.long sw)) (I1 : Fld Z h0 a "com/example/ledger_of_rewards/ledgerofrewards/check/Pace" "marked" "J" (.long mk))  :
    OMet l (⟨"com/example/ledger_of_rewards/ledgerofrewards/check/Pace", "sinceMark", "()J"⟩ : MethodName) prog_7_method_4_code 1 (Option.some Jvm.ClassFile.FieldType.long) ({ frames := 0, cells := 0, slots := 0, locals := 0 } : Room) #[(.ref a)] Z h0 (fun v h L => v = some (.long (sw - mk)) ∧ OPr h0 [] h L) := by
  refine OMet.body pn_rm_since (Ls := #[.val (.ref a)]) (fun m => by first | (simp [entryFrame, mkF, argsToLocals, Value.category]; done) | rfl) ?_
  intro p e s m below meth c T0 K hK X0 hx hby hml hown hnm hret hlk hZ eh0
  have P0 := OPr.refl h0 []
  refine g_aloadN X0 hx (hb hby d3_0) (rfl : 0 + 1 = 1) rfl rfl ?_
  refine g_getf X0 hx hZ hown (host := "") (Or.inl (wd hw 21 rfl)) Via.refl eh0 I0 (hb hby d3_1) (rfl : 1 + 3 = 4) fun T1 X1 eh1 => ?_
  refine g_aloadN X1 hx (hb hby d3_4) (rfl : 4 + 1 = 5) rfl rfl ?_
  refine g_getf X1 hx hZ hown (host := "") (Or.inl (wd hw 30 rfl)) Via.refl eh1 I1 (hb hby d3_5) (rfl : 5 + 3 = 8) fun T2 X2 eh2 => ?_
  refine g_lsub X2 hx (hb hby d3_8) (rfl : 8 + 1 = 9) (z := (sw - mk)) rfl ?_
  exact g_ret X2 hx hret hlk rfl (Or.inr (Or.inl ⟨rfl, rfl, _, rfl⟩)) (hb hby d3_9) (by decide) (by decide) eh2 hK ⟨rfl, P0⟩
theorem d4_0 : decode prog_7_method_2_code 0 = .ok (.aload_n 0, 1) := by decide +kernel
theorem d4_1 : decode prog_7_method_2_code 1 = .ok (.lconst 0, 1) := by decide +kernel
theorem d4_2 : decode prog_7_method_2_code 2 = .ok (.putfield 24, 3) := by decide +kernel
theorem d4_5 : decode prog_7_method_2_code 5 = .ok (.aload_n 0, 1) := by decide +kernel
theorem d4_6 : decode prog_7_method_2_code 6 = .ok (.ldc2_w 28, 3) := by decide +kernel
theorem d4_9 : decode prog_7_method_2_code 9 = .ok (.putfield 30, 3) := by decide +kernel
theorem d4_12 : decode prog_7_method_2_code 12 = .ok (.aload_n 0, 1) := by decide +kernel
theorem d4_13 : decode prog_7_method_2_code 13 = .ok (.lconst 0, 1) := by decide +kernel
theorem d4_14 : decode prog_7_method_2_code 14 = .ok (.putfield 33, 3) := by decide +kernel
theorem d4_17 : decode prog_7_method_2_code 17 = .ok (.aload_n 0, 1) := by decide +kernel
theorem d4_18 : decode prog_7_method_2_code 18 = .ok (.dload_n 1, 1) := by decide +kernel
theorem d4_19 : decode prog_7_method_2_code 19 = .ok (.putfield 36, 3) := by decide +kernel
theorem d4_22 : decode prog_7_method_2_code 22 = .ok (.return_, 1) := by decide +kernel
theorem pn_rm_start : plainFor (⟨"com/example/ledger_of_rewards/ledgerofrewards/check/Pace", "start", "(D)V"⟩ : MethodName) = true := by first | exact plainFor_of_name (by first | (simp [plainName, overriddenIn]; done) | decide +kernel) | decide +kernel
set_option maxRecDepth 65536 in
set_option maxHeartbeats 40000000 in
theorem rm_start {l : Launch} {Z : State} {a0 : Array Value} (hw : ∀ d ∈ tables_1, d.before a0 Z = true) (a : Addr) (x : UInt64) (sw : Int64) (cp : Int64) (mk : Int64) (mm : UInt64) {h0 : Heap} (I0 : Exa Z h0 a "com/example/ledger_of_rewards/ledgerofrewards/check/Pace") (I1 : Fld Z h0 a "com/example/ledger_of_rewards/ledgerofrewards/check/Pace" "swept" "J" (.long sw)) (I2 : Fld Z h0 a "com/example/ledger_of_rewards/ledgerofrewards/check/Pace" "checkpoint" "J" (.long cp)) (I3 : Fld Z h0 a "com/example/ledger_of_rewards/ledgerofrewards/check/Pace" "marked" "J" (.long mk)) (I4 : Fld Z h0 a "com/example/ledger_of_rewards/ledgerofrewards/check/Pace" "markedMeasure" "D" (.double mm))  :
    OMet l (⟨"com/example/ledger_of_rewards/ledgerofrewards/check/Pace", "start", "(D)V"⟩ : MethodName) prog_7_method_2_code 3 (Option.none : Option Jvm.ClassFile.FieldType) ({ frames := 0, cells := 0, slots := 0, locals := 0 } : Room) #[(.ref a), (.double x)] Z h0 (fun v h L => v = none ∧ OPr h0 [a] h L ∧ Fld Z h a "com/example/ledger_of_rewards/ledgerofrewards/check/Pace" "swept" "J" (.long (0 : Int64)) ∧ Fld Z h a "com/example/ledger_of_rewards/ledgerofrewards/check/Pace" "checkpoint" "J" (.long (16 : Int64)) ∧ Fld Z h a "com/example/ledger_of_rewards/ledgerofrewards/check/Pace" "marked" "J" (.long (0 : Int64)) ∧ Fld Z h a "com/example/ledger_of_rewards/ledgerofrewards/check/Pace" "markedMeasure" "D" (.double x)) := by
  refine OMet.body pn_rm_start (Ls := #[.val (.ref a), .val (.double x), .second]) (fun m => by first | (simp [entryFrame, mkF, argsToLocals, Value.category]; done) | rfl) ?_
  intro p e s m below meth c T0 K hK X0 hx hby hml hown hnm hret hlk hZ eh0
  have P0 := OPr.refl h0 [a]
  refine g_aloadN X0 hx (hb hby d4_0) (rfl : 0 + 1 = 1) rfl rfl ?_
  refine g_lconst X0 hx (0 : Int64) (hb hby d4_1) (rfl : 1 + 1 = 2) (by decide) ?_
  refine g_putf X0 hx hZ hown (host := "") (Or.inl (wd hw 21 rfl)) Via.refl eh0 I1 I0 (Or.inl (wd hw 22 rfl)) (wd hw 1 rfl) (ty := .long) (by decide) rfl rfl P0 (Or.inl (List.mem_of_getElem? (i := 0) rfl)) (hb hby d4_2) (rfl : 2 + 3 = 5) fun T1 hh1 X1 eh1 W1 P1 F1 => ?_
  refine g_aloadN X1 hx (hb hby d4_5) (rfl : 5 + 1 = 6) rfl rfl ?_
  refine g_ldc2J X1 hx hZ hown (wd hw 37 rfl) (hb hby d4_6) (rfl : 6 + 3 = 9) ?_
  have F2 := (I2.other W1 (Or.inr (slot_ne (Or.inl (wd hw 24 rfl)) (Or.inl (wd hw 22 rfl)) (by decide) (t := .long) (by decide) (t' := .long) (by decide))))
  have F3 := (I0.wr W1)
  refine g_putf X1 hx hZ hown (host := "") (Or.inl (wd hw 23 rfl)) Via.refl eh1 F2 F3 (Or.inl (wd hw 24 rfl)) (wd hw 1 rfl) (ty := .long) (by decide) rfl rfl P1 (Or.inl (List.mem_of_getElem? (i := 0) rfl)) (hb hby d4_9) (rfl : 9 + 3 = 12) fun T4 hh4 X4 eh4 W4 P4 F4 => ?_
  refine g_aloadN X4 hx (hb hby d4_12) (rfl : 12 + 1 = 13) rfl rfl ?_
  refine g_lconst X4 hx (0 : Int64) (hb hby d4_13) (rfl : 13 + 1 = 14) (by decide) ?_
  have F5 := ((I3.other W1 (Or.inr (slot_ne (Or.inl (wd hw 31 rfl)) (Or.inl (wd hw 22 rfl)) (by decide) (t := .long) (by decide) (t' := .long) (by decide)))).other W4 (Or.inr (slot_ne (Or.inl (wd hw 31 rfl)) (Or.inl (wd hw 24 rfl)) (by decide) (t := .long) (by decide) (t' := .long) (by decide))))
  have F6 := (F3.wr W4)
  refine g_putf X4 hx hZ hown (host := "") (Or.inl (wd hw 30 rfl)) Via.refl eh4 F5 F6 (Or.inl (wd hw 31 rfl)) (wd hw 1 rfl) (ty := .long) (by decide) rfl rfl P4 (Or.inl (List.mem_of_getElem? (i := 0) rfl)) (hb hby d4_14) (rfl : 14 + 3 = 17) fun T7 hh7 X7 eh7 W7 P7 F7 => ?_
  refine g_aloadN X7 hx (hb hby d4_17) (rfl : 17 + 1 = 18) rfl rfl ?_
  refine g_dloadN X7 hx (hb hby d4_18) (rfl : 18 + 1 = 19) rfl ?_
  have F8 := (((I4.other W1 (Or.inr (slot_ne (Or.inl (wd hw 39 rfl)) (Or.inl (wd hw 22 rfl)) (by decide) (t := .double) (by decide) (t' := .long) (by decide)))).other W4 (Or.inr (slot_ne (Or.inl (wd hw 39 rfl)) (Or.inl (wd hw 24 rfl)) (by decide) (t := .double) (by decide) (t' := .long) (by decide)))).other W7 (Or.inr (slot_ne (Or.inl (wd hw 39 rfl)) (Or.inl (wd hw 31 rfl)) (by decide) (t := .double) (by decide) (t' := .long) (by decide))))
  have F9 := (F6.wr W7)
  refine g_putf X7 hx hZ hown (host := "") (Or.inl (wd hw 38 rfl)) Via.refl eh7 F8 F9 (Or.inl (wd hw 39 rfl)) (wd hw 1 rfl) (ty := .double) (by decide) rfl rfl P7 (Or.inl (List.mem_of_getElem? (i := 0) rfl)) (hb hby d4_19) (rfl : 19 + 3 = 22) fun T10 hh10 X10 eh10 W10 P10 F10 => ?_
  have F11 := (((F1.other W4 (Or.inr (slot_ne (Or.inl (wd hw 22 rfl)) (Or.inl (wd hw 24 rfl)) (by decide) (t := .long) (by decide) (t' := .long) (by decide)))).other W7 (Or.inr (slot_ne (Or.inl (wd hw 22 rfl)) (Or.inl (wd hw 31 rfl)) (by decide) (t := .long) (by decide) (t' := .long) (by decide)))).other W10 (Or.inr (slot_ne (Or.inl (wd hw 22 rfl)) (Or.inl (wd hw 39 rfl)) (by decide) (t := .long) (by decide) (t' := .double) (by decide))))
  have F12 := ((F4.other W7 (Or.inr (slot_ne (Or.inl (wd hw 24 rfl)) (Or.inl (wd hw 31 rfl)) (by decide) (t := .long) (by decide) (t' := .long) (by decide)))).other W10 (Or.inr (slot_ne (Or.inl (wd hw 24 rfl)) (Or.inl (wd hw 39 rfl)) (by decide) (t := .long) (by decide) (t' := .double) (by decide))))
  have F13 := (F7.other W10 (Or.inr (slot_ne (Or.inl (wd hw 31 rfl)) (Or.inl (wd hw 39 rfl)) (by decide) (t := .long) (by decide) (t' := .double) (by decide))))
  exact g_ret0 X10 hx hret hlk (hb hby d4_22) (by decide) (by decide) eh10 hK ⟨rfl, P10, F11, F12, F13, F10⟩
theorem d6_0 : decode prog_7_method_8_code 0 = .ok (.aload_n 0, 1) := by decide +kernel
theorem d6_1 : decode prog_7_method_8_code 1 = .ok (.aload_n 0, 1) := by decide +kernel
theorem d6_2 : decode prog_7_method_8_code 2 = .ok (.getfield 24, 3) := by decide +kernel
theorem d6_5 : decode prog_7_method_8_code 5 = .ok (.putfield 33, 3) := by decide +kernel
theorem d6_8 : decode prog_7_method_8_code 8 = .ok (.aload_n 0, 1) := by decide +kernel
theorem d6_9 : decode prog_7_method_8_code 9 = .ok (.dload_n 1, 1) := by decide +kernel
theorem d6_10 : decode prog_7_method_8_code 10 = .ok (.putfield 36, 3) := by decide +kernel
theorem d6_13 : decode prog_7_method_8_code 13 = .ok (.aload_n 0, 1) := by decide +kernel
theorem d6_14 : decode prog_7_method_8_code 14 = .ok (.dup, 1) := by decide +kernel
theorem d6_15 : decode prog_7_method_8_code 15 = .ok (.getfield 30, 3) := by decide +kernel
theorem d6_18 : decode prog_7_method_8_code 18 = .ok (.ldc2_w 61, 3) := by decide +kernel
theorem d6_21 : decode prog_7_method_8_code 21 = .ok (.lmul, 1) := by decide +kernel
theorem d6_22 : decode prog_7_method_8_code 22 = .ok (.putfield 30, 3) := by decide +kernel
theorem d6_25 : decode prog_7_method_8_code 25 = .ok (.return_, 1) := by decide +kernel
theorem pn_rm_mark : plainFor (⟨"com/example/ledger_of_rewards/ledgerofrewards/check/Pace", "mark", "(D)V"⟩ : MethodName) = true := by first | exact plainFor_of_name (by first | (simp [plainName, overriddenIn]; done) | decide +kernel) | decide +kernel
set_option maxRecDepth 65536 in
set_option maxHeartbeats 40000000 in
theorem rm_mark {l : Launch} {Z : State} {a0 : Array Value} (hw : ∀ d ∈ tables_1, d.before a0 Z = true) (a : Addr) (x : UInt64) (sw : Int64) (cp : Int64) (mk : Int64) (mm : UInt64) {h0 : Heap} (I0 : Exa Z h0 a "com/example/ledger_of_rewards/ledgerofrewards/check/Pace") (I1 : Fld Z h0 a "com/example/ledger_of_rewards/ledgerofrewards/check/Pace" "swept" "J" (.long sw)) (I2 : Fld Z h0 a "com/example/ledger_of_rewards/ledgerofrewards/check/Pace" "checkpoint" "J" (.long cp)) (I3 : Fld Z h0 a "com/example/ledger_of_rewards/ledgerofrewards/check/Pace" "marked" "J" (.long mk)) (I4 : Fld Z h0 a "com/example/ledger_of_rewards/ledgerofrewards/check/Pace" "markedMeasure" "D" (.double mm))  :
    OMet l (⟨"com/example/ledger_of_rewards/ledgerofrewards/check/Pace", "mark", "(D)V"⟩ : MethodName) prog_7_method_8_code 3 (Option.none : Option Jvm.ClassFile.FieldType) ({ frames := 0, cells := 0, slots := 0, locals := 0 } : Room) #[(.ref a), (.double x)] Z h0 (fun v h L => v = none ∧ OPr h0 [a] h L ∧ Fld Z h a "com/example/ledger_of_rewards/ledgerofrewards/check/Pace" "swept" "J" (.long sw) ∧ Fld Z h a "com/example/ledger_of_rewards/ledgerofrewards/check/Pace" "checkpoint" "J" (.long (cp * (2 : Int64))) ∧ Fld Z h a "com/example/ledger_of_rewards/ledgerofrewards/check/Pace" "marked" "J" (.long sw) ∧ Fld Z h a "com/example/ledger_of_rewards/ledgerofrewards/check/Pace" "markedMeasure" "D" (.double x)) := by
  refine OMet.body pn_rm_mark (Ls := #[.val (.ref a), .val (.double x), .second]) (fun m => by first | (simp [entryFrame, mkF, argsToLocals, Value.category]; done) | rfl) ?_
  intro p e s m below meth c T0 K hK X0 hx hby hml hown hnm hret hlk hZ eh0
  have P0 := OPr.refl h0 [a]
  refine g_aloadN X0 hx (hb hby d6_0) (rfl : 0 + 1 = 1) rfl rfl ?_
  refine g_aloadN X0 hx (hb hby d6_1) (rfl : 1 + 1 = 2) rfl rfl ?_
  refine g_getf X0 hx hZ hown (host := "") (Or.inl (wd hw 21 rfl)) Via.refl eh0 I1 (hb hby d6_2) (rfl : 2 + 3 = 5) fun T1 X1 eh1 => ?_
  refine g_putf X1 hx hZ hown (host := "") (Or.inl (wd hw 30 rfl)) Via.refl eh1 I3 I0 (Or.inl (wd hw 31 rfl)) (wd hw 1 rfl) (ty := .long) (by decide) rfl rfl P0 (Or.inl (List.mem_of_getElem? (i := 0) rfl)) (hb hby d6_5) (rfl : 5 + 3 = 8) fun T2 hh2 X2 eh2 W2 P2 F2 => ?_
  refine g_aloadN X2 hx (hb hby d6_8) (rfl : 8 + 1 = 9) rfl rfl ?_
  refine g_dloadN X2 hx (hb hby d6_9) (rfl : 9 + 1 = 10) rfl ?_
  have F3 := (I4.other W2 (Or.inr (slot_ne (Or.inl (wd hw 39 rfl)) (Or.inl (wd hw 31 rfl)) (by decide) (t := .double) (by decide) (t' := .long) (by decide))))
  have F4 := (I0.wr W2)
  refine g_putf X2 hx hZ hown (host := "") (Or.inl (wd hw 38 rfl)) Via.refl eh2 F3 F4 (Or.inl (wd hw 39 rfl)) (wd hw 1 rfl) (ty := .double) (by decide) rfl rfl P2 (Or.inl (List.mem_of_getElem? (i := 0) rfl)) (hb hby d6_10) (rfl : 10 + 3 = 13) fun T5 hh5 X5 eh5 W5 P5 F5 => ?_
  refine g_aloadN X5 hx (hb hby d6_13) (rfl : 13 + 1 = 14) rfl rfl ?_
  refine g_dup X5 hx (hb hby d6_14) (rfl : 14 + 1 = 15) rfl ?_
  have F6 := ((I2.other W2 (Or.inr (slot_ne (Or.inl (wd hw 24 rfl)) (Or.inl (wd hw 31 rfl)) (by decide) (t := .long) (by decide) (t' := .long) (by decide)))).other W5 (Or.inr (slot_ne (Or.inl (wd hw 24 rfl)) (Or.inl (wd hw 39 rfl)) (by decide) (t := .long) (by decide) (t' := .double) (by decide))))
  refine g_getf X5 hx hZ hown (host := "") (Or.inl (wd hw 23 rfl)) Via.refl eh5 F6 (hb hby d6_15) (rfl : 15 + 3 = 18) fun T7 X7 eh7 => ?_
  refine g_ldc2J X7 hx hZ hown (wd hw 51 rfl) (hb hby d6_18) (rfl : 18 + 3 = 21) ?_
  refine g_lmul X7 hx (hb hby d6_21) (rfl : 21 + 1 = 22) (z := (cp * (2 : Int64))) rfl ?_
  have F8 := (F4.wr W5)
  refine g_putf X7 hx hZ hown (host := "") (Or.inl (wd hw 23 rfl)) Via.refl eh7 F6 F8 (Or.inl (wd hw 24 rfl)) (wd hw 1 rfl) (ty := .long) (by decide) rfl rfl P5 (Or.inl (List.mem_of_getElem? (i := 0) rfl)) (hb hby d6_22) (rfl : 22 + 3 = 25) fun T9 hh9 X9 eh9 W9 P9 F9 => ?_
  have F10 := (((I1.other W2 (Or.inr (slot_ne (Or.inl (wd hw 22 rfl)) (Or.inl (wd hw 31 rfl)) (by decide) (t := .long) (by decide) (t' := .long) (by decide)))).other W5 (Or.inr (slot_ne (Or.inl (wd hw 22 rfl)) (Or.inl (wd hw 39 rfl)) (by decide) (t := .long) (by decide) (t' := .double) (by decide)))).other W9 (Or.inr (slot_ne (Or.inl (wd hw 22 rfl)) (Or.inl (wd hw 24 rfl)) (by decide) (t := .long) (by decide) (t' := .long) (by decide))))
  have F11 := ((F2.other W5 (Or.inr (slot_ne (Or.inl (wd hw 31 rfl)) (Or.inl (wd hw 39 rfl)) (by decide) (t := .long) (by decide) (t' := .double) (by decide)))).other W9 (Or.inr (slot_ne (Or.inl (wd hw 31 rfl)) (Or.inl (wd hw 24 rfl)) (by decide) (t := .long) (by decide) (t' := .long) (by decide))))
  have F12 := (F5.other W9 (Or.inr (slot_ne (Or.inl (wd hw 39 rfl)) (Or.inl (wd hw 24 rfl)) (by decide) (t := .double) (by decide) (t' := .long) (by decide))))
  exact g_ret0 X9 hx hret hlk (hb hby d6_25) (by decide) (by decide) eh9 hK ⟨rfl, P9, F10, F9, F11, F12⟩
theorem d5_0 : decode method_2_code 0 = .ok (.iconst 0, 1) := by decide +kernel
theorem d5_1 : decode method_2_code 1 = .ok (.istore_n 1, 1) := by decide +kernel
theorem d5_2 : decode method_2_code 2 = .ok (.aload_n 0, 1) := by decide +kernel
theorem d5_3 : decode method_2_code 3 = .ok (.invokevirtual 7, 3) := by decide +kernel
theorem d5_6 : decode method_2_code 6 = .ok (.ifCond .eq 7, 3) := by decide +kernel
theorem d5_13 : decode method_2_code 13 = .ok (.aload_n 0, 1) := by decide +kernel
theorem d5_14 : decode method_2_code 14 = .ok (.invokevirtual 7, 3) := by decide +kernel
theorem d5_17 : decode method_2_code 17 = .ok (.ifCond .eq 7, 3) := by decide +kernel
theorem d5_24 : decode method_2_code 24 = .ok (.aload_n 0, 1) := by decide +kernel
theorem d5_25 : decode method_2_code 25 = .ok (.invokevirtual 7, 3) := by decide +kernel
theorem d5_28 : decode method_2_code 28 = .ok (.ifCond .eq 7, 3) := by decide +kernel
theorem d5_35 : decode method_2_code 35 = .ok (.aload_n 0, 1) := by decide +kernel
theorem d5_36 : decode method_2_code 36 = .ok (.invokevirtual 7, 3) := by decide +kernel
theorem d5_39 : decode method_2_code 39 = .ok (.ifCond .eq 8, 3) := by decide +kernel
theorem d5_47 : decode method_2_code 47 = .ok (.iload_n 1, 1) := by decide +kernel
theorem d5_48 : decode method_2_code 48 = .ok (.ireturn, 1) := by decide +kernel
theorem pn_rm_four0 : plainFor (⟨"com/example/ledger_of_rewards/ledgerofrewards/check/PaceDuePinLaw", "four", "(Lcom/example/ledger_of_rewards/ledgerofrewards/check/Pace;)I"⟩ : MethodName) = true := by first | exact plainFor_of_name (by first | (simp [plainName, overriddenIn]; done) | decide +kernel) | decide +kernel
set_option maxRecDepth 65536 in
set_option maxHeartbeats 40000000 in
theorem rm_four0 {l : Launch} {Z : State} {a0 : Array Value} (hw : ∀ d ∈ tables_1, d.before a0 Z = true) (a : Addr) (mm : UInt64) {h0 : Heap} (I0 : Exa Z h0 a "com/example/ledger_of_rewards/ledgerofrewards/check/Pace") (I1 : Fld Z h0 a "com/example/ledger_of_rewards/ledgerofrewards/check/Pace" "swept" "J" (.long (0 : Int64))) (I2 : Fld Z h0 a "com/example/ledger_of_rewards/ledgerofrewards/check/Pace" "checkpoint" "J" (.long (16 : Int64))) (I3 : Fld Z h0 a "com/example/ledger_of_rewards/ledgerofrewards/check/Pace" "marked" "J" (.long (0 : Int64))) (I4 : Fld Z h0 a "com/example/ledger_of_rewards/ledgerofrewards/check/Pace" "markedMeasure" "D" (.double mm))  :
    OMet l (⟨"com/example/ledger_of_rewards/ledgerofrewards/check/PaceDuePinLaw", "four", "(Lcom/example/ledger_of_rewards/ledgerofrewards/check/Pace;)I"⟩ : MethodName) method_2_code 2 (Option.some Jvm.ClassFile.FieldType.int) ({ frames := 1, cells := 0, slots := 0, locals := 12 } : Room) #[(.ref a)] Z h0 (fun v h L => v = some (.int (0 : Int32)) ∧ OPr h0 [a] h L ∧ Fld Z h a "com/example/ledger_of_rewards/ledgerofrewards/check/Pace" "swept" "J" (.long (4 : Int64)) ∧ Fld Z h a "com/example/ledger_of_rewards/ledgerofrewards/check/Pace" "checkpoint" "J" (.long (16 : Int64)) ∧ Fld Z h a "com/example/ledger_of_rewards/ledgerofrewards/check/Pace" "marked" "J" (.long (0 : Int64)) ∧ Fld Z h a "com/example/ledger_of_rewards/ledgerofrewards/check/Pace" "markedMeasure" "D" (.double mm)) := by
  refine OMet.body pn_rm_four0 (Ls := #[.val (.ref a), .unset]) (fun m => by first | (simp [entryFrame, mkF, argsToLocals, Value.category]; done) | rfl) ?_
  intro p e s m below meth c T0 K hK X0 hx hby hml hown hnm hret hlk hZ eh0
  have P0 := OPr.refl h0 [a]
  refine g_iconst X0 hx (0 : Int32) (hb hby d5_0) (rfl : 0 + 1 = 1) (by decide) ?_
  refine g_istoreN X0 hx (hb hby d5_1) (rfl : 1 + 1 = 2) (Ls' := #[.val (.ref a), .val (.int (0 : Int32))]) rfl ?_
  refine g_aloadN X0 hx (hb hby d5_2) (rfl : 2 + 1 = 3) rfl rfl ?_
  refine g_virtual X0 hx hZ hown eh0 (rm_due hw a (0 : Int64) (1 : Int64) (16 : Int64) (0 : Int64) mm (0 : Int32) I0 I1 I2 I3 I4 (by decide) (by decide)) (C := "com/example/ledger_of_rewards/ledgerofrewards/check/Pace") (wd hw 16 rfl) (wd hw 17 rfl) (notFace_of_selects (args := #[]) (mvT hZ (wd hw 19 rfl))) (wd hw 19 rfl) (wd hw 18 rfl) (wd hw 20 rfl) (wd hw 2 rfl) (by decide) (a := a) I0 (argsL := []) (rest := []) rfl rfl (ps := []) (rt := (some .boolean)) (by decide) rfl (W := 0) (Nat.le_of_eq rfl) (by decide) (by decide) (by decide) (by decide) (by rw [hml]; rfl) (hb hby d5_3) (rfl : 3 + 3 = 6) fun v1 T1 hh1 L1 X1 eh1 Q1 => ?_
  obtain ⟨rfl, Pc1, G1_0, G1_1, G1_2, G1_3⟩ := Q1
  have P1 := P0.call Pc1 (allS (Or.inl (List.mem_of_getElem? (i := 0) rfl)) all0)
  show OGo p e below K T1 (mkF m 6 #[.val (.ref a), .val (.int (0 : Int32))] [(.int (0 : Int32))])
  refine g_ifY X1 hx (hb hby d5_6) (XT.i0_eq_t (by decide)) (by decide) (pc' := 13) (by decide) ?_
  refine g_aloadN X1 hx (hb hby d5_13) (rfl : 13 + 1 = 14) rfl rfl ?_
  have F3 := (exaP I0 Pc1)
  refine g_virtual X1 hx hZ hown eh1 (rm_due hw a (1 : Int64) (2 : Int64) (16 : Int64) (0 : Int64) mm (0 : Int32) F3 G1_0 G1_1 G1_2 G1_3 (by decide) (by decide)) (C := "com/example/ledger_of_rewards/ledgerofrewards/check/Pace") (wd hw 16 rfl) (wd hw 17 rfl) (notFace_of_selects (args := #[]) (mvT hZ (wd hw 19 rfl))) (wd hw 19 rfl) (wd hw 18 rfl) (wd hw 20 rfl) (wd hw 2 rfl) (by decide) (a := a) F3 (argsL := []) (rest := []) rfl rfl (ps := []) (rt := (some .boolean)) (by decide) rfl (W := 0) (Nat.le_of_eq rfl) (by decide) (by decide) (by decide) (by decide) (by rw [hml]; rfl) (hb hby d5_14) (rfl : 14 + 3 = 17) fun v2 T2 hh2 L2 X2 eh2 Q2 => ?_
  obtain ⟨rfl, Pc2, G2_0, G2_1, G2_2, G2_3⟩ := Q2
  have P2 := P1.call Pc2 (allS (Or.inl (List.mem_of_getElem? (i := 0) rfl)) all0)
  show OGo p e below K T2 (mkF m 17 #[.val (.ref a), .val (.int (0 : Int32))] [(.int (0 : Int32))])
  refine g_ifY X2 hx (hb hby d5_17) (XT.i0_eq_t (by decide)) (by decide) (pc' := 24) (by decide) ?_
  refine g_aloadN X2 hx (hb hby d5_24) (rfl : 24 + 1 = 25) rfl rfl ?_
  have F5 := (exaP F3 Pc2)
  refine g_virtual X2 hx hZ hown eh2 (rm_due hw a (2 : Int64) (3 : Int64) (16 : Int64) (0 : Int64) mm (0 : Int32) F5 G2_0 G2_1 G2_2 G2_3 (by decide) (by decide)) (C := "com/example/ledger_of_rewards/ledgerofrewards/check/Pace") (wd hw 16 rfl) (wd hw 17 rfl) (notFace_of_selects (args := #[]) (mvT hZ (wd hw 19 rfl))) (wd hw 19 rfl) (wd hw 18 rfl) (wd hw 20 rfl) (wd hw 2 rfl) (by decide) (a := a) F5 (argsL := []) (rest := []) rfl rfl (ps := []) (rt := (some .boolean)) (by decide) rfl (W := 0) (Nat.le_of_eq rfl) (by decide) (by decide) (by decide) (by decide) (by rw [hml]; rfl) (hb hby d5_25) (rfl : 25 + 3 = 28) fun v4 T4 hh4 L4 X4 eh4 Q4 => ?_
  obtain ⟨rfl, Pc4, G4_0, G4_1, G4_2, G4_3⟩ := Q4
  have P4 := P2.call Pc4 (allS (Or.inl (List.mem_of_getElem? (i := 0) rfl)) all0)
  show OGo p e below K T4 (mkF m 28 #[.val (.ref a), .val (.int (0 : Int32))] [(.int (0 : Int32))])
  refine g_ifY X4 hx (hb hby d5_28) (XT.i0_eq_t (by decide)) (by decide) (pc' := 35) (by decide) ?_
  refine g_aloadN X4 hx (hb hby d5_35) (rfl : 35 + 1 = 36) rfl rfl ?_
  have F7 := (exaP F5 Pc4)
  refine g_virtual X4 hx hZ hown eh4 (rm_due hw a (3 : Int64) (4 : Int64) (16 : Int64) (0 : Int64) mm (0 : Int32) F7 G4_0 G4_1 G4_2 G4_3 (by decide) (by decide)) (C := "com/example/ledger_of_rewards/ledgerofrewards/check/Pace") (wd hw 16 rfl) (wd hw 17 rfl) (notFace_of_selects (args := #[]) (mvT hZ (wd hw 19 rfl))) (wd hw 19 rfl) (wd hw 18 rfl) (wd hw 20 rfl) (wd hw 2 rfl) (by decide) (a := a) F7 (argsL := []) (rest := []) rfl rfl (ps := []) (rt := (some .boolean)) (by decide) rfl (W := 0) (Nat.le_of_eq rfl) (by decide) (by decide) (by decide) (by decide) (by rw [hml]; rfl) (hb hby d5_36) (rfl : 36 + 3 = 39) fun v6 T6 hh6 L6 X6 eh6 Q6 => ?_
  obtain ⟨rfl, Pc6, G6_0, G6_1, G6_2, G6_3⟩ := Q6
  have P6 := P4.call Pc6 (allS (Or.inl (List.mem_of_getElem? (i := 0) rfl)) all0)
  show OGo p e below K T6 (mkF m 39 #[.val (.ref a), .val (.int (0 : Int32))] [(.int (0 : Int32))])
  refine g_ifY X6 hx (hb hby d5_39) (XT.i0_eq_t (by decide)) (by decide) (pc' := 47) (by decide) ?_
  refine g_iloadN X6 hx (hb hby d5_47) (rfl : 47 + 1 = 48) rfl ?_
  exact g_ret X6 hx hret hlk rfl (Or.inl ⟨rfl, Or.inl rfl, _, rfl⟩) (hb hby d5_48) (by decide) (by decide) eh6 hK ⟨rfl, P6, G6_0, G6_1, G6_2, G6_3⟩
theorem pn_rm_four4 : plainFor (⟨"com/example/ledger_of_rewards/ledgerofrewards/check/PaceDuePinLaw", "four", "(Lcom/example/ledger_of_rewards/ledgerofrewards/check/Pace;)I"⟩ : MethodName) = true := by first | exact plainFor_of_name (by first | (simp [plainName, overriddenIn]; done) | decide +kernel) | decide +kernel
set_option maxRecDepth 65536 in
set_option maxHeartbeats 40000000 in
theorem rm_four4 {l : Launch} {Z : State} {a0 : Array Value} (hw : ∀ d ∈ tables_1, d.before a0 Z = true) (a : Addr) (mm : UInt64) {h0 : Heap} (I0 : Exa Z h0 a "com/example/ledger_of_rewards/ledgerofrewards/check/Pace") (I1 : Fld Z h0 a "com/example/ledger_of_rewards/ledgerofrewards/check/Pace" "swept" "J" (.long (4 : Int64))) (I2 : Fld Z h0 a "com/example/ledger_of_rewards/ledgerofrewards/check/Pace" "checkpoint" "J" (.long (16 : Int64))) (I3 : Fld Z h0 a "com/example/ledger_of_rewards/ledgerofrewards/check/Pace" "marked" "J" (.long (0 : Int64))) (I4 : Fld Z h0 a "com/example/ledger_of_rewards/ledgerofrewards/check/Pace" "markedMeasure" "D" (.double mm))  :
    OMet l (⟨"com/example/ledger_of_rewards/ledgerofrewards/check/PaceDuePinLaw", "four", "(Lcom/example/ledger_of_rewards/ledgerofrewards/check/Pace;)I"⟩ : MethodName) method_2_code 2 (Option.some Jvm.ClassFile.FieldType.int) ({ frames := 1, cells := 0, slots := 0, locals := 12 } : Room) #[(.ref a)] Z h0 (fun v h L => v = some (.int (0 : Int32)) ∧ OPr h0 [a] h L ∧ Fld Z h a "com/example/ledger_of_rewards/ledgerofrewards/check/Pace" "swept" "J" (.long (8 : Int64)) ∧ Fld Z h a "com/example/ledger_of_rewards/ledgerofrewards/check/Pace" "checkpoint" "J" (.long (16 : Int64)) ∧ Fld Z h a "com/example/ledger_of_rewards/ledgerofrewards/check/Pace" "marked" "J" (.long (0 : Int64)) ∧ Fld Z h a "com/example/ledger_of_rewards/ledgerofrewards/check/Pace" "markedMeasure" "D" (.double mm)) := by
  refine OMet.body pn_rm_four4 (Ls := #[.val (.ref a), .unset]) (fun m => by first | (simp [entryFrame, mkF, argsToLocals, Value.category]; done) | rfl) ?_
  intro p e s m below meth c T0 K hK X0 hx hby hml hown hnm hret hlk hZ eh0
  have P0 := OPr.refl h0 [a]
  refine g_iconst X0 hx (0 : Int32) (hb hby d5_0) (rfl : 0 + 1 = 1) (by decide) ?_
  refine g_istoreN X0 hx (hb hby d5_1) (rfl : 1 + 1 = 2) (Ls' := #[.val (.ref a), .val (.int (0 : Int32))]) rfl ?_
  refine g_aloadN X0 hx (hb hby d5_2) (rfl : 2 + 1 = 3) rfl rfl ?_
  refine g_virtual X0 hx hZ hown eh0 (rm_due hw a (4 : Int64) (5 : Int64) (16 : Int64) (0 : Int64) mm (0 : Int32) I0 I1 I2 I3 I4 (by decide) (by decide)) (C := "com/example/ledger_of_rewards/ledgerofrewards/check/Pace") (wd hw 16 rfl) (wd hw 17 rfl) (notFace_of_selects (args := #[]) (mvT hZ (wd hw 19 rfl))) (wd hw 19 rfl) (wd hw 18 rfl) (wd hw 20 rfl) (wd hw 2 rfl) (by decide) (a := a) I0 (argsL := []) (rest := []) rfl rfl (ps := []) (rt := (some .boolean)) (by decide) rfl (W := 0) (Nat.le_of_eq rfl) (by decide) (by decide) (by decide) (by decide) (by rw [hml]; rfl) (hb hby d5_3) (rfl : 3 + 3 = 6) fun v1 T1 hh1 L1 X1 eh1 Q1 => ?_
  obtain ⟨rfl, Pc1, G1_0, G1_1, G1_2, G1_3⟩ := Q1
  have P1 := P0.call Pc1 (allS (Or.inl (List.mem_of_getElem? (i := 0) rfl)) all0)
  show OGo p e below K T1 (mkF m 6 #[.val (.ref a), .val (.int (0 : Int32))] [(.int (0 : Int32))])
  refine g_ifY X1 hx (hb hby d5_6) (XT.i0_eq_t (by decide)) (by decide) (pc' := 13) (by decide) ?_
  refine g_aloadN X1 hx (hb hby d5_13) (rfl : 13 + 1 = 14) rfl rfl ?_
  have F3 := (exaP I0 Pc1)
  refine g_virtual X1 hx hZ hown eh1 (rm_due hw a (5 : Int64) (6 : Int64) (16 : Int64) (0 : Int64) mm (0 : Int32) F3 G1_0 G1_1 G1_2 G1_3 (by decide) (by decide)) (C := "com/example/ledger_of_rewards/ledgerofrewards/check/Pace") (wd hw 16 rfl) (wd hw 17 rfl) (notFace_of_selects (args := #[]) (mvT hZ (wd hw 19 rfl))) (wd hw 19 rfl) (wd hw 18 rfl) (wd hw 20 rfl) (wd hw 2 rfl) (by decide) (a := a) F3 (argsL := []) (rest := []) rfl rfl (ps := []) (rt := (some .boolean)) (by decide) rfl (W := 0) (Nat.le_of_eq rfl) (by decide) (by decide) (by decide) (by decide) (by rw [hml]; rfl) (hb hby d5_14) (rfl : 14 + 3 = 17) fun v2 T2 hh2 L2 X2 eh2 Q2 => ?_
  obtain ⟨rfl, Pc2, G2_0, G2_1, G2_2, G2_3⟩ := Q2
  have P2 := P1.call Pc2 (allS (Or.inl (List.mem_of_getElem? (i := 0) rfl)) all0)
  show OGo p e below K T2 (mkF m 17 #[.val (.ref a), .val (.int (0 : Int32))] [(.int (0 : Int32))])
  refine g_ifY X2 hx (hb hby d5_17) (XT.i0_eq_t (by decide)) (by decide) (pc' := 24) (by decide) ?_
  refine g_aloadN X2 hx (hb hby d5_24) (rfl : 24 + 1 = 25) rfl rfl ?_
  have F5 := (exaP F3 Pc2)
  refine g_virtual X2 hx hZ hown eh2 (rm_due hw a (6 : Int64) (7 : Int64) (16 : Int64) (0 : Int64) mm (0 : Int32) F5 G2_0 G2_1 G2_2 G2_3 (by decide) (by decide)) (C := "com/example/ledger_of_rewards/ledgerofrewards/check/Pace") (wd hw 16 rfl) (wd hw 17 rfl) (notFace_of_selects (args := #[]) (mvT hZ (wd hw 19 rfl))) (wd hw 19 rfl) (wd hw 18 rfl) (wd hw 20 rfl) (wd hw 2 rfl) (by decide) (a := a) F5 (argsL := []) (rest := []) rfl rfl (ps := []) (rt := (some .boolean)) (by decide) rfl (W := 0) (Nat.le_of_eq rfl) (by decide) (by decide) (by decide) (by decide) (by rw [hml]; rfl) (hb hby d5_25) (rfl : 25 + 3 = 28) fun v4 T4 hh4 L4 X4 eh4 Q4 => ?_
  obtain ⟨rfl, Pc4, G4_0, G4_1, G4_2, G4_3⟩ := Q4
  have P4 := P2.call Pc4 (allS (Or.inl (List.mem_of_getElem? (i := 0) rfl)) all0)
  show OGo p e below K T4 (mkF m 28 #[.val (.ref a), .val (.int (0 : Int32))] [(.int (0 : Int32))])
  refine g_ifY X4 hx (hb hby d5_28) (XT.i0_eq_t (by decide)) (by decide) (pc' := 35) (by decide) ?_
  refine g_aloadN X4 hx (hb hby d5_35) (rfl : 35 + 1 = 36) rfl rfl ?_
  have F7 := (exaP F5 Pc4)
  refine g_virtual X4 hx hZ hown eh4 (rm_due hw a (7 : Int64) (8 : Int64) (16 : Int64) (0 : Int64) mm (0 : Int32) F7 G4_0 G4_1 G4_2 G4_3 (by decide) (by decide)) (C := "com/example/ledger_of_rewards/ledgerofrewards/check/Pace") (wd hw 16 rfl) (wd hw 17 rfl) (notFace_of_selects (args := #[]) (mvT hZ (wd hw 19 rfl))) (wd hw 19 rfl) (wd hw 18 rfl) (wd hw 20 rfl) (wd hw 2 rfl) (by decide) (a := a) F7 (argsL := []) (rest := []) rfl rfl (ps := []) (rt := (some .boolean)) (by decide) rfl (W := 0) (Nat.le_of_eq rfl) (by decide) (by decide) (by decide) (by decide) (by rw [hml]; rfl) (hb hby d5_36) (rfl : 36 + 3 = 39) fun v6 T6 hh6 L6 X6 eh6 Q6 => ?_
  obtain ⟨rfl, Pc6, G6_0, G6_1, G6_2, G6_3⟩ := Q6
  have P6 := P4.call Pc6 (allS (Or.inl (List.mem_of_getElem? (i := 0) rfl)) all0)
  show OGo p e below K T6 (mkF m 39 #[.val (.ref a), .val (.int (0 : Int32))] [(.int (0 : Int32))])
  refine g_ifY X6 hx (hb hby d5_39) (XT.i0_eq_t (by decide)) (by decide) (pc' := 47) (by decide) ?_
  refine g_iloadN X6 hx (hb hby d5_47) (rfl : 47 + 1 = 48) rfl ?_
  exact g_ret X6 hx hret hlk rfl (Or.inl ⟨rfl, Or.inl rfl, _, rfl⟩) (hb hby d5_48) (by decide) (by decide) eh6 hK ⟨rfl, P6, G6_0, G6_1, G6_2, G6_3⟩
theorem pn_rm_four8 : plainFor (⟨"com/example/ledger_of_rewards/ledgerofrewards/check/PaceDuePinLaw", "four", "(Lcom/example/ledger_of_rewards/ledgerofrewards/check/Pace;)I"⟩ : MethodName) = true := by first | exact plainFor_of_name (by first | (simp [plainName, overriddenIn]; done) | decide +kernel) | decide +kernel
set_option maxRecDepth 65536 in
set_option maxHeartbeats 40000000 in
theorem rm_four8 {l : Launch} {Z : State} {a0 : Array Value} (hw : ∀ d ∈ tables_1, d.before a0 Z = true) (a : Addr) (mm : UInt64) {h0 : Heap} (I0 : Exa Z h0 a "com/example/ledger_of_rewards/ledgerofrewards/check/Pace") (I1 : Fld Z h0 a "com/example/ledger_of_rewards/ledgerofrewards/check/Pace" "swept" "J" (.long (8 : Int64))) (I2 : Fld Z h0 a "com/example/ledger_of_rewards/ledgerofrewards/check/Pace" "checkpoint" "J" (.long (16 : Int64))) (I3 : Fld Z h0 a "com/example/ledger_of_rewards/ledgerofrewards/check/Pace" "marked" "J" (.long (0 : Int64))) (I4 : Fld Z h0 a "com/example/ledger_of_rewards/ledgerofrewards/check/Pace" "markedMeasure" "D" (.double mm))  :
    OMet l (⟨"com/example/ledger_of_rewards/ledgerofrewards/check/PaceDuePinLaw", "four", "(Lcom/example/ledger_of_rewards/ledgerofrewards/check/Pace;)I"⟩ : MethodName) method_2_code 2 (Option.some Jvm.ClassFile.FieldType.int) ({ frames := 1, cells := 0, slots := 0, locals := 12 } : Room) #[(.ref a)] Z h0 (fun v h L => v = some (.int (0 : Int32)) ∧ OPr h0 [a] h L ∧ Fld Z h a "com/example/ledger_of_rewards/ledgerofrewards/check/Pace" "swept" "J" (.long (12 : Int64)) ∧ Fld Z h a "com/example/ledger_of_rewards/ledgerofrewards/check/Pace" "checkpoint" "J" (.long (16 : Int64)) ∧ Fld Z h a "com/example/ledger_of_rewards/ledgerofrewards/check/Pace" "marked" "J" (.long (0 : Int64)) ∧ Fld Z h a "com/example/ledger_of_rewards/ledgerofrewards/check/Pace" "markedMeasure" "D" (.double mm)) := by
  refine OMet.body pn_rm_four8 (Ls := #[.val (.ref a), .unset]) (fun m => by first | (simp [entryFrame, mkF, argsToLocals, Value.category]; done) | rfl) ?_
  intro p e s m below meth c T0 K hK X0 hx hby hml hown hnm hret hlk hZ eh0
  have P0 := OPr.refl h0 [a]
  refine g_iconst X0 hx (0 : Int32) (hb hby d5_0) (rfl : 0 + 1 = 1) (by decide) ?_
  refine g_istoreN X0 hx (hb hby d5_1) (rfl : 1 + 1 = 2) (Ls' := #[.val (.ref a), .val (.int (0 : Int32))]) rfl ?_
  refine g_aloadN X0 hx (hb hby d5_2) (rfl : 2 + 1 = 3) rfl rfl ?_
  refine g_virtual X0 hx hZ hown eh0 (rm_due hw a (8 : Int64) (9 : Int64) (16 : Int64) (0 : Int64) mm (0 : Int32) I0 I1 I2 I3 I4 (by decide) (by decide)) (C := "com/example/ledger_of_rewards/ledgerofrewards/check/Pace") (wd hw 16 rfl) (wd hw 17 rfl) (notFace_of_selects (args := #[]) (mvT hZ (wd hw 19 rfl))) (wd hw 19 rfl) (wd hw 18 rfl) (wd hw 20 rfl) (wd hw 2 rfl) (by decide) (a := a) I0 (argsL := []) (rest := []) rfl rfl (ps := []) (rt := (some .boolean)) (by decide) rfl (W := 0) (Nat.le_of_eq rfl) (by decide) (by decide) (by decide) (by decide) (by rw [hml]; rfl) (hb hby d5_3) (rfl : 3 + 3 = 6) fun v1 T1 hh1 L1 X1 eh1 Q1 => ?_
  obtain ⟨rfl, Pc1, G1_0, G1_1, G1_2, G1_3⟩ := Q1
  have P1 := P0.call Pc1 (allS (Or.inl (List.mem_of_getElem? (i := 0) rfl)) all0)
  show OGo p e below K T1 (mkF m 6 #[.val (.ref a), .val (.int (0 : Int32))] [(.int (0 : Int32))])
  refine g_ifY X1 hx (hb hby d5_6) (XT.i0_eq_t (by decide)) (by decide) (pc' := 13) (by decide) ?_
  refine g_aloadN X1 hx (hb hby d5_13) (rfl : 13 + 1 = 14) rfl rfl ?_
  have F3 := (exaP I0 Pc1)
  refine g_virtual X1 hx hZ hown eh1 (rm_due hw a (9 : Int64) (10 : Int64) (16 : Int64) (0 : Int64) mm (0 : Int32) F3 G1_0 G1_1 G1_2 G1_3 (by decide) (by decide)) (C := "com/example/ledger_of_rewards/ledgerofrewards/check/Pace") (wd hw 16 rfl) (wd hw 17 rfl) (notFace_of_selects (args := #[]) (mvT hZ (wd hw 19 rfl))) (wd hw 19 rfl) (wd hw 18 rfl) (wd hw 20 rfl) (wd hw 2 rfl) (by decide) (a := a) F3 (argsL := []) (rest := []) rfl rfl (ps := []) (rt := (some .boolean)) (by decide) rfl (W := 0) (Nat.le_of_eq rfl) (by decide) (by decide) (by decide) (by decide) (by rw [hml]; rfl) (hb hby d5_14) (rfl : 14 + 3 = 17) fun v2 T2 hh2 L2 X2 eh2 Q2 => ?_
  obtain ⟨rfl, Pc2, G2_0, G2_1, G2_2, G2_3⟩ := Q2
  have P2 := P1.call Pc2 (allS (Or.inl (List.mem_of_getElem? (i := 0) rfl)) all0)
  show OGo p e below K T2 (mkF m 17 #[.val (.ref a), .val (.int (0 : Int32))] [(.int (0 : Int32))])
  refine g_ifY X2 hx (hb hby d5_17) (XT.i0_eq_t (by decide)) (by decide) (pc' := 24) (by decide) ?_
  refine g_aloadN X2 hx (hb hby d5_24) (rfl : 24 + 1 = 25) rfl rfl ?_
  have F5 := (exaP F3 Pc2)
  refine g_virtual X2 hx hZ hown eh2 (rm_due hw a (10 : Int64) (11 : Int64) (16 : Int64) (0 : Int64) mm (0 : Int32) F5 G2_0 G2_1 G2_2 G2_3 (by decide) (by decide)) (C := "com/example/ledger_of_rewards/ledgerofrewards/check/Pace") (wd hw 16 rfl) (wd hw 17 rfl) (notFace_of_selects (args := #[]) (mvT hZ (wd hw 19 rfl))) (wd hw 19 rfl) (wd hw 18 rfl) (wd hw 20 rfl) (wd hw 2 rfl) (by decide) (a := a) F5 (argsL := []) (rest := []) rfl rfl (ps := []) (rt := (some .boolean)) (by decide) rfl (W := 0) (Nat.le_of_eq rfl) (by decide) (by decide) (by decide) (by decide) (by rw [hml]; rfl) (hb hby d5_25) (rfl : 25 + 3 = 28) fun v4 T4 hh4 L4 X4 eh4 Q4 => ?_
  obtain ⟨rfl, Pc4, G4_0, G4_1, G4_2, G4_3⟩ := Q4
  have P4 := P2.call Pc4 (allS (Or.inl (List.mem_of_getElem? (i := 0) rfl)) all0)
  show OGo p e below K T4 (mkF m 28 #[.val (.ref a), .val (.int (0 : Int32))] [(.int (0 : Int32))])
  refine g_ifY X4 hx (hb hby d5_28) (XT.i0_eq_t (by decide)) (by decide) (pc' := 35) (by decide) ?_
  refine g_aloadN X4 hx (hb hby d5_35) (rfl : 35 + 1 = 36) rfl rfl ?_
  have F7 := (exaP F5 Pc4)
  refine g_virtual X4 hx hZ hown eh4 (rm_due hw a (11 : Int64) (12 : Int64) (16 : Int64) (0 : Int64) mm (0 : Int32) F7 G4_0 G4_1 G4_2 G4_3 (by decide) (by decide)) (C := "com/example/ledger_of_rewards/ledgerofrewards/check/Pace") (wd hw 16 rfl) (wd hw 17 rfl) (notFace_of_selects (args := #[]) (mvT hZ (wd hw 19 rfl))) (wd hw 19 rfl) (wd hw 18 rfl) (wd hw 20 rfl) (wd hw 2 rfl) (by decide) (a := a) F7 (argsL := []) (rest := []) rfl rfl (ps := []) (rt := (some .boolean)) (by decide) rfl (W := 0) (Nat.le_of_eq rfl) (by decide) (by decide) (by decide) (by decide) (by rw [hml]; rfl) (hb hby d5_36) (rfl : 36 + 3 = 39) fun v6 T6 hh6 L6 X6 eh6 Q6 => ?_
  obtain ⟨rfl, Pc6, G6_0, G6_1, G6_2, G6_3⟩ := Q6
  have P6 := P4.call Pc6 (allS (Or.inl (List.mem_of_getElem? (i := 0) rfl)) all0)
  show OGo p e below K T6 (mkF m 39 #[.val (.ref a), .val (.int (0 : Int32))] [(.int (0 : Int32))])
  refine g_ifY X6 hx (hb hby d5_39) (XT.i0_eq_t (by decide)) (by decide) (pc' := 47) (by decide) ?_
  refine g_iloadN X6 hx (hb hby d5_47) (rfl : 47 + 1 = 48) rfl ?_
  exact g_ret X6 hx hret hlk rfl (Or.inl ⟨rfl, Or.inl rfl, _, rfl⟩) (hb hby d5_48) (by decide) (by decide) eh6 hK ⟨rfl, P6, G6_0, G6_1, G6_2, G6_3⟩
theorem d5_42 : decode method_2_code 42 = .ok (.iload_n 1, 1) := by decide +kernel
theorem d5_43 : decode method_2_code 43 = .ok (.bipush 8, 2) := by decide +kernel
theorem d5_45 : decode method_2_code 45 = .ok (.ior, 1) := by decide +kernel
theorem d5_46 : decode method_2_code 46 = .ok (.istore_n 1, 1) := by decide +kernel
theorem pn_rm_four12 : plainFor (⟨"com/example/ledger_of_rewards/ledgerofrewards/check/PaceDuePinLaw", "four", "(Lcom/example/ledger_of_rewards/ledgerofrewards/check/Pace;)I"⟩ : MethodName) = true := by first | exact plainFor_of_name (by first | (simp [plainName, overriddenIn]; done) | decide +kernel) | decide +kernel
set_option maxRecDepth 65536 in
set_option maxHeartbeats 40000000 in
theorem rm_four12 {l : Launch} {Z : State} {a0 : Array Value} (hw : ∀ d ∈ tables_1, d.before a0 Z = true) (a : Addr) (mm : UInt64) {h0 : Heap} (I0 : Exa Z h0 a "com/example/ledger_of_rewards/ledgerofrewards/check/Pace") (I1 : Fld Z h0 a "com/example/ledger_of_rewards/ledgerofrewards/check/Pace" "swept" "J" (.long (12 : Int64))) (I2 : Fld Z h0 a "com/example/ledger_of_rewards/ledgerofrewards/check/Pace" "checkpoint" "J" (.long (16 : Int64))) (I3 : Fld Z h0 a "com/example/ledger_of_rewards/ledgerofrewards/check/Pace" "marked" "J" (.long (0 : Int64))) (I4 : Fld Z h0 a "com/example/ledger_of_rewards/ledgerofrewards/check/Pace" "markedMeasure" "D" (.double mm))  :
    OMet l (⟨"com/example/ledger_of_rewards/ledgerofrewards/check/PaceDuePinLaw", "four", "(Lcom/example/ledger_of_rewards/ledgerofrewards/check/Pace;)I"⟩ : MethodName) method_2_code 2 (Option.some Jvm.ClassFile.FieldType.int) ({ frames := 1, cells := 0, slots := 0, locals := 12 } : Room) #[(.ref a)] Z h0 (fun v h L => v = some (.int (8 : Int32)) ∧ OPr h0 [a] h L ∧ Fld Z h a "com/example/ledger_of_rewards/ledgerofrewards/check/Pace" "swept" "J" (.long (16 : Int64)) ∧ Fld Z h a "com/example/ledger_of_rewards/ledgerofrewards/check/Pace" "checkpoint" "J" (.long (16 : Int64)) ∧ Fld Z h a "com/example/ledger_of_rewards/ledgerofrewards/check/Pace" "marked" "J" (.long (0 : Int64)) ∧ Fld Z h a "com/example/ledger_of_rewards/ledgerofrewards/check/Pace" "markedMeasure" "D" (.double mm)) := by
  refine OMet.body pn_rm_four12 (Ls := #[.val (.ref a), .unset]) (fun m => by first | (simp [entryFrame, mkF, argsToLocals, Value.category]; done) | rfl) ?_
  intro p e s m below meth c T0 K hK X0 hx hby hml hown hnm hret hlk hZ eh0
  have P0 := OPr.refl h0 [a]
  refine g_iconst X0 hx (0 : Int32) (hb hby d5_0) (rfl : 0 + 1 = 1) (by decide) ?_
  refine g_istoreN X0 hx (hb hby d5_1) (rfl : 1 + 1 = 2) (Ls' := #[.val (.ref a), .val (.int (0 : Int32))]) rfl ?_
  refine g_aloadN X0 hx (hb hby d5_2) (rfl : 2 + 1 = 3) rfl rfl ?_
  refine g_virtual X0 hx hZ hown eh0 (rm_due hw a (12 : Int64) (13 : Int64) (16 : Int64) (0 : Int64) mm (0 : Int32) I0 I1 I2 I3 I4 (by decide) (by decide)) (C := "com/example/ledger_of_rewards/ledgerofrewards/check/Pace") (wd hw 16 rfl) (wd hw 17 rfl) (notFace_of_selects (args := #[]) (mvT hZ (wd hw 19 rfl))) (wd hw 19 rfl) (wd hw 18 rfl) (wd hw 20 rfl) (wd hw 2 rfl) (by decide) (a := a) I0 (argsL := []) (rest := []) rfl rfl (ps := []) (rt := (some .boolean)) (by decide) rfl (W := 0) (Nat.le_of_eq rfl) (by decide) (by decide) (by decide) (by decide) (by rw [hml]; rfl) (hb hby d5_3) (rfl : 3 + 3 = 6) fun v1 T1 hh1 L1 X1 eh1 Q1 => ?_
  obtain ⟨rfl, Pc1, G1_0, G1_1, G1_2, G1_3⟩ := Q1
  have P1 := P0.call Pc1 (allS (Or.inl (List.mem_of_getElem? (i := 0) rfl)) all0)
  show OGo p e below K T1 (mkF m 6 #[.val (.ref a), .val (.int (0 : Int32))] [(.int (0 : Int32))])
  refine g_ifY X1 hx (hb hby d5_6) (XT.i0_eq_t (by decide)) (by decide) (pc' := 13) (by decide) ?_
  refine g_aloadN X1 hx (hb hby d5_13) (rfl : 13 + 1 = 14) rfl rfl ?_
  have F3 := (exaP I0 Pc1)
  refine g_virtual X1 hx hZ hown eh1 (rm_due hw a (13 : Int64) (14 : Int64) (16 : Int64) (0 : Int64) mm (0 : Int32) F3 G1_0 G1_1 G1_2 G1_3 (by decide) (by decide)) (C := "com/example/ledger_of_rewards/ledgerofrewards/check/Pace") (wd hw 16 rfl) (wd hw 17 rfl) (notFace_of_selects (args := #[]) (mvT hZ (wd hw 19 rfl))) (wd hw 19 rfl) (wd hw 18 rfl) (wd hw 20 rfl) (wd hw 2 rfl) (by decide) (a := a) F3 (argsL := []) (rest := []) rfl rfl (ps := []) (rt := (some .boolean)) (by decide) rfl (W := 0) (Nat.le_of_eq rfl) (by decide) (by decide) (by decide) (by decide) (by rw [hml]; rfl) (hb hby d5_14) (rfl : 14 + 3 = 17) fun v2 T2 hh2 L2 X2 eh2 Q2 => ?_
  obtain ⟨rfl, Pc2, G2_0, G2_1, G2_2, G2_3⟩ := Q2
  have P2 := P1.call Pc2 (allS (Or.inl (List.mem_of_getElem? (i := 0) rfl)) all0)
  show OGo p e below K T2 (mkF m 17 #[.val (.ref a), .val (.int (0 : Int32))] [(.int (0 : Int32))])
  refine g_ifY X2 hx (hb hby d5_17) (XT.i0_eq_t (by decide)) (by decide) (pc' := 24) (by decide) ?_
  refine g_aloadN X2 hx (hb hby d5_24) (rfl : 24 + 1 = 25) rfl rfl ?_
  have F5 := (exaP F3 Pc2)
  refine g_virtual X2 hx hZ hown eh2 (rm_due hw a (14 : Int64) (15 : Int64) (16 : Int64) (0 : Int64) mm (0 : Int32) F5 G2_0 G2_1 G2_2 G2_3 (by decide) (by decide)) (C := "com/example/ledger_of_rewards/ledgerofrewards/check/Pace") (wd hw 16 rfl) (wd hw 17 rfl) (notFace_of_selects (args := #[]) (mvT hZ (wd hw 19 rfl))) (wd hw 19 rfl) (wd hw 18 rfl) (wd hw 20 rfl) (wd hw 2 rfl) (by decide) (a := a) F5 (argsL := []) (rest := []) rfl rfl (ps := []) (rt := (some .boolean)) (by decide) rfl (W := 0) (Nat.le_of_eq rfl) (by decide) (by decide) (by decide) (by decide) (by rw [hml]; rfl) (hb hby d5_25) (rfl : 25 + 3 = 28) fun v4 T4 hh4 L4 X4 eh4 Q4 => ?_
  obtain ⟨rfl, Pc4, G4_0, G4_1, G4_2, G4_3⟩ := Q4
  have P4 := P2.call Pc4 (allS (Or.inl (List.mem_of_getElem? (i := 0) rfl)) all0)
  show OGo p e below K T4 (mkF m 28 #[.val (.ref a), .val (.int (0 : Int32))] [(.int (0 : Int32))])
  refine g_ifY X4 hx (hb hby d5_28) (XT.i0_eq_t (by decide)) (by decide) (pc' := 35) (by decide) ?_
  refine g_aloadN X4 hx (hb hby d5_35) (rfl : 35 + 1 = 36) rfl rfl ?_
  have F7 := (exaP F5 Pc4)
  refine g_virtual X4 hx hZ hown eh4 (rm_due hw a (15 : Int64) (16 : Int64) (16 : Int64) (0 : Int64) mm (1 : Int32) F7 G4_0 G4_1 G4_2 G4_3 (by decide) (by decide)) (C := "com/example/ledger_of_rewards/ledgerofrewards/check/Pace") (wd hw 16 rfl) (wd hw 17 rfl) (notFace_of_selects (args := #[]) (mvT hZ (wd hw 19 rfl))) (wd hw 19 rfl) (wd hw 18 rfl) (wd hw 20 rfl) (wd hw 2 rfl) (by decide) (a := a) F7 (argsL := []) (rest := []) rfl rfl (ps := []) (rt := (some .boolean)) (by decide) rfl (W := 0) (Nat.le_of_eq rfl) (by decide) (by decide) (by decide) (by decide) (by rw [hml]; rfl) (hb hby d5_36) (rfl : 36 + 3 = 39) fun v6 T6 hh6 L6 X6 eh6 Q6 => ?_
  obtain ⟨rfl, Pc6, G6_0, G6_1, G6_2, G6_3⟩ := Q6
  have P6 := P4.call Pc6 (allS (Or.inl (List.mem_of_getElem? (i := 0) rfl)) all0)
  show OGo p e below K T6 (mkF m 39 #[.val (.ref a), .val (.int (0 : Int32))] [(.int (1 : Int32))])
  refine g_ifN X6 hx (hb hby d5_39) (XT.i0_eq_f (by decide)) (rfl : 39 + 3 = 42) ?_
  refine g_iloadN X6 hx (hb hby d5_42) (rfl : 42 + 1 = 43) rfl ?_
  refine g_bipush X6 hx (8 : Int32) (hb hby d5_43) (rfl : 43 + 2 = 45) (by decide) ?_
  refine g_ior X6 hx (hb hby d5_45) (rfl : 45 + 1 = 46) (z := (8 : Int32)) (by decide) ?_
  refine g_istoreN X6 hx (hb hby d5_46) (rfl : 46 + 1 = 47) (Ls' := #[.val (.ref a), .val (.int (8 : Int32))]) rfl ?_
  refine g_iloadN X6 hx (hb hby d5_47) (rfl : 47 + 1 = 48) rfl ?_
  exact g_ret X6 hx hret hlk rfl (Or.inl ⟨rfl, Or.inl rfl, _, rfl⟩) (hb hby d5_48) (by decide) (by decide) eh6 hK ⟨(by decide), P6, G6_0, G6_1, G6_2, G6_3⟩
theorem pn_rm0 : plainFor x = true := by first | exact plainFor_of_name (by first | (simp [plainName, overriddenIn]; done) | decide +kernel) | decide +kernel
set_option maxRecDepth 65536 in
set_option maxHeartbeats 40000000 in
theorem rm0 {l : Launch} {Z : State} {a0 : Array Value} (hw : ∀ d ∈ tables_1, d.before a0 Z = true) (p1 : Int32) (p2 : Int32) (p3 : Int32) (p4 : Int32) {h0 : Heap}   :
    OMet l x code maxLocals ret room_1 #[(.int p1), (.int p2), (.int p3), (.int p4)] Z h0 (fun v h L => v = some (.int (1 : Int32)) ∧ OPr h0 [] h L) := by
  refine OMet.body pn_rm0 (Ls := #[.val (.int p1), .val (.int p2), .val (.int p3), .val (.int p4), .unset, .unset, .unset, .unset, .unset, .unset]) (fun m => by first | (simp [entryFrame, mkF, argsToLocals, Value.category, maxLocals]; done) | rfl) ?_
  intro p e s m below meth c T0 K hK X0 hx hby hml hown hnm hret hlk hZ eh0
  have P0 := OPr.refl h0 []
  refine g_new X0 hx hZ hown (wd hw 0 rfl) (wd hw 1 rfl) (wd hw 2 rfl) eh0 P0 (hb hby at_0) (rfl : 0 + 3 = 3) (by decide) (by decide) fun T1 hh1 a1 q1 g1 X1 eh1 E1 P1 A1 D1 => ?_
  have f2 : Fld Z hh1 a1 "com/example/ledger_of_rewards/ledgerofrewards/check/Pace" "sweepCost" "D" (.double (0 : UInt64)) := D1 (Or.inr (wd hw 10 rfl)) (ty := .double) (by decide)
  have f3 : Fld Z hh1 a1 "com/example/ledger_of_rewards/ledgerofrewards/check/Pace" "certificateCost" "D" (.double (0 : UInt64)) := D1 (Or.inr (wd hw 12 rfl)) (ty := .double) (by decide)
  have f4 : Fld Z hh1 a1 "com/example/ledger_of_rewards/ledgerofrewards/check/Pace" "certifiable" "Z" (.int (0 : Int32)) := D1 (Or.inl (wd hw 15 rfl)) (ty := .boolean) (by decide)
  have f5 : Fld Z hh1 a1 "com/example/ledger_of_rewards/ledgerofrewards/check/Pace" "swept" "J" (.long (0 : Int64)) := D1 (Or.inl (wd hw 22 rfl)) (ty := .long) (by decide)
  have f6 : Fld Z hh1 a1 "com/example/ledger_of_rewards/ledgerofrewards/check/Pace" "checkpoint" "J" (.long (0 : Int64)) := D1 (Or.inl (wd hw 24 rfl)) (ty := .long) (by decide)
  have f7 : Fld Z hh1 a1 "com/example/ledger_of_rewards/ledgerofrewards/check/Pace" "marked" "J" (.long (0 : Int64)) := D1 (Or.inl (wd hw 31 rfl)) (ty := .long) (by decide)
  have f8 : Fld Z hh1 a1 "com/example/ledger_of_rewards/ledgerofrewards/check/Pace" "markedMeasure" "D" (.double (0 : UInt64)) := D1 (Or.inl (wd hw 39 rfl)) (ty := .double) (by decide)
  refine g_dup X1 hx (hb hby at_3) (rfl : 3 + 1 = 4) rfl ?_
  refine g_iloadN X1 hx (hb hby at_4) (rfl : 4 + 1 = 5) rfl ?_
  refine g_sipush X1 hx (1023 : Int32) (hb hby at_5) (rfl : 5 + 3 = 8) (by decide) ?_
  refine g_iand X1 hx (hb hby at_8) (rfl : 8 + 1 = 9) (z := (p1 &&& (1023 : Int32))) rfl ?_
  refine g_i2d X1 hx (hb hby at_9) (rfl : 9 + 1 = 10) ?_
  refine g_iloadN X1 hx (hb hby at_10) (rfl : 10 + 1 = 11) rfl ?_
  refine g_sipush X1 hx (1023 : Int32) (hb hby at_11) (rfl : 11 + 3 = 14) (by decide) ?_
  refine g_iand X1 hx (hb hby at_14) (rfl : 14 + 1 = 15) (z := (p2 &&& (1023 : Int32))) rfl ?_
  refine g_i2d X1 hx (hb hby at_15) (rfl : 15 + 1 = 16) ?_
  refine g_special X1 hx hZ hown eh1 (rm_init hw a1 (FP.i2d (p1 &&& (1023 : Int32))) (FP.i2d (p2 &&& (1023 : Int32))) (0 : Int64) (0 : Int64) (0 : Int64) (0 : UInt64) A1 f2 f3 f4 f5 f6 f7 f8) rfl (wd hw 3 rfl) (wd hw 4 rfl) (wd hw 5 rfl) (wd hw 2 rfl) (by decide) (a := a1) (argsL := [(.double (FP.i2d (p1 &&& (1023 : Int32)))), (.double (FP.i2d (p2 &&& (1023 : Int32))))]) (rest := [(.ref a1)]) rfl rfl (ps := [.double, .double]) (by decide) rfl (W := 1) (Nat.le_of_eq rfl) (by decide) (by decide) (by decide) (by decide) (by rw [hml]; rfl) (hb hby at_16) (rfl : 16 + 3 = 19) fun v9 T9 hh9 L9 X9 eh9 Q9 => ?_
  obtain ⟨rfl, Pc9, G9_0, G9_1, G9_2, G9_3⟩ := Q9
  have P9 := P1.call Pc9 (allS (Or.inr g1) all0)
  show OGo p e below K T9 (mkF m 19 #[.val (.int p1), .val (.int p2), .val (.int p3), .val (.int p4), .unset, .unset, .unset, .unset, .unset, .unset] [(.ref a1)])
  refine g_astore X9 hx (hb hby at_19) (rfl : 19 + 2 = 21) rfl (Ls' := #[.val (.int p1), .val (.int p2), .val (.int p3), .val (.int p4), .val (.ref a1), .unset, .unset, .unset, .unset, .unset]) rfl ?_
  refine g_iconst X9 hx (1 : Int32) (hb hby at_21) (rfl : 21 + 1 = 22) (by decide) ?_
  refine g_istore X9 hx (hb hby at_22) (rfl : 22 + 2 = 24) (Ls' := #[.val (.int p1), .val (.int p2), .val (.int p3), .val (.int p4), .val (.ref a1), .val (.int (1 : Int32)), .unset, .unset, .unset, .unset]) rfl ?_
  refine g_iloadN X9 hx (hb hby at_24) (rfl : 24 + 1 = 25) rfl ?_
  refine g_iconst X9 hx (1 : Int32) (hb hby at_25) (rfl : 25 + 1 = 26) (by decide) ?_
  refine g_iand X9 hx (hb hby at_26) (rfl : 26 + 1 = 27) (z := (p4 &&& (1 : Int32))) rfl ?_
  by_cases h1 : (p4 &&& (1 : Int32)) = (0 : Int32)
  · refine g_ifY X9 hx (hb hby at_27) (XT.i0_eq_t h1) (by decide) (pc' := 68) (by decide) ?_
    refine g_aload X9 hx (hb hby at_68) (rfl : 68 + 2 = 70) rfl rfl ?_
    refine g_iloadN X9 hx (hb hby at_70) (rfl : 70 + 1 = 71) rfl ?_
    refine g_sipush X9 hx (1023 : Int32) (hb hby at_71) (rfl : 71 + 3 = 74) (by decide) ?_
    refine g_iand X9 hx (hb hby at_74) (rfl : 74 + 1 = 75) (z := (p3 &&& (1023 : Int32))) rfl ?_
    refine g_i2d X9 hx (hb hby at_75) (rfl : 75 + 1 = 76) ?_
    have F11 := (exaP A1 Pc9)
    refine g_virtual X9 hx hZ hown eh9 (rm_start hw a1 (FP.i2d (p3 &&& (1023 : Int32))) (0 : Int64) (0 : Int64) (0 : Int64) (0 : UInt64) F11 G9_0 G9_1 G9_2 G9_3) (C := "com/example/ledger_of_rewards/ledgerofrewards/check/Pace") (wd hw 32 rfl) (wd hw 33 rfl) (notFace_of_selects (args := #[]) (mvT hZ (wd hw 35 rfl))) (wd hw 35 rfl) (wd hw 34 rfl) (wd hw 36 rfl) (wd hw 2 rfl) (by decide) (a := a1) F11 (argsL := [(.double (FP.i2d (p3 &&& (1023 : Int32))))]) (rest := []) rfl rfl (ps := [.double]) (rt := none) (by decide) rfl (W := 0) (Nat.le_of_eq rfl) (by decide) (by decide) (by decide) (by decide) (by rw [hml]; rfl) (hb hby at_76) (rfl : 76 + 3 = 79) fun v10 T10 hh10 L10 X10 eh10 Q10 => ?_
    obtain ⟨rfl, Pc10, G10_0, G10_1, G10_2, G10_3⟩ := Q10
    have P10 := P9.call Pc10 (allS (Or.inr g1) all0)
    show OGo p e below K T10 (mkF m 79 #[.val (.int p1), .val (.int p2), .val (.int p3), .val (.int p4), .val (.ref a1), .val (.int (1 : Int32)), .unset, .unset, .unset, .unset] [])
    refine g_iload X10 hx (hb hby at_79) (rfl : 79 + 2 = 81) rfl ?_
    refine g_aload X10 hx (hb hby at_81) (rfl : 81 + 2 = 83) rfl rfl ?_
    have F13 := (exaP F11 Pc10)
    refine g_virtual X10 hx hZ hown eh10 (rm_since hw a1 (0 : Int64) (0 : Int64) G10_0 G10_2) (C := "com/example/ledger_of_rewards/ledgerofrewards/check/Pace") (wd hw 25 rfl) (wd hw 26 rfl) (notFace_of_selects (args := #[]) (mvT hZ (wd hw 28 rfl))) (wd hw 28 rfl) (wd hw 27 rfl) (wd hw 29 rfl) (wd hw 2 rfl) (by decide) (a := a1) F13 (argsL := []) (rest := [(.int (1 : Int32))]) rfl rfl (ps := []) (rt := (some .long)) (by decide) rfl (W := 1) (Nat.le_of_eq rfl) (by decide) (by decide) (by decide) (by decide) (by rw [hml]; rfl) (hb hby at_83) (rfl : 83 + 3 = 86) fun v12 T12 hh12 L12 X12 eh12 Q12 => ?_
    obtain ⟨rfl, Pc12⟩ := Q12
    have P12 := P10.call Pc12 all0
    show OGo p e below K T12 (mkF m 86 #[.val (.int p1), .val (.int p2), .val (.int p3), .val (.int p4), .val (.ref a1), .val (.int (1 : Int32)), .unset, .unset, .unset, .unset] [(.long ((0 : Int64) - (0 : Int64))), (.int (1 : Int32))])
    refine g_lconst X12 hx (0 : Int64) (hb hby at_86) (rfl : 86 + 1 = 87) (by decide) ?_
    refine g_lcmp X12 hx (hb hby at_87) (rfl : 87 + 1 = 88) ?_
    refine g_ifN X12 hx (hb hby at_88) (XT.ll_ne_f (by decide)) (rfl : 88 + 3 = 91) ?_
    refine g_iconst X12 hx (1 : Int32) (hb hby at_91) (rfl : 91 + 1 = 92) (by decide) ?_
    refine g_goto X12 hx (hb hby at_92) (by decide) (pc' := 96) (by decide) ?_
    refine g_iand X12 hx (hb hby at_96) (rfl : 96 + 1 = 97) (z := (1 : Int32)) (by decide) ?_
    refine g_istore X12 hx (hb hby at_97) (rfl : 97 + 2 = 99) (Ls' := #[.val (.int p1), .val (.int p2), .val (.int p3), .val (.int p4), .val (.ref a1), .val (.int (1 : Int32)), .unset, .unset, .unset, .unset]) rfl ?_
    refine g_aload X12 hx (hb hby at_99) (rfl : 99 + 2 = 101) rfl rfl ?_
    have F15 := (exaP F13 Pc12)
    have F16 := (fldP G10_0 Pc12 nin0)
    have F17 := (fldP G10_1 Pc12 nin0)
    have F18 := (fldP G10_2 Pc12 nin0)
    have F19 := (fldP G10_3 Pc12 nin0)
    refine g_static X12 hx hZ hown eh12 (rm_four0 hw a1 (FP.i2d (p3 &&& (1023 : Int32))) F15 F16 F17 F18 F19) (wd hw 40 rfl) (wd hw 41 rfl) (wd hw 43 rfl) (wd hw 42 rfl) (by decide) (argsL := [(.ref a1)]) (rest := []) rfl rfl (ps := [(.object "com/example/ledger_of_rewards/ledgerofrewards/check/Pace")]) (rt := (some .int)) (by decide) rfl (W := 0) (Nat.le_of_eq rfl) (by decide) (by decide) (by decide) (by decide) (by rw [hml]; rfl) (hb hby at_101) (rfl : 101 + 3 = 104) fun v14 T14 hh14 L14 X14 eh14 Q14 => ?_
    obtain ⟨rfl, Pc14, G14_0, G14_1, G14_2, G14_3⟩ := Q14
    have P14 := P12.call Pc14 (allS (Or.inr g1) all0)
    show OGo p e below K T14 (mkF m 104 #[.val (.int p1), .val (.int p2), .val (.int p3), .val (.int p4), .val (.ref a1), .val (.int (1 : Int32)), .unset, .unset, .unset, .unset] [(.int (0 : Int32))])
    refine g_istore X14 hx (hb hby at_104) (rfl : 104 + 2 = 106) (Ls' := #[.val (.int p1), .val (.int p2), .val (.int p3), .val (.int p4), .val (.ref a1), .val (.int (1 : Int32)), .val (.int (0 : Int32)), .unset, .unset, .unset]) rfl ?_
    refine g_aload X14 hx (hb hby at_106) (rfl : 106 + 2 = 108) rfl rfl ?_
    have F21 := (exaP F15 Pc14)
    refine g_static X14 hx hZ hown eh14 (rm_four4 hw a1 (FP.i2d (p3 &&& (1023 : Int32))) F21 G14_0 G14_1 G14_2 G14_3) (wd hw 40 rfl) (wd hw 41 rfl) (wd hw 43 rfl) (wd hw 42 rfl) (by decide) (argsL := [(.ref a1)]) (rest := []) rfl rfl (ps := [(.object "com/example/ledger_of_rewards/ledgerofrewards/check/Pace")]) (rt := (some .int)) (by decide) rfl (W := 0) (Nat.le_of_eq rfl) (by decide) (by decide) (by decide) (by decide) (by rw [hml]; rfl) (hb hby at_108) (rfl : 108 + 3 = 111) fun v20 T20 hh20 L20 X20 eh20 Q20 => ?_
    obtain ⟨rfl, Pc20, G20_0, G20_1, G20_2, G20_3⟩ := Q20
    have P20 := P14.call Pc20 (allS (Or.inr g1) all0)
    show OGo p e below K T20 (mkF m 111 #[.val (.int p1), .val (.int p2), .val (.int p3), .val (.int p4), .val (.ref a1), .val (.int (1 : Int32)), .val (.int (0 : Int32)), .unset, .unset, .unset] [(.int (0 : Int32))])
    refine g_istore X20 hx (hb hby at_111) (rfl : 111 + 2 = 113) (Ls' := #[.val (.int p1), .val (.int p2), .val (.int p3), .val (.int p4), .val (.ref a1), .val (.int (1 : Int32)), .val (.int (0 : Int32)), .val (.int (0 : Int32)), .unset, .unset]) rfl ?_
    refine g_aload X20 hx (hb hby at_113) (rfl : 113 + 2 = 115) rfl rfl ?_
    have F23 := (exaP F21 Pc20)
    refine g_static X20 hx hZ hown eh20 (rm_four8 hw a1 (FP.i2d (p3 &&& (1023 : Int32))) F23 G20_0 G20_1 G20_2 G20_3) (wd hw 40 rfl) (wd hw 41 rfl) (wd hw 43 rfl) (wd hw 42 rfl) (by decide) (argsL := [(.ref a1)]) (rest := []) rfl rfl (ps := [(.object "com/example/ledger_of_rewards/ledgerofrewards/check/Pace")]) (rt := (some .int)) (by decide) rfl (W := 0) (Nat.le_of_eq rfl) (by decide) (by decide) (by decide) (by decide) (by rw [hml]; rfl) (hb hby at_115) (rfl : 115 + 3 = 118) fun v22 T22 hh22 L22 X22 eh22 Q22 => ?_
    obtain ⟨rfl, Pc22, G22_0, G22_1, G22_2, G22_3⟩ := Q22
    have P22 := P20.call Pc22 (allS (Or.inr g1) all0)
    show OGo p e below K T22 (mkF m 118 #[.val (.int p1), .val (.int p2), .val (.int p3), .val (.int p4), .val (.ref a1), .val (.int (1 : Int32)), .val (.int (0 : Int32)), .val (.int (0 : Int32)), .unset, .unset] [(.int (0 : Int32))])
    refine g_istore X22 hx (hb hby at_118) (rfl : 118 + 2 = 120) (Ls' := #[.val (.int p1), .val (.int p2), .val (.int p3), .val (.int p4), .val (.ref a1), .val (.int (1 : Int32)), .val (.int (0 : Int32)), .val (.int (0 : Int32)), .val (.int (0 : Int32)), .unset]) rfl ?_
    refine g_aload X22 hx (hb hby at_120) (rfl : 120 + 2 = 122) rfl rfl ?_
    have F25 := (exaP F23 Pc22)
    refine g_static X22 hx hZ hown eh22 (rm_four12 hw a1 (FP.i2d (p3 &&& (1023 : Int32))) F25 G22_0 G22_1 G22_2 G22_3) (wd hw 40 rfl) (wd hw 41 rfl) (wd hw 43 rfl) (wd hw 42 rfl) (by decide) (argsL := [(.ref a1)]) (rest := []) rfl rfl (ps := [(.object "com/example/ledger_of_rewards/ledgerofrewards/check/Pace")]) (rt := (some .int)) (by decide) rfl (W := 0) (Nat.le_of_eq rfl) (by decide) (by decide) (by decide) (by decide) (by rw [hml]; rfl) (hb hby at_122) (rfl : 122 + 3 = 125) fun v24 T24 hh24 L24 X24 eh24 Q24 => ?_
    obtain ⟨rfl, Pc24, G24_0, G24_1, G24_2, G24_3⟩ := Q24
    have P24 := P22.call Pc24 (allS (Or.inr g1) all0)
    show OGo p e below K T24 (mkF m 125 #[.val (.int p1), .val (.int p2), .val (.int p3), .val (.int p4), .val (.ref a1), .val (.int (1 : Int32)), .val (.int (0 : Int32)), .val (.int (0 : Int32)), .val (.int (0 : Int32)), .unset] [(.int (8 : Int32))])
    refine g_istore X24 hx (hb hby at_125) (rfl : 125 + 2 = 127) (Ls' := #[.val (.int p1), .val (.int p2), .val (.int p3), .val (.int p4), .val (.ref a1), .val (.int (1 : Int32)), .val (.int (0 : Int32)), .val (.int (0 : Int32)), .val (.int (0 : Int32)), .val (.int (8 : Int32))]) rfl ?_
    refine g_iload X24 hx (hb hby at_127) (rfl : 127 + 2 = 129) rfl ?_
    refine g_iload X24 hx (hb hby at_129) (rfl : 129 + 2 = 131) rfl ?_
    refine g_ifN X24 hx (hb hby at_131) (XT.i0_ne_f (by decide)) (rfl : 131 + 3 = 134) ?_
    refine g_iload X24 hx (hb hby at_134) (rfl : 134 + 2 = 136) rfl ?_
    refine g_ifN X24 hx (hb hby at_136) (XT.i0_ne_f (by decide)) (rfl : 136 + 3 = 139) ?_
    refine g_iload X24 hx (hb hby at_139) (rfl : 139 + 2 = 141) rfl ?_
    refine g_ifN X24 hx (hb hby at_141) (XT.i0_ne_f (by decide)) (rfl : 141 + 3 = 144) ?_
    refine g_iload X24 hx (hb hby at_144) (rfl : 144 + 2 = 146) rfl ?_
    refine g_bipush X24 hx (8 : Int32) (hb hby at_146) (rfl : 146 + 2 = 148) (by decide) ?_
    refine g_icmpN X24 hx (hb hby at_148) (XT.ii_ne_f (by decide)) (rfl : 148 + 3 = 151) ?_
    refine g_iconst X24 hx (1 : Int32) (hb hby at_151) (rfl : 151 + 1 = 152) (by decide) ?_
    refine g_goto X24 hx (hb hby at_152) (by decide) (pc' := 156) (by decide) ?_
    refine g_iand X24 hx (hb hby at_156) (rfl : 156 + 1 = 157) (z := (1 : Int32)) (by decide) ?_
    refine g_istore X24 hx (hb hby at_157) (rfl : 157 + 2 = 159) (Ls' := #[.val (.int p1), .val (.int p2), .val (.int p3), .val (.int p4), .val (.ref a1), .val (.int (1 : Int32)), .val (.int (0 : Int32)), .val (.int (0 : Int32)), .val (.int (0 : Int32)), .val (.int (8 : Int32))]) rfl ?_
    refine g_iload X24 hx (hb hby at_159) (rfl : 159 + 2 = 161) rfl ?_
    refine g_aload X24 hx (hb hby at_161) (rfl : 161 + 2 = 163) rfl rfl ?_
    have F27 := (exaP F25 Pc24)
    refine g_virtual X24 hx hZ hown eh24 (rm_since hw a1 (16 : Int64) (0 : Int64) G24_0 G24_2) (C := "com/example/ledger_of_rewards/ledgerofrewards/check/Pace") (wd hw 25 rfl) (wd hw 26 rfl) (notFace_of_selects (args := #[]) (mvT hZ (wd hw 28 rfl))) (wd hw 28 rfl) (wd hw 27 rfl) (wd hw 29 rfl) (wd hw 2 rfl) (by decide) (a := a1) F27 (argsL := []) (rest := [(.int (1 : Int32))]) rfl rfl (ps := []) (rt := (some .long)) (by decide) rfl (W := 1) (Nat.le_of_eq rfl) (by decide) (by decide) (by decide) (by decide) (by rw [hml]; rfl) (hb hby at_163) (rfl : 163 + 3 = 166) fun v26 T26 hh26 L26 X26 eh26 Q26 => ?_
    obtain ⟨rfl, Pc26⟩ := Q26
    have P26 := P24.call Pc26 all0
    show OGo p e below K T26 (mkF m 166 #[.val (.int p1), .val (.int p2), .val (.int p3), .val (.int p4), .val (.ref a1), .val (.int (1 : Int32)), .val (.int (0 : Int32)), .val (.int (0 : Int32)), .val (.int (0 : Int32)), .val (.int (8 : Int32))] [(.long ((16 : Int64) - (0 : Int64))), (.int (1 : Int32))])
    refine g_ldc2J X26 hx hZ hown (wd hw 44 rfl) (hb hby at_166) (rfl : 166 + 3 = 169) ?_
    refine g_lcmp X26 hx (hb hby at_169) (rfl : 169 + 1 = 170) ?_
    refine g_ifN X26 hx (hb hby at_170) (XT.ll_ne_f (by decide)) (rfl : 170 + 3 = 173) ?_
    refine g_iconst X26 hx (1 : Int32) (hb hby at_173) (rfl : 173 + 1 = 174) (by decide) ?_
    refine g_goto X26 hx (hb hby at_174) (by decide) (pc' := 178) (by decide) ?_
    refine g_iand X26 hx (hb hby at_178) (rfl : 178 + 1 = 179) (z := (1 : Int32)) (by decide) ?_
    refine g_istore X26 hx (hb hby at_179) (rfl : 179 + 2 = 181) (Ls' := #[.val (.int p1), .val (.int p2), .val (.int p3), .val (.int p4), .val (.ref a1), .val (.int (1 : Int32)), .val (.int (0 : Int32)), .val (.int (0 : Int32)), .val (.int (0 : Int32)), .val (.int (8 : Int32))]) rfl ?_
    refine g_iloadN X26 hx (hb hby at_181) (rfl : 181 + 1 = 182) rfl ?_
    refine g_iconst X26 hx (2 : Int32) (hb hby at_182) (rfl : 182 + 1 = 183) (by decide) ?_
    refine g_iand X26 hx (hb hby at_183) (rfl : 183 + 1 = 184) (z := (p4 &&& (2 : Int32))) rfl ?_
    by_cases h2 : (p4 &&& (2 : Int32)) = (0 : Int32)
    · refine g_ifY X26 hx (hb hby at_184) (XT.i0_eq_t h2) (by decide) (pc' := 262) (by decide) ?_
      refine g_iload X26 hx (hb hby at_262) (rfl : 262 + 2 = 264) rfl ?_
      refine g_aload X26 hx (hb hby at_264) (rfl : 264 + 2 = 266) rfl rfl ?_
      have F29 := (exaP F27 Pc26)
      have F30 := (fldP G24_0 Pc26 nin0)
      have F31 := (fldP G24_1 Pc26 nin0)
      have F32 := (fldP G24_2 Pc26 nin0)
      have F33 := (fldP G24_3 Pc26 nin0)
      refine g_virtual X26 hx hZ hown eh26 (rm_due hw a1 (16 : Int64) (17 : Int64) (16 : Int64) (0 : Int64) (FP.i2d (p3 &&& (1023 : Int32))) (0 : Int32) F29 F30 F31 F32 F33 (by decide) (by decide)) (C := "com/example/ledger_of_rewards/ledgerofrewards/check/Pace") (wd hw 16 rfl) (wd hw 17 rfl) (notFace_of_selects (args := #[]) (mvT hZ (wd hw 19 rfl))) (wd hw 19 rfl) (wd hw 18 rfl) (wd hw 20 rfl) (wd hw 2 rfl) (by decide) (a := a1) F29 (argsL := []) (rest := [(.int (1 : Int32))]) rfl rfl (ps := []) (rt := (some .boolean)) (by decide) rfl (W := 1) (Nat.le_of_eq rfl) (by decide) (by decide) (by decide) (by decide) (by rw [hml]; rfl) (hb hby at_266) (rfl : 266 + 3 = 269) fun v28 T28 hh28 L28 X28 eh28 Q28 => ?_
      obtain ⟨rfl, Pc28, G28_0, G28_1, G28_2, G28_3⟩ := Q28
      have P28 := P26.call Pc28 (allS (Or.inr g1) all0)
      show OGo p e below K T28 (mkF m 269 #[.val (.int p1), .val (.int p2), .val (.int p3), .val (.int p4), .val (.ref a1), .val (.int (1 : Int32)), .val (.int (0 : Int32)), .val (.int (0 : Int32)), .val (.int (0 : Int32)), .val (.int (8 : Int32))] [(.int (0 : Int32)), (.int (1 : Int32))])
      refine g_ifN X28 hx (hb hby at_269) (XT.i0_ne_f (by decide)) (rfl : 269 + 3 = 272) ?_
      refine g_iconst X28 hx (1 : Int32) (hb hby at_272) (rfl : 272 + 1 = 273) (by decide) ?_
      refine g_goto X28 hx (hb hby at_273) (by decide) (pc' := 277) (by decide) ?_
      refine g_iand X28 hx (hb hby at_277) (rfl : 277 + 1 = 278) (z := (1 : Int32)) (by decide) ?_
      refine g_istore X28 hx (hb hby at_278) (rfl : 278 + 2 = 280) (Ls' := #[.val (.int p1), .val (.int p2), .val (.int p3), .val (.int p4), .val (.ref a1), .val (.int (1 : Int32)), .val (.int (0 : Int32)), .val (.int (0 : Int32)), .val (.int (0 : Int32)), .val (.int (8 : Int32))]) rfl ?_
      refine g_iload X28 hx (hb hby at_280) (rfl : 280 + 2 = 282) rfl ?_
      refine g_aload X28 hx (hb hby at_282) (rfl : 282 + 2 = 284) rfl rfl ?_
      have F35 := (exaP F29 Pc28)
      refine g_virtual X28 hx hZ hown eh28 (rm_since hw a1 (17 : Int64) (0 : Int64) G28_0 G28_2) (C := "com/example/ledger_of_rewards/ledgerofrewards/check/Pace") (wd hw 25 rfl) (wd hw 26 rfl) (notFace_of_selects (args := #[]) (mvT hZ (wd hw 28 rfl))) (wd hw 28 rfl) (wd hw 27 rfl) (wd hw 29 rfl) (wd hw 2 rfl) (by decide) (a := a1) F35 (argsL := []) (rest := [(.int (1 : Int32))]) rfl rfl (ps := []) (rt := (some .long)) (by decide) rfl (W := 1) (Nat.le_of_eq rfl) (by decide) (by decide) (by decide) (by decide) (by rw [hml]; rfl) (hb hby at_284) (rfl : 284 + 3 = 287) fun v34 T34 hh34 L34 X34 eh34 Q34 => ?_
      obtain ⟨rfl, Pc34⟩ := Q34
      have P34 := P28.call Pc34 all0
      show OGo p e below K T34 (mkF m 287 #[.val (.int p1), .val (.int p2), .val (.int p3), .val (.int p4), .val (.ref a1), .val (.int (1 : Int32)), .val (.int (0 : Int32)), .val (.int (0 : Int32)), .val (.int (0 : Int32)), .val (.int (8 : Int32))] [(.long ((17 : Int64) - (0 : Int64))), (.int (1 : Int32))])
      refine g_ldc2J X34 hx hZ hown (wd hw 45 rfl) (hb hby at_287) (rfl : 287 + 3 = 290) ?_
      refine g_lcmp X34 hx (hb hby at_290) (rfl : 290 + 1 = 291) ?_
      refine g_ifN X34 hx (hb hby at_291) (XT.ll_ne_f (by decide)) (rfl : 291 + 3 = 294) ?_
      refine g_iconst X34 hx (1 : Int32) (hb hby at_294) (rfl : 294 + 1 = 295) (by decide) ?_
      refine g_goto X34 hx (hb hby at_295) (by decide) (pc' := 299) (by decide) ?_
      refine g_iand X34 hx (hb hby at_299) (rfl : 299 + 1 = 300) (z := (1 : Int32)) (by decide) ?_
      refine g_istore X34 hx (hb hby at_300) (rfl : 300 + 2 = 302) (Ls' := #[.val (.int p1), .val (.int p2), .val (.int p3), .val (.int p4), .val (.ref a1), .val (.int (1 : Int32)), .val (.int (0 : Int32)), .val (.int (0 : Int32)), .val (.int (0 : Int32)), .val (.int (8 : Int32))]) rfl ?_
      refine g_iload X34 hx (hb hby at_302) (rfl : 302 + 2 = 304) rfl ?_
      exact g_ret X34 hx hret hlk rfl (Or.inl ⟨rfl, Or.inr (Or.inl rfl), _, rfl⟩) (hb hby at_304) (by decide) (by decide) eh34 hK ⟨(by decide), P34⟩
    · refine g_ifN X26 hx (hb hby at_184) (XT.i0_eq_f h2) (rfl : 184 + 3 = 187) ?_
      refine g_aload X26 hx (hb hby at_187) (rfl : 187 + 2 = 189) rfl rfl ?_
      refine g_iloadN X26 hx (hb hby at_189) (rfl : 189 + 1 = 190) rfl ?_
      refine g_bipush X26 hx (10 : Int32) (hb hby at_190) (rfl : 190 + 2 = 192) (by decide) ?_
      refine g_iushr X26 hx (hb hby at_192) (rfl : 192 + 1 = 193) (z := (XT.ushr p3 (10 : Int32))) rfl ?_
      refine g_sipush X26 hx (1023 : Int32) (hb hby at_193) (rfl : 193 + 3 = 196) (by decide) ?_
      refine g_iand X26 hx (hb hby at_196) (rfl : 196 + 1 = 197) (z := ((XT.ushr p3 (10 : Int32)) &&& (1023 : Int32))) rfl ?_
      refine g_i2d X26 hx (hb hby at_197) (rfl : 197 + 1 = 198) ?_
      have F37 := (exaP F27 Pc26)
      have F38 := (fldP G24_0 Pc26 nin0)
      have F39 := (fldP G24_1 Pc26 nin0)
      have F40 := (fldP G24_2 Pc26 nin0)
      have F41 := (fldP G24_3 Pc26 nin0)
      refine g_virtual X26 hx hZ hown eh26 (rm_mark hw a1 (FP.i2d ((XT.ushr p3 (10 : Int32)) &&& (1023 : Int32))) (16 : Int64) (16 : Int64) (0 : Int64) (FP.i2d (p3 &&& (1023 : Int32))) F37 F38 F39 F40 F41) (C := "com/example/ledger_of_rewards/ledgerofrewards/check/Pace") (wd hw 46 rfl) (wd hw 47 rfl) (notFace_of_selects (args := #[]) (mvT hZ (wd hw 49 rfl))) (wd hw 49 rfl) (wd hw 48 rfl) (wd hw 50 rfl) (wd hw 2 rfl) (by decide) (a := a1) F37 (argsL := [(.double (FP.i2d ((XT.ushr p3 (10 : Int32)) &&& (1023 : Int32))))]) (rest := []) rfl rfl (ps := [.double]) (rt := none) (by decide) rfl (W := 0) (Nat.le_of_eq rfl) (by decide) (by decide) (by decide) (by decide) (by rw [hml]; rfl) (hb hby at_198) (rfl : 198 + 3 = 201) fun v36 T36 hh36 L36 X36 eh36 Q36 => ?_
      obtain ⟨rfl, Pc36, G36_0, G36_1, G36_2, G36_3⟩ := Q36
      have P36 := P26.call Pc36 (allS (Or.inr g1) all0)
      show OGo p e below K T36 (mkF m 201 #[.val (.int p1), .val (.int p2), .val (.int p3), .val (.int p4), .val (.ref a1), .val (.int (1 : Int32)), .val (.int (0 : Int32)), .val (.int (0 : Int32)), .val (.int (0 : Int32)), .val (.int (8 : Int32))] [])
      refine g_iload X36 hx (hb hby at_201) (rfl : 201 + 2 = 203) rfl ?_
      refine g_aload X36 hx (hb hby at_203) (rfl : 203 + 2 = 205) rfl rfl ?_
      have F43 := (exaP F37 Pc36)
      refine g_virtual X36 hx hZ hown eh36 (rm_since hw a1 (16 : Int64) (16 : Int64) G36_0 G36_2) (C := "com/example/ledger_of_rewards/ledgerofrewards/check/Pace") (wd hw 25 rfl) (wd hw 26 rfl) (notFace_of_selects (args := #[]) (mvT hZ (wd hw 28 rfl))) (wd hw 28 rfl) (wd hw 27 rfl) (wd hw 29 rfl) (wd hw 2 rfl) (by decide) (a := a1) F43 (argsL := []) (rest := [(.int (1 : Int32))]) rfl rfl (ps := []) (rt := (some .long)) (by decide) rfl (W := 1) (Nat.le_of_eq rfl) (by decide) (by decide) (by decide) (by decide) (by rw [hml]; rfl) (hb hby at_205) (rfl : 205 + 3 = 208) fun v42 T42 hh42 L42 X42 eh42 Q42 => ?_
      obtain ⟨rfl, Pc42⟩ := Q42
      have P42 := P36.call Pc42 all0
      show OGo p e below K T42 (mkF m 208 #[.val (.int p1), .val (.int p2), .val (.int p3), .val (.int p4), .val (.ref a1), .val (.int (1 : Int32)), .val (.int (0 : Int32)), .val (.int (0 : Int32)), .val (.int (0 : Int32)), .val (.int (8 : Int32))] [(.long ((16 : Int64) - (16 : Int64))), (.int (1 : Int32))])
      refine g_lconst X42 hx (0 : Int64) (hb hby at_208) (rfl : 208 + 1 = 209) (by decide) ?_
      refine g_lcmp X42 hx (hb hby at_209) (rfl : 209 + 1 = 210) ?_
      refine g_ifN X42 hx (hb hby at_210) (XT.ll_ne_f (by decide)) (rfl : 210 + 3 = 213) ?_
      refine g_iconst X42 hx (1 : Int32) (hb hby at_213) (rfl : 213 + 1 = 214) (by decide) ?_
      refine g_goto X42 hx (hb hby at_214) (by decide) (pc' := 218) (by decide) ?_
      refine g_iand X42 hx (hb hby at_218) (rfl : 218 + 1 = 219) (z := (1 : Int32)) (by decide) ?_
      refine g_istore X42 hx (hb hby at_219) (rfl : 219 + 2 = 221) (Ls' := #[.val (.int p1), .val (.int p2), .val (.int p3), .val (.int p4), .val (.ref a1), .val (.int (1 : Int32)), .val (.int (0 : Int32)), .val (.int (0 : Int32)), .val (.int (0 : Int32)), .val (.int (8 : Int32))]) rfl ?_
      refine g_iload X42 hx (hb hby at_221) (rfl : 221 + 2 = 223) rfl ?_
      refine g_aload X42 hx (hb hby at_223) (rfl : 223 + 2 = 225) rfl rfl ?_
      have F45 := (exaP F43 Pc42)
      have F46 := (fldP G36_0 Pc42 nin0)
      have F47 := (fldP G36_1 Pc42 nin0)
      have F48 := (fldP G36_2 Pc42 nin0)
      have F49 := (fldP G36_3 Pc42 nin0)
      refine g_virtual X42 hx hZ hown eh42 (rm_due hw a1 (16 : Int64) (17 : Int64) ((16 : Int64) * (2 : Int64)) (16 : Int64) (FP.i2d ((XT.ushr p3 (10 : Int32)) &&& (1023 : Int32))) (0 : Int32) F45 F46 F47 F48 F49 (by decide) (by decide)) (C := "com/example/ledger_of_rewards/ledgerofrewards/check/Pace") (wd hw 16 rfl) (wd hw 17 rfl) (notFace_of_selects (args := #[]) (mvT hZ (wd hw 19 rfl))) (wd hw 19 rfl) (wd hw 18 rfl) (wd hw 20 rfl) (wd hw 2 rfl) (by decide) (a := a1) F45 (argsL := []) (rest := [(.int (1 : Int32))]) rfl rfl (ps := []) (rt := (some .boolean)) (by decide) rfl (W := 1) (Nat.le_of_eq rfl) (by decide) (by decide) (by decide) (by decide) (by rw [hml]; rfl) (hb hby at_225) (rfl : 225 + 3 = 228) fun v44 T44 hh44 L44 X44 eh44 Q44 => ?_
      obtain ⟨rfl, Pc44, G44_0, G44_1, G44_2, G44_3⟩ := Q44
      have P44 := P42.call Pc44 (allS (Or.inr g1) all0)
      show OGo p e below K T44 (mkF m 228 #[.val (.int p1), .val (.int p2), .val (.int p3), .val (.int p4), .val (.ref a1), .val (.int (1 : Int32)), .val (.int (0 : Int32)), .val (.int (0 : Int32)), .val (.int (0 : Int32)), .val (.int (8 : Int32))] [(.int (0 : Int32)), (.int (1 : Int32))])
      refine g_ifN X44 hx (hb hby at_228) (XT.i0_ne_f (by decide)) (rfl : 228 + 3 = 231) ?_
      refine g_iconst X44 hx (1 : Int32) (hb hby at_231) (rfl : 231 + 1 = 232) (by decide) ?_
      refine g_goto X44 hx (hb hby at_232) (by decide) (pc' := 236) (by decide) ?_
      refine g_iand X44 hx (hb hby at_236) (rfl : 236 + 1 = 237) (z := (1 : Int32)) (by decide) ?_
      refine g_istore X44 hx (hb hby at_237) (rfl : 237 + 2 = 239) (Ls' := #[.val (.int p1), .val (.int p2), .val (.int p3), .val (.int p4), .val (.ref a1), .val (.int (1 : Int32)), .val (.int (0 : Int32)), .val (.int (0 : Int32)), .val (.int (0 : Int32)), .val (.int (8 : Int32))]) rfl ?_
      refine g_iload X44 hx (hb hby at_239) (rfl : 239 + 2 = 241) rfl ?_
      refine g_aload X44 hx (hb hby at_241) (rfl : 241 + 2 = 243) rfl rfl ?_
      have F51 := (exaP F45 Pc44)
      refine g_virtual X44 hx hZ hown eh44 (rm_since hw a1 (17 : Int64) (16 : Int64) G44_0 G44_2) (C := "com/example/ledger_of_rewards/ledgerofrewards/check/Pace") (wd hw 25 rfl) (wd hw 26 rfl) (notFace_of_selects (args := #[]) (mvT hZ (wd hw 28 rfl))) (wd hw 28 rfl) (wd hw 27 rfl) (wd hw 29 rfl) (wd hw 2 rfl) (by decide) (a := a1) F51 (argsL := []) (rest := [(.int (1 : Int32))]) rfl rfl (ps := []) (rt := (some .long)) (by decide) rfl (W := 1) (Nat.le_of_eq rfl) (by decide) (by decide) (by decide) (by decide) (by rw [hml]; rfl) (hb hby at_243) (rfl : 243 + 3 = 246) fun v50 T50 hh50 L50 X50 eh50 Q50 => ?_
      obtain ⟨rfl, Pc50⟩ := Q50
      have P50 := P44.call Pc50 all0
      show OGo p e below K T50 (mkF m 246 #[.val (.int p1), .val (.int p2), .val (.int p3), .val (.int p4), .val (.ref a1), .val (.int (1 : Int32)), .val (.int (0 : Int32)), .val (.int (0 : Int32)), .val (.int (0 : Int32)), .val (.int (8 : Int32))] [(.long ((17 : Int64) - (16 : Int64))), (.int (1 : Int32))])
      refine g_lconst X50 hx (1 : Int64) (hb hby at_246) (rfl : 246 + 1 = 247) (by decide) ?_
      refine g_lcmp X50 hx (hb hby at_247) (rfl : 247 + 1 = 248) ?_
      refine g_ifN X50 hx (hb hby at_248) (XT.ll_ne_f (by decide)) (rfl : 248 + 3 = 251) ?_
      refine g_iconst X50 hx (1 : Int32) (hb hby at_251) (rfl : 251 + 1 = 252) (by decide) ?_
      refine g_goto X50 hx (hb hby at_252) (by decide) (pc' := 256) (by decide) ?_
      refine g_iand X50 hx (hb hby at_256) (rfl : 256 + 1 = 257) (z := (1 : Int32)) (by decide) ?_
      refine g_istore X50 hx (hb hby at_257) (rfl : 257 + 2 = 259) (Ls' := #[.val (.int p1), .val (.int p2), .val (.int p3), .val (.int p4), .val (.ref a1), .val (.int (1 : Int32)), .val (.int (0 : Int32)), .val (.int (0 : Int32)), .val (.int (0 : Int32)), .val (.int (8 : Int32))]) rfl ?_
      refine g_goto X50 hx (hb hby at_259) (by decide) (pc' := 302) (by decide) ?_
      refine g_iload X50 hx (hb hby at_302) (rfl : 302 + 2 = 304) rfl ?_
      exact g_ret X50 hx hret hlk rfl (Or.inl ⟨rfl, Or.inr (Or.inl rfl), _, rfl⟩) (hb hby at_304) (by decide) (by decide) eh50 hK ⟨(by decide), P50⟩
  · refine g_ifN X9 hx (hb hby at_27) (XT.i0_eq_f h1) (rfl : 27 + 3 = 30) ?_
    refine g_iload X9 hx (hb hby at_30) (rfl : 30 + 2 = 32) rfl ?_
    refine g_aload X9 hx (hb hby at_32) (rfl : 32 + 2 = 34) rfl rfl ?_
    have F53 := (exaP A1 Pc9)
    refine g_virtual X9 hx hZ hown eh9 (rm_due hw a1 (0 : Int64) (1 : Int64) (0 : Int64) (0 : Int64) (0 : UInt64) (0 : Int32) F53 G9_0 G9_1 G9_2 G9_3 (by decide) (by decide)) (C := "com/example/ledger_of_rewards/ledgerofrewards/check/Pace") (wd hw 16 rfl) (wd hw 17 rfl) (notFace_of_selects (args := #[]) (mvT hZ (wd hw 19 rfl))) (wd hw 19 rfl) (wd hw 18 rfl) (wd hw 20 rfl) (wd hw 2 rfl) (by decide) (a := a1) F53 (argsL := []) (rest := [(.int (1 : Int32))]) rfl rfl (ps := []) (rt := (some .boolean)) (by decide) rfl (W := 1) (Nat.le_of_eq rfl) (by decide) (by decide) (by decide) (by decide) (by rw [hml]; rfl) (hb hby at_34) (rfl : 34 + 3 = 37) fun v52 T52 hh52 L52 X52 eh52 Q52 => ?_
    obtain ⟨rfl, Pc52, G52_0, G52_1, G52_2, G52_3⟩ := Q52
    have P52 := P9.call Pc52 (allS (Or.inr g1) all0)
    show OGo p e below K T52 (mkF m 37 #[.val (.int p1), .val (.int p2), .val (.int p3), .val (.int p4), .val (.ref a1), .val (.int (1 : Int32)), .unset, .unset, .unset, .unset] [(.int (0 : Int32)), (.int (1 : Int32))])
    refine g_ifN X52 hx (hb hby at_37) (XT.i0_ne_f (by decide)) (rfl : 37 + 3 = 40) ?_
    refine g_iconst X52 hx (1 : Int32) (hb hby at_40) (rfl : 40 + 1 = 41) (by decide) ?_
    refine g_goto X52 hx (hb hby at_41) (by decide) (pc' := 45) (by decide) ?_
    refine g_iand X52 hx (hb hby at_45) (rfl : 45 + 1 = 46) (z := (1 : Int32)) (by decide) ?_
    refine g_istore X52 hx (hb hby at_46) (rfl : 46 + 2 = 48) (Ls' := #[.val (.int p1), .val (.int p2), .val (.int p3), .val (.int p4), .val (.ref a1), .val (.int (1 : Int32)), .unset, .unset, .unset, .unset]) rfl ?_
    refine g_iload X52 hx (hb hby at_48) (rfl : 48 + 2 = 50) rfl ?_
    refine g_aload X52 hx (hb hby at_50) (rfl : 50 + 2 = 52) rfl rfl ?_
    have F55 := (exaP F53 Pc52)
    refine g_virtual X52 hx hZ hown eh52 (rm_since hw a1 (1 : Int64) (0 : Int64) G52_0 G52_2) (C := "com/example/ledger_of_rewards/ledgerofrewards/check/Pace") (wd hw 25 rfl) (wd hw 26 rfl) (notFace_of_selects (args := #[]) (mvT hZ (wd hw 28 rfl))) (wd hw 28 rfl) (wd hw 27 rfl) (wd hw 29 rfl) (wd hw 2 rfl) (by decide) (a := a1) F55 (argsL := []) (rest := [(.int (1 : Int32))]) rfl rfl (ps := []) (rt := (some .long)) (by decide) rfl (W := 1) (Nat.le_of_eq rfl) (by decide) (by decide) (by decide) (by decide) (by rw [hml]; rfl) (hb hby at_52) (rfl : 52 + 3 = 55) fun v54 T54 hh54 L54 X54 eh54 Q54 => ?_
    obtain ⟨rfl, Pc54⟩ := Q54
    have P54 := P52.call Pc54 all0
    show OGo p e below K T54 (mkF m 55 #[.val (.int p1), .val (.int p2), .val (.int p3), .val (.int p4), .val (.ref a1), .val (.int (1 : Int32)), .unset, .unset, .unset, .unset] [(.long ((1 : Int64) - (0 : Int64))), (.int (1 : Int32))])
    refine g_lconst X54 hx (1 : Int64) (hb hby at_55) (rfl : 55 + 1 = 56) (by decide) ?_
    refine g_lcmp X54 hx (hb hby at_56) (rfl : 56 + 1 = 57) ?_
    refine g_ifN X54 hx (hb hby at_57) (XT.ll_ne_f (by decide)) (rfl : 57 + 3 = 60) ?_
    refine g_iconst X54 hx (1 : Int32) (hb hby at_60) (rfl : 60 + 1 = 61) (by decide) ?_
    refine g_goto X54 hx (hb hby at_61) (by decide) (pc' := 65) (by decide) ?_
    refine g_iand X54 hx (hb hby at_65) (rfl : 65 + 1 = 66) (z := (1 : Int32)) (by decide) ?_
    refine g_istore X54 hx (hb hby at_66) (rfl : 66 + 2 = 68) (Ls' := #[.val (.int p1), .val (.int p2), .val (.int p3), .val (.int p4), .val (.ref a1), .val (.int (1 : Int32)), .unset, .unset, .unset, .unset]) rfl ?_
    refine g_aload X54 hx (hb hby at_68) (rfl : 68 + 2 = 70) rfl rfl ?_
    refine g_iloadN X54 hx (hb hby at_70) (rfl : 70 + 1 = 71) rfl ?_
    refine g_sipush X54 hx (1023 : Int32) (hb hby at_71) (rfl : 71 + 3 = 74) (by decide) ?_
    refine g_iand X54 hx (hb hby at_74) (rfl : 74 + 1 = 75) (z := (p3 &&& (1023 : Int32))) rfl ?_
    refine g_i2d X54 hx (hb hby at_75) (rfl : 75 + 1 = 76) ?_
    have F57 := (exaP F55 Pc54)
    have F58 := (fldP G52_0 Pc54 nin0)
    have F59 := (fldP G52_1 Pc54 nin0)
    have F60 := (fldP G52_2 Pc54 nin0)
    have F61 := (fldP G52_3 Pc54 nin0)
    refine g_virtual X54 hx hZ hown eh54 (rm_start hw a1 (FP.i2d (p3 &&& (1023 : Int32))) (1 : Int64) (0 : Int64) (0 : Int64) (0 : UInt64) F57 F58 F59 F60 F61) (C := "com/example/ledger_of_rewards/ledgerofrewards/check/Pace") (wd hw 32 rfl) (wd hw 33 rfl) (notFace_of_selects (args := #[]) (mvT hZ (wd hw 35 rfl))) (wd hw 35 rfl) (wd hw 34 rfl) (wd hw 36 rfl) (wd hw 2 rfl) (by decide) (a := a1) F57 (argsL := [(.double (FP.i2d (p3 &&& (1023 : Int32))))]) (rest := []) rfl rfl (ps := [.double]) (rt := none) (by decide) rfl (W := 0) (Nat.le_of_eq rfl) (by decide) (by decide) (by decide) (by decide) (by rw [hml]; rfl) (hb hby at_76) (rfl : 76 + 3 = 79) fun v56 T56 hh56 L56 X56 eh56 Q56 => ?_
    obtain ⟨rfl, Pc56, G56_0, G56_1, G56_2, G56_3⟩ := Q56
    have P56 := P54.call Pc56 (allS (Or.inr g1) all0)
    show OGo p e below K T56 (mkF m 79 #[.val (.int p1), .val (.int p2), .val (.int p3), .val (.int p4), .val (.ref a1), .val (.int (1 : Int32)), .unset, .unset, .unset, .unset] [])
    refine g_iload X56 hx (hb hby at_79) (rfl : 79 + 2 = 81) rfl ?_
    refine g_aload X56 hx (hb hby at_81) (rfl : 81 + 2 = 83) rfl rfl ?_
    have F63 := (exaP F57 Pc56)
    refine g_virtual X56 hx hZ hown eh56 (rm_since hw a1 (0 : Int64) (0 : Int64) G56_0 G56_2) (C := "com/example/ledger_of_rewards/ledgerofrewards/check/Pace") (wd hw 25 rfl) (wd hw 26 rfl) (notFace_of_selects (args := #[]) (mvT hZ (wd hw 28 rfl))) (wd hw 28 rfl) (wd hw 27 rfl) (wd hw 29 rfl) (wd hw 2 rfl) (by decide) (a := a1) F63 (argsL := []) (rest := [(.int (1 : Int32))]) rfl rfl (ps := []) (rt := (some .long)) (by decide) rfl (W := 1) (Nat.le_of_eq rfl) (by decide) (by decide) (by decide) (by decide) (by rw [hml]; rfl) (hb hby at_83) (rfl : 83 + 3 = 86) fun v62 T62 hh62 L62 X62 eh62 Q62 => ?_
    obtain ⟨rfl, Pc62⟩ := Q62
    have P62 := P56.call Pc62 all0
    show OGo p e below K T62 (mkF m 86 #[.val (.int p1), .val (.int p2), .val (.int p3), .val (.int p4), .val (.ref a1), .val (.int (1 : Int32)), .unset, .unset, .unset, .unset] [(.long ((0 : Int64) - (0 : Int64))), (.int (1 : Int32))])
    refine g_lconst X62 hx (0 : Int64) (hb hby at_86) (rfl : 86 + 1 = 87) (by decide) ?_
    refine g_lcmp X62 hx (hb hby at_87) (rfl : 87 + 1 = 88) ?_
    refine g_ifN X62 hx (hb hby at_88) (XT.ll_ne_f (by decide)) (rfl : 88 + 3 = 91) ?_
    refine g_iconst X62 hx (1 : Int32) (hb hby at_91) (rfl : 91 + 1 = 92) (by decide) ?_
    refine g_goto X62 hx (hb hby at_92) (by decide) (pc' := 96) (by decide) ?_
    refine g_iand X62 hx (hb hby at_96) (rfl : 96 + 1 = 97) (z := (1 : Int32)) (by decide) ?_
    refine g_istore X62 hx (hb hby at_97) (rfl : 97 + 2 = 99) (Ls' := #[.val (.int p1), .val (.int p2), .val (.int p3), .val (.int p4), .val (.ref a1), .val (.int (1 : Int32)), .unset, .unset, .unset, .unset]) rfl ?_
    refine g_aload X62 hx (hb hby at_99) (rfl : 99 + 2 = 101) rfl rfl ?_
    have F65 := (exaP F63 Pc62)
    have F66 := (fldP G56_0 Pc62 nin0)
    have F67 := (fldP G56_1 Pc62 nin0)
    have F68 := (fldP G56_2 Pc62 nin0)
    have F69 := (fldP G56_3 Pc62 nin0)
    refine g_static X62 hx hZ hown eh62 (rm_four0 hw a1 (FP.i2d (p3 &&& (1023 : Int32))) F65 F66 F67 F68 F69) (wd hw 40 rfl) (wd hw 41 rfl) (wd hw 43 rfl) (wd hw 42 rfl) (by decide) (argsL := [(.ref a1)]) (rest := []) rfl rfl (ps := [(.object "com/example/ledger_of_rewards/ledgerofrewards/check/Pace")]) (rt := (some .int)) (by decide) rfl (W := 0) (Nat.le_of_eq rfl) (by decide) (by decide) (by decide) (by decide) (by rw [hml]; rfl) (hb hby at_101) (rfl : 101 + 3 = 104) fun v64 T64 hh64 L64 X64 eh64 Q64 => ?_
    obtain ⟨rfl, Pc64, G64_0, G64_1, G64_2, G64_3⟩ := Q64
    have P64 := P62.call Pc64 (allS (Or.inr g1) all0)
    show OGo p e below K T64 (mkF m 104 #[.val (.int p1), .val (.int p2), .val (.int p3), .val (.int p4), .val (.ref a1), .val (.int (1 : Int32)), .unset, .unset, .unset, .unset] [(.int (0 : Int32))])
    refine g_istore X64 hx (hb hby at_104) (rfl : 104 + 2 = 106) (Ls' := #[.val (.int p1), .val (.int p2), .val (.int p3), .val (.int p4), .val (.ref a1), .val (.int (1 : Int32)), .val (.int (0 : Int32)), .unset, .unset, .unset]) rfl ?_
    refine g_aload X64 hx (hb hby at_106) (rfl : 106 + 2 = 108) rfl rfl ?_
    have F71 := (exaP F65 Pc64)
    refine g_static X64 hx hZ hown eh64 (rm_four4 hw a1 (FP.i2d (p3 &&& (1023 : Int32))) F71 G64_0 G64_1 G64_2 G64_3) (wd hw 40 rfl) (wd hw 41 rfl) (wd hw 43 rfl) (wd hw 42 rfl) (by decide) (argsL := [(.ref a1)]) (rest := []) rfl rfl (ps := [(.object "com/example/ledger_of_rewards/ledgerofrewards/check/Pace")]) (rt := (some .int)) (by decide) rfl (W := 0) (Nat.le_of_eq rfl) (by decide) (by decide) (by decide) (by decide) (by rw [hml]; rfl) (hb hby at_108) (rfl : 108 + 3 = 111) fun v70 T70 hh70 L70 X70 eh70 Q70 => ?_
    obtain ⟨rfl, Pc70, G70_0, G70_1, G70_2, G70_3⟩ := Q70
    have P70 := P64.call Pc70 (allS (Or.inr g1) all0)
    show OGo p e below K T70 (mkF m 111 #[.val (.int p1), .val (.int p2), .val (.int p3), .val (.int p4), .val (.ref a1), .val (.int (1 : Int32)), .val (.int (0 : Int32)), .unset, .unset, .unset] [(.int (0 : Int32))])
    refine g_istore X70 hx (hb hby at_111) (rfl : 111 + 2 = 113) (Ls' := #[.val (.int p1), .val (.int p2), .val (.int p3), .val (.int p4), .val (.ref a1), .val (.int (1 : Int32)), .val (.int (0 : Int32)), .val (.int (0 : Int32)), .unset, .unset]) rfl ?_
    refine g_aload X70 hx (hb hby at_113) (rfl : 113 + 2 = 115) rfl rfl ?_
    have F73 := (exaP F71 Pc70)
    refine g_static X70 hx hZ hown eh70 (rm_four8 hw a1 (FP.i2d (p3 &&& (1023 : Int32))) F73 G70_0 G70_1 G70_2 G70_3) (wd hw 40 rfl) (wd hw 41 rfl) (wd hw 43 rfl) (wd hw 42 rfl) (by decide) (argsL := [(.ref a1)]) (rest := []) rfl rfl (ps := [(.object "com/example/ledger_of_rewards/ledgerofrewards/check/Pace")]) (rt := (some .int)) (by decide) rfl (W := 0) (Nat.le_of_eq rfl) (by decide) (by decide) (by decide) (by decide) (by rw [hml]; rfl) (hb hby at_115) (rfl : 115 + 3 = 118) fun v72 T72 hh72 L72 X72 eh72 Q72 => ?_
    obtain ⟨rfl, Pc72, G72_0, G72_1, G72_2, G72_3⟩ := Q72
    have P72 := P70.call Pc72 (allS (Or.inr g1) all0)
    show OGo p e below K T72 (mkF m 118 #[.val (.int p1), .val (.int p2), .val (.int p3), .val (.int p4), .val (.ref a1), .val (.int (1 : Int32)), .val (.int (0 : Int32)), .val (.int (0 : Int32)), .unset, .unset] [(.int (0 : Int32))])
    refine g_istore X72 hx (hb hby at_118) (rfl : 118 + 2 = 120) (Ls' := #[.val (.int p1), .val (.int p2), .val (.int p3), .val (.int p4), .val (.ref a1), .val (.int (1 : Int32)), .val (.int (0 : Int32)), .val (.int (0 : Int32)), .val (.int (0 : Int32)), .unset]) rfl ?_
    refine g_aload X72 hx (hb hby at_120) (rfl : 120 + 2 = 122) rfl rfl ?_
    have F75 := (exaP F73 Pc72)
    refine g_static X72 hx hZ hown eh72 (rm_four12 hw a1 (FP.i2d (p3 &&& (1023 : Int32))) F75 G72_0 G72_1 G72_2 G72_3) (wd hw 40 rfl) (wd hw 41 rfl) (wd hw 43 rfl) (wd hw 42 rfl) (by decide) (argsL := [(.ref a1)]) (rest := []) rfl rfl (ps := [(.object "com/example/ledger_of_rewards/ledgerofrewards/check/Pace")]) (rt := (some .int)) (by decide) rfl (W := 0) (Nat.le_of_eq rfl) (by decide) (by decide) (by decide) (by decide) (by rw [hml]; rfl) (hb hby at_122) (rfl : 122 + 3 = 125) fun v74 T74 hh74 L74 X74 eh74 Q74 => ?_
    obtain ⟨rfl, Pc74, G74_0, G74_1, G74_2, G74_3⟩ := Q74
    have P74 := P72.call Pc74 (allS (Or.inr g1) all0)
    show OGo p e below K T74 (mkF m 125 #[.val (.int p1), .val (.int p2), .val (.int p3), .val (.int p4), .val (.ref a1), .val (.int (1 : Int32)), .val (.int (0 : Int32)), .val (.int (0 : Int32)), .val (.int (0 : Int32)), .unset] [(.int (8 : Int32))])
    refine g_istore X74 hx (hb hby at_125) (rfl : 125 + 2 = 127) (Ls' := #[.val (.int p1), .val (.int p2), .val (.int p3), .val (.int p4), .val (.ref a1), .val (.int (1 : Int32)), .val (.int (0 : Int32)), .val (.int (0 : Int32)), .val (.int (0 : Int32)), .val (.int (8 : Int32))]) rfl ?_
    refine g_iload X74 hx (hb hby at_127) (rfl : 127 + 2 = 129) rfl ?_
    refine g_iload X74 hx (hb hby at_129) (rfl : 129 + 2 = 131) rfl ?_
    refine g_ifN X74 hx (hb hby at_131) (XT.i0_ne_f (by decide)) (rfl : 131 + 3 = 134) ?_
    refine g_iload X74 hx (hb hby at_134) (rfl : 134 + 2 = 136) rfl ?_
    refine g_ifN X74 hx (hb hby at_136) (XT.i0_ne_f (by decide)) (rfl : 136 + 3 = 139) ?_
    refine g_iload X74 hx (hb hby at_139) (rfl : 139 + 2 = 141) rfl ?_
    refine g_ifN X74 hx (hb hby at_141) (XT.i0_ne_f (by decide)) (rfl : 141 + 3 = 144) ?_
    refine g_iload X74 hx (hb hby at_144) (rfl : 144 + 2 = 146) rfl ?_
    refine g_bipush X74 hx (8 : Int32) (hb hby at_146) (rfl : 146 + 2 = 148) (by decide) ?_
    refine g_icmpN X74 hx (hb hby at_148) (XT.ii_ne_f (by decide)) (rfl : 148 + 3 = 151) ?_
    refine g_iconst X74 hx (1 : Int32) (hb hby at_151) (rfl : 151 + 1 = 152) (by decide) ?_
    refine g_goto X74 hx (hb hby at_152) (by decide) (pc' := 156) (by decide) ?_
    refine g_iand X74 hx (hb hby at_156) (rfl : 156 + 1 = 157) (z := (1 : Int32)) (by decide) ?_
    refine g_istore X74 hx (hb hby at_157) (rfl : 157 + 2 = 159) (Ls' := #[.val (.int p1), .val (.int p2), .val (.int p3), .val (.int p4), .val (.ref a1), .val (.int (1 : Int32)), .val (.int (0 : Int32)), .val (.int (0 : Int32)), .val (.int (0 : Int32)), .val (.int (8 : Int32))]) rfl ?_
    refine g_iload X74 hx (hb hby at_159) (rfl : 159 + 2 = 161) rfl ?_
    refine g_aload X74 hx (hb hby at_161) (rfl : 161 + 2 = 163) rfl rfl ?_
    have F77 := (exaP F75 Pc74)
    refine g_virtual X74 hx hZ hown eh74 (rm_since hw a1 (16 : Int64) (0 : Int64) G74_0 G74_2) (C := "com/example/ledger_of_rewards/ledgerofrewards/check/Pace") (wd hw 25 rfl) (wd hw 26 rfl) (notFace_of_selects (args := #[]) (mvT hZ (wd hw 28 rfl))) (wd hw 28 rfl) (wd hw 27 rfl) (wd hw 29 rfl) (wd hw 2 rfl) (by decide) (a := a1) F77 (argsL := []) (rest := [(.int (1 : Int32))]) rfl rfl (ps := []) (rt := (some .long)) (by decide) rfl (W := 1) (Nat.le_of_eq rfl) (by decide) (by decide) (by decide) (by decide) (by rw [hml]; rfl) (hb hby at_163) (rfl : 163 + 3 = 166) fun v76 T76 hh76 L76 X76 eh76 Q76 => ?_
    obtain ⟨rfl, Pc76⟩ := Q76
    have P76 := P74.call Pc76 all0
    show OGo p e below K T76 (mkF m 166 #[.val (.int p1), .val (.int p2), .val (.int p3), .val (.int p4), .val (.ref a1), .val (.int (1 : Int32)), .val (.int (0 : Int32)), .val (.int (0 : Int32)), .val (.int (0 : Int32)), .val (.int (8 : Int32))] [(.long ((16 : Int64) - (0 : Int64))), (.int (1 : Int32))])
    refine g_ldc2J X76 hx hZ hown (wd hw 44 rfl) (hb hby at_166) (rfl : 166 + 3 = 169) ?_
    refine g_lcmp X76 hx (hb hby at_169) (rfl : 169 + 1 = 170) ?_
    refine g_ifN X76 hx (hb hby at_170) (XT.ll_ne_f (by decide)) (rfl : 170 + 3 = 173) ?_
    refine g_iconst X76 hx (1 : Int32) (hb hby at_173) (rfl : 173 + 1 = 174) (by decide) ?_
    refine g_goto X76 hx (hb hby at_174) (by decide) (pc' := 178) (by decide) ?_
    refine g_iand X76 hx (hb hby at_178) (rfl : 178 + 1 = 179) (z := (1 : Int32)) (by decide) ?_
    refine g_istore X76 hx (hb hby at_179) (rfl : 179 + 2 = 181) (Ls' := #[.val (.int p1), .val (.int p2), .val (.int p3), .val (.int p4), .val (.ref a1), .val (.int (1 : Int32)), .val (.int (0 : Int32)), .val (.int (0 : Int32)), .val (.int (0 : Int32)), .val (.int (8 : Int32))]) rfl ?_
    refine g_iloadN X76 hx (hb hby at_181) (rfl : 181 + 1 = 182) rfl ?_
    refine g_iconst X76 hx (2 : Int32) (hb hby at_182) (rfl : 182 + 1 = 183) (by decide) ?_
    refine g_iand X76 hx (hb hby at_183) (rfl : 183 + 1 = 184) (z := (p4 &&& (2 : Int32))) rfl ?_
    by_cases h2 : (p4 &&& (2 : Int32)) = (0 : Int32)
    · refine g_ifY X76 hx (hb hby at_184) (XT.i0_eq_t h2) (by decide) (pc' := 262) (by decide) ?_
      refine g_iload X76 hx (hb hby at_262) (rfl : 262 + 2 = 264) rfl ?_
      refine g_aload X76 hx (hb hby at_264) (rfl : 264 + 2 = 266) rfl rfl ?_
      have F79 := (exaP F77 Pc76)
      have F80 := (fldP G74_0 Pc76 nin0)
      have F81 := (fldP G74_1 Pc76 nin0)
      have F82 := (fldP G74_2 Pc76 nin0)
      have F83 := (fldP G74_3 Pc76 nin0)
      refine g_virtual X76 hx hZ hown eh76 (rm_due hw a1 (16 : Int64) (17 : Int64) (16 : Int64) (0 : Int64) (FP.i2d (p3 &&& (1023 : Int32))) (0 : Int32) F79 F80 F81 F82 F83 (by decide) (by decide)) (C := "com/example/ledger_of_rewards/ledgerofrewards/check/Pace") (wd hw 16 rfl) (wd hw 17 rfl) (notFace_of_selects (args := #[]) (mvT hZ (wd hw 19 rfl))) (wd hw 19 rfl) (wd hw 18 rfl) (wd hw 20 rfl) (wd hw 2 rfl) (by decide) (a := a1) F79 (argsL := []) (rest := [(.int (1 : Int32))]) rfl rfl (ps := []) (rt := (some .boolean)) (by decide) rfl (W := 1) (Nat.le_of_eq rfl) (by decide) (by decide) (by decide) (by decide) (by rw [hml]; rfl) (hb hby at_266) (rfl : 266 + 3 = 269) fun v78 T78 hh78 L78 X78 eh78 Q78 => ?_
      obtain ⟨rfl, Pc78, G78_0, G78_1, G78_2, G78_3⟩ := Q78
      have P78 := P76.call Pc78 (allS (Or.inr g1) all0)
      show OGo p e below K T78 (mkF m 269 #[.val (.int p1), .val (.int p2), .val (.int p3), .val (.int p4), .val (.ref a1), .val (.int (1 : Int32)), .val (.int (0 : Int32)), .val (.int (0 : Int32)), .val (.int (0 : Int32)), .val (.int (8 : Int32))] [(.int (0 : Int32)), (.int (1 : Int32))])
      refine g_ifN X78 hx (hb hby at_269) (XT.i0_ne_f (by decide)) (rfl : 269 + 3 = 272) ?_
      refine g_iconst X78 hx (1 : Int32) (hb hby at_272) (rfl : 272 + 1 = 273) (by decide) ?_
      refine g_goto X78 hx (hb hby at_273) (by decide) (pc' := 277) (by decide) ?_
      refine g_iand X78 hx (hb hby at_277) (rfl : 277 + 1 = 278) (z := (1 : Int32)) (by decide) ?_
      refine g_istore X78 hx (hb hby at_278) (rfl : 278 + 2 = 280) (Ls' := #[.val (.int p1), .val (.int p2), .val (.int p3), .val (.int p4), .val (.ref a1), .val (.int (1 : Int32)), .val (.int (0 : Int32)), .val (.int (0 : Int32)), .val (.int (0 : Int32)), .val (.int (8 : Int32))]) rfl ?_
      refine g_iload X78 hx (hb hby at_280) (rfl : 280 + 2 = 282) rfl ?_
      refine g_aload X78 hx (hb hby at_282) (rfl : 282 + 2 = 284) rfl rfl ?_
      have F85 := (exaP F79 Pc78)
      refine g_virtual X78 hx hZ hown eh78 (rm_since hw a1 (17 : Int64) (0 : Int64) G78_0 G78_2) (C := "com/example/ledger_of_rewards/ledgerofrewards/check/Pace") (wd hw 25 rfl) (wd hw 26 rfl) (notFace_of_selects (args := #[]) (mvT hZ (wd hw 28 rfl))) (wd hw 28 rfl) (wd hw 27 rfl) (wd hw 29 rfl) (wd hw 2 rfl) (by decide) (a := a1) F85 (argsL := []) (rest := [(.int (1 : Int32))]) rfl rfl (ps := []) (rt := (some .long)) (by decide) rfl (W := 1) (Nat.le_of_eq rfl) (by decide) (by decide) (by decide) (by decide) (by rw [hml]; rfl) (hb hby at_284) (rfl : 284 + 3 = 287) fun v84 T84 hh84 L84 X84 eh84 Q84 => ?_
      obtain ⟨rfl, Pc84⟩ := Q84
      have P84 := P78.call Pc84 all0
      show OGo p e below K T84 (mkF m 287 #[.val (.int p1), .val (.int p2), .val (.int p3), .val (.int p4), .val (.ref a1), .val (.int (1 : Int32)), .val (.int (0 : Int32)), .val (.int (0 : Int32)), .val (.int (0 : Int32)), .val (.int (8 : Int32))] [(.long ((17 : Int64) - (0 : Int64))), (.int (1 : Int32))])
      refine g_ldc2J X84 hx hZ hown (wd hw 45 rfl) (hb hby at_287) (rfl : 287 + 3 = 290) ?_
      refine g_lcmp X84 hx (hb hby at_290) (rfl : 290 + 1 = 291) ?_
      refine g_ifN X84 hx (hb hby at_291) (XT.ll_ne_f (by decide)) (rfl : 291 + 3 = 294) ?_
      refine g_iconst X84 hx (1 : Int32) (hb hby at_294) (rfl : 294 + 1 = 295) (by decide) ?_
      refine g_goto X84 hx (hb hby at_295) (by decide) (pc' := 299) (by decide) ?_
      refine g_iand X84 hx (hb hby at_299) (rfl : 299 + 1 = 300) (z := (1 : Int32)) (by decide) ?_
      refine g_istore X84 hx (hb hby at_300) (rfl : 300 + 2 = 302) (Ls' := #[.val (.int p1), .val (.int p2), .val (.int p3), .val (.int p4), .val (.ref a1), .val (.int (1 : Int32)), .val (.int (0 : Int32)), .val (.int (0 : Int32)), .val (.int (0 : Int32)), .val (.int (8 : Int32))]) rfl ?_
      refine g_iload X84 hx (hb hby at_302) (rfl : 302 + 2 = 304) rfl ?_
      exact g_ret X84 hx hret hlk rfl (Or.inl ⟨rfl, Or.inr (Or.inl rfl), _, rfl⟩) (hb hby at_304) (by decide) (by decide) eh84 hK ⟨(by decide), P84⟩
    · refine g_ifN X76 hx (hb hby at_184) (XT.i0_eq_f h2) (rfl : 184 + 3 = 187) ?_
      refine g_aload X76 hx (hb hby at_187) (rfl : 187 + 2 = 189) rfl rfl ?_
      refine g_iloadN X76 hx (hb hby at_189) (rfl : 189 + 1 = 190) rfl ?_
      refine g_bipush X76 hx (10 : Int32) (hb hby at_190) (rfl : 190 + 2 = 192) (by decide) ?_
      refine g_iushr X76 hx (hb hby at_192) (rfl : 192 + 1 = 193) (z := (XT.ushr p3 (10 : Int32))) rfl ?_
      refine g_sipush X76 hx (1023 : Int32) (hb hby at_193) (rfl : 193 + 3 = 196) (by decide) ?_
      refine g_iand X76 hx (hb hby at_196) (rfl : 196 + 1 = 197) (z := ((XT.ushr p3 (10 : Int32)) &&& (1023 : Int32))) rfl ?_
      refine g_i2d X76 hx (hb hby at_197) (rfl : 197 + 1 = 198) ?_
      have F87 := (exaP F77 Pc76)
      have F88 := (fldP G74_0 Pc76 nin0)
      have F89 := (fldP G74_1 Pc76 nin0)
      have F90 := (fldP G74_2 Pc76 nin0)
      have F91 := (fldP G74_3 Pc76 nin0)
      refine g_virtual X76 hx hZ hown eh76 (rm_mark hw a1 (FP.i2d ((XT.ushr p3 (10 : Int32)) &&& (1023 : Int32))) (16 : Int64) (16 : Int64) (0 : Int64) (FP.i2d (p3 &&& (1023 : Int32))) F87 F88 F89 F90 F91) (C := "com/example/ledger_of_rewards/ledgerofrewards/check/Pace") (wd hw 46 rfl) (wd hw 47 rfl) (notFace_of_selects (args := #[]) (mvT hZ (wd hw 49 rfl))) (wd hw 49 rfl) (wd hw 48 rfl) (wd hw 50 rfl) (wd hw 2 rfl) (by decide) (a := a1) F87 (argsL := [(.double (FP.i2d ((XT.ushr p3 (10 : Int32)) &&& (1023 : Int32))))]) (rest := []) rfl rfl (ps := [.double]) (rt := none) (by decide) rfl (W := 0) (Nat.le_of_eq rfl) (by decide) (by decide) (by decide) (by decide) (by rw [hml]; rfl) (hb hby at_198) (rfl : 198 + 3 = 201) fun v86 T86 hh86 L86 X86 eh86 Q86 => ?_
      obtain ⟨rfl, Pc86, G86_0, G86_1, G86_2, G86_3⟩ := Q86
      have P86 := P76.call Pc86 (allS (Or.inr g1) all0)
      show OGo p e below K T86 (mkF m 201 #[.val (.int p1), .val (.int p2), .val (.int p3), .val (.int p4), .val (.ref a1), .val (.int (1 : Int32)), .val (.int (0 : Int32)), .val (.int (0 : Int32)), .val (.int (0 : Int32)), .val (.int (8 : Int32))] [])
      refine g_iload X86 hx (hb hby at_201) (rfl : 201 + 2 = 203) rfl ?_
      refine g_aload X86 hx (hb hby at_203) (rfl : 203 + 2 = 205) rfl rfl ?_
      have F93 := (exaP F87 Pc86)
      refine g_virtual X86 hx hZ hown eh86 (rm_since hw a1 (16 : Int64) (16 : Int64) G86_0 G86_2) (C := "com/example/ledger_of_rewards/ledgerofrewards/check/Pace") (wd hw 25 rfl) (wd hw 26 rfl) (notFace_of_selects (args := #[]) (mvT hZ (wd hw 28 rfl))) (wd hw 28 rfl) (wd hw 27 rfl) (wd hw 29 rfl) (wd hw 2 rfl) (by decide) (a := a1) F93 (argsL := []) (rest := [(.int (1 : Int32))]) rfl rfl (ps := []) (rt := (some .long)) (by decide) rfl (W := 1) (Nat.le_of_eq rfl) (by decide) (by decide) (by decide) (by decide) (by rw [hml]; rfl) (hb hby at_205) (rfl : 205 + 3 = 208) fun v92 T92 hh92 L92 X92 eh92 Q92 => ?_
      obtain ⟨rfl, Pc92⟩ := Q92
      have P92 := P86.call Pc92 all0
      show OGo p e below K T92 (mkF m 208 #[.val (.int p1), .val (.int p2), .val (.int p3), .val (.int p4), .val (.ref a1), .val (.int (1 : Int32)), .val (.int (0 : Int32)), .val (.int (0 : Int32)), .val (.int (0 : Int32)), .val (.int (8 : Int32))] [(.long ((16 : Int64) - (16 : Int64))), (.int (1 : Int32))])
      refine g_lconst X92 hx (0 : Int64) (hb hby at_208) (rfl : 208 + 1 = 209) (by decide) ?_
      refine g_lcmp X92 hx (hb hby at_209) (rfl : 209 + 1 = 210) ?_
      refine g_ifN X92 hx (hb hby at_210) (XT.ll_ne_f (by decide)) (rfl : 210 + 3 = 213) ?_
      refine g_iconst X92 hx (1 : Int32) (hb hby at_213) (rfl : 213 + 1 = 214) (by decide) ?_
      refine g_goto X92 hx (hb hby at_214) (by decide) (pc' := 218) (by decide) ?_
      refine g_iand X92 hx (hb hby at_218) (rfl : 218 + 1 = 219) (z := (1 : Int32)) (by decide) ?_
      refine g_istore X92 hx (hb hby at_219) (rfl : 219 + 2 = 221) (Ls' := #[.val (.int p1), .val (.int p2), .val (.int p3), .val (.int p4), .val (.ref a1), .val (.int (1 : Int32)), .val (.int (0 : Int32)), .val (.int (0 : Int32)), .val (.int (0 : Int32)), .val (.int (8 : Int32))]) rfl ?_
      refine g_iload X92 hx (hb hby at_221) (rfl : 221 + 2 = 223) rfl ?_
      refine g_aload X92 hx (hb hby at_223) (rfl : 223 + 2 = 225) rfl rfl ?_
      have F95 := (exaP F93 Pc92)
      have F96 := (fldP G86_0 Pc92 nin0)
      have F97 := (fldP G86_1 Pc92 nin0)
      have F98 := (fldP G86_2 Pc92 nin0)
      have F99 := (fldP G86_3 Pc92 nin0)
      refine g_virtual X92 hx hZ hown eh92 (rm_due hw a1 (16 : Int64) (17 : Int64) ((16 : Int64) * (2 : Int64)) (16 : Int64) (FP.i2d ((XT.ushr p3 (10 : Int32)) &&& (1023 : Int32))) (0 : Int32) F95 F96 F97 F98 F99 (by decide) (by decide)) (C := "com/example/ledger_of_rewards/ledgerofrewards/check/Pace") (wd hw 16 rfl) (wd hw 17 rfl) (notFace_of_selects (args := #[]) (mvT hZ (wd hw 19 rfl))) (wd hw 19 rfl) (wd hw 18 rfl) (wd hw 20 rfl) (wd hw 2 rfl) (by decide) (a := a1) F95 (argsL := []) (rest := [(.int (1 : Int32))]) rfl rfl (ps := []) (rt := (some .boolean)) (by decide) rfl (W := 1) (Nat.le_of_eq rfl) (by decide) (by decide) (by decide) (by decide) (by rw [hml]; rfl) (hb hby at_225) (rfl : 225 + 3 = 228) fun v94 T94 hh94 L94 X94 eh94 Q94 => ?_
      obtain ⟨rfl, Pc94, G94_0, G94_1, G94_2, G94_3⟩ := Q94
      have P94 := P92.call Pc94 (allS (Or.inr g1) all0)
      show OGo p e below K T94 (mkF m 228 #[.val (.int p1), .val (.int p2), .val (.int p3), .val (.int p4), .val (.ref a1), .val (.int (1 : Int32)), .val (.int (0 : Int32)), .val (.int (0 : Int32)), .val (.int (0 : Int32)), .val (.int (8 : Int32))] [(.int (0 : Int32)), (.int (1 : Int32))])
      refine g_ifN X94 hx (hb hby at_228) (XT.i0_ne_f (by decide)) (rfl : 228 + 3 = 231) ?_
      refine g_iconst X94 hx (1 : Int32) (hb hby at_231) (rfl : 231 + 1 = 232) (by decide) ?_
      refine g_goto X94 hx (hb hby at_232) (by decide) (pc' := 236) (by decide) ?_
      refine g_iand X94 hx (hb hby at_236) (rfl : 236 + 1 = 237) (z := (1 : Int32)) (by decide) ?_
      refine g_istore X94 hx (hb hby at_237) (rfl : 237 + 2 = 239) (Ls' := #[.val (.int p1), .val (.int p2), .val (.int p3), .val (.int p4), .val (.ref a1), .val (.int (1 : Int32)), .val (.int (0 : Int32)), .val (.int (0 : Int32)), .val (.int (0 : Int32)), .val (.int (8 : Int32))]) rfl ?_
      refine g_iload X94 hx (hb hby at_239) (rfl : 239 + 2 = 241) rfl ?_
      refine g_aload X94 hx (hb hby at_241) (rfl : 241 + 2 = 243) rfl rfl ?_
      have F101 := (exaP F95 Pc94)
      refine g_virtual X94 hx hZ hown eh94 (rm_since hw a1 (17 : Int64) (16 : Int64) G94_0 G94_2) (C := "com/example/ledger_of_rewards/ledgerofrewards/check/Pace") (wd hw 25 rfl) (wd hw 26 rfl) (notFace_of_selects (args := #[]) (mvT hZ (wd hw 28 rfl))) (wd hw 28 rfl) (wd hw 27 rfl) (wd hw 29 rfl) (wd hw 2 rfl) (by decide) (a := a1) F101 (argsL := []) (rest := [(.int (1 : Int32))]) rfl rfl (ps := []) (rt := (some .long)) (by decide) rfl (W := 1) (Nat.le_of_eq rfl) (by decide) (by decide) (by decide) (by decide) (by rw [hml]; rfl) (hb hby at_243) (rfl : 243 + 3 = 246) fun v100 T100 hh100 L100 X100 eh100 Q100 => ?_
      obtain ⟨rfl, Pc100⟩ := Q100
      have P100 := P94.call Pc100 all0
      show OGo p e below K T100 (mkF m 246 #[.val (.int p1), .val (.int p2), .val (.int p3), .val (.int p4), .val (.ref a1), .val (.int (1 : Int32)), .val (.int (0 : Int32)), .val (.int (0 : Int32)), .val (.int (0 : Int32)), .val (.int (8 : Int32))] [(.long ((17 : Int64) - (16 : Int64))), (.int (1 : Int32))])
      refine g_lconst X100 hx (1 : Int64) (hb hby at_246) (rfl : 246 + 1 = 247) (by decide) ?_
      refine g_lcmp X100 hx (hb hby at_247) (rfl : 247 + 1 = 248) ?_
      refine g_ifN X100 hx (hb hby at_248) (XT.ll_ne_f (by decide)) (rfl : 248 + 3 = 251) ?_
      refine g_iconst X100 hx (1 : Int32) (hb hby at_251) (rfl : 251 + 1 = 252) (by decide) ?_
      refine g_goto X100 hx (hb hby at_252) (by decide) (pc' := 256) (by decide) ?_
      refine g_iand X100 hx (hb hby at_256) (rfl : 256 + 1 = 257) (z := (1 : Int32)) (by decide) ?_
      refine g_istore X100 hx (hb hby at_257) (rfl : 257 + 2 = 259) (Ls' := #[.val (.int p1), .val (.int p2), .val (.int p3), .val (.int p4), .val (.ref a1), .val (.int (1 : Int32)), .val (.int (0 : Int32)), .val (.int (0 : Int32)), .val (.int (0 : Int32)), .val (.int (8 : Int32))]) rfl ?_
      refine g_goto X100 hx (hb hby at_259) (by decide) (pc' := 302) (by decide) ?_
      refine g_iload X100 hx (hb hby at_302) (rfl : 302 + 2 = 304) rfl ?_
      exact g_ret X100 hx hret hlk rfl (Or.inl ⟨rfl, Or.inr (Or.inl rfl), _, rfl⟩) (hb hby at_304) (by decide) (by decide) eh100 hK ⟨(by decide), P100⟩
set_option maxRecDepth 65536 in
set_option maxHeartbeats 40000000 in
theorem comes_1 {Post : Tables → Env → Array Value → State → Outcome → State → Prop} (hpost : ∀ tb e args s v u, (limb_1_1.after args s (.returned v) u = true ∧ limb_1_2.after args s (.returned v) u = true ∧ True) → Jvm.Pilot.@@N@@.Jvm.D.Framed s (.returned v) u (Jvm.fieldLocs frame_1_writes args s ++ Jvm.arrayLocs frame_1_arrays args s ++ Jvm.staticLocs frame_1_statics s) 16 128 → Post tb e args s (.returned v) u) :
    ArmFor flags0 classFile x code maxLocals ret World_1 tables_1 room_1 Calls_1 rest_1 Pre_1 Post := by
  intro l hfl _ _ p e ha hc hk s m args below hf hA hF happ hP
  obtain ⟨hcalls, hrest, hpre⟩ := hP
  obtain ⟨-, -, -, hnamed, -, -, -, hat⟩ := (Spec.applies_iff hf).mp happ
  obtain ⟨hg, hn⟩ := and_e (Cond.before_iff.mp (show (Jvm.Cond.and given_1 narrow_1).before args s = true from hpre))
  obtain ⟨h1, hgg⟩ := and_e hg
  obtain ⟨w0, w1, w2, w3, rfl⟩ : ∃ w0 w1 w2 w3 : Value, args = #[w0, w1, w2, w3] := by
    have hs : args.size = 4 := by simpa [Cond.value, given_1] using h1
    obtain ⟨L⟩ := args
    match L, hs with
    | [w0, w1, w2, w3], _ => exact ⟨w0, w1, w2, w3, rfl⟩
  have hw := fun d (hd : d ∈ tables_1) => atoms_spec (ws := Jvm.Cond.code x code maxLocals ret :: tables_1) hat d (List.mem_cons_of_mem _ hd)
  have hfit : Fit s := fun {y c} hc i hi => by
    obtain ⟨ha, rfl⟩ := Array.getElem?_eq_some_iff.mp hc
    have q := List.all_eq_true.mp ((Array.all_eq_true_iff_forall_mem.mp hF) _ (Array.getElem_mem ha)) i (List.mem_range.mpr hi)
    simpa [Array.getElem?_eq_getElem hi] using q
  obtain ⟨ga0, gb0⟩ := and_e hgg
  obtain ⟨i0, ea0⟩ := is_v ga0
  obtain rfl : w0 = (.int i0) := Option.some.inj ea0
  obtain ⟨ga1, gb1⟩ := and_e gb0
  obtain ⟨i1, ea1⟩ := is_v ga1
  obtain rfl : w1 = (.int i1) := Option.some.inj ea1
  obtain ⟨ga2, gb2⟩ := and_e gb1
  obtain ⟨i2, ea2⟩ := is_v ga2
  obtain rfl : w2 = (.int i2) := Option.some.inj ea2
  obtain ⟨i3, ea3⟩ := is_v gb2
  obtain rfl : w3 = (.int i3) := Option.some.inj ea3
  obtain ⟨n, o, r1, r2, r3, _, L, rfl, ⟨rfl, Pf⟩, hq⟩ := (rm0 hw i0 i1 i2 i3) tables_1 p e ha hc hk s m _ below hf ((Spec.applies_iff_loose hf).mp happ).1 ⟨rfl, State.Warmed39.refl s, rfl⟩ trivial
  refine ⟨n, _, r1, r2, r3, hpost _ _ _ _ _ _ ⟨Cond.after_iff.mpr rfl, Cond.after_iff.mpr (eq_i res_at (Term.int_eval (1)) rfl), trivial⟩ ⟨hq.1, hq.2.1, (hq.2.2.sift fun y hy => Or.inr (Pf.fr y hy)).mono (by decide) (by decide)⟩⟩
theorem main_1_1 : Claimed_1_1 := comes_1 fun _ _ _ _ _ _ h hF => ⟨h.1, hF⟩
theorem main_1_2 : Claimed_1_2 := comes_1 fun _ _ _ _ _ _ h hF => ⟨h.2.1, hF⟩
end Jvm.Pilot.@@N@@
namespace Jvm.Pilot.@@N@@
open Jvm Jvm.ClassFile Sem Op Lib Jvm.Free Jvm.Stand Jvm.Pilot.@@N@@.Jvm.D
/-! MADE BY PROGRAM (witnessworld.py) out of the Statement's table words and the real class files: 9 classes; the members and pool entries that the words name. The judged class is class 1, her method 2. -/
namespace start1
open Jvm.ClassFile
def u (s : String) : CpInfo := .utf8 (stringToUtf16 s)
/-- a pool by its gaps: so many unusable entries, then the entry; so many at the end -/
def gap : Nat → List CpInfo → List CpInfo
  | 0, r => r
  | n + 1, r => .unusable :: gap n r
def poolList (es : List (Nat × CpInfo)) (last : Nat) : List CpInfo := es.foldr (fun e r => gap e.1 (e.2 :: r)) (gap last [])
def pool (es : List (Nat × CpInfo)) (last : Nat) : Array CpInfo := ⟨poolList es last⟩
def fileOf (pool : Array CpInfo) (this : Nat) (attrs : Array Attribute := #[]) (ms : Array MethodInfo := #[]) (fl : Nat := 33) (sup : Nat := 0) (ifs : Array Nat := #[]) (fds : Array FieldInfo := #[]) : ClassFile where
  minorVersion := 0
  majorVersion := 65
  constantPool := pool
  accessFlags := fl
  thisClass := this
  superClass := sup
  interfaces := ifs
  fields := fds
  methods := ms
  attributes := attrs
def plain (name : String) (sup : Option ClassId) : Class where
  name := name
  kind := .ordinary
  loader := none
  accessFlags := 33
  super := sup
  interfaces := #[]
  cf := none
  fields := #[]
  methods := #[]
  instanceTypes := #[]
  staticTypes := #[]
  resolved := #[]
  callSites := []
  init := .initialized
  statics := none
  mirror := none

def pool0 : Array CpInfo := pool [(5, u "<init>"), (0, u "()V"), (1, .class_ 10), (1, u "java/lang/Object")] 113

def k0c0 : Code := { maxStack := 0, maxLocals := 1, code := object_method_1_code, exceptionTable := #[], attributes := #[] }
def k0m0 : Method := { name := "<init>", desc := "()V", sig := { parameters := [], returnType := none }, accessFlags := 1, code := some k0c0 }
/-- java/lang/Object -/
def k0 : Class := { plain "java/lang/Object" none with
  accessFlags := 33
  interfaces := #[]
  cf := some (fileOf pool0 8 #[] #[{ accessFlags := 1, nameIndex := 5, descriptorIndex := 6, attributes := #[] }] 33 0 #[] #[])
  fields := #[]
  methods := #[k0m0]
  instanceTypes := #[]
  staticTypes := #[]
  resolved := Array.replicate 124 none
  statics := none }

def pool1 : Array CpInfo := pool [(2, .class_ 4), (1, u "java/lang/Object"), (0, u "<init>"), (0, u "()V"), (0, .methodref 8 9), (0, .class_ 10), (0, .nameAndType 11 12), (0, u "com/example/ledger_of_rewards/ledgerofrewards/check/Pace"), (0, u "due"), (0, u "()Z"), (0, .methodref 8 14), (0, .nameAndType 5 15), (0, u "(DD)V"), (0, .methodref 8 17), (0, .nameAndType 18 19), (0, u "sinceMark"), (0, u "()J"), (0, .methodref 8 21), (0, .nameAndType 22 23), (0, u "start"), (0, u "(D)V"), (0, .methodref 25 26), (0, .class_ 27), (0, .nameAndType 28 29), (0, u "com/example/ledger_of_rewards/ledgerofrewards/check/PaceDuePinLaw"), (0, u "four"), (0, u "(Lcom/example/ledger_of_rewards/ledgerofrewards/check/Pace;)I"), (0, .long 16), (1, .methodref 8 33), (0, .nameAndType 34 23), (0, u "mark"), (0, .long 17), (4, u "law"), (0, u "(IIII)Z")] 2

def k1m0 : Method := { name := "<init>", desc := "()V", sig := { parameters := [], returnType := none }, accessFlags := 1, code := none }
def k1c1 : Code := { maxStack := 2, maxLocals := 2, code := method_2_code, exceptionTable := #[], attributes := #[] }
def k1m1 : Method := { name := "four", desc := "(Lcom/example/ledger_of_rewards/ledgerofrewards/check/Pace;)I", sig := { parameters := [(.object "com/example/ledger_of_rewards/ledgerofrewards/check/Pace")], returnType := some .int }, accessFlags := 10, code := some k1c1 }
def k1c2 : Code := { maxStack := 6, maxLocals := 10, code := code, exceptionTable := #[], attributes := #[] }
def k1m2 : Method := { name := "law", desc := "(IIII)Z", sig := { parameters := [.int, .int, .int, .int], returnType := some .boolean }, accessFlags := 9, code := some k1c2 }
/-- com/example/ledger_of_rewards/ledgerofrewards/check/PaceDuePinLaw -/
def k1 : Class := { plain "com/example/ledger_of_rewards/ledgerofrewards/check/PaceDuePinLaw" (some 0) with
  accessFlags := 49
  interfaces := #[]
  cf := some (fileOf pool1 25 #[] #[{ accessFlags := 1, nameIndex := 5, descriptorIndex := 6, attributes := #[] }, { accessFlags := 10, nameIndex := 28, descriptorIndex := 29, attributes := #[] }, { accessFlags := 9, nameIndex := 40, descriptorIndex := 41, attributes := #[] }] 49 2 #[] #[])
  fields := #[]
  methods := #[k1m0, k1m1, k1m2]
  instanceTypes := #[]
  staticTypes := #[]
  resolved := Array.replicate 44 none
  statics := none }

def pool2 : Array CpInfo := pool [(1, .methodref 2 3), (0, .class_ 4), (0, .nameAndType 5 6), (0, u "java/lang/Object"), (0, u "<init>"), (0, u "()V"), (0, .fieldref 8 9), (0, .class_ 10), (0, .nameAndType 11 12), (0, u "com/example/ledger_of_rewards/ledgerofrewards/check/Pace"), (0, u "sweepCost"), (0, u "D"), (0, .fieldref 8 14), (0, .nameAndType 15 12), (0, u "certificateCost"), (2, .double 9218868437227405312), (1, .fieldref 8 21), (0, .nameAndType 22 23), (0, u "certifiable"), (0, u "Z"), (0, .fieldref 8 25), (0, .nameAndType 26 27), (0, u "swept"), (0, u "J"), (0, .long 16), (1, .fieldref 8 31), (0, .nameAndType 32 27), (0, u "checkpoint"), (0, .fieldref 8 34), (0, .nameAndType 35 27), (0, u "marked"), (0, .fieldref 8 37), (0, .nameAndType 38 12), (0, u "markedMeasure"), (6, u "sinceMark"), (0, u "()J"), (1, .class_ 50), (1, u "com/example/ledger_of_rewards/ledgerofrewards/check/Pace$Verdict"), (10, .long 2), (3, u "SWEEP_LIMIT"), (1, u "FIRST_CHECKPOINT"), (0, u "(DD)V"), (3, u "start"), (0, u "(D)V"), (0, u "due"), (0, u "()Z"), (3, u "mark")] 7

def k2c0 : Code := { maxStack := 5, maxLocals := 5, code := prog_7_method_1_code, exceptionTable := #[], attributes := #[] }
def k2m0 : Method := { name := "<init>", desc := "(DD)V", sig := { parameters := [.double, .double], returnType := none }, accessFlags := 0, code := some k2c0 }
def k2c1 : Code := { maxStack := 3, maxLocals := 3, code := prog_7_method_2_code, exceptionTable := #[], attributes := #[] }
def k2m1 : Method := { name := "start", desc := "(D)V", sig := { parameters := [.double], returnType := none }, accessFlags := 0, code := some k2c1 }
def k2c2 : Code := { maxStack := 5, maxLocals := 1, code := prog_7_method_3_code, exceptionTable := #[], attributes := #[] }
def k2m2 : Method := { name := "due", desc := "()Z", sig := { parameters := [], returnType := some .boolean }, accessFlags := 0, code := some k2c2 }
def k2c3 : Code := { maxStack := 4, maxLocals := 1, code := prog_7_method_4_code, exceptionTable := #[], attributes := #[] }
def k2m3 : Method := { name := "sinceMark", desc := "()J", sig := { parameters := [], returnType := some .long }, accessFlags := 0, code := some k2c3 }
def k2c4 : Code := { maxStack := 5, maxLocals := 3, code := prog_7_method_8_code, exceptionTable := #[], attributes := #[] }
def k2m4 : Method := { name := "mark", desc := "(D)V", sig := { parameters := [.double], returnType := none }, accessFlags := 0, code := some k2c4 }
/-- com/example/ledger_of_rewards/ledgerofrewards/check/Pace -/
def k2 : Class := { plain "com/example/ledger_of_rewards/ledgerofrewards/check/Pace" (some 0) with
  accessFlags := 48
  interfaces := #[]
  cf := some (fileOf pool2 8 #[.nestMembers #[48]] #[{ accessFlags := 0, nameIndex := 5, descriptorIndex := 68, attributes := #[] }, { accessFlags := 0, nameIndex := 72, descriptorIndex := 73, attributes := #[] }, { accessFlags := 0, nameIndex := 74, descriptorIndex := 75, attributes := #[] }, { accessFlags := 0, nameIndex := 45, descriptorIndex := 46, attributes := #[] }, { accessFlags := 0, nameIndex := 79, descriptorIndex := 73, attributes := #[] }] 48 2 #[] #[{ accessFlags := 24, nameIndex := 65, descriptorIndex := 12, attributes := #[] }, { accessFlags := 26, nameIndex := 67, descriptorIndex := 27, attributes := #[] }, { accessFlags := 18, nameIndex := 11, descriptorIndex := 12, attributes := #[] }, { accessFlags := 18, nameIndex := 15, descriptorIndex := 12, attributes := #[] }, { accessFlags := 2, nameIndex := 22, descriptorIndex := 23, attributes := #[] }, { accessFlags := 2, nameIndex := 26, descriptorIndex := 27, attributes := #[] }, { accessFlags := 2, nameIndex := 32, descriptorIndex := 27, attributes := #[] }, { accessFlags := 2, nameIndex := 35, descriptorIndex := 27, attributes := #[] }, { accessFlags := 2, nameIndex := 38, descriptorIndex := 12, attributes := #[] }])
  fields := #[{ name := "SWEEP_LIMIT", type := .double, accessFlags := 24, slot := 0, constantValue := 0 }, { name := "FIRST_CHECKPOINT", type := .long, accessFlags := 26, slot := 1, constantValue := 0 }, { name := "sweepCost", type := .double, accessFlags := 18, slot := 0, constantValue := 0 }, { name := "certificateCost", type := .double, accessFlags := 18, slot := 1, constantValue := 0 }, { name := "certifiable", type := .boolean, accessFlags := 2, slot := 2, constantValue := 0 }, { name := "swept", type := .long, accessFlags := 2, slot := 3, constantValue := 0 }, { name := "checkpoint", type := .long, accessFlags := 2, slot := 4, constantValue := 0 }, { name := "marked", type := .long, accessFlags := 2, slot := 5, constantValue := 0 }, { name := "markedMeasure", type := .double, accessFlags := 2, slot := 6, constantValue := 0 }]
  methods := #[k2m0, k2m1, k2m2, k2m3, k2m4]
  instanceTypes := #[.double, .double, .boolean, .long, .long, .long, .double]
  staticTypes := #[.double, .long]
  resolved := Array.replicate 87 none
  statics := none }

def pool3 : Array CpInfo := pool [(1, u "java/lang/Cloneable"), (0, .class_ 1), (0, u "java/lang/Object"), (0, .class_ 3)] 3

/-- java/lang/Cloneable -/
def k3 : Class := { plain "java/lang/Cloneable" (some 0) with
  accessFlags := 1537
  interfaces := #[]
  cf := some (fileOf pool3 2 #[] #[] 1537 4 #[] #[])
  fields := #[]
  methods := #[]
  instanceTypes := #[]
  staticTypes := #[]
  resolved := Array.replicate 8 none
  statics := none }

def pool4 : Array CpInfo := pool [(1, u "java/io/Serializable"), (0, .class_ 1), (0, u "java/lang/Object"), (0, .class_ 3)] 3

/-- java/io/Serializable -/
def k4 : Class := { plain "java/io/Serializable" (some 0) with
  accessFlags := 1537
  interfaces := #[]
  cf := some (fileOf pool4 2 #[] #[] 1537 4 #[] #[])
  fields := #[]
  methods := #[]
  instanceTypes := #[]
  staticTypes := #[]
  resolved := Array.replicate 8 none
  statics := none }

/-- the primitive byte -/
def k5 : Class := { plain "byte" none with kind := .primitive 'B', accessFlags := 0x411 }
/-- [B -/
def k6 : Class := { plain "[B" (some 0) with kind := .array 5 .byte, interfaces := #[3, 4], accessFlags := 1041 }

/-- the primitive int -/
def k7 : Class := { plain "int" none with kind := .primitive 'I', accessFlags := 0x411 }
/-- [I -/
def k8 : Class := { plain "[I" (some 0) with kind := .array 7 .int, interfaces := #[3, 4], accessFlags := 1041 }

def heap : Heap := #[]
def classes : Array Class := #[k0, k1, k2, k3, k4, k5, k6, k7, k8]
def interned : List (Array UInt16 × Addr) := []
def slotsUsed : Nat := 0
def theMethod : MethodId := ⟨1, 2⟩
def args0 : Array Value := #[.int 5, .int 3, .int 4, .int 1]
def aboutOver (below : List Frame) : State where
  vm := { classes := classes, interned := interned.toArray }
  heap := heap
  slotsUsed := slotsUsed
  threads := #[{ frames := .invoking theMethod args0 :: below }]
def below0 : List Frame := [.native { method := ⟨0, 0⟩, args := #[] }]
def about1 : State := aboutOver below0
def p0 : Program := .bare "" "" ""
def e0 : Env := launch0.env 0 0 0
theorem w_frames : about1.frames = Frame.invoking theMethod args0 :: below0 := rfl
set_option maxRecDepth 65536 in
theorem w_args : argsFit about1.vm theMethod args0 = true := by decide +kernel
set_option maxRecDepth 65536 in
theorem w_heap : heapFits about1 = true := by decide +kernel
set_option maxRecDepth 65536 in
theorem w_runnable : about1.curStatus? = some .runnable := by decide +kernel
set_option maxRecDepth 65536 in
theorem w_alone : about1.alone = true := by decide +kernel
set_option maxRecDepth 65536 in
theorem w_named : about1.methodNamed? x = some theMethod := by decide +kernel
set_option maxRecDepth 65536 in
theorem w_hears : about1.hears theMethod below0 = true := by decide +kernel
set_option maxRecDepth 65536 in
theorem w_ripe : about1.ripe theMethod args0 below0 = true := by decide +kernel
theorem w_running : about1.status = .running := rfl
set_option maxRecDepth 65536 in
theorem w_room : about1.hasRoom e0.platform room_1 = true :=
  launch0.hasRoom_least _ room_1 (by decide +kernel) (by decide +kernel) (by decide +kernel) (by decide +kernel) (by decide +kernel) (by decide +kernel)
theorem allAtoms_all (ts : List Jvm.Cond) (a : Array Jvm.Value) (st : Jvm.State) : (allAtoms ts).before a st = ts.all (fun c => c.before a st) := by
  induction ts with
  | nil => rfl
  | cons c t ih =>
    show (Jvm.Cond.and c (allAtoms t)).before a st = _
    rw [Jvm.Cond.before_and, ih, List.all_cons]
def words1 : List Jvm.Cond := Jvm.Cond.code x code maxLocals ret :: tables_1
/-- a 'code' word, met by the world's own term for the bytes: nothing is compared byte by byte -/
theorem code_word {y : MethodName} {bytes : ByteArray} {mx : Nat} {rt : Option FieldType} {a : Array Value} {s : State} {m : MethodId} {meth : Method} {c : Code} (h1 : s.methodNamed? y = some m) (h2 : s.vm.method? m = some meth) (h3 : meth.code = some c) (h4 : c.code = bytes)
    (h5 : (c.maxLocals == mx && c.exceptionTable.isEmpty && decide (c.maxStack ≤ mostOperands) && decide (meth.sig.returnType = rt) && !meth.locks && decide (parseMethodDescriptor y.desc = some meth.sig)) = true) : (Jvm.Cond.code y bytes mx rt).before a s = true := by
  simp only [Bool.and_eq_true, beq_iff_eq, Bool.not_eq_true', decide_eq_true_eq] at h5
  obtain ⟨⟨⟨⟨⟨g1, g2⟩, g3⟩, g4⟩, g5⟩, g6⟩ := h5
  simp [Cond.before, Cond.holds, Cond.value, h1, h2, h3, h4, g1, g2, g3, g4, g5, g6]
def isCode : Jvm.Cond → Bool
  | .code _ _ _ _ => true
  | _ => false
theorem all_split {L : List Jvm.Cond} {P : Jvm.Cond → Bool} (h1 : L.all (fun c => isCode c || P c) = true) (h2 : ∀ c ∈ L.filter isCode, P c = true) : L.all P = true := by
  refine List.all_eq_true.mpr fun c hc => ?_
  have h := List.all_eq_true.mp h1 c hc
  rcases Bool.eq_false_or_eq_true (isCode c) with hi | hi
  · exact h2 c (List.mem_filter.mpr ⟨hc, hi⟩)
  · simpa [hi] using h
set_option maxRecDepth 65536 in
theorem w_c0 : (Jvm.Cond.code x code maxLocals ret).before args0 about1 = true := code_word (m := ⟨1, 2⟩) (meth := k1m2) (c := k1c2) (by decide +kernel) rfl rfl rfl (by decide +kernel)
set_option maxRecDepth 65536 in
theorem w_c1 : (Jvm.Cond.code ({ cls := "com/example/ledger_of_rewards/ledgerofrewards/check/Pace", name := "<init>", desc := "(DD)V" } : Jvm.MethodName) prog_7_method_1_code (5 : Nat) (Option.none : Option Jvm.ClassFile.FieldType)).before args0 about1 = true := code_word (m := ⟨2, 0⟩) (meth := k2m0) (c := k2c0) (by decide +kernel) rfl rfl rfl (by decide +kernel)
set_option maxRecDepth 65536 in
theorem w_c2 : (Jvm.Cond.code ({ cls := "java/lang/Object", name := "<init>", desc := "()V" } : Jvm.MethodName) object_method_1_code (1 : Nat) (Option.none : Option Jvm.ClassFile.FieldType)).before args0 about1 = true := code_word (m := ⟨0, 0⟩) (meth := k0m0) (c := k0c0) (by decide +kernel) rfl rfl rfl (by decide +kernel)
set_option maxRecDepth 65536 in
theorem w_c3 : (Jvm.Cond.code ({ cls := "com/example/ledger_of_rewards/ledgerofrewards/check/Pace", name := "due", desc := "()Z" } : Jvm.MethodName) prog_7_method_3_code (1 : Nat) (Option.some Jvm.ClassFile.FieldType.boolean)).before args0 about1 = true := code_word (m := ⟨2, 2⟩) (meth := k2m2) (c := k2c2) (by decide +kernel) rfl rfl rfl (by decide +kernel)
set_option maxRecDepth 65536 in
theorem w_c4 : (Jvm.Cond.code ({ cls := "com/example/ledger_of_rewards/ledgerofrewards/check/Pace", name := "sinceMark", desc := "()J" } : Jvm.MethodName) prog_7_method_4_code (1 : Nat) (Option.some Jvm.ClassFile.FieldType.long)).before args0 about1 = true := code_word (m := ⟨2, 3⟩) (meth := k2m3) (c := k2c3) (by decide +kernel) rfl rfl rfl (by decide +kernel)
set_option maxRecDepth 65536 in
theorem w_c5 : (Jvm.Cond.code ({ cls := "com/example/ledger_of_rewards/ledgerofrewards/check/Pace", name := "start", desc := "(D)V" } : Jvm.MethodName) prog_7_method_2_code (3 : Nat) (Option.none : Option Jvm.ClassFile.FieldType)).before args0 about1 = true := code_word (m := ⟨2, 1⟩) (meth := k2m1) (c := k2c1) (by decide +kernel) rfl rfl rfl (by decide +kernel)
set_option maxRecDepth 65536 in
theorem w_c6 : (Jvm.Cond.code ({ cls := "com/example/ledger_of_rewards/ledgerofrewards/check/PaceDuePinLaw", name := "four", desc := "(Lcom/example/ledger_of_rewards/ledgerofrewards/check/Pace;)I" } : Jvm.MethodName) method_2_code (2 : Nat) (Option.some Jvm.ClassFile.FieldType.int)).before args0 about1 = true := code_word (m := ⟨1, 1⟩) (meth := k1m1) (c := k1c1) (by decide +kernel) rfl rfl rfl (by decide +kernel)
set_option maxRecDepth 65536 in
theorem w_c7 : (Jvm.Cond.code ({ cls := "com/example/ledger_of_rewards/ledgerofrewards/check/Pace", name := "mark", desc := "(D)V" } : Jvm.MethodName) prog_7_method_8_code (3 : Nat) (Option.none : Option Jvm.ClassFile.FieldType)).before args0 about1 = true := code_word (m := ⟨2, 4⟩) (meth := k2m4) (c := k2c4) (by decide +kernel) rfl rfl rfl (by decide +kernel)
def codes1 : List Jvm.Cond := [Jvm.Cond.code x code maxLocals ret, Jvm.Cond.code ({ cls := "com/example/ledger_of_rewards/ledgerofrewards/check/Pace", name := "<init>", desc := "(DD)V" } : Jvm.MethodName) prog_7_method_1_code (5 : Nat) (Option.none : Option Jvm.ClassFile.FieldType), Jvm.Cond.code ({ cls := "java/lang/Object", name := "<init>", desc := "()V" } : Jvm.MethodName) object_method_1_code (1 : Nat) (Option.none : Option Jvm.ClassFile.FieldType), Jvm.Cond.code ({ cls := "com/example/ledger_of_rewards/ledgerofrewards/check/Pace", name := "due", desc := "()Z" } : Jvm.MethodName) prog_7_method_3_code (1 : Nat) (Option.some Jvm.ClassFile.FieldType.boolean), Jvm.Cond.code ({ cls := "com/example/ledger_of_rewards/ledgerofrewards/check/Pace", name := "sinceMark", desc := "()J" } : Jvm.MethodName) prog_7_method_4_code (1 : Nat) (Option.some Jvm.ClassFile.FieldType.long), Jvm.Cond.code ({ cls := "com/example/ledger_of_rewards/ledgerofrewards/check/Pace", name := "start", desc := "(D)V" } : Jvm.MethodName) prog_7_method_2_code (3 : Nat) (Option.none : Option Jvm.ClassFile.FieldType), Jvm.Cond.code ({ cls := "com/example/ledger_of_rewards/ledgerofrewards/check/PaceDuePinLaw", name := "four", desc := "(Lcom/example/ledger_of_rewards/ledgerofrewards/check/Pace;)I" } : Jvm.MethodName) method_2_code (2 : Nat) (Option.some Jvm.ClassFile.FieldType.int), Jvm.Cond.code ({ cls := "com/example/ledger_of_rewards/ledgerofrewards/check/Pace", name := "mark", desc := "(D)V" } : Jvm.MethodName) prog_7_method_8_code (3 : Nat) (Option.none : Option Jvm.ClassFile.FieldType)]
set_option maxRecDepth 65536 in
theorem codes_eq : words1.filter isCode = codes1 := rfl
theorem w_codes : ∀ c ∈ words1.filter isCode, c.before args0 about1 = true := by
  rw [codes_eq]
  intro c hc
  simp only [codes1, List.mem_cons, List.not_mem_nil, or_false] at hc
  rcases hc with rfl | rfl | rfl | rfl | rfl | rfl | rfl | rfl
  · exact w_c0
  · exact w_c1
  · exact w_c2
  · exact w_c3
  · exact w_c4
  · exact w_c5
  · exact w_c6
  · exact w_c7
set_option maxRecDepth 65536 in
theorem w_t1 : (words1.take 24).all (fun c => isCode c || c.before args0 about1) = true := by decide +kernel
set_option maxRecDepth 65536 in
theorem w_t2 : ((words1.drop 24).take 24).all (fun c => isCode c || c.before args0 about1) = true := by decide +kernel
set_option maxRecDepth 65536 in
theorem w_t3 : ((words1.drop 24).drop 24).all (fun c => isCode c || c.before args0 about1) = true := by decide +kernel
theorem w_tables : (allAtoms (Jvm.Cond.code x code maxLocals ret :: tables_1)).before args0 about1 = true := by
  rw [allAtoms_all]
  show words1.all (fun c => c.before args0 about1) = true
  refine all_split ?_ w_codes
  rw [← List.take_append_drop 24 words1, List.all_append, w_t1, ← List.take_append_drop 24 (words1.drop 24), List.all_append, w_t2, w_t3]
  rfl
set_option maxRecDepth 65536 in
theorem w_case : (Jvm.Cond.and given_1 narrow_1).before args0 about1 = true := by decide +kernel
theorem w_applies : (headSpec (Jvm.Cond.code x code maxLocals ret :: tables_1) room_1).applies x e0.platform about1 = true :=
  (Spec.applies_iff w_frames).mpr ⟨w_running, w_runnable, w_alone, w_named, w_hears, w_ripe, w_room, w_tables⟩
theorem atStart : AtStart classFile x code maxLocals ret World_1 tables_1 room_1 Calls_1 rest_1 Pre_1 launch0 p0 e0 about1 theMethod args0 below0 :=
  ⟨lists_1, trivial, launch0.admits_env _ _ _, launch0.least_env, fairChoices_fair.cas, fairChoices_fair.clock, w_frames, w_args, w_heap, w_applies, trivial, trivial, w_case⟩
end start1
theorem witness_1 : WitnessClaimed_1 := ⟨start1.p0, start1.e0, start1.about1, start1.theMethod, start1.args0, start1.below0, start1.atStart⟩
end Jvm.Pilot.@@N@@
